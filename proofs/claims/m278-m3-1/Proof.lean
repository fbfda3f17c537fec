import JvmDerived
import JvmDerived.Pilot.@@N@@Statement
import JvmDerived.Pilot.@@N@@Code
set_option linter.unusedVariables false
set_option linter.unusedSimpArgs false
namespace Jvm.RoadKit
open Sem ClassFile Op Lib Jvm.Stand Jvm.Free Jvm.LawKit
section New
variable {p : Program} {l : Launch} {e : Env} {R : Room} {s : State} {m : MethodId} {args : Array Value} {below : List Frame} {meth : Method} {c : Code} {T : State} {locs : List Loc} {cells slots : Nat}
theorem retI (X : Stand p l e R s m args below meth c T locs cells slots) (hx : p.tables.exec = Jvm.exec) {pc : Nat} {Ls : Array Slot} {z : Int32} {rest : List Value} (hret : meth.sig.returnType = some .int) (hd : decode c.code pc = .ok (.ireturn, 1)) {fs : List Frame}
    (hl : ∀ (f : JFrame) (acts : List Action), f.method = m → f.locked = none → f.entered = [] → (doReturn e (T.setTop f) acts (some (.int z))).1 = T.setFrames fs) : Steps p.tables e below (T.setTop (mkF m pc Ls (.int z :: rest))) (T.setFrames fs) := by
  have hm' : T.vm.method? m = some meth := X.method'
  have hn : narrow .int (.int z) = .int z := rfl
  show Steps p.tables e below (T.setTop { method := m, pc := pc, locals := Ls, stack := _ :: rest, locked := none }) _
  jvm_step X.here [X.here.top, hx, hd, hm', hret, hn]
  first | (intro acts; rw [hl _ acts rfl rfl rfl]) | rw [hl _ _ rfl rfl rfl]
  exact Steps.refl _
end New
end Jvm.RoadKit
namespace Jvm.Pilot.@@N@@
open Jvm Jvm.ClassFile Sem Op Lib Jvm.Free Jvm.Stand Jvm.LawKit Jvm.RoadKit Bundle Jvm.Pilot.@@N@@.Jvm.D
abbrev own_m0 : MethodName := ⟨"java/util/BitSet", "wordIndex", "(I)I"⟩
abbrev own_m1 : MethodName := ⟨"java/util/BitSet", "initWords", "(I)V"⟩
abbrev own_m2 : MethodName := ⟨"java/util/BitSet", "<init>", "()V"⟩
abbrev own_m3 : MethodName := ⟨"com/example/tempe/tempe/algorithm/LocalMutex", "<init>", "(J)V"⟩
abbrev own_m4 : MethodName := ⟨"com/example/tempe/tempe/algorithm/LocalMutex", "lockPending", "()Z"⟩
abbrev own_m5 : MethodName := ⟨"com/example/tempe/tempe/algorithm/LocalMutex", "lock", "()V"⟩
abbrev own_m6 : MethodName := ⟨"com/example/tempe/tempe/algorithm/LocalMutex", "unlock", "()V"⟩
theorem own_w0 {Z : State} {a0 : Array Value} (hw : ∀ d ∈ tables_1, d.before a0 Z = true) : (Jvm.Cond.constantLong "com/example/tempe/tempe/algorithm/LocalMutexLockPendingPinLaw" (7 : Nat) (4611686018427387903 : Int64)).before a0 Z = true := hw _ (List.mem_of_getElem? (i := 0) rfl)
theorem own_w1 {Z : State} {a0 : Array Value} (hw : ∀ d ∈ tables_1, d.before a0 Z = true) : (Jvm.Cond.constantLong "com/example/tempe/tempe/algorithm/LocalMutexLockPendingPinLaw" (9 : Nat) (2 : Int64)).before a0 Z = true := hw _ (List.mem_of_getElem? (i := 1) rfl)
theorem own_w2 {Z : State} {a0 : Array Value} (hw : ∀ d ∈ tables_1, d.before a0 Z = true) : (Jvm.Cond.classLink "com/example/tempe/tempe/algorithm/LocalMutexLockPendingPinLaw" (11 : Nat) "com/example/tempe/tempe/algorithm/LocalMutex").before a0 Z = true := hw _ (List.mem_of_getElem? (i := 2) rfl)
theorem own_w3 {Z : State} {a0 : Array Value} (hw : ∀ d ∈ tables_1, d.before a0 Z = true) : (Jvm.Cond.instantiable "com/example/tempe/tempe/algorithm/LocalMutex" (16 : Nat)).before a0 Z = true := hw _ (List.mem_of_getElem? (i := 3) rfl)
theorem own_w4 {Z : State} {a0 : Array Value} (hw : ∀ d ∈ tables_1, d.before a0 Z = true) : (Jvm.Cond.initialized "com/example/tempe/tempe/algorithm/LocalMutex").before a0 Z = true := hw _ (List.mem_of_getElem? (i := 4) rfl)
theorem own_w5 {Z : State} {a0 : Array Value} (hw : ∀ d ∈ tables_1, d.before a0 Z = true) : (Jvm.Cond.methodLink "com/example/tempe/tempe/algorithm/LocalMutexLockPendingPinLaw" (13 : Nat) ({ cls := "com/example/tempe/tempe/algorithm/LocalMutex", name := "<init>", desc := "(J)V" } : Jvm.MethodName)).before a0 Z = true := hw _ (List.mem_of_getElem? (i := 5) rfl)
theorem own_w6 {Z : State} {a0 : Array Value} (hw : ∀ d ∈ tables_1, d.before a0 Z = true) : (Jvm.Cond.instanceMethod ({ cls := "com/example/tempe/tempe/algorithm/LocalMutex", name := "<init>", desc := "(J)V" } : Jvm.MethodName)).before a0 Z = true := hw _ (List.mem_of_getElem? (i := 6) rfl)
theorem own_w7 {Z : State} {a0 : Array Value} (hw : ∀ d ∈ tables_1, d.before a0 Z = true) : (Jvm.Cond.code ({ cls := "com/example/tempe/tempe/algorithm/LocalMutex", name := "<init>", desc := "(J)V" } : Jvm.MethodName) prog_6_method_1_code (3 : Nat) (Option.none : Option Jvm.ClassFile.FieldType)).before a0 Z = true := hw _ (List.mem_of_getElem? (i := 7) rfl)
theorem own_w8 {Z : State} {a0 : Array Value} (hw : ∀ d ∈ tables_1, d.before a0 Z = true) : (Jvm.Cond.methodLink "com/example/tempe/tempe/algorithm/LocalMutex" (1 : Nat) ({ cls := "java/lang/Object", name := "<init>", desc := "()V" } : Jvm.MethodName)).before a0 Z = true := hw _ (List.mem_of_getElem? (i := 8) rfl)
theorem own_w9 {Z : State} {a0 : Array Value} (hw : ∀ d ∈ tables_1, d.before a0 Z = true) : (Jvm.Cond.instanceMethod ({ cls := "java/lang/Object", name := "<init>", desc := "()V" } : Jvm.MethodName)).before a0 Z = true := hw _ (List.mem_of_getElem? (i := 9) rfl)
theorem own_w10 {Z : State} {a0 : Array Value} (hw : ∀ d ∈ tables_1, d.before a0 Z = true) : (Jvm.Cond.code ({ cls := "java/lang/Object", name := "<init>", desc := "()V" } : Jvm.MethodName) object_method_1_code (1 : Nat) (Option.none : Option Jvm.ClassFile.FieldType)).before a0 Z = true := hw _ (List.mem_of_getElem? (i := 10) rfl)
theorem own_w11 {Z : State} {a0 : Array Value} (hw : ∀ d ∈ tables_1, d.before a0 Z = true) : (Jvm.Cond.classLink "com/example/tempe/tempe/algorithm/LocalMutex" (7 : Nat) "java/util/BitSet").before a0 Z = true := hw _ (List.mem_of_getElem? (i := 11) rfl)
theorem own_w12 {Z : State} {a0 : Array Value} (hw : ∀ d ∈ tables_1, d.before a0 Z = true) : (Jvm.Cond.instantiable "java/util/BitSet" (3 : Nat)).before a0 Z = true := hw _ (List.mem_of_getElem? (i := 12) rfl)
theorem own_w13 {Z : State} {a0 : Array Value} (hw : ∀ d ∈ tables_1, d.before a0 Z = true) : (Jvm.Cond.initialized "java/util/BitSet").before a0 Z = true := hw _ (List.mem_of_getElem? (i := 13) rfl)
theorem own_w14 {Z : State} {a0 : Array Value} (hw : ∀ d ∈ tables_1, d.before a0 Z = true) : (Jvm.Cond.methodLink "com/example/tempe/tempe/algorithm/LocalMutex" (9 : Nat) ({ cls := "java/util/BitSet", name := "<init>", desc := "()V" } : Jvm.MethodName)).before a0 Z = true := hw _ (List.mem_of_getElem? (i := 14) rfl)
theorem own_w15 {Z : State} {a0 : Array Value} (hw : ∀ d ∈ tables_1, d.before a0 Z = true) : (Jvm.Cond.instanceMethod ({ cls := "java/util/BitSet", name := "<init>", desc := "()V" } : Jvm.MethodName)).before a0 Z = true := hw _ (List.mem_of_getElem? (i := 15) rfl)
theorem own_w16 {Z : State} {a0 : Array Value} (hw : ∀ d ∈ tables_1, d.before a0 Z = true) : (Jvm.Cond.code ({ cls := "java/util/BitSet", name := "<init>", desc := "()V" } : Jvm.MethodName) jdk_92_method_4_code (1 : Nat) (Option.none : Option Jvm.ClassFile.FieldType)).before a0 Z = true := hw _ (List.mem_of_getElem? (i := 16) rfl)
theorem own_w17 {Z : State} {a0 : Array Value} (hw : ∀ d ∈ tables_1, d.before a0 Z = true) : (Jvm.Cond.methodLink "java/util/BitSet" (21 : Nat) ({ cls := "java/lang/Object", name := "<init>", desc := "()V" } : Jvm.MethodName)).before a0 Z = true := hw _ (List.mem_of_getElem? (i := 17) rfl)
theorem own_w18 {Z : State} {a0 : Array Value} (hw : ∀ d ∈ tables_1, d.before a0 Z = true) : (Jvm.Cond.fieldLink "java/util/BitSet" (7 : Nat) "java/util/BitSet" "wordsInUse" "I").before a0 Z = true := hw _ (List.mem_of_getElem? (i := 18) rfl)
theorem own_w19 {Z : State} {a0 : Array Value} (hw : ∀ d ∈ tables_1, d.before a0 Z = true) : (Jvm.Cond.lays "java/util/BitSet" "java/util/BitSet" "wordsInUse" "I").before a0 Z = true := hw _ (List.mem_of_getElem? (i := 19) rfl)
theorem own_w20 {Z : State} {a0 : Array Value} (hw : ∀ d ∈ tables_1, d.before a0 Z = true) : (Jvm.Cond.fieldLink "java/util/BitSet" (24 : Nat) "java/util/BitSet" "sizeIsSticky" "Z").before a0 Z = true := hw _ (List.mem_of_getElem? (i := 20) rfl)
theorem own_w21 {Z : State} {a0 : Array Value} (hw : ∀ d ∈ tables_1, d.before a0 Z = true) : (Jvm.Cond.lays "java/util/BitSet" "java/util/BitSet" "sizeIsSticky" "Z").before a0 Z = true := hw _ (List.mem_of_getElem? (i := 21) rfl)
theorem own_w22 {Z : State} {a0 : Array Value} (hw : ∀ d ∈ tables_1, d.before a0 Z = true) : (Jvm.Cond.methodLink "java/util/BitSet" (27 : Nat) ({ cls := "java/util/BitSet", name := "initWords", desc := "(I)V" } : Jvm.MethodName)).before a0 Z = true := hw _ (List.mem_of_getElem? (i := 22) rfl)
theorem own_w23 {Z : State} {a0 : Array Value} (hw : ∀ d ∈ tables_1, d.before a0 Z = true) : (Jvm.Cond.instanceMethod ({ cls := "java/util/BitSet", name := "initWords", desc := "(I)V" } : Jvm.MethodName)).before a0 Z = true := hw _ (List.mem_of_getElem? (i := 23) rfl)
theorem own_w24 {Z : State} {a0 : Array Value} (hw : ∀ d ∈ tables_1, d.before a0 Z = true) : (Jvm.Cond.privateMethod ({ cls := "java/util/BitSet", name := "initWords", desc := "(I)V" } : Jvm.MethodName)).before a0 Z = true := hw _ (List.mem_of_getElem? (i := 24) rfl)
theorem own_w25 {Z : State} {a0 : Array Value} (hw : ∀ d ∈ tables_1, d.before a0 Z = true) : (Jvm.Cond.selects "java/util/BitSet" ({ cls := "java/util/BitSet", name := "initWords", desc := "(I)V" } : Jvm.MethodName) ({ cls := "java/util/BitSet", name := "initWords", desc := "(I)V" } : Jvm.MethodName)).before a0 Z = true := hw _ (List.mem_of_getElem? (i := 25) rfl)
theorem own_w26 {Z : State} {a0 : Array Value} (hw : ∀ d ∈ tables_1, d.before a0 Z = true) : (Jvm.Cond.code ({ cls := "java/util/BitSet", name := "initWords", desc := "(I)V" } : Jvm.MethodName) jdk_92_method_6_code (2 : Nat) (Option.none : Option Jvm.ClassFile.FieldType)).before a0 Z = true := hw _ (List.mem_of_getElem? (i := 26) rfl)
theorem own_w27 {Z : State} {a0 : Array Value} (hw : ∀ d ∈ tables_1, d.before a0 Z = true) : (Jvm.Cond.methodLink "java/util/BitSet" (52 : Nat) ({ cls := "java/util/BitSet", name := "wordIndex", desc := "(I)I" } : Jvm.MethodName)).before a0 Z = true := hw _ (List.mem_of_getElem? (i := 27) rfl)
theorem own_w28 {Z : State} {a0 : Array Value} (hw : ∀ d ∈ tables_1, d.before a0 Z = true) : (Jvm.Cond.static ({ cls := "java/util/BitSet", name := "wordIndex", desc := "(I)I" } : Jvm.MethodName)).before a0 Z = true := hw _ (List.mem_of_getElem? (i := 28) rfl)
theorem own_w29 {Z : State} {a0 : Array Value} (hw : ∀ d ∈ tables_1, d.before a0 Z = true) : (Jvm.Cond.code ({ cls := "java/util/BitSet", name := "wordIndex", desc := "(I)I" } : Jvm.MethodName) jdk_92_method_1_code (1 : Nat) (Option.some Jvm.ClassFile.FieldType.int)).before a0 Z = true := hw _ (List.mem_of_getElem? (i := 29) rfl)
theorem own_w30 {Z : State} {a0 : Array Value} (hw : ∀ d ∈ tables_1, d.before a0 Z = true) : (Jvm.Cond.arrayClass Jvm.ClassFile.FieldType.long).before a0 Z = true := hw _ (List.mem_of_getElem? (i := 30) rfl)
theorem own_w31 {Z : State} {a0 : Array Value} (hw : ∀ d ∈ tables_1, d.before a0 Z = true) : (Jvm.Cond.fieldLink "java/util/BitSet" (11 : Nat) "java/util/BitSet" "words" "[J").before a0 Z = true := hw _ (List.mem_of_getElem? (i := 31) rfl)
theorem own_w32 {Z : State} {a0 : Array Value} (hw : ∀ d ∈ tables_1, d.before a0 Z = true) : (Jvm.Cond.lays "java/util/BitSet" "java/util/BitSet" "words" "[J").before a0 Z = true := hw _ (List.mem_of_getElem? (i := 32) rfl)
theorem own_w33 {Z : State} {a0 : Array Value} (hw : ∀ d ∈ tables_1, d.before a0 Z = true) : (Jvm.Cond.fieldLink "com/example/tempe/tempe/algorithm/LocalMutex" (10 : Nat) "com/example/tempe/tempe/algorithm/LocalMutex" "toLock" "Ljava/util/BitSet;").before a0 Z = true := hw _ (List.mem_of_getElem? (i := 33) rfl)
theorem own_w34 {Z : State} {a0 : Array Value} (hw : ∀ d ∈ tables_1, d.before a0 Z = true) : (Jvm.Cond.laysFinal "com/example/tempe/tempe/algorithm/LocalMutex" "com/example/tempe/tempe/algorithm/LocalMutex" "toLock" "Ljava/util/BitSet;").before a0 Z = true := hw _ (List.mem_of_getElem? (i := 34) rfl)
theorem own_w35 {Z : State} {a0 : Array Value} (hw : ∀ d ∈ tables_1, d.before a0 Z = true) : (Jvm.Cond.fieldLink "com/example/tempe/tempe/algorithm/LocalMutex" (16 : Nat) "com/example/tempe/tempe/algorithm/LocalMutex" "replied" "Ljava/util/BitSet;").before a0 Z = true := hw _ (List.mem_of_getElem? (i := 35) rfl)
theorem own_w36 {Z : State} {a0 : Array Value} (hw : ∀ d ∈ tables_1, d.before a0 Z = true) : (Jvm.Cond.laysFinal "com/example/tempe/tempe/algorithm/LocalMutex" "com/example/tempe/tempe/algorithm/LocalMutex" "replied" "Ljava/util/BitSet;").before a0 Z = true := hw _ (List.mem_of_getElem? (i := 36) rfl)
theorem own_w37 {Z : State} {a0 : Array Value} (hw : ∀ d ∈ tables_1, d.before a0 Z = true) : (Jvm.Cond.fieldLink "com/example/tempe/tempe/algorithm/LocalMutex" (19 : Nat) "com/example/tempe/tempe/algorithm/LocalMutex" "outcomes" "Ljava/util/BitSet;").before a0 Z = true := hw _ (List.mem_of_getElem? (i := 37) rfl)
theorem own_w38 {Z : State} {a0 : Array Value} (hw : ∀ d ∈ tables_1, d.before a0 Z = true) : (Jvm.Cond.laysFinal "com/example/tempe/tempe/algorithm/LocalMutex" "com/example/tempe/tempe/algorithm/LocalMutex" "outcomes" "Ljava/util/BitSet;").before a0 Z = true := hw _ (List.mem_of_getElem? (i := 38) rfl)
theorem own_w39 {Z : State} {a0 : Array Value} (hw : ∀ d ∈ tables_1, d.before a0 Z = true) : (Jvm.Cond.fieldLink "com/example/tempe/tempe/algorithm/LocalMutex" (22 : Nat) "com/example/tempe/tempe/algorithm/LocalMutex" "refusals" "Ljava/util/BitSet;").before a0 Z = true := hw _ (List.mem_of_getElem? (i := 39) rfl)
theorem own_w40 {Z : State} {a0 : Array Value} (hw : ∀ d ∈ tables_1, d.before a0 Z = true) : (Jvm.Cond.laysFinal "com/example/tempe/tempe/algorithm/LocalMutex" "com/example/tempe/tempe/algorithm/LocalMutex" "refusals" "Ljava/util/BitSet;").before a0 Z = true := hw _ (List.mem_of_getElem? (i := 40) rfl)
theorem own_w41 {Z : State} {a0 : Array Value} (hw : ∀ d ∈ tables_1, d.before a0 Z = true) : (Jvm.Cond.fieldLink "com/example/tempe/tempe/algorithm/LocalMutex" (25 : Nat) "com/example/tempe/tempe/algorithm/LocalMutex" "onHold" "Ljava/util/BitSet;").before a0 Z = true := hw _ (List.mem_of_getElem? (i := 41) rfl)
theorem own_w42 {Z : State} {a0 : Array Value} (hw : ∀ d ∈ tables_1, d.before a0 Z = true) : (Jvm.Cond.laysFinal "com/example/tempe/tempe/algorithm/LocalMutex" "com/example/tempe/tempe/algorithm/LocalMutex" "onHold" "Ljava/util/BitSet;").before a0 Z = true := hw _ (List.mem_of_getElem? (i := 42) rfl)
theorem own_w43 {Z : State} {a0 : Array Value} (hw : ∀ d ∈ tables_1, d.before a0 Z = true) : (Jvm.Cond.fieldLink "com/example/tempe/tempe/algorithm/LocalMutex" (28 : Nat) "com/example/tempe/tempe/algorithm/LocalMutex" "applicants" "Ljava/util/BitSet;").before a0 Z = true := hw _ (List.mem_of_getElem? (i := 43) rfl)
theorem own_w44 {Z : State} {a0 : Array Value} (hw : ∀ d ∈ tables_1, d.before a0 Z = true) : (Jvm.Cond.laysFinal "com/example/tempe/tempe/algorithm/LocalMutex" "com/example/tempe/tempe/algorithm/LocalMutex" "applicants" "Ljava/util/BitSet;").before a0 Z = true := hw _ (List.mem_of_getElem? (i := 44) rfl)
theorem own_w45 {Z : State} {a0 : Array Value} (hw : ∀ d ∈ tables_1, d.before a0 Z = true) : (Jvm.Cond.fieldLink "com/example/tempe/tempe/algorithm/LocalMutex" (31 : Nat) "com/example/tempe/tempe/algorithm/LocalMutex" "candidates" "Ljava/util/BitSet;").before a0 Z = true := hw _ (List.mem_of_getElem? (i := 45) rfl)
theorem own_w46 {Z : State} {a0 : Array Value} (hw : ∀ d ∈ tables_1, d.before a0 Z = true) : (Jvm.Cond.laysFinal "com/example/tempe/tempe/algorithm/LocalMutex" "com/example/tempe/tempe/algorithm/LocalMutex" "candidates" "Ljava/util/BitSet;").before a0 Z = true := hw _ (List.mem_of_getElem? (i := 46) rfl)
theorem own_w47 {Z : State} {a0 : Array Value} (hw : ∀ d ∈ tables_1, d.before a0 Z = true) : (Jvm.Cond.fieldLink "com/example/tempe/tempe/algorithm/LocalMutex" (34 : Nat) "com/example/tempe/tempe/algorithm/LocalMutex" "bidders" "Ljava/util/BitSet;").before a0 Z = true := hw _ (List.mem_of_getElem? (i := 47) rfl)
theorem own_w48 {Z : State} {a0 : Array Value} (hw : ∀ d ∈ tables_1, d.before a0 Z = true) : (Jvm.Cond.laysFinal "com/example/tempe/tempe/algorithm/LocalMutex" "com/example/tempe/tempe/algorithm/LocalMutex" "bidders" "Ljava/util/BitSet;").before a0 Z = true := hw _ (List.mem_of_getElem? (i := 48) rfl)
theorem own_w49 {Z : State} {a0 : Array Value} (hw : ∀ d ∈ tables_1, d.before a0 Z = true) : (Jvm.Cond.arrayOver (Jvm.ClassFile.FieldType.object "java/util/BitSet")).before a0 Z = true := hw _ (List.mem_of_getElem? (i := 49) rfl)
theorem own_w51 {Z : State} {a0 : Array Value} (hw : ∀ d ∈ tables_1, d.before a0 Z = true) : (Jvm.Cond.fieldLink "com/example/tempe/tempe/algorithm/LocalMutex" (37 : Nat) "com/example/tempe/tempe/algorithm/LocalMutex" "sets" "[Ljava/util/BitSet;").before a0 Z = true := hw _ (List.mem_of_getElem? (i := 51) rfl)
theorem own_w52 {Z : State} {a0 : Array Value} (hw : ∀ d ∈ tables_1, d.before a0 Z = true) : (Jvm.Cond.laysFinal "com/example/tempe/tempe/algorithm/LocalMutex" "com/example/tempe/tempe/algorithm/LocalMutex" "sets" "[Ljava/util/BitSet;").before a0 Z = true := hw _ (List.mem_of_getElem? (i := 52) rfl)
theorem own_w53 {Z : State} {a0 : Array Value} (hw : ∀ d ∈ tables_1, d.before a0 Z = true) : (Jvm.Cond.fieldLink "com/example/tempe/tempe/algorithm/LocalMutex" (41 : Nat) "com/example/tempe/tempe/algorithm/LocalMutex" "bids" "[J").before a0 Z = true := hw _ (List.mem_of_getElem? (i := 53) rfl)
theorem own_w54 {Z : State} {a0 : Array Value} (hw : ∀ d ∈ tables_1, d.before a0 Z = true) : (Jvm.Cond.lays "com/example/tempe/tempe/algorithm/LocalMutex" "com/example/tempe/tempe/algorithm/LocalMutex" "bids" "[J").before a0 Z = true := hw _ (List.mem_of_getElem? (i := 54) rfl)
theorem own_w55 {Z : State} {a0 : Array Value} (hw : ∀ d ∈ tables_1, d.before a0 Z = true) : (Jvm.Cond.fieldLink "com/example/tempe/tempe/algorithm/LocalMutex" (45 : Nat) "com/example/tempe/tempe/algorithm/LocalMutex" "lock" "I").before a0 Z = true := hw _ (List.mem_of_getElem? (i := 55) rfl)
theorem own_w56 {Z : State} {a0 : Array Value} (hw : ∀ d ∈ tables_1, d.before a0 Z = true) : (Jvm.Cond.lays "com/example/tempe/tempe/algorithm/LocalMutex" "com/example/tempe/tempe/algorithm/LocalMutex" "lock" "I").before a0 Z = true := hw _ (List.mem_of_getElem? (i := 56) rfl)
theorem own_w57 {Z : State} {a0 : Array Value} (hw : ∀ d ∈ tables_1, d.before a0 Z = true) : (Jvm.Cond.fieldLink "com/example/tempe/tempe/algorithm/LocalMutex" (49 : Nat) "com/example/tempe/tempe/algorithm/LocalMutex$State" "IDLE" "Lcom/example/tempe/tempe/algorithm/LocalMutex$State;").before a0 Z = true := hw _ (List.mem_of_getElem? (i := 57) rfl)
theorem own_w60 {Z : State} {a0 : Array Value} (hw : ∀ d ∈ tables_1, d.before a0 Z = true) : (Jvm.Cond.fieldLink "com/example/tempe/tempe/algorithm/LocalMutex" (55 : Nat) "com/example/tempe/tempe/algorithm/LocalMutex" "state" "Lcom/example/tempe/tempe/algorithm/LocalMutex$State;").before a0 Z = true := hw _ (List.mem_of_getElem? (i := 60) rfl)
theorem own_w61 {Z : State} {a0 : Array Value} (hw : ∀ d ∈ tables_1, d.before a0 Z = true) : (Jvm.Cond.lays "com/example/tempe/tempe/algorithm/LocalMutex" "com/example/tempe/tempe/algorithm/LocalMutex" "state" "Lcom/example/tempe/tempe/algorithm/LocalMutex$State;").before a0 Z = true := hw _ (List.mem_of_getElem? (i := 61) rfl)
theorem own_w62 {Z : State} {a0 : Array Value} (hw : ∀ d ∈ tables_1, d.before a0 Z = true) : (Jvm.Cond.fieldLink "com/example/tempe/tempe/algorithm/LocalMutex" (58 : Nat) "com/example/tempe/tempe/algorithm/LocalMutex$Phase" "IDLE" "Lcom/example/tempe/tempe/algorithm/LocalMutex$Phase;").before a0 Z = true := hw _ (List.mem_of_getElem? (i := 62) rfl)
theorem own_w65 {Z : State} {a0 : Array Value} (hw : ∀ d ∈ tables_1, d.before a0 Z = true) : (Jvm.Cond.fieldLink "com/example/tempe/tempe/algorithm/LocalMutex" (63 : Nat) "com/example/tempe/tempe/algorithm/LocalMutex" "phase" "Lcom/example/tempe/tempe/algorithm/LocalMutex$Phase;").before a0 Z = true := hw _ (List.mem_of_getElem? (i := 65) rfl)
theorem own_w66 {Z : State} {a0 : Array Value} (hw : ∀ d ∈ tables_1, d.before a0 Z = true) : (Jvm.Cond.lays "com/example/tempe/tempe/algorithm/LocalMutex" "com/example/tempe/tempe/algorithm/LocalMutex" "phase" "Lcom/example/tempe/tempe/algorithm/LocalMutex$Phase;").before a0 Z = true := hw _ (List.mem_of_getElem? (i := 66) rfl)
theorem own_w67 {Z : State} {a0 : Array Value} (hw : ∀ d ∈ tables_1, d.before a0 Z = true) : (Jvm.Cond.constantLong "com/example/tempe/tempe/algorithm/LocalMutex" (66 : Nat) (2 : Int64)).before a0 Z = true := hw _ (List.mem_of_getElem? (i := 67) rfl)
theorem own_w68 {Z : State} {a0 : Array Value} (hw : ∀ d ∈ tables_1, d.before a0 Z = true) : (Jvm.Cond.fieldLink "com/example/tempe/tempe/algorithm/LocalMutex" (77 : Nat) "com/example/tempe/tempe/algorithm/LocalMutex" "priorities" "J").before a0 Z = true := hw _ (List.mem_of_getElem? (i := 68) rfl)
theorem own_w69 {Z : State} {a0 : Array Value} (hw : ∀ d ∈ tables_1, d.before a0 Z = true) : (Jvm.Cond.laysFinal "com/example/tempe/tempe/algorithm/LocalMutex" "com/example/tempe/tempe/algorithm/LocalMutex" "priorities" "J").before a0 Z = true := hw _ (List.mem_of_getElem? (i := 69) rfl)
theorem own_w70 {Z : State} {a0 : Array Value} (hw : ∀ d ∈ tables_1, d.before a0 Z = true) : (Jvm.Cond.methodLink "com/example/tempe/tempe/algorithm/LocalMutexLockPendingPinLaw" (16 : Nat) ({ cls := "com/example/tempe/tempe/algorithm/LocalMutex", name := "lockPending", desc := "()Z" } : Jvm.MethodName)).before a0 Z = true := hw _ (List.mem_of_getElem? (i := 70) rfl)
theorem own_w71 {Z : State} {a0 : Array Value} (hw : ∀ d ∈ tables_1, d.before a0 Z = true) : (Jvm.Cond.declares ({ cls := "com/example/tempe/tempe/algorithm/LocalMutex", name := "lockPending", desc := "()Z" } : Jvm.MethodName)).before a0 Z = true := hw _ (List.mem_of_getElem? (i := 71) rfl)
theorem own_w72 {Z : State} {a0 : Array Value} (hw : ∀ d ∈ tables_1, d.before a0 Z = true) : (Jvm.Cond.instanceMethod ({ cls := "com/example/tempe/tempe/algorithm/LocalMutex", name := "lockPending", desc := "()Z" } : Jvm.MethodName)).before a0 Z = true := hw _ (List.mem_of_getElem? (i := 72) rfl)
theorem own_w73 {Z : State} {a0 : Array Value} (hw : ∀ d ∈ tables_1, d.before a0 Z = true) : (Jvm.Cond.selects "com/example/tempe/tempe/algorithm/LocalMutex" ({ cls := "com/example/tempe/tempe/algorithm/LocalMutex", name := "lockPending", desc := "()Z" } : Jvm.MethodName) ({ cls := "com/example/tempe/tempe/algorithm/LocalMutex", name := "lockPending", desc := "()Z" } : Jvm.MethodName)).before a0 Z = true := hw _ (List.mem_of_getElem? (i := 73) rfl)
theorem own_w74 {Z : State} {a0 : Array Value} (hw : ∀ d ∈ tables_1, d.before a0 Z = true) : (Jvm.Cond.code ({ cls := "com/example/tempe/tempe/algorithm/LocalMutex", name := "lockPending", desc := "()Z" } : Jvm.MethodName) prog_6_method_8_code (1 : Nat) (Option.some Jvm.ClassFile.FieldType.boolean)).before a0 Z = true := hw _ (List.mem_of_getElem? (i := 74) rfl)
theorem own_w75 {Z : State} {a0 : Array Value} (hw : ∀ d ∈ tables_1, d.before a0 Z = true) : (Jvm.Cond.fieldLink "com/example/tempe/tempe/algorithm/LocalMutex" (102 : Nat) "com/example/tempe/tempe/algorithm/LocalMutex" "lockCalls" "I").before a0 Z = true := hw _ (List.mem_of_getElem? (i := 75) rfl)
theorem own_w76 {Z : State} {a0 : Array Value} (hw : ∀ d ∈ tables_1, d.before a0 Z = true) : (Jvm.Cond.lays "com/example/tempe/tempe/algorithm/LocalMutex" "com/example/tempe/tempe/algorithm/LocalMutex" "lockCalls" "I").before a0 Z = true := hw _ (List.mem_of_getElem? (i := 76) rfl)
theorem own_w77 {Z : State} {a0 : Array Value} (hw : ∀ d ∈ tables_1, d.before a0 Z = true) : (Jvm.Cond.methodLink "com/example/tempe/tempe/algorithm/LocalMutexLockPendingPinLaw" (20 : Nat) ({ cls := "com/example/tempe/tempe/algorithm/LocalMutex", name := "unlock", desc := "()V" } : Jvm.MethodName)).before a0 Z = true := hw _ (List.mem_of_getElem? (i := 77) rfl)
theorem own_w78 {Z : State} {a0 : Array Value} (hw : ∀ d ∈ tables_1, d.before a0 Z = true) : (Jvm.Cond.declares ({ cls := "com/example/tempe/tempe/algorithm/LocalMutex", name := "unlock", desc := "()V" } : Jvm.MethodName)).before a0 Z = true := hw _ (List.mem_of_getElem? (i := 78) rfl)
theorem own_w79 {Z : State} {a0 : Array Value} (hw : ∀ d ∈ tables_1, d.before a0 Z = true) : (Jvm.Cond.instanceMethod ({ cls := "com/example/tempe/tempe/algorithm/LocalMutex", name := "unlock", desc := "()V" } : Jvm.MethodName)).before a0 Z = true := hw _ (List.mem_of_getElem? (i := 79) rfl)
theorem own_w80 {Z : State} {a0 : Array Value} (hw : ∀ d ∈ tables_1, d.before a0 Z = true) : (Jvm.Cond.selects "com/example/tempe/tempe/algorithm/LocalMutex" ({ cls := "com/example/tempe/tempe/algorithm/LocalMutex", name := "unlock", desc := "()V" } : Jvm.MethodName) ({ cls := "com/example/tempe/tempe/algorithm/LocalMutex", name := "unlock", desc := "()V" } : Jvm.MethodName)).before a0 Z = true := hw _ (List.mem_of_getElem? (i := 80) rfl)
theorem own_w81 {Z : State} {a0 : Array Value} (hw : ∀ d ∈ tables_1, d.before a0 Z = true) : (Jvm.Cond.code ({ cls := "com/example/tempe/tempe/algorithm/LocalMutex", name := "unlock", desc := "()V" } : Jvm.MethodName) prog_6_method_6_code (1 : Nat) (Option.none : Option Jvm.ClassFile.FieldType)).before a0 Z = true := hw _ (List.mem_of_getElem? (i := 81) rfl)
theorem own_w82 {Z : State} {a0 : Array Value} (hw : ∀ d ∈ tables_1, d.before a0 Z = true) : (Jvm.Cond.fieldLink "com/example/tempe/tempe/algorithm/LocalMutex" (105 : Nat) "com/example/tempe/tempe/algorithm/LocalMutex" "unlockCalled" "Z").before a0 Z = true := hw _ (List.mem_of_getElem? (i := 82) rfl)
theorem own_w83 {Z : State} {a0 : Array Value} (hw : ∀ d ∈ tables_1, d.before a0 Z = true) : (Jvm.Cond.lays "com/example/tempe/tempe/algorithm/LocalMutex" "com/example/tempe/tempe/algorithm/LocalMutex" "unlockCalled" "Z").before a0 Z = true := hw _ (List.mem_of_getElem? (i := 83) rfl)
theorem own_w84 {Z : State} {a0 : Array Value} (hw : ∀ d ∈ tables_1, d.before a0 Z = true) : (Jvm.Cond.methodLink "com/example/tempe/tempe/algorithm/LocalMutexLockPendingPinLaw" (23 : Nat) ({ cls := "com/example/tempe/tempe/algorithm/LocalMutex", name := "lock", desc := "()V" } : Jvm.MethodName)).before a0 Z = true := hw _ (List.mem_of_getElem? (i := 84) rfl)
theorem own_w85 {Z : State} {a0 : Array Value} (hw : ∀ d ∈ tables_1, d.before a0 Z = true) : (Jvm.Cond.declares ({ cls := "com/example/tempe/tempe/algorithm/LocalMutex", name := "lock", desc := "()V" } : Jvm.MethodName)).before a0 Z = true := hw _ (List.mem_of_getElem? (i := 85) rfl)
theorem own_w86 {Z : State} {a0 : Array Value} (hw : ∀ d ∈ tables_1, d.before a0 Z = true) : (Jvm.Cond.instanceMethod ({ cls := "com/example/tempe/tempe/algorithm/LocalMutex", name := "lock", desc := "()V" } : Jvm.MethodName)).before a0 Z = true := hw _ (List.mem_of_getElem? (i := 86) rfl)
theorem own_w87 {Z : State} {a0 : Array Value} (hw : ∀ d ∈ tables_1, d.before a0 Z = true) : (Jvm.Cond.selects "com/example/tempe/tempe/algorithm/LocalMutex" ({ cls := "com/example/tempe/tempe/algorithm/LocalMutex", name := "lock", desc := "()V" } : Jvm.MethodName) ({ cls := "com/example/tempe/tempe/algorithm/LocalMutex", name := "lock", desc := "()V" } : Jvm.MethodName)).before a0 Z = true := hw _ (List.mem_of_getElem? (i := 87) rfl)
theorem own_w88 {Z : State} {a0 : Array Value} (hw : ∀ d ∈ tables_1, d.before a0 Z = true) : (Jvm.Cond.code ({ cls := "com/example/tempe/tempe/algorithm/LocalMutex", name := "lock", desc := "()V" } : Jvm.MethodName) prog_6_method_5_code (1 : Nat) (Option.none : Option Jvm.ClassFile.FieldType)).before a0 Z = true := hw _ (List.mem_of_getElem? (i := 88) rfl)
theorem own_d1_0 : decode prog_6_method_1_code 0 = .ok (.aload_n 0, 1) := by decide +kernel
theorem own_d1_1 : decode prog_6_method_1_code 1 = .ok (.invokespecial 1, 3) := by decide +kernel
theorem own_d1_4 : decode prog_6_method_1_code 4 = .ok (.aload_n 0, 1) := by decide +kernel
theorem own_d1_5 : decode prog_6_method_1_code 5 = .ok (.new 7, 3) := by decide +kernel
theorem own_d1_8 : decode prog_6_method_1_code 8 = .ok (.dup, 1) := by decide +kernel
theorem own_d1_9 : decode prog_6_method_1_code 9 = .ok (.invokespecial 9, 3) := by decide +kernel
theorem own_d1_12 : decode prog_6_method_1_code 12 = .ok (.putfield 10, 3) := by decide +kernel
theorem own_d1_15 : decode prog_6_method_1_code 15 = .ok (.aload_n 0, 1) := by decide +kernel
theorem own_d1_16 : decode prog_6_method_1_code 16 = .ok (.new 7, 3) := by decide +kernel
theorem own_d1_19 : decode prog_6_method_1_code 19 = .ok (.dup, 1) := by decide +kernel
theorem own_d1_20 : decode prog_6_method_1_code 20 = .ok (.invokespecial 9, 3) := by decide +kernel
theorem own_d1_23 : decode prog_6_method_1_code 23 = .ok (.putfield 16, 3) := by decide +kernel
theorem own_d1_26 : decode prog_6_method_1_code 26 = .ok (.aload_n 0, 1) := by decide +kernel
theorem own_d1_27 : decode prog_6_method_1_code 27 = .ok (.new 7, 3) := by decide +kernel
theorem own_d1_30 : decode prog_6_method_1_code 30 = .ok (.dup, 1) := by decide +kernel
theorem own_d1_31 : decode prog_6_method_1_code 31 = .ok (.invokespecial 9, 3) := by decide +kernel
theorem own_d1_34 : decode prog_6_method_1_code 34 = .ok (.putfield 19, 3) := by decide +kernel
theorem own_d1_37 : decode prog_6_method_1_code 37 = .ok (.aload_n 0, 1) := by decide +kernel
theorem own_d1_38 : decode prog_6_method_1_code 38 = .ok (.new 7, 3) := by decide +kernel
theorem own_d1_41 : decode prog_6_method_1_code 41 = .ok (.dup, 1) := by decide +kernel
theorem own_d1_42 : decode prog_6_method_1_code 42 = .ok (.invokespecial 9, 3) := by decide +kernel
theorem own_d1_45 : decode prog_6_method_1_code 45 = .ok (.putfield 22, 3) := by decide +kernel
theorem own_d1_48 : decode prog_6_method_1_code 48 = .ok (.aload_n 0, 1) := by decide +kernel
theorem own_d1_49 : decode prog_6_method_1_code 49 = .ok (.new 7, 3) := by decide +kernel
theorem own_d1_52 : decode prog_6_method_1_code 52 = .ok (.dup, 1) := by decide +kernel
theorem own_d1_53 : decode prog_6_method_1_code 53 = .ok (.invokespecial 9, 3) := by decide +kernel
theorem own_d1_56 : decode prog_6_method_1_code 56 = .ok (.putfield 25, 3) := by decide +kernel
theorem own_d1_59 : decode prog_6_method_1_code 59 = .ok (.aload_n 0, 1) := by decide +kernel
theorem own_d1_60 : decode prog_6_method_1_code 60 = .ok (.new 7, 3) := by decide +kernel
theorem own_d1_63 : decode prog_6_method_1_code 63 = .ok (.dup, 1) := by decide +kernel
theorem own_d1_64 : decode prog_6_method_1_code 64 = .ok (.invokespecial 9, 3) := by decide +kernel
theorem own_d1_67 : decode prog_6_method_1_code 67 = .ok (.putfield 28, 3) := by decide +kernel
theorem own_d1_70 : decode prog_6_method_1_code 70 = .ok (.aload_n 0, 1) := by decide +kernel
theorem own_d1_71 : decode prog_6_method_1_code 71 = .ok (.new 7, 3) := by decide +kernel
theorem own_d1_74 : decode prog_6_method_1_code 74 = .ok (.dup, 1) := by decide +kernel
theorem own_d1_75 : decode prog_6_method_1_code 75 = .ok (.invokespecial 9, 3) := by decide +kernel
theorem own_d1_78 : decode prog_6_method_1_code 78 = .ok (.putfield 31, 3) := by decide +kernel
theorem own_d1_81 : decode prog_6_method_1_code 81 = .ok (.aload_n 0, 1) := by decide +kernel
theorem own_d1_82 : decode prog_6_method_1_code 82 = .ok (.new 7, 3) := by decide +kernel
theorem own_d1_85 : decode prog_6_method_1_code 85 = .ok (.dup, 1) := by decide +kernel
theorem own_d1_86 : decode prog_6_method_1_code 86 = .ok (.invokespecial 9, 3) := by decide +kernel
theorem own_d1_89 : decode prog_6_method_1_code 89 = .ok (.putfield 34, 3) := by decide +kernel
theorem own_d1_92 : decode prog_6_method_1_code 92 = .ok (.aload_n 0, 1) := by decide +kernel
theorem own_d1_93 : decode prog_6_method_1_code 93 = .ok (.bipush 7, 2) := by decide +kernel
theorem own_d1_95 : decode prog_6_method_1_code 95 = .ok (.anewarray 7, 3) := by decide +kernel
theorem own_d1_98 : decode prog_6_method_1_code 98 = .ok (.dup, 1) := by decide +kernel
theorem own_d1_99 : decode prog_6_method_1_code 99 = .ok (.iconst 0, 1) := by decide +kernel
theorem own_d1_100 : decode prog_6_method_1_code 100 = .ok (.aload_n 0, 1) := by decide +kernel
theorem own_d1_101 : decode prog_6_method_1_code 101 = .ok (.getfield 10, 3) := by decide +kernel
theorem own_d1_104 : decode prog_6_method_1_code 104 = .ok (.aastore, 1) := by decide +kernel
theorem own_d1_105 : decode prog_6_method_1_code 105 = .ok (.dup, 1) := by decide +kernel
theorem own_d1_106 : decode prog_6_method_1_code 106 = .ok (.iconst 1, 1) := by decide +kernel
theorem own_d1_107 : decode prog_6_method_1_code 107 = .ok (.aload_n 0, 1) := by decide +kernel
theorem own_d1_108 : decode prog_6_method_1_code 108 = .ok (.getfield 16, 3) := by decide +kernel
theorem own_d1_111 : decode prog_6_method_1_code 111 = .ok (.aastore, 1) := by decide +kernel
theorem own_d1_112 : decode prog_6_method_1_code 112 = .ok (.dup, 1) := by decide +kernel
theorem own_d1_113 : decode prog_6_method_1_code 113 = .ok (.iconst 2, 1) := by decide +kernel
theorem own_d1_114 : decode prog_6_method_1_code 114 = .ok (.aload_n 0, 1) := by decide +kernel
theorem own_d1_115 : decode prog_6_method_1_code 115 = .ok (.getfield 19, 3) := by decide +kernel
theorem own_d1_118 : decode prog_6_method_1_code 118 = .ok (.aastore, 1) := by decide +kernel
theorem own_d1_119 : decode prog_6_method_1_code 119 = .ok (.dup, 1) := by decide +kernel
theorem own_d1_120 : decode prog_6_method_1_code 120 = .ok (.iconst 3, 1) := by decide +kernel
theorem own_d1_121 : decode prog_6_method_1_code 121 = .ok (.aload_n 0, 1) := by decide +kernel
theorem own_d1_122 : decode prog_6_method_1_code 122 = .ok (.getfield 25, 3) := by decide +kernel
theorem own_d1_125 : decode prog_6_method_1_code 125 = .ok (.aastore, 1) := by decide +kernel
theorem own_d1_126 : decode prog_6_method_1_code 126 = .ok (.dup, 1) := by decide +kernel
theorem own_d1_127 : decode prog_6_method_1_code 127 = .ok (.iconst 4, 1) := by decide +kernel
theorem own_d1_128 : decode prog_6_method_1_code 128 = .ok (.aload_n 0, 1) := by decide +kernel
theorem own_d1_129 : decode prog_6_method_1_code 129 = .ok (.getfield 28, 3) := by decide +kernel
theorem own_d1_132 : decode prog_6_method_1_code 132 = .ok (.aastore, 1) := by decide +kernel
theorem own_d1_133 : decode prog_6_method_1_code 133 = .ok (.dup, 1) := by decide +kernel
theorem own_d1_134 : decode prog_6_method_1_code 134 = .ok (.iconst 5, 1) := by decide +kernel
theorem own_d1_135 : decode prog_6_method_1_code 135 = .ok (.aload_n 0, 1) := by decide +kernel
theorem own_d1_136 : decode prog_6_method_1_code 136 = .ok (.getfield 31, 3) := by decide +kernel
theorem own_d1_139 : decode prog_6_method_1_code 139 = .ok (.aastore, 1) := by decide +kernel
theorem own_d1_140 : decode prog_6_method_1_code 140 = .ok (.dup, 1) := by decide +kernel
theorem own_d1_141 : decode prog_6_method_1_code 141 = .ok (.bipush 6, 2) := by decide +kernel
theorem own_d1_143 : decode prog_6_method_1_code 143 = .ok (.aload_n 0, 1) := by decide +kernel
theorem own_d1_144 : decode prog_6_method_1_code 144 = .ok (.getfield 34, 3) := by decide +kernel
theorem own_d1_147 : decode prog_6_method_1_code 147 = .ok (.aastore, 1) := by decide +kernel
theorem own_d1_148 : decode prog_6_method_1_code 148 = .ok (.putfield 37, 3) := by decide +kernel
theorem own_d1_151 : decode prog_6_method_1_code 151 = .ok (.aload_n 0, 1) := by decide +kernel
theorem own_d1_152 : decode prog_6_method_1_code 152 = .ok (.bipush 8, 2) := by decide +kernel
theorem own_d1_154 : decode prog_6_method_1_code 154 = .ok (.newarray .long, 2) := by decide +kernel
theorem own_d1_156 : decode prog_6_method_1_code 156 = .ok (.putfield 41, 3) := by decide +kernel
theorem own_d1_159 : decode prog_6_method_1_code 159 = .ok (.aload_n 0, 1) := by decide +kernel
theorem own_d1_160 : decode prog_6_method_1_code 160 = .ok (.iconst (-1), 1) := by decide +kernel
theorem own_d1_161 : decode prog_6_method_1_code 161 = .ok (.putfield 45, 3) := by decide +kernel
theorem own_d1_164 : decode prog_6_method_1_code 164 = .ok (.aload_n 0, 1) := by decide +kernel
theorem own_d1_165 : decode prog_6_method_1_code 165 = .ok (.getstatic 49, 3) := by decide +kernel
theorem own_d1_168 : decode prog_6_method_1_code 168 = .ok (.putfield 55, 3) := by decide +kernel
theorem own_d1_171 : decode prog_6_method_1_code 171 = .ok (.aload_n 0, 1) := by decide +kernel
theorem own_d1_172 : decode prog_6_method_1_code 172 = .ok (.getstatic 58, 3) := by decide +kernel
theorem own_d1_175 : decode prog_6_method_1_code 175 = .ok (.putfield 63, 3) := by decide +kernel
theorem own_d1_178 : decode prog_6_method_1_code 178 = .ok (.lload_n 1, 1) := by decide +kernel
theorem own_d1_179 : decode prog_6_method_1_code 179 = .ok (.ldc2_w 66, 3) := by decide +kernel
theorem own_d1_182 : decode prog_6_method_1_code 182 = .ok (.lcmp, 1) := by decide +kernel
theorem own_d1_183 : decode prog_6_method_1_code 183 = .ok (.ifCond .ge 17, 3) := by decide +kernel
theorem own_d1_200 : decode prog_6_method_1_code 200 = .ok (.aload_n 0, 1) := by decide +kernel
theorem own_d1_201 : decode prog_6_method_1_code 201 = .ok (.lload_n 1, 1) := by decide +kernel
theorem own_d1_202 : decode prog_6_method_1_code 202 = .ok (.putfield 77, 3) := by decide +kernel
theorem own_d1_205 : decode prog_6_method_1_code 205 = .ok (.return_, 1) := by decide +kernel
theorem own_d3_0 : decode jdk_92_method_4_code 0 = .ok (.aload_n 0, 1) := by decide +kernel
theorem own_d3_1 : decode jdk_92_method_4_code 1 = .ok (.invokespecial 21, 3) := by decide +kernel
theorem own_d3_4 : decode jdk_92_method_4_code 4 = .ok (.aload_n 0, 1) := by decide +kernel
theorem own_d3_5 : decode jdk_92_method_4_code 5 = .ok (.iconst 0, 1) := by decide +kernel
theorem own_d3_6 : decode jdk_92_method_4_code 6 = .ok (.putfield 7, 3) := by decide +kernel
theorem own_d3_9 : decode jdk_92_method_4_code 9 = .ok (.aload_n 0, 1) := by decide +kernel
theorem own_d3_10 : decode jdk_92_method_4_code 10 = .ok (.iconst 0, 1) := by decide +kernel
theorem own_d3_11 : decode jdk_92_method_4_code 11 = .ok (.putfield 24, 3) := by decide +kernel
theorem own_d3_14 : decode jdk_92_method_4_code 14 = .ok (.aload_n 0, 1) := by decide +kernel
theorem own_d3_15 : decode jdk_92_method_4_code 15 = .ok (.bipush 64, 2) := by decide +kernel
theorem own_d3_17 : decode jdk_92_method_4_code 17 = .ok (.invokevirtual 27, 3) := by decide +kernel
theorem own_d3_20 : decode jdk_92_method_4_code 20 = .ok (.aload_n 0, 1) := by decide +kernel
theorem own_d3_21 : decode jdk_92_method_4_code 21 = .ok (.iconst 0, 1) := by decide +kernel
theorem own_d3_22 : decode jdk_92_method_4_code 22 = .ok (.putfield 24, 3) := by decide +kernel
theorem own_d3_25 : decode jdk_92_method_4_code 25 = .ok (.return_, 1) := by decide +kernel
theorem own_d4_0 : decode jdk_92_method_6_code 0 = .ok (.aload_n 0, 1) := by decide +kernel
theorem own_d4_1 : decode jdk_92_method_6_code 1 = .ok (.iload_n 1, 1) := by decide +kernel
theorem own_d4_2 : decode jdk_92_method_6_code 2 = .ok (.iconst 1, 1) := by decide +kernel
theorem own_d4_3 : decode jdk_92_method_6_code 3 = .ok (.isub, 1) := by decide +kernel
theorem own_d4_4 : decode jdk_92_method_6_code 4 = .ok (.invokestatic 52, 3) := by decide +kernel
theorem own_d4_7 : decode jdk_92_method_6_code 7 = .ok (.iconst 1, 1) := by decide +kernel
theorem own_d4_8 : decode jdk_92_method_6_code 8 = .ok (.iadd, 1) := by decide +kernel
theorem own_d4_9 : decode jdk_92_method_6_code 9 = .ok (.newarray .long, 2) := by decide +kernel
theorem own_d4_11 : decode jdk_92_method_6_code 11 = .ok (.putfield 11, 3) := by decide +kernel
theorem own_d4_14 : decode jdk_92_method_6_code 14 = .ok (.return_, 1) := by decide +kernel
theorem own_d5_0 : decode jdk_92_method_1_code 0 = .ok (.iload_n 0, 1) := by decide +kernel
theorem own_d5_1 : decode jdk_92_method_1_code 1 = .ok (.bipush 6, 2) := by decide +kernel
theorem own_d5_3 : decode jdk_92_method_1_code 3 = .ok (.ishr, 1) := by decide +kernel
theorem own_d5_4 : decode jdk_92_method_1_code 4 = .ok (.ireturn, 1) := by decide +kernel
theorem own_d6_0 : decode prog_6_method_8_code 0 = .ok (.aload_n 0, 1) := by decide +kernel
theorem own_d6_1 : decode prog_6_method_8_code 1 = .ok (.getfield 102, 3) := by decide +kernel
theorem own_d6_4 : decode prog_6_method_8_code 4 = .ok (.ifCond .le 7, 3) := by decide +kernel
theorem own_d6_7 : decode prog_6_method_8_code 7 = .ok (.iconst 1, 1) := by decide +kernel
theorem own_d6_8 : decode prog_6_method_8_code 8 = .ok (.goto 4, 3) := by decide +kernel
theorem own_d6_11 : decode prog_6_method_8_code 11 = .ok (.iconst 0, 1) := by decide +kernel
theorem own_d6_12 : decode prog_6_method_8_code 12 = .ok (.ireturn, 1) := by decide +kernel
theorem own_d7_0 : decode prog_6_method_6_code 0 = .ok (.aload_n 0, 1) := by decide +kernel
theorem own_d7_1 : decode prog_6_method_6_code 1 = .ok (.iconst 1, 1) := by decide +kernel
theorem own_d7_2 : decode prog_6_method_6_code 2 = .ok (.putfield 105, 3) := by decide +kernel
theorem own_d7_5 : decode prog_6_method_6_code 5 = .ok (.return_, 1) := by decide +kernel
theorem own_d8_0 : decode prog_6_method_5_code 0 = .ok (.aload_n 0, 1) := by decide +kernel
theorem own_d8_1 : decode prog_6_method_5_code 1 = .ok (.dup, 1) := by decide +kernel
theorem own_d8_2 : decode prog_6_method_5_code 2 = .ok (.getfield 102, 3) := by decide +kernel
theorem own_d8_5 : decode prog_6_method_5_code 5 = .ok (.iconst 1, 1) := by decide +kernel
theorem own_d8_6 : decode prog_6_method_5_code 6 = .ok (.iadd, 1) := by decide +kernel
theorem own_d8_7 : decode prog_6_method_5_code 7 = .ok (.putfield 102, 3) := by decide +kernel
theorem own_d8_10 : decode prog_6_method_5_code 10 = .ok (.return_, 1) := by decide +kernel
theorem own_pn0 : plainName "java/util/BitSet" = true := by first | (simp [plainName, overriddenIn]; done) | decide +kernel
theorem own_pn1 : plainName "com/example/tempe/tempe/algorithm/LocalMutex" = true := by first | (simp [plainName, overriddenIn]; done) | decide +kernel
theorem own_pn2 : plainName "com/example/tempe/tempe/algorithm/LocalMutexLockPendingPinLaw" = true := by first | (simp [plainName, overriddenIn]; done) | decide +kernel
theorem own_pd0 : parseMethodDescriptor "(I)I" = some ⟨[.int], some .int⟩ := by decide +kernel
theorem own_pd1 : parseMethodDescriptor "(I)V" = some ⟨[.int], none⟩ := by decide +kernel
theorem own_pd2 : parseMethodDescriptor "()V" = some ⟨[], none⟩ := by decide +kernel
theorem own_pd3 : parseMethodDescriptor "(J)V" = some ⟨[.long], none⟩ := by decide +kernel
theorem own_pd4 : parseMethodDescriptor "()Z" = some ⟨[], some .boolean⟩ := by decide +kernel
theorem own_lt {a b : Int32} {k : Int} (hb : b.toInt = k) : a < b ↔ a.toInt < k := by rw [Int32.lt_iff_toInt_lt, hb]
theorem own_gt {a b : Int32} {k : Int} (ha : a.toInt = k) : a < b ↔ k < b.toInt := by rw [Int32.lt_iff_toInt_lt, ha]
theorem own_eq {a b : Int32} {k : Int} (hb : b.toInt = k) : a = b ↔ a.toInt = k := by rw [← Int32.toInt_inj, hb]
theorem own_lt_of {a b : Int32} {k : Int} (hb : b.toInt = k) (h : a.toInt < k) : a < b := (own_lt hb).mpr h
theorem own_nlt_of {a b : Int32} {k : Int} (hb : b.toInt = k) (h : k ≤ a.toInt) : ¬ a < b := fun q => by have := (own_lt hb).mp q; omega
theorem own_gt_of {a b : Int32} {k : Int} (ha : a.toInt = k) (h : k < b.toInt) : a < b := (own_gt ha).mpr h
theorem own_ngt_of {a b : Int32} {k : Int} (ha : a.toInt = k) (h : b.toInt ≤ k) : ¬ a < b := fun q => by have := (own_gt ha).mp q; omega
theorem own_eq_of {a b : Int32} {k : Int} (hb : b.toInt = k) (h : a.toInt = k) : a = b := (own_eq hb).mpr h
theorem own_ne_of {a b : Int32} {k : Int} (hb : b.toInt = k) (h : a.toInt ≠ k) : ¬ a = b := fun q => h ((own_eq hb).mp q)
theorem own_arr_keep {Z : State} {h h' : Heap} {a : Addr} {c : Cell} {ty : FieldType} (A : Arr Z h a c ty) (K : Keep h h' []) : Arr Z h' a c ty := ⟨K.2.1 a c A.1 nin0, A.2⟩
theorem own_sta0 {Z : State} {h h' : Heap} {C n d : String} {v : Value} (F : Sta Z h C n d v) (K : Keep h h' []) : Sta Z h' C n d v := by
  obtain ⟨cf, i, k, f, st, cell, h1, h2, h3, h4, h5, h6, h7⟩ := F
  exact ⟨cf, i, k, f, st, cell, h1, h2, h3, h4, K.2.1 st cell h5 nin0, h6, h7⟩
theorem own_eqint {t : Term} {n : Int32} {args : Array Value} {s : State} (h : (Jvm.Cond.eq t (.int n)).value args s none s [] = some true) : t.eval args s none [] s = some (.int n) := by
  obtain ⟨a, b, ha, hb, k1, k2⟩ := cmp_v (Or.inl h)
  have hb' : (Term.int n).eval args s none [] s = some (.int n) := rfl
  cases hb.symm.trans hb'
  obtain ⟨z, rfl⟩ := k2
  have : z = n := by simpa [Cond.value, ha, hb'] using h
  rw [ha, this]
theorem own_exa {args : Array Value} {s : State} {t : Term} {C : String} (h1 : (Jvm.Cond.exactly t C).value args s none s [] = some true) : ∃ x, t.eval args s none [] s = some (.ref x) ∧ Exa s s.heap x C := by
  obtain ⟨x, hx⟩ := exa_v h1
  exact ⟨x, hx, Exa.start hx h1⟩
theorem own_fldint {args : Array Value} {s : State} {t : Term} {C n d : String} {x : Addr} {k : Int32} (hx : t.eval args s none [] s = some (.ref x)) (h2 : (Jvm.Cond.eq (.field t C n d) (.int k)).value args s none s [] = some true) : Fld s s.heap x C n d (.int k) :=
  Fld.start ((fld_at hx).symm.trans (own_eqint h2))
theorem own_sta_keep {Z : State} {h h' : Heap} {C n d D : String} {v : Value} {x : Addr} (F : Sta Z h C n d v) (E : Exa Z h x D) (K : Keep h h' [x]) : Sta Z h' C n d v := by
  obtain ⟨cf, i, k, f, st, cell, h1, h2, h3, h4, h5, h6, h7⟩ := F
  refine ⟨cf, i, k, f, st, cell, h1, h2, h3, h4, K.2.1 st cell h5 (fun q => ?_), h6, h7⟩
  cases List.mem_singleton.mp q
  obtain ⟨c2, _, g1, _, _, g4, _⟩ := E
  cases h5.symm.trans g1
  rw [h6] at g4
  cases g4
theorem own_two (p : Int64) : ¬ (lcmpW ((p &&& (4611686018427387903 : Int64)) + (2 : Int64)) (2 : Int64)) < (0 : Int32) := fun h => by
  rw [lw_lt, Int64.lt_iff_toInt_lt] at h
  have h1 := c_maskL p 4611686018427387903 62 (by decide) (by decide)
  have h2 := c_ladd (p &&& 4611686018427387903) 2
  have h3 : (2 : Int64).toInt = 2 := rfl
  have h4 := rng64 ((p &&& 4611686018427387903) + 2)
  omega
theorem own_and3 (p : Int32) : (p &&& (3 : Int32)) = (0 : Int32) ∨ (p &&& (3 : Int32)) = (1 : Int32) ∨ (p &&& (3 : Int32)) = (2 : Int32) ∨ (p &&& (3 : Int32)) = (3 : Int32) := by
  have h1 := c_and p 3 (by decide)
  have h2 : (3 : Int32).toInt = 3 := rfl
  generalize p &&& (3 : Int32) = z at h1 ⊢
  rw [own_eq (b := 0) (k := 0) rfl, own_eq (b := 1) (k := 1) rfl, own_eq (b := 2) (k := 2) rfl, own_eq (b := 3) (k := 3) rfl]
  omega
def Qown_wi (Z : State)  (h0 : Heap) (n0 : Nat) (v : Option Value) (h : Heap) (L : List Loc) : Prop := v = some (.int (0 : Int32)) ∧ Fr n0 L ∧ h = h0
set_option maxRecDepth 65536 in
set_option maxHeartbeats 40000000 in
theorem own_wi (l : Launch) (Z : State) (a0 : Array Value) (hw : ∀ d ∈ tables_1, d.before a0 Z = true) (ws : List Jvm.Cond)  (h0 : Heap) (n0 : Nat) (Z0 : n0 ≤ h0.size)  :
    MetFree l own_m0 (head1 (Jvm.Cond.code own_m0 jdk_92_method_1_code 1 (some .int) :: ws) ({ frames := 0, cells := 0, slots := 0, locals := 0 } : Room)) (fun a U => a = #[(.int (63 : Int32))] ∧ Z.Warmed39 U.vm ∧ U.heap = h0) (fun _ _ _ _ _ => True) (fun _ U o U' => ∃ v L, o = .returned v ∧ Qown_wi Z  h0 n0 v U'.heap L ∧ FrameEnd U o U' L ({ frames := 0, cells := 0, slots := 0, locals := 0 } : Room).cells ({ frames := 0, cells := 0, slots := 0, locals := 0 } : Room).slots) := by
  refine MetFree.of_bodySF (plainFor_of_name own_pn0) hisR ?_
  intro p e s m args below meth c s₁ Bd hml0 hP hK
  obtain ⟨rfl, hZ, hh⟩ := hP
  have hx := Bd.exec
  have hby := Bd.bytes
  have hml : c.maxLocals = 1 := hml0
  have hown : s.vm.findClass "java/util/BitSet" = some m.cls := by have q := findClass_of_methodNamed Bd.named; exact q
  have hnm := (name_of_methodNamed Bd.named Bd.method).1
  have X0 : Stand p l e ({ frames := 0, cells := 0, slots := 0, locals := 0 } : Room) s m #[(.int (63 : Int32))] below meth c s₁ [] 0 0 := Stand.of_body Bd
  have e0 : s₁.heap = h0 := by rw [← hh, Bd.state]; rfl
  have N0 := Fr.nil n0
  have pre0 : ∀ t, Steps p.tables e below (s₁.setTop (mkF m 0 #[.val (.int (63 : Int32))] [])) t → Steps p.tables e below (s₁.setTop (entryFrame m #[(.int (63 : Int32))] 1)) t := fun t k => castTop (by first | (simp [entryFrame, mkF, argsToLocals, Value.category, maxLocals]; done) | rfl) k
  obtain ⟨fs, hr, hrun, hended, hW, hsame⟩ := X0.leave (v := some (.int (0 : Int32))) (fun h => by rw [Bd.returns] at h; cases h)
  refine ⟨_, _, pre0 _ ?_, hrun, hended, _, _, rfl, ?_, ⟨_, rfl⟩, hW, hsame.mono (by decide) (by decide)⟩
  · show Steps _ _ _ (s₁.setTop (mkF m 0 #[.val (.int (63 : Int32))] [])) _
    refine XS.iloadN X0.here hx rfl (hb hby own_d5_0) rfl ?_
    refine XS.bipush X0.here hx rfl (hb hby own_d5_1) ?_
    refine XS.ishr X0.here hx rfl (hb hby own_d5_3) rfl ?_
    show Steps _ _ _ (s₁.setTop (mkF m 4 #[.val (.int (63 : Int32))] [(.int (0 : Int32))])) _
    exact retI X0 hx Bd.returns (hb hby own_d5_4) hr
  · show Qown_wi Z  h0 n0 _ s₁.heap _
    rw [e0]
    exact ⟨rfl, N0, rfl⟩
def Qown_iwS (Z : State) (a1 : Addr) (u1 u2 : Value) (h0 : Heap) (n0 : Nat) (v : Option Value) (h : Heap) (L : List Loc) : Prop := v = none ∧ Fr n0 L ∧ Keep h0 h [a1] ∧ Exa Z h a1 "java/util/BitSet" ∧ Fld Z h a1 "java/util/BitSet" "sizeIsSticky" "Z" u2
set_option maxRecDepth 65536 in
set_option maxHeartbeats 40000000 in
theorem own_iwS (l : Launch) (Z : State) (a0 : Array Value) (hw : ∀ d ∈ tables_1, d.before a0 Z = true) (ws : List Jvm.Cond) (a1 : Addr) (u1 u2 : Value) (h0 : Heap) (n0 : Nat) (Z0 : n0 ≤ h0.size) (g1 : n0 ≤ a1) (E1 : Exa Z h0 a1 "java/util/BitSet") (F1 : Fld Z h0 a1 "java/util/BitSet" "words" "[J" u1) (F2 : Fld Z h0 a1 "java/util/BitSet" "sizeIsSticky" "Z" u2) :
    MetFree l own_m1 (head1 (Jvm.Cond.code own_m1 jdk_92_method_6_code 2 none :: ws) ({ frames := 1, cells := 1, slots := 1, locals := 13 } : Room)) (fun a U => a = #[(.ref a1), (.int (64 : Int32))] ∧ Z.Warmed39 U.vm ∧ U.heap = h0) (fun _ _ _ _ _ => True) (fun _ U o U' => ∃ v L, o = .returned v ∧ Qown_iwS Z a1 u1 u2 h0 n0 v U'.heap L ∧ FrameEnd U o U' L ({ frames := 1, cells := 1, slots := 1, locals := 13 } : Room).cells ({ frames := 1, cells := 1, slots := 1, locals := 13 } : Room).slots) := by
  refine MetFree.of_bodySF (plainFor_of_name own_pn0) hisR ?_
  intro p e s m args below meth c s₁ Bd hml0 hP hK
  obtain ⟨rfl, hZ, hh⟩ := hP
  have hx := Bd.exec
  have hby := Bd.bytes
  have hml : c.maxLocals = 2 := hml0
  have hown : s.vm.findClass "java/util/BitSet" = some m.cls := by have q := findClass_of_methodNamed Bd.named; exact q
  have hnm := (name_of_methodNamed Bd.named Bd.method).1
  have X0 : Stand p l e ({ frames := 1, cells := 1, slots := 1, locals := 13 } : Room) s m #[(.ref a1), (.int (64 : Int32))] below meth c s₁ [] 0 0 := Stand.of_body Bd
  have e0 : s₁.heap = h0 := by rw [← hh, Bd.state]; rfl
  have N0 := Fr.nil n0
  have pre0 : ∀ t, Steps p.tables e below (s₁.setTop (mkF m 0 #[.val (.ref a1), .val (.int (64 : Int32))] [])) t → Steps p.tables e below (s₁.setTop (entryFrame m #[(.ref a1), (.int (64 : Int32))] 2)) t := fun t k => castTop (by first | (simp [entryFrame, mkF, argsToLocals, Value.category, maxLocals]; done) | rfl) k
  obtain ⟨_, _, ⟨T1, L1, k1, n1⟩, -, X1, ⟨Lc1, hQ1, l1, y1, z1⟩, st1⟩ := Jvm.LawKit.callS X0 hx (y := own_m0) hown (mvT hZ (own_w27 hw)) (mvT hZ (own_w28 hw)) (mvT hZ (own_w13 hw)) (mvT hZ (own_w29 hw)) (by decide) (backOf (W := 1) (own_wi l Z a0 hw [] h0 n0 Z0) hZ (own_w29 hw) (own_w13 hw) (by decide) (by decide)) (g := (mkF m 4 #[.val (.ref a1), .val (.int (64 : Int32))] [(.int (63 : Int32)), (.ref a1)])) rfl (by rw [hml]; rfl) (argsL := [(.int (63 : Int32))]) (rest := [(.ref a1)]) (lenOf own_pd0 rfl) rfl (by show 2 * 0 + _ ≤ _; exact Nat.le_of_eq rfl) (hb hby own_d4_4) (fun _ _ => ⟨rfl, e0, (by decide : 0 + 0 ≤ _), (by decide : 0 + 0 ≤ _)⟩)
  dsimp only [Pt.U, Pt.locs, Pt.cells, Pt.slots] at X1 l1 y1 z1 st1 hQ1
  subst l1 y1 z1
  obtain ⟨rfl, N1q, e1⟩ := hQ1
  have N1 := Fr.app N0 N1q
  obtain ⟨T2, h2, k2, X2, e2, E2, A2, st2⟩ := newP (aty := .long) X1 hx hZ (own_w30 hw) e1 (g := (mkF m 9 #[.val (.ref a1), .val (.int (64 : Int32))] [(.int (1 : Int32)), (.ref a1)])) rfl (hb hby own_d4_9) rfl (by decide) (cap := 1) (by decide) (by decide) (by decide) (by decide)
  obtain ⟨b2, g2⟩ : ∃ z, z = h0.size := ⟨_, rfl⟩
  rw [← g2] at A2 st2
  have ne_a1_b2 : a1 ≠ b2 := Nat.ne_of_lt (Nat.lt_of_lt_of_le E1.lt (Nat.le_of_eq g2.symm))
  have g_b2 : n0 ≤ b2 := Nat.le_trans Z0 (Nat.le_of_eq g2.symm)
  have sz_b2 : h0.size ≤ b2 := Nat.le_trans (Keep.refl h0 [a1]).1 (Nat.le_of_eq g2.symm)
  have Z2 : n0 ≤ h2.size := Nat.le_trans Z0 E2.1
  have K2 := (Keep.refl h0 [a1]).ext E2
  have V2 : Arv Z h2 b2 k2 .long (1 : Int32) [(.long (0 : Int64))] (.long (0 : Int64)) := (Arv.new A2 (by decide)).pad (pad_rep [] (.long (0 : Int64)) 1)
  have c3 := (E1.ext E2)
  have c4 := (F1.ext E2)
  obtain ⟨T5, h5, X5, e5, W5, st5⟩ := putF X2 hx hZ hown (host := "") (Or.inl (own_w31 hw)) Via.refl e2 c4 c3 (Or.inl (own_w32 hw)) (own_w12 hw) (ty := (.array .long)) (by decide) rfl rfl (g := (mkF m 11 #[.val (.ref a1), .val (.int (64 : Int32))] [(.ref b2), (.ref a1)])) rfl rfl (hb hby own_d4_11)
  have Z5 : n0 ≤ h5.size := Nat.le_trans Z2 (Nat.le_of_eq W5.size.symm)
  have K5 := K2.wr W5 (Or.inl (List.mem_of_getElem? (i := 0) rfl))
  have N5 := Fr.snoc X5 N1 g1
  have Fw5 := c4.same W5
  have c6 := (c3.wr W5)
  have c7 := ((F2.ext E2).other W5 (Or.inr (slot_ne (Or.inl (own_w21 hw)) (Or.inl (own_w32 hw)) (by decide) (t := .boolean) (t' := (.array .long)) (by decide) (by decide))))
  obtain ⟨fs, hr, hrun, hended, hW, hsame⟩ := X5.leave (v := none) (fun _ => rfl)
  refine ⟨_, _, pre0 _ ?_, hrun, hended, _, _, rfl, ?_, ⟨_, rfl⟩, hW, hsame.mono (by decide) (by decide)⟩
  · show Steps _ _ _ (s₁.setTop (mkF m 0 #[.val (.ref a1), .val (.int (64 : Int32))] [])) _
    refine XS.aloadN X0.here hx rfl (hb hby own_d4_0) rfl rfl ?_
    refine XS.iloadN X0.here hx rfl (hb hby own_d4_1) rfl ?_
    refine XS.iconst X0.here hx rfl (hb hby own_d4_2) ?_
    refine XS.isub X0.here hx rfl (hb hby own_d4_3) rfl ?_
    show Steps _ _ _ (s₁.setTop (mkF m 4 #[.val (.ref a1), .val (.int (64 : Int32))] [(.int (63 : Int32)), (.ref a1)])) _
    refine st1 _ ?_
    refine XS.iconst X1.here hx rfl (hb hby own_d4_7) ?_
    refine XS.iadd X1.here hx rfl (hb hby own_d4_8) rfl ?_
    refine st2 _ ?_
    show Steps _ _ _ (T2.setTop (mkF m 11 #[.val (.ref a1), .val (.int (64 : Int32))] [(.ref b2), (.ref a1)])) _
    refine st5 _ ?_
    show Steps _ _ _ (T5.setTop (mkF m 14 #[.val (.ref a1), .val (.int (64 : Int32))] [])) _
    exact X5.returnOut hx Bd.returns (hb hby own_d4_14) hr
  · show Qown_iwS Z a1 u1 u2 h0 n0 _ T5.heap _
    rw [e5]
    exact ⟨rfl, N5, K5, c6, c7⟩
def Qown_bs (Z : State) (a1 : Addr) (h0 : Heap) (n0 : Nat) (v : Option Value) (h : Heap) (L : List Loc) : Prop := v = none ∧ Fr n0 L ∧ Keep h0 h [a1]
set_option maxRecDepth 65536 in
set_option maxHeartbeats 40000000 in
theorem own_bs (l : Launch) (Z : State) (a0 : Array Value) (hw : ∀ d ∈ tables_1, d.before a0 Z = true) (ws : List Jvm.Cond) (a1 : Addr) (h0 : Heap) (n0 : Nat) (Z0 : n0 ≤ h0.size) (g1 : n0 ≤ a1) (E1 : Exa Z h0 a1 "java/util/BitSet") (F0 : Fld Z h0 a1 "java/util/BitSet" "wordsInUse" "I" (.int (0 : Int32))) (F1 : Fld Z h0 a1 "java/util/BitSet" "sizeIsSticky" "Z" (.int (0 : Int32))) (F2 : Fld Z h0 a1 "java/util/BitSet" "words" "[J" .null) :
    MetFree l own_m2 (head1 (Jvm.Cond.code own_m2 jdk_92_method_4_code 1 none :: ws) ({ frames := 2, cells := 1, slots := 1, locals := 26 } : Room)) (fun a U => a = #[(.ref a1)] ∧ Z.Warmed39 U.vm ∧ U.heap = h0) (fun _ _ _ _ _ => True) (fun _ U o U' => ∃ v L, o = .returned v ∧ Qown_bs Z a1 h0 n0 v U'.heap L ∧ FrameEnd U o U' L ({ frames := 2, cells := 1, slots := 1, locals := 26 } : Room).cells ({ frames := 2, cells := 1, slots := 1, locals := 26 } : Room).slots) := by
  refine MetFree.of_bodySF (plainFor_of_name own_pn0) hisR ?_
  intro p e s m args below meth c s₁ Bd hml0 hP hK
  obtain ⟨rfl, hZ, hh⟩ := hP
  have hx := Bd.exec
  have hby := Bd.bytes
  have hml : c.maxLocals = 1 := hml0
  have hown : s.vm.findClass "java/util/BitSet" = some m.cls := by have q := findClass_of_methodNamed Bd.named; exact q
  have hnm := (name_of_methodNamed Bd.named Bd.method).1
  have X0 : Stand p l e ({ frames := 2, cells := 1, slots := 1, locals := 26 } : Room) s m #[(.ref a1)] below meth c s₁ [] 0 0 := Stand.of_body Bd
  have e0 : s₁.heap = h0 := by rw [← hh, Bd.state]; rfl
  have N0 := Fr.nil n0
  have pre0 : ∀ t, Steps p.tables e below (s₁.setTop (mkF m 0 #[.val (.ref a1)] [])) t → Steps p.tables e below (s₁.setTop (entryFrame m #[(.ref a1)] 1)) t := fun t k => castTop (by first | (simp [entryFrame, mkF, argsToLocals, Value.category, maxLocals]; done) | rfl) k
  obtain ⟨T1, X1, e1, st1⟩ := initO X0 hx hZ hown (own_w17 hw) (own_w9 hw) (own_w10 hw) e0 (g := (mkF m 1 #[.val (.ref a1)] [(.ref a1)])) rfl (by rw [hml]; rfl) rfl (hb hby own_d3_1) (by decide) (W := 0) (by show 2 * 0 + _ ≤ _; exact Nat.le_of_eq rfl) (by decide)
  obtain ⟨T2, h2, X2, e2, W2, st2⟩ := putF X1 hx hZ hown (host := "") (Or.inl (own_w18 hw)) Via.refl e1 F0 E1 (Or.inl (own_w19 hw)) (own_w12 hw) (ty := .int) (by decide) rfl rfl (g := (mkF m 6 #[.val (.ref a1)] [(.int (0 : Int32)), (.ref a1)])) rfl rfl (hb hby own_d3_6)
  have Z2 : n0 ≤ h2.size := Nat.le_trans Z0 (Nat.le_of_eq W2.size.symm)
  have K2 := (Keep.refl h0 [a1]).wr W2 (Or.inl (List.mem_of_getElem? (i := 0) rfl))
  have N2 := Fr.snoc X2 N0 g1
  have Fw2 := F0.same W2
  have c3 := (E1.wr W2)
  have c4 := (F1.other W2 (Or.inr (slot_ne (Or.inl (own_w21 hw)) (Or.inl (own_w19 hw)) (by decide) (t := .boolean) (t' := .int) (by decide) (by decide))))
  obtain ⟨T5, h5, X5, e5, W5, st5⟩ := putFN X2 hx hZ hown (own_w20 hw) Via.refl e2 c4 c3 (Or.inl (own_w21 hw)) (own_w12 hw) (ty := .boolean) (v' := (.int (0 : Int32))) (by decide) rfl (by decide) (g := (mkF m 11 #[.val (.ref a1)] [(.int (0 : Int32)), (.ref a1)])) rfl rfl (hb hby own_d3_11)
  have Z5 : n0 ≤ h5.size := Nat.le_trans Z2 (Nat.le_of_eq W5.size.symm)
  have K5 := K2.wr W5 (Or.inl (List.mem_of_getElem? (i := 0) rfl))
  have N5 := Fr.snoc X5 N2 g1
  have Fw5 := c4.same W5
  have c6 := (c3.wr W5)
  have c7 := ((F2.other W2 (Or.inr (slot_ne (Or.inl (own_w32 hw)) (Or.inl (own_w19 hw)) (by decide) (t := (.array .long)) (t' := .int) (by decide) (by decide)))).other W5 (Or.inr (slot_ne (Or.inl (own_w32 hw)) (Or.inl (own_w21 hw)) (by decide) (t := (.array .long)) (t' := .boolean) (by decide) (by decide))))
  obtain ⟨cq8, q8, q8'⟩ := c6.cell
  obtain ⟨_, _, ⟨T8, L8, k8, n8⟩, -, X8, ⟨Lc8, hQ8, l8, y8, z8⟩, st8⟩ := X5.privateBack hx (y := own_m1) hown (mvT hZ (own_w22 hw)) (mvT hZ (own_w23 hw)) (mvT hZ (own_w25 hw)) (Cond.privateMethod_at (mvP hZ (own_w24 hw) (args := #[]))) (mvT hZ (own_w26 hw)) (by decide) (backOf (W := 0) (own_iwS l Z a0 hw [] a1 .null (.int (0 : Int32)) h5 n0 Z5 g1 c6 c7 Fw5) hZ (own_w26 hw) (own_w13 hw) (by decide) (by decide)) (g := (mkF m 17 #[.val (.ref a1)] [(.int (64 : Int32)), (.ref a1)])) rfl (by rw [hml]; rfl) (Steps.refl _) (a := a1) (by rw [e5]; exact q8) q8' (argsL := [(.int (64 : Int32))]) (rest := []) (lenOf own_pd1 rfl) rfl (by show 2 * 0 + _ ≤ _; exact Nat.le_of_eq rfl) (hb hby own_d3_17) (fun _ _ => ⟨rfl, e5, (by decide : 0 + 1 ≤ _), (by decide : 0 + 1 ≤ _)⟩)
  dsimp only [Pt.U, Pt.locs, Pt.cells, Pt.slots] at X8 l8 y8 z8 st8 hQ8
  subst l8 y8 z8
  obtain ⟨rfl, N8q, Kq8, Eq8, Fq8⟩ := hQ8
  have N8 := Fr.app N5 N8q
  have Z8 : n0 ≤ T8.heap.size := Nat.le_trans Z5 Kq8.1
  have K8 := K5.trans Kq8 (allS (P := fun x => x ∈ ([a1] : List Addr) ∨ h0.size ≤ x) (Or.inl (List.mem_of_getElem? (i := 0) rfl)) all0)
  obtain ⟨T9, h9, X9, e9, W9, st9⟩ := putFN X8 hx hZ hown (own_w20 hw) Via.refl rfl Fq8 Eq8 (Or.inl (own_w21 hw)) (own_w12 hw) (ty := .boolean) (v' := (.int (0 : Int32))) (by decide) rfl (by decide) (g := (mkF m 22 #[.val (.ref a1)] [(.int (0 : Int32)), (.ref a1)])) rfl rfl (hb hby own_d3_22)
  have Z9 : n0 ≤ h9.size := Nat.le_trans Z8 (Nat.le_of_eq W9.size.symm)
  have K9 := K8.wr W9 (Or.inl (List.mem_of_getElem? (i := 0) rfl))
  have N9 := Fr.snoc X9 N8 g1
  have Fw9 := Fq8.same W9
  obtain ⟨fs, hr, hrun, hended, hW, hsame⟩ := X9.leave (v := none) (fun _ => rfl)
  refine ⟨_, _, pre0 _ ?_, hrun, hended, _, _, rfl, ?_, ⟨_, rfl⟩, hW, hsame.mono (by decide) (by decide)⟩
  · show Steps _ _ _ (s₁.setTop (mkF m 0 #[.val (.ref a1)] [])) _
    refine XS.aloadN X0.here hx rfl (hb hby own_d3_0) rfl rfl ?_
    refine st1 _ ?_
    refine XS.aloadN X1.here hx rfl (hb hby own_d3_4) rfl rfl ?_
    refine XS.iconst X1.here hx rfl (hb hby own_d3_5) ?_
    show Steps _ _ _ (T1.setTop (mkF m 6 #[.val (.ref a1)] [(.int (0 : Int32)), (.ref a1)])) _
    refine st2 _ ?_
    refine XS.aloadN X2.here hx rfl (hb hby own_d3_9) rfl rfl ?_
    refine XS.iconst X2.here hx rfl (hb hby own_d3_10) ?_
    refine st5 _ ?_
    show Steps _ _ _ (T5.setTop (mkF m 14 #[.val (.ref a1)] [])) _
    refine XS.aloadN X5.here hx rfl (hb hby own_d3_14) rfl rfl ?_
    refine XS.bipush X5.here hx rfl (hb hby own_d3_15) ?_
    refine st8.trans ?_
    refine XS.aloadN X8.here hx rfl (hb hby own_d3_20) rfl rfl ?_
    show Steps _ _ _ (T8.setTop (mkF m 21 #[.val (.ref a1)] [(.ref a1)])) _
    refine XS.iconst X8.here hx rfl (hb hby own_d3_21) ?_
    refine st9 _ ?_
    show Steps _ _ _ (T9.setTop (mkF m 25 #[.val (.ref a1)] [])) _
    exact X9.returnOut hx Bd.returns (hb hby own_d3_25) hr
  · show Qown_bs Z a1 h0 n0 _ T9.heap _
    rw [e9]
    exact ⟨rfl, N9, K9⟩
def Qown_mi (Z : State) (a1 : Addr) (q1 : Int64) (s1 s2 : Addr) (h0 : Heap) (n0 : Nat) (v : Option Value) (h : Heap) (L : List Loc) : Prop := v = none ∧ Fr n0 L ∧ Keep h0 h [a1] ∧ Exa Z h a1 "com/example/tempe/tempe/algorithm/LocalMutex" ∧ Fld Z h a1 "com/example/tempe/tempe/algorithm/LocalMutex" "lockCalls" "I" (.int (0 : Int32)) ∧ Fld Z h a1 "com/example/tempe/tempe/algorithm/LocalMutex" "unlockCalled" "Z" (.int (0 : Int32))
set_option maxRecDepth 65536 in
set_option maxHeartbeats 40000000 in
theorem own_mi (l : Launch) (Z : State) (a0 : Array Value) (hw : ∀ d ∈ tables_1, d.before a0 Z = true) (ws : List Jvm.Cond) (a1 : Addr) (q1 : Int64) (s1 s2 : Addr) (h0 : Heap) (n0 : Nat) (Z0 : n0 ≤ h0.size) (hq : ¬ (lcmpW q1 (2 : Int64)) < (0 : Int32)) (g1 : n0 ≤ a1) (E1 : Exa Z h0 a1 "com/example/tempe/tempe/algorithm/LocalMutex") (S1 : Sta Z h0 "com/example/tempe/tempe/algorithm/LocalMutex$State" "IDLE" "Lcom/example/tempe/tempe/algorithm/LocalMutex$State;" (.ref s1)) (S2 : Sta Z h0 "com/example/tempe/tempe/algorithm/LocalMutex$Phase" "IDLE" "Lcom/example/tempe/tempe/algorithm/LocalMutex$Phase;" (.ref s2)) (F0 : Fld Z h0 a1 "com/example/tempe/tempe/algorithm/LocalMutex" "toLock" "Ljava/util/BitSet;" .null) (F1 : Fld Z h0 a1 "com/example/tempe/tempe/algorithm/LocalMutex" "replied" "Ljava/util/BitSet;" .null) (F2 : Fld Z h0 a1 "com/example/tempe/tempe/algorithm/LocalMutex" "outcomes" "Ljava/util/BitSet;" .null) (F3 : Fld Z h0 a1 "com/example/tempe/tempe/algorithm/LocalMutex" "refusals" "Ljava/util/BitSet;" .null) (F4 : Fld Z h0 a1 "com/example/tempe/tempe/algorithm/LocalMutex" "onHold" "Ljava/util/BitSet;" .null) (F5 : Fld Z h0 a1 "com/example/tempe/tempe/algorithm/LocalMutex" "applicants" "Ljava/util/BitSet;" .null) (F6 : Fld Z h0 a1 "com/example/tempe/tempe/algorithm/LocalMutex" "candidates" "Ljava/util/BitSet;" .null) (F7 : Fld Z h0 a1 "com/example/tempe/tempe/algorithm/LocalMutex" "bidders" "Ljava/util/BitSet;" .null) (F8 : Fld Z h0 a1 "com/example/tempe/tempe/algorithm/LocalMutex" "sets" "[Ljava/util/BitSet;" .null) (F9 : Fld Z h0 a1 "com/example/tempe/tempe/algorithm/LocalMutex" "bids" "[J" .null) (F10 : Fld Z h0 a1 "com/example/tempe/tempe/algorithm/LocalMutex" "lock" "I" (.int (0 : Int32))) (F11 : Fld Z h0 a1 "com/example/tempe/tempe/algorithm/LocalMutex" "state" "Lcom/example/tempe/tempe/algorithm/LocalMutex$State;" .null) (F12 : Fld Z h0 a1 "com/example/tempe/tempe/algorithm/LocalMutex" "phase" "Lcom/example/tempe/tempe/algorithm/LocalMutex$Phase;" .null) (F13 : Fld Z h0 a1 "com/example/tempe/tempe/algorithm/LocalMutex" "priorities" "J" (.long (0 : Int64))) (F14 : Fld Z h0 a1 "com/example/tempe/tempe/algorithm/LocalMutex" "lockCalls" "I" (.int (0 : Int32))) (F15 : Fld Z h0 a1 "com/example/tempe/tempe/algorithm/LocalMutex" "unlockCalled" "Z" (.int (0 : Int32))) :
    MetFree l own_m3 (head1 (Jvm.Cond.code own_m3 prog_6_method_1_code 3 none :: ws) ({ frames := 3, cells := 18, slots := 47, locals := 40 } : Room)) (fun a U => a = #[(.ref a1), (.long q1)] ∧ Z.Warmed39 U.vm ∧ U.heap = h0) (fun _ _ _ _ _ => True) (fun _ U o U' => ∃ v L, o = .returned v ∧ Qown_mi Z a1 q1 s1 s2 h0 n0 v U'.heap L ∧ FrameEnd U o U' L ({ frames := 3, cells := 18, slots := 47, locals := 40 } : Room).cells ({ frames := 3, cells := 18, slots := 47, locals := 40 } : Room).slots) := by
  refine MetFree.of_bodySF (plainFor_of_name own_pn1) hisR ?_
  intro p e s m args below meth c s₁ Bd hml0 hP hK
  obtain ⟨rfl, hZ, hh⟩ := hP
  have hx := Bd.exec
  have hby := Bd.bytes
  have hml : c.maxLocals = 3 := hml0
  have hown : s.vm.findClass "com/example/tempe/tempe/algorithm/LocalMutex" = some m.cls := by have q := findClass_of_methodNamed Bd.named; exact q
  have hnm := (name_of_methodNamed Bd.named Bd.method).1
  have X0 : Stand p l e ({ frames := 3, cells := 18, slots := 47, locals := 40 } : Room) s m #[(.ref a1), (.long q1)] below meth c s₁ [] 0 0 := Stand.of_body Bd
  have e0 : s₁.heap = h0 := by rw [← hh, Bd.state]; rfl
  have N0 := Fr.nil n0
  have pre0 : ∀ t, Steps p.tables e below (s₁.setTop (mkF m 0 #[.val (.ref a1), .val (.long q1), .second] [])) t → Steps p.tables e below (s₁.setTop (entryFrame m #[(.ref a1), (.long q1)] 3)) t := fun t k => castTop (by first | (simp [entryFrame, mkF, argsToLocals, Value.category, maxLocals]; done) | rfl) k
  obtain ⟨T1, X1, e1, st1⟩ := initO X0 hx hZ hown (own_w8 hw) (own_w9 hw) (own_w10 hw) e0 (g := (mkF m 1 #[.val (.ref a1), .val (.long q1), .second] [(.ref a1)])) rfl (by rw [hml]; rfl) rfl (hb hby own_d1_1) (by decide) (W := 0) (by show 2 * 0 + _ ≤ _; exact Nat.le_of_eq rfl) (by decide)
  obtain ⟨T2, h2, X2, e2, E2, A2, D2, -, st2⟩ := newO X1 hx hZ hown (own_w11 hw) (own_w12 hw) (own_w13 hw) e1 (g := (mkF m 5 #[.val (.ref a1), .val (.long q1), .second] [(.ref a1)])) rfl (hb hby own_d1_5) (by decide) (by decide)
  obtain ⟨b2, g2⟩ : ∃ z, z = h0.size := ⟨_, rfl⟩
  rw [← g2] at A2 D2 st2
  have ne_a1_b2 : a1 ≠ b2 := Nat.ne_of_lt (Nat.lt_of_lt_of_le E1.lt (Nat.le_of_eq g2.symm))
  have g_b2 : n0 ≤ b2 := Nat.le_trans Z0 (Nat.le_of_eq g2.symm)
  have sz_b2 : h0.size ≤ b2 := Nat.le_trans (Keep.refl h0 [a1]).1 (Nat.le_of_eq g2.symm)
  have Z2 : n0 ≤ h2.size := Nat.le_trans Z0 E2.1
  have K2 := (Keep.refl h0 [a1]).ext E2
  have F2_19 : Fld Z h2 b2 "java/util/BitSet" "wordsInUse" "I" (.int (0 : Int32)) := D2 (Or.inl (own_w19 hw)) (ty := .int) (by decide)
  have F2_21 : Fld Z h2 b2 "java/util/BitSet" "sizeIsSticky" "Z" (.int (0 : Int32)) := D2 (Or.inl (own_w21 hw)) (ty := .boolean) (by decide)
  have F2_32 : Fld Z h2 b2 "java/util/BitSet" "words" "[J" .null := D2 (Or.inl (own_w32 hw)) (ty := (.array .long)) (by decide)
  obtain ⟨_, _, ⟨T3, L3, k3, n3⟩, -, X3, ⟨Lc3, hQ3, l3, y3, z3⟩, st3⟩ := X2.specialBack hx (y := own_m2) rfl hown (mvT hZ (own_w14 hw)) (mvT hZ (own_w15 hw)) (mvT hZ (own_w16 hw)) (by decide) (backOf (W := 2) (own_bs l Z a0 hw [] b2 h2 n0 Z2 g_b2 A2 F2_19 F2_21 F2_32) hZ (own_w16 hw) (own_w13 hw) (by decide) (by decide)) (g := (mkF m 9 #[.val (.ref a1), .val (.long q1), .second] [(.ref b2), (.ref b2), (.ref a1)])) rfl (by rw [hml]; rfl) (Steps.refl _) (a := b2) (argsL := []) (rest := [(.ref b2), (.ref a1)]) (lenOf own_pd2 rfl) rfl (by show 2 * 0 + _ ≤ _; exact Nat.le_of_eq rfl) (hb hby own_d1_9) (fun _ _ => ⟨rfl, e2, (by decide : 1 + 1 ≤ _), (by decide : 3 + 1 ≤ _)⟩)
  dsimp only [Pt.U, Pt.locs, Pt.cells, Pt.slots] at X3 l3 y3 z3 st3 hQ3
  subst l3 y3 z3
  obtain ⟨rfl, N3q, Kq3⟩ := hQ3
  have N3 := Fr.app N0 N3q
  have Z3 : n0 ≤ T3.heap.size := Nat.le_trans Z2 Kq3.1
  have K3 := K2.trans Kq3 (allS (P := fun x => x ∈ ([a1] : List Addr) ∨ h0.size ≤ x) (Or.inr sz_b2) all0)
  have c4 := ((E1.ext E2).keep Kq3)
  have c5 := ((F0.ext E2).keep Kq3 (ninS ne_a1_b2 nin0))
  obtain ⟨T6, h6, X6, e6, W6, st6⟩ := putF X3 hx hZ hown (host := "") (Or.inl (own_w33 hw)) Via.refl rfl c5 c4 (Or.inr ⟨(own_w34 hw), rfl, hnm⟩) (own_w3 hw) (ty := (.object "java/util/BitSet")) (by decide) rfl rfl (g := (mkF m 12 #[.val (.ref a1), .val (.long q1), .second] [(.ref b2), (.ref a1)])) rfl rfl (hb hby own_d1_12)
  have Z6 : n0 ≤ h6.size := Nat.le_trans Z3 (Nat.le_of_eq W6.size.symm)
  have K6 := K3.wr W6 (Or.inl (List.mem_of_getElem? (i := 0) rfl))
  have N6 := Fr.snoc X6 N3 g1
  have Fw6 := c5.same W6
  obtain ⟨T7, h7, X7, e7, E7, A7, D7, -, st7⟩ := newO X6 hx hZ hown (own_w11 hw) (own_w12 hw) (own_w13 hw) e6 (g := (mkF m 16 #[.val (.ref a1), .val (.long q1), .second] [(.ref a1)])) rfl (hb hby own_d1_16) (by decide) (by decide)
  obtain ⟨b7, g7⟩ : ∃ z, z = h6.size := ⟨_, rfl⟩
  rw [← g7] at A7 D7 st7
  have c8 := (c4.wr W6)
  have ne_a1_b7 : a1 ≠ b7 := Nat.ne_of_lt (Nat.lt_of_lt_of_le c8.lt (Nat.le_of_eq g7.symm))
  have c9 := ((A2.keep Kq3).wr W6)
  have ne_b2_b7 : b2 ≠ b7 := Nat.ne_of_lt (Nat.lt_of_lt_of_le c9.lt (Nat.le_of_eq g7.symm))
  have g_b7 : n0 ≤ b7 := Nat.le_trans Z6 (Nat.le_of_eq g7.symm)
  have sz_b7 : h0.size ≤ b7 := Nat.le_trans K6.1 (Nat.le_of_eq g7.symm)
  have Z7 : n0 ≤ h7.size := Nat.le_trans Z6 E7.1
  have K7 := K6.ext E7
  have F7_19 : Fld Z h7 b7 "java/util/BitSet" "wordsInUse" "I" (.int (0 : Int32)) := D7 (Or.inl (own_w19 hw)) (ty := .int) (by decide)
  have F7_21 : Fld Z h7 b7 "java/util/BitSet" "sizeIsSticky" "Z" (.int (0 : Int32)) := D7 (Or.inl (own_w21 hw)) (ty := .boolean) (by decide)
  have F7_32 : Fld Z h7 b7 "java/util/BitSet" "words" "[J" .null := D7 (Or.inl (own_w32 hw)) (ty := (.array .long)) (by decide)
  obtain ⟨_, _, ⟨T10, L10, k10, n10⟩, -, X10, ⟨Lc10, hQ10, l10, y10, z10⟩, st10⟩ := X7.specialBack hx (y := own_m2) rfl hown (mvT hZ (own_w14 hw)) (mvT hZ (own_w15 hw)) (mvT hZ (own_w16 hw)) (by decide) (backOf (W := 2) (own_bs l Z a0 hw [] b7 h7 n0 Z7 g_b7 A7 F7_19 F7_21 F7_32) hZ (own_w16 hw) (own_w13 hw) (by decide) (by decide)) (g := (mkF m 20 #[.val (.ref a1), .val (.long q1), .second] [(.ref b7), (.ref b7), (.ref a1)])) rfl (by rw [hml]; rfl) (Steps.refl _) (a := b7) (argsL := []) (rest := [(.ref b7), (.ref a1)]) (lenOf own_pd2 rfl) rfl (by show 2 * 0 + _ ≤ _; exact Nat.le_of_eq rfl) (hb hby own_d1_20) (fun _ _ => ⟨rfl, e7, (by decide : 3 + 1 ≤ _), (by decide : 7 + 1 ≤ _)⟩)
  dsimp only [Pt.U, Pt.locs, Pt.cells, Pt.slots] at X10 l10 y10 z10 st10 hQ10
  subst l10 y10 z10
  obtain ⟨rfl, N10q, Kq10⟩ := hQ10
  have N10 := Fr.app N6 N10q
  have Z10 : n0 ≤ T10.heap.size := Nat.le_trans Z7 Kq10.1
  have K10 := K7.trans Kq10 (allS (P := fun x => x ∈ ([a1] : List Addr) ∨ h0.size ≤ x) (Or.inr sz_b7) all0)
  have c11 := ((c8.ext E7).keep Kq10)
  have c12 := (((((F1.ext E2).keep Kq3 (ninS ne_a1_b2 nin0)).other W6 (Or.inr (slot_ne (Or.inr (own_w36 hw)) (Or.inr (own_w34 hw)) (by decide) (t := (.object "java/util/BitSet")) (t' := (.object "java/util/BitSet")) (by decide) (by decide)))).ext E7).keep Kq10 (ninS ne_a1_b7 nin0))
  obtain ⟨T13, h13, X13, e13, W13, st13⟩ := putF X10 hx hZ hown (host := "") (Or.inl (own_w35 hw)) Via.refl rfl c12 c11 (Or.inr ⟨(own_w36 hw), rfl, hnm⟩) (own_w3 hw) (ty := (.object "java/util/BitSet")) (by decide) rfl rfl (g := (mkF m 23 #[.val (.ref a1), .val (.long q1), .second] [(.ref b7), (.ref a1)])) rfl rfl (hb hby own_d1_23)
  have Z13 : n0 ≤ h13.size := Nat.le_trans Z10 (Nat.le_of_eq W13.size.symm)
  have K13 := K10.wr W13 (Or.inl (List.mem_of_getElem? (i := 0) rfl))
  have N13 := Fr.snoc X13 N10 g1
  have Fw13 := c12.same W13
  obtain ⟨T14, h14, X14, e14, E14, A14, D14, -, st14⟩ := newO X13 hx hZ hown (own_w11 hw) (own_w12 hw) (own_w13 hw) e13 (g := (mkF m 27 #[.val (.ref a1), .val (.long q1), .second] [(.ref a1)])) rfl (hb hby own_d1_27) (by decide) (by decide)
  obtain ⟨b14, g14⟩ : ∃ z, z = h13.size := ⟨_, rfl⟩
  rw [← g14] at A14 D14 st14
  have c15 := (c11.wr W13)
  have ne_a1_b14 : a1 ≠ b14 := Nat.ne_of_lt (Nat.lt_of_lt_of_le c15.lt (Nat.le_of_eq g14.symm))
  have c16 := (((c9.ext E7).keep Kq10).wr W13)
  have ne_b2_b14 : b2 ≠ b14 := Nat.ne_of_lt (Nat.lt_of_lt_of_le c16.lt (Nat.le_of_eq g14.symm))
  have c17 := ((A7.keep Kq10).wr W13)
  have ne_b7_b14 : b7 ≠ b14 := Nat.ne_of_lt (Nat.lt_of_lt_of_le c17.lt (Nat.le_of_eq g14.symm))
  have g_b14 : n0 ≤ b14 := Nat.le_trans Z13 (Nat.le_of_eq g14.symm)
  have sz_b14 : h0.size ≤ b14 := Nat.le_trans K13.1 (Nat.le_of_eq g14.symm)
  have Z14 : n0 ≤ h14.size := Nat.le_trans Z13 E14.1
  have K14 := K13.ext E14
  have F14_19 : Fld Z h14 b14 "java/util/BitSet" "wordsInUse" "I" (.int (0 : Int32)) := D14 (Or.inl (own_w19 hw)) (ty := .int) (by decide)
  have F14_21 : Fld Z h14 b14 "java/util/BitSet" "sizeIsSticky" "Z" (.int (0 : Int32)) := D14 (Or.inl (own_w21 hw)) (ty := .boolean) (by decide)
  have F14_32 : Fld Z h14 b14 "java/util/BitSet" "words" "[J" .null := D14 (Or.inl (own_w32 hw)) (ty := (.array .long)) (by decide)
  obtain ⟨_, _, ⟨T18, L18, k18, n18⟩, -, X18, ⟨Lc18, hQ18, l18, y18, z18⟩, st18⟩ := X14.specialBack hx (y := own_m2) rfl hown (mvT hZ (own_w14 hw)) (mvT hZ (own_w15 hw)) (mvT hZ (own_w16 hw)) (by decide) (backOf (W := 2) (own_bs l Z a0 hw [] b14 h14 n0 Z14 g_b14 A14 F14_19 F14_21 F14_32) hZ (own_w16 hw) (own_w13 hw) (by decide) (by decide)) (g := (mkF m 31 #[.val (.ref a1), .val (.long q1), .second] [(.ref b14), (.ref b14), (.ref a1)])) rfl (by rw [hml]; rfl) (Steps.refl _) (a := b14) (argsL := []) (rest := [(.ref b14), (.ref a1)]) (lenOf own_pd2 rfl) rfl (by show 2 * 0 + _ ≤ _; exact Nat.le_of_eq rfl) (hb hby own_d1_31) (fun _ _ => ⟨rfl, e14, (by decide : 5 + 1 ≤ _), (by decide : 11 + 1 ≤ _)⟩)
  dsimp only [Pt.U, Pt.locs, Pt.cells, Pt.slots] at X18 l18 y18 z18 st18 hQ18
  subst l18 y18 z18
  obtain ⟨rfl, N18q, Kq18⟩ := hQ18
  have N18 := Fr.app N13 N18q
  have Z18 : n0 ≤ T18.heap.size := Nat.le_trans Z14 Kq18.1
  have K18 := K14.trans Kq18 (allS (P := fun x => x ∈ ([a1] : List Addr) ∨ h0.size ≤ x) (Or.inr sz_b14) all0)
  have c19 := ((c15.ext E14).keep Kq18)
  have c20 := ((((((((F2.ext E2).keep Kq3 (ninS ne_a1_b2 nin0)).other W6 (Or.inr (slot_ne (Or.inr (own_w38 hw)) (Or.inr (own_w34 hw)) (by decide) (t := (.object "java/util/BitSet")) (t' := (.object "java/util/BitSet")) (by decide) (by decide)))).ext E7).keep Kq10 (ninS ne_a1_b7 nin0)).other W13 (Or.inr (slot_ne (Or.inr (own_w38 hw)) (Or.inr (own_w36 hw)) (by decide) (t := (.object "java/util/BitSet")) (t' := (.object "java/util/BitSet")) (by decide) (by decide)))).ext E14).keep Kq18 (ninS ne_a1_b14 nin0))
  obtain ⟨T21, h21, X21, e21, W21, st21⟩ := putF X18 hx hZ hown (host := "") (Or.inl (own_w37 hw)) Via.refl rfl c20 c19 (Or.inr ⟨(own_w38 hw), rfl, hnm⟩) (own_w3 hw) (ty := (.object "java/util/BitSet")) (by decide) rfl rfl (g := (mkF m 34 #[.val (.ref a1), .val (.long q1), .second] [(.ref b14), (.ref a1)])) rfl rfl (hb hby own_d1_34)
  have Z21 : n0 ≤ h21.size := Nat.le_trans Z18 (Nat.le_of_eq W21.size.symm)
  have K21 := K18.wr W21 (Or.inl (List.mem_of_getElem? (i := 0) rfl))
  have N21 := Fr.snoc X21 N18 g1
  have Fw21 := c20.same W21
  obtain ⟨T22, h22, X22, e22, E22, A22, D22, -, st22⟩ := newO X21 hx hZ hown (own_w11 hw) (own_w12 hw) (own_w13 hw) e21 (g := (mkF m 38 #[.val (.ref a1), .val (.long q1), .second] [(.ref a1)])) rfl (hb hby own_d1_38) (by decide) (by decide)
  obtain ⟨b22, g22⟩ : ∃ z, z = h21.size := ⟨_, rfl⟩
  rw [← g22] at A22 D22 st22
  have c23 := (c19.wr W21)
  have ne_a1_b22 : a1 ≠ b22 := Nat.ne_of_lt (Nat.lt_of_lt_of_le c23.lt (Nat.le_of_eq g22.symm))
  have c24 := (((c16.ext E14).keep Kq18).wr W21)
  have ne_b2_b22 : b2 ≠ b22 := Nat.ne_of_lt (Nat.lt_of_lt_of_le c24.lt (Nat.le_of_eq g22.symm))
  have c25 := (((c17.ext E14).keep Kq18).wr W21)
  have ne_b7_b22 : b7 ≠ b22 := Nat.ne_of_lt (Nat.lt_of_lt_of_le c25.lt (Nat.le_of_eq g22.symm))
  have c26 := ((A14.keep Kq18).wr W21)
  have ne_b14_b22 : b14 ≠ b22 := Nat.ne_of_lt (Nat.lt_of_lt_of_le c26.lt (Nat.le_of_eq g22.symm))
  have g_b22 : n0 ≤ b22 := Nat.le_trans Z21 (Nat.le_of_eq g22.symm)
  have sz_b22 : h0.size ≤ b22 := Nat.le_trans K21.1 (Nat.le_of_eq g22.symm)
  have Z22 : n0 ≤ h22.size := Nat.le_trans Z21 E22.1
  have K22 := K21.ext E22
  have F22_19 : Fld Z h22 b22 "java/util/BitSet" "wordsInUse" "I" (.int (0 : Int32)) := D22 (Or.inl (own_w19 hw)) (ty := .int) (by decide)
  have F22_21 : Fld Z h22 b22 "java/util/BitSet" "sizeIsSticky" "Z" (.int (0 : Int32)) := D22 (Or.inl (own_w21 hw)) (ty := .boolean) (by decide)
  have F22_32 : Fld Z h22 b22 "java/util/BitSet" "words" "[J" .null := D22 (Or.inl (own_w32 hw)) (ty := (.array .long)) (by decide)
  obtain ⟨_, _, ⟨T27, L27, k27, n27⟩, -, X27, ⟨Lc27, hQ27, l27, y27, z27⟩, st27⟩ := X22.specialBack hx (y := own_m2) rfl hown (mvT hZ (own_w14 hw)) (mvT hZ (own_w15 hw)) (mvT hZ (own_w16 hw)) (by decide) (backOf (W := 2) (own_bs l Z a0 hw [] b22 h22 n0 Z22 g_b22 A22 F22_19 F22_21 F22_32) hZ (own_w16 hw) (own_w13 hw) (by decide) (by decide)) (g := (mkF m 42 #[.val (.ref a1), .val (.long q1), .second] [(.ref b22), (.ref b22), (.ref a1)])) rfl (by rw [hml]; rfl) (Steps.refl _) (a := b22) (argsL := []) (rest := [(.ref b22), (.ref a1)]) (lenOf own_pd2 rfl) rfl (by show 2 * 0 + _ ≤ _; exact Nat.le_of_eq rfl) (hb hby own_d1_42) (fun _ _ => ⟨rfl, e22, (by decide : 7 + 1 ≤ _), (by decide : 15 + 1 ≤ _)⟩)
  dsimp only [Pt.U, Pt.locs, Pt.cells, Pt.slots] at X27 l27 y27 z27 st27 hQ27
  subst l27 y27 z27
  obtain ⟨rfl, N27q, Kq27⟩ := hQ27
  have N27 := Fr.app N21 N27q
  have Z27 : n0 ≤ T27.heap.size := Nat.le_trans Z22 Kq27.1
  have K27 := K22.trans Kq27 (allS (P := fun x => x ∈ ([a1] : List Addr) ∨ h0.size ≤ x) (Or.inr sz_b22) all0)
  have c28 := ((c23.ext E22).keep Kq27)
  have c29 := (((((((((((F3.ext E2).keep Kq3 (ninS ne_a1_b2 nin0)).other W6 (Or.inr (slot_ne (Or.inr (own_w40 hw)) (Or.inr (own_w34 hw)) (by decide) (t := (.object "java/util/BitSet")) (t' := (.object "java/util/BitSet")) (by decide) (by decide)))).ext E7).keep Kq10 (ninS ne_a1_b7 nin0)).other W13 (Or.inr (slot_ne (Or.inr (own_w40 hw)) (Or.inr (own_w36 hw)) (by decide) (t := (.object "java/util/BitSet")) (t' := (.object "java/util/BitSet")) (by decide) (by decide)))).ext E14).keep Kq18 (ninS ne_a1_b14 nin0)).other W21 (Or.inr (slot_ne (Or.inr (own_w40 hw)) (Or.inr (own_w38 hw)) (by decide) (t := (.object "java/util/BitSet")) (t' := (.object "java/util/BitSet")) (by decide) (by decide)))).ext E22).keep Kq27 (ninS ne_a1_b22 nin0))
  obtain ⟨T30, h30, X30, e30, W30, st30⟩ := putF X27 hx hZ hown (host := "") (Or.inl (own_w39 hw)) Via.refl rfl c29 c28 (Or.inr ⟨(own_w40 hw), rfl, hnm⟩) (own_w3 hw) (ty := (.object "java/util/BitSet")) (by decide) rfl rfl (g := (mkF m 45 #[.val (.ref a1), .val (.long q1), .second] [(.ref b22), (.ref a1)])) rfl rfl (hb hby own_d1_45)
  have Z30 : n0 ≤ h30.size := Nat.le_trans Z27 (Nat.le_of_eq W30.size.symm)
  have K30 := K27.wr W30 (Or.inl (List.mem_of_getElem? (i := 0) rfl))
  have N30 := Fr.snoc X30 N27 g1
  have Fw30 := c29.same W30
  obtain ⟨T31, h31, X31, e31, E31, A31, D31, -, st31⟩ := newO X30 hx hZ hown (own_w11 hw) (own_w12 hw) (own_w13 hw) e30 (g := (mkF m 49 #[.val (.ref a1), .val (.long q1), .second] [(.ref a1)])) rfl (hb hby own_d1_49) (by decide) (by decide)
  obtain ⟨b31, g31⟩ : ∃ z, z = h30.size := ⟨_, rfl⟩
  rw [← g31] at A31 D31 st31
  have c32 := (c28.wr W30)
  have ne_a1_b31 : a1 ≠ b31 := Nat.ne_of_lt (Nat.lt_of_lt_of_le c32.lt (Nat.le_of_eq g31.symm))
  have c33 := (((c24.ext E22).keep Kq27).wr W30)
  have ne_b2_b31 : b2 ≠ b31 := Nat.ne_of_lt (Nat.lt_of_lt_of_le c33.lt (Nat.le_of_eq g31.symm))
  have c34 := (((c25.ext E22).keep Kq27).wr W30)
  have ne_b7_b31 : b7 ≠ b31 := Nat.ne_of_lt (Nat.lt_of_lt_of_le c34.lt (Nat.le_of_eq g31.symm))
  have c35 := (((c26.ext E22).keep Kq27).wr W30)
  have ne_b14_b31 : b14 ≠ b31 := Nat.ne_of_lt (Nat.lt_of_lt_of_le c35.lt (Nat.le_of_eq g31.symm))
  have c36 := ((A22.keep Kq27).wr W30)
  have ne_b22_b31 : b22 ≠ b31 := Nat.ne_of_lt (Nat.lt_of_lt_of_le c36.lt (Nat.le_of_eq g31.symm))
  have g_b31 : n0 ≤ b31 := Nat.le_trans Z30 (Nat.le_of_eq g31.symm)
  have sz_b31 : h0.size ≤ b31 := Nat.le_trans K30.1 (Nat.le_of_eq g31.symm)
  have Z31 : n0 ≤ h31.size := Nat.le_trans Z30 E31.1
  have K31 := K30.ext E31
  have F31_19 : Fld Z h31 b31 "java/util/BitSet" "wordsInUse" "I" (.int (0 : Int32)) := D31 (Or.inl (own_w19 hw)) (ty := .int) (by decide)
  have F31_21 : Fld Z h31 b31 "java/util/BitSet" "sizeIsSticky" "Z" (.int (0 : Int32)) := D31 (Or.inl (own_w21 hw)) (ty := .boolean) (by decide)
  have F31_32 : Fld Z h31 b31 "java/util/BitSet" "words" "[J" .null := D31 (Or.inl (own_w32 hw)) (ty := (.array .long)) (by decide)
  obtain ⟨_, _, ⟨T37, L37, k37, n37⟩, -, X37, ⟨Lc37, hQ37, l37, y37, z37⟩, st37⟩ := X31.specialBack hx (y := own_m2) rfl hown (mvT hZ (own_w14 hw)) (mvT hZ (own_w15 hw)) (mvT hZ (own_w16 hw)) (by decide) (backOf (W := 2) (own_bs l Z a0 hw [] b31 h31 n0 Z31 g_b31 A31 F31_19 F31_21 F31_32) hZ (own_w16 hw) (own_w13 hw) (by decide) (by decide)) (g := (mkF m 53 #[.val (.ref a1), .val (.long q1), .second] [(.ref b31), (.ref b31), (.ref a1)])) rfl (by rw [hml]; rfl) (Steps.refl _) (a := b31) (argsL := []) (rest := [(.ref b31), (.ref a1)]) (lenOf own_pd2 rfl) rfl (by show 2 * 0 + _ ≤ _; exact Nat.le_of_eq rfl) (hb hby own_d1_53) (fun _ _ => ⟨rfl, e31, (by decide : 9 + 1 ≤ _), (by decide : 19 + 1 ≤ _)⟩)
  dsimp only [Pt.U, Pt.locs, Pt.cells, Pt.slots] at X37 l37 y37 z37 st37 hQ37
  subst l37 y37 z37
  obtain ⟨rfl, N37q, Kq37⟩ := hQ37
  have N37 := Fr.app N30 N37q
  have Z37 : n0 ≤ T37.heap.size := Nat.le_trans Z31 Kq37.1
  have K37 := K31.trans Kq37 (allS (P := fun x => x ∈ ([a1] : List Addr) ∨ h0.size ≤ x) (Or.inr sz_b31) all0)
  have c38 := ((c32.ext E31).keep Kq37)
  have c39 := ((((((((((((((F4.ext E2).keep Kq3 (ninS ne_a1_b2 nin0)).other W6 (Or.inr (slot_ne (Or.inr (own_w42 hw)) (Or.inr (own_w34 hw)) (by decide) (t := (.object "java/util/BitSet")) (t' := (.object "java/util/BitSet")) (by decide) (by decide)))).ext E7).keep Kq10 (ninS ne_a1_b7 nin0)).other W13 (Or.inr (slot_ne (Or.inr (own_w42 hw)) (Or.inr (own_w36 hw)) (by decide) (t := (.object "java/util/BitSet")) (t' := (.object "java/util/BitSet")) (by decide) (by decide)))).ext E14).keep Kq18 (ninS ne_a1_b14 nin0)).other W21 (Or.inr (slot_ne (Or.inr (own_w42 hw)) (Or.inr (own_w38 hw)) (by decide) (t := (.object "java/util/BitSet")) (t' := (.object "java/util/BitSet")) (by decide) (by decide)))).ext E22).keep Kq27 (ninS ne_a1_b22 nin0)).other W30 (Or.inr (slot_ne (Or.inr (own_w42 hw)) (Or.inr (own_w40 hw)) (by decide) (t := (.object "java/util/BitSet")) (t' := (.object "java/util/BitSet")) (by decide) (by decide)))).ext E31).keep Kq37 (ninS ne_a1_b31 nin0))
  obtain ⟨T40, h40, X40, e40, W40, st40⟩ := putF X37 hx hZ hown (host := "") (Or.inl (own_w41 hw)) Via.refl rfl c39 c38 (Or.inr ⟨(own_w42 hw), rfl, hnm⟩) (own_w3 hw) (ty := (.object "java/util/BitSet")) (by decide) rfl rfl (g := (mkF m 56 #[.val (.ref a1), .val (.long q1), .second] [(.ref b31), (.ref a1)])) rfl rfl (hb hby own_d1_56)
  have Z40 : n0 ≤ h40.size := Nat.le_trans Z37 (Nat.le_of_eq W40.size.symm)
  have K40 := K37.wr W40 (Or.inl (List.mem_of_getElem? (i := 0) rfl))
  have N40 := Fr.snoc X40 N37 g1
  have Fw40 := c39.same W40
  obtain ⟨T41, h41, X41, e41, E41, A41, D41, -, st41⟩ := newO X40 hx hZ hown (own_w11 hw) (own_w12 hw) (own_w13 hw) e40 (g := (mkF m 60 #[.val (.ref a1), .val (.long q1), .second] [(.ref a1)])) rfl (hb hby own_d1_60) (by decide) (by decide)
  obtain ⟨b41, g41⟩ : ∃ z, z = h40.size := ⟨_, rfl⟩
  rw [← g41] at A41 D41 st41
  have c42 := (c38.wr W40)
  have ne_a1_b41 : a1 ≠ b41 := Nat.ne_of_lt (Nat.lt_of_lt_of_le c42.lt (Nat.le_of_eq g41.symm))
  have c43 := (((c33.ext E31).keep Kq37).wr W40)
  have ne_b2_b41 : b2 ≠ b41 := Nat.ne_of_lt (Nat.lt_of_lt_of_le c43.lt (Nat.le_of_eq g41.symm))
  have c44 := (((c34.ext E31).keep Kq37).wr W40)
  have ne_b7_b41 : b7 ≠ b41 := Nat.ne_of_lt (Nat.lt_of_lt_of_le c44.lt (Nat.le_of_eq g41.symm))
  have c45 := (((c35.ext E31).keep Kq37).wr W40)
  have ne_b14_b41 : b14 ≠ b41 := Nat.ne_of_lt (Nat.lt_of_lt_of_le c45.lt (Nat.le_of_eq g41.symm))
  have c46 := (((c36.ext E31).keep Kq37).wr W40)
  have ne_b22_b41 : b22 ≠ b41 := Nat.ne_of_lt (Nat.lt_of_lt_of_le c46.lt (Nat.le_of_eq g41.symm))
  have c47 := ((A31.keep Kq37).wr W40)
  have ne_b31_b41 : b31 ≠ b41 := Nat.ne_of_lt (Nat.lt_of_lt_of_le c47.lt (Nat.le_of_eq g41.symm))
  have g_b41 : n0 ≤ b41 := Nat.le_trans Z40 (Nat.le_of_eq g41.symm)
  have sz_b41 : h0.size ≤ b41 := Nat.le_trans K40.1 (Nat.le_of_eq g41.symm)
  have Z41 : n0 ≤ h41.size := Nat.le_trans Z40 E41.1
  have K41 := K40.ext E41
  have F41_19 : Fld Z h41 b41 "java/util/BitSet" "wordsInUse" "I" (.int (0 : Int32)) := D41 (Or.inl (own_w19 hw)) (ty := .int) (by decide)
  have F41_21 : Fld Z h41 b41 "java/util/BitSet" "sizeIsSticky" "Z" (.int (0 : Int32)) := D41 (Or.inl (own_w21 hw)) (ty := .boolean) (by decide)
  have F41_32 : Fld Z h41 b41 "java/util/BitSet" "words" "[J" .null := D41 (Or.inl (own_w32 hw)) (ty := (.array .long)) (by decide)
  obtain ⟨_, _, ⟨T48, L48, k48, n48⟩, -, X48, ⟨Lc48, hQ48, l48, y48, z48⟩, st48⟩ := X41.specialBack hx (y := own_m2) rfl hown (mvT hZ (own_w14 hw)) (mvT hZ (own_w15 hw)) (mvT hZ (own_w16 hw)) (by decide) (backOf (W := 2) (own_bs l Z a0 hw [] b41 h41 n0 Z41 g_b41 A41 F41_19 F41_21 F41_32) hZ (own_w16 hw) (own_w13 hw) (by decide) (by decide)) (g := (mkF m 64 #[.val (.ref a1), .val (.long q1), .second] [(.ref b41), (.ref b41), (.ref a1)])) rfl (by rw [hml]; rfl) (Steps.refl _) (a := b41) (argsL := []) (rest := [(.ref b41), (.ref a1)]) (lenOf own_pd2 rfl) rfl (by show 2 * 0 + _ ≤ _; exact Nat.le_of_eq rfl) (hb hby own_d1_64) (fun _ _ => ⟨rfl, e41, (by decide : 11 + 1 ≤ _), (by decide : 23 + 1 ≤ _)⟩)
  dsimp only [Pt.U, Pt.locs, Pt.cells, Pt.slots] at X48 l48 y48 z48 st48 hQ48
  subst l48 y48 z48
  obtain ⟨rfl, N48q, Kq48⟩ := hQ48
  have N48 := Fr.app N40 N48q
  have Z48 : n0 ≤ T48.heap.size := Nat.le_trans Z41 Kq48.1
  have K48 := K41.trans Kq48 (allS (P := fun x => x ∈ ([a1] : List Addr) ∨ h0.size ≤ x) (Or.inr sz_b41) all0)
  have c49 := ((c42.ext E41).keep Kq48)
  have c50 := (((((((((((((((((F5.ext E2).keep Kq3 (ninS ne_a1_b2 nin0)).other W6 (Or.inr (slot_ne (Or.inr (own_w44 hw)) (Or.inr (own_w34 hw)) (by decide) (t := (.object "java/util/BitSet")) (t' := (.object "java/util/BitSet")) (by decide) (by decide)))).ext E7).keep Kq10 (ninS ne_a1_b7 nin0)).other W13 (Or.inr (slot_ne (Or.inr (own_w44 hw)) (Or.inr (own_w36 hw)) (by decide) (t := (.object "java/util/BitSet")) (t' := (.object "java/util/BitSet")) (by decide) (by decide)))).ext E14).keep Kq18 (ninS ne_a1_b14 nin0)).other W21 (Or.inr (slot_ne (Or.inr (own_w44 hw)) (Or.inr (own_w38 hw)) (by decide) (t := (.object "java/util/BitSet")) (t' := (.object "java/util/BitSet")) (by decide) (by decide)))).ext E22).keep Kq27 (ninS ne_a1_b22 nin0)).other W30 (Or.inr (slot_ne (Or.inr (own_w44 hw)) (Or.inr (own_w40 hw)) (by decide) (t := (.object "java/util/BitSet")) (t' := (.object "java/util/BitSet")) (by decide) (by decide)))).ext E31).keep Kq37 (ninS ne_a1_b31 nin0)).other W40 (Or.inr (slot_ne (Or.inr (own_w44 hw)) (Or.inr (own_w42 hw)) (by decide) (t := (.object "java/util/BitSet")) (t' := (.object "java/util/BitSet")) (by decide) (by decide)))).ext E41).keep Kq48 (ninS ne_a1_b41 nin0))
  obtain ⟨T51, h51, X51, e51, W51, st51⟩ := putF X48 hx hZ hown (host := "") (Or.inl (own_w43 hw)) Via.refl rfl c50 c49 (Or.inr ⟨(own_w44 hw), rfl, hnm⟩) (own_w3 hw) (ty := (.object "java/util/BitSet")) (by decide) rfl rfl (g := (mkF m 67 #[.val (.ref a1), .val (.long q1), .second] [(.ref b41), (.ref a1)])) rfl rfl (hb hby own_d1_67)
  have Z51 : n0 ≤ h51.size := Nat.le_trans Z48 (Nat.le_of_eq W51.size.symm)
  have K51 := K48.wr W51 (Or.inl (List.mem_of_getElem? (i := 0) rfl))
  have N51 := Fr.snoc X51 N48 g1
  have Fw51 := c50.same W51
  obtain ⟨T52, h52, X52, e52, E52, A52, D52, -, st52⟩ := newO X51 hx hZ hown (own_w11 hw) (own_w12 hw) (own_w13 hw) e51 (g := (mkF m 71 #[.val (.ref a1), .val (.long q1), .second] [(.ref a1)])) rfl (hb hby own_d1_71) (by decide) (by decide)
  obtain ⟨b52, g52⟩ : ∃ z, z = h51.size := ⟨_, rfl⟩
  rw [← g52] at A52 D52 st52
  have c53 := (c49.wr W51)
  have ne_a1_b52 : a1 ≠ b52 := Nat.ne_of_lt (Nat.lt_of_lt_of_le c53.lt (Nat.le_of_eq g52.symm))
  have c54 := (((c43.ext E41).keep Kq48).wr W51)
  have ne_b2_b52 : b2 ≠ b52 := Nat.ne_of_lt (Nat.lt_of_lt_of_le c54.lt (Nat.le_of_eq g52.symm))
  have c55 := (((c44.ext E41).keep Kq48).wr W51)
  have ne_b7_b52 : b7 ≠ b52 := Nat.ne_of_lt (Nat.lt_of_lt_of_le c55.lt (Nat.le_of_eq g52.symm))
  have c56 := (((c45.ext E41).keep Kq48).wr W51)
  have ne_b14_b52 : b14 ≠ b52 := Nat.ne_of_lt (Nat.lt_of_lt_of_le c56.lt (Nat.le_of_eq g52.symm))
  have c57 := (((c46.ext E41).keep Kq48).wr W51)
  have ne_b22_b52 : b22 ≠ b52 := Nat.ne_of_lt (Nat.lt_of_lt_of_le c57.lt (Nat.le_of_eq g52.symm))
  have c58 := (((c47.ext E41).keep Kq48).wr W51)
  have ne_b31_b52 : b31 ≠ b52 := Nat.ne_of_lt (Nat.lt_of_lt_of_le c58.lt (Nat.le_of_eq g52.symm))
  have c59 := ((A41.keep Kq48).wr W51)
  have ne_b41_b52 : b41 ≠ b52 := Nat.ne_of_lt (Nat.lt_of_lt_of_le c59.lt (Nat.le_of_eq g52.symm))
  have g_b52 : n0 ≤ b52 := Nat.le_trans Z51 (Nat.le_of_eq g52.symm)
  have sz_b52 : h0.size ≤ b52 := Nat.le_trans K51.1 (Nat.le_of_eq g52.symm)
  have Z52 : n0 ≤ h52.size := Nat.le_trans Z51 E52.1
  have K52 := K51.ext E52
  have F52_19 : Fld Z h52 b52 "java/util/BitSet" "wordsInUse" "I" (.int (0 : Int32)) := D52 (Or.inl (own_w19 hw)) (ty := .int) (by decide)
  have F52_21 : Fld Z h52 b52 "java/util/BitSet" "sizeIsSticky" "Z" (.int (0 : Int32)) := D52 (Or.inl (own_w21 hw)) (ty := .boolean) (by decide)
  have F52_32 : Fld Z h52 b52 "java/util/BitSet" "words" "[J" .null := D52 (Or.inl (own_w32 hw)) (ty := (.array .long)) (by decide)
  obtain ⟨_, _, ⟨T60, L60, k60, n60⟩, -, X60, ⟨Lc60, hQ60, l60, y60, z60⟩, st60⟩ := X52.specialBack hx (y := own_m2) rfl hown (mvT hZ (own_w14 hw)) (mvT hZ (own_w15 hw)) (mvT hZ (own_w16 hw)) (by decide) (backOf (W := 2) (own_bs l Z a0 hw [] b52 h52 n0 Z52 g_b52 A52 F52_19 F52_21 F52_32) hZ (own_w16 hw) (own_w13 hw) (by decide) (by decide)) (g := (mkF m 75 #[.val (.ref a1), .val (.long q1), .second] [(.ref b52), (.ref b52), (.ref a1)])) rfl (by rw [hml]; rfl) (Steps.refl _) (a := b52) (argsL := []) (rest := [(.ref b52), (.ref a1)]) (lenOf own_pd2 rfl) rfl (by show 2 * 0 + _ ≤ _; exact Nat.le_of_eq rfl) (hb hby own_d1_75) (fun _ _ => ⟨rfl, e52, (by decide : 13 + 1 ≤ _), (by decide : 27 + 1 ≤ _)⟩)
  dsimp only [Pt.U, Pt.locs, Pt.cells, Pt.slots] at X60 l60 y60 z60 st60 hQ60
  subst l60 y60 z60
  obtain ⟨rfl, N60q, Kq60⟩ := hQ60
  have N60 := Fr.app N51 N60q
  have Z60 : n0 ≤ T60.heap.size := Nat.le_trans Z52 Kq60.1
  have K60 := K52.trans Kq60 (allS (P := fun x => x ∈ ([a1] : List Addr) ∨ h0.size ≤ x) (Or.inr sz_b52) all0)
  have c61 := ((c53.ext E52).keep Kq60)
  have c62 := ((((((((((((((((((((F6.ext E2).keep Kq3 (ninS ne_a1_b2 nin0)).other W6 (Or.inr (slot_ne (Or.inr (own_w46 hw)) (Or.inr (own_w34 hw)) (by decide) (t := (.object "java/util/BitSet")) (t' := (.object "java/util/BitSet")) (by decide) (by decide)))).ext E7).keep Kq10 (ninS ne_a1_b7 nin0)).other W13 (Or.inr (slot_ne (Or.inr (own_w46 hw)) (Or.inr (own_w36 hw)) (by decide) (t := (.object "java/util/BitSet")) (t' := (.object "java/util/BitSet")) (by decide) (by decide)))).ext E14).keep Kq18 (ninS ne_a1_b14 nin0)).other W21 (Or.inr (slot_ne (Or.inr (own_w46 hw)) (Or.inr (own_w38 hw)) (by decide) (t := (.object "java/util/BitSet")) (t' := (.object "java/util/BitSet")) (by decide) (by decide)))).ext E22).keep Kq27 (ninS ne_a1_b22 nin0)).other W30 (Or.inr (slot_ne (Or.inr (own_w46 hw)) (Or.inr (own_w40 hw)) (by decide) (t := (.object "java/util/BitSet")) (t' := (.object "java/util/BitSet")) (by decide) (by decide)))).ext E31).keep Kq37 (ninS ne_a1_b31 nin0)).other W40 (Or.inr (slot_ne (Or.inr (own_w46 hw)) (Or.inr (own_w42 hw)) (by decide) (t := (.object "java/util/BitSet")) (t' := (.object "java/util/BitSet")) (by decide) (by decide)))).ext E41).keep Kq48 (ninS ne_a1_b41 nin0)).other W51 (Or.inr (slot_ne (Or.inr (own_w46 hw)) (Or.inr (own_w44 hw)) (by decide) (t := (.object "java/util/BitSet")) (t' := (.object "java/util/BitSet")) (by decide) (by decide)))).ext E52).keep Kq60 (ninS ne_a1_b52 nin0))
  obtain ⟨T63, h63, X63, e63, W63, st63⟩ := putF X60 hx hZ hown (host := "") (Or.inl (own_w45 hw)) Via.refl rfl c62 c61 (Or.inr ⟨(own_w46 hw), rfl, hnm⟩) (own_w3 hw) (ty := (.object "java/util/BitSet")) (by decide) rfl rfl (g := (mkF m 78 #[.val (.ref a1), .val (.long q1), .second] [(.ref b52), (.ref a1)])) rfl rfl (hb hby own_d1_78)
  have Z63 : n0 ≤ h63.size := Nat.le_trans Z60 (Nat.le_of_eq W63.size.symm)
  have K63 := K60.wr W63 (Or.inl (List.mem_of_getElem? (i := 0) rfl))
  have N63 := Fr.snoc X63 N60 g1
  have Fw63 := c62.same W63
  obtain ⟨T64, h64, X64, e64, E64, A64, D64, -, st64⟩ := newO X63 hx hZ hown (own_w11 hw) (own_w12 hw) (own_w13 hw) e63 (g := (mkF m 82 #[.val (.ref a1), .val (.long q1), .second] [(.ref a1)])) rfl (hb hby own_d1_82) (by decide) (by decide)
  obtain ⟨b64, g64⟩ : ∃ z, z = h63.size := ⟨_, rfl⟩
  rw [← g64] at A64 D64 st64
  have c65 := (c61.wr W63)
  have ne_a1_b64 : a1 ≠ b64 := Nat.ne_of_lt (Nat.lt_of_lt_of_le c65.lt (Nat.le_of_eq g64.symm))
  have c66 := (((c54.ext E52).keep Kq60).wr W63)
  have ne_b2_b64 : b2 ≠ b64 := Nat.ne_of_lt (Nat.lt_of_lt_of_le c66.lt (Nat.le_of_eq g64.symm))
  have c67 := (((c55.ext E52).keep Kq60).wr W63)
  have ne_b7_b64 : b7 ≠ b64 := Nat.ne_of_lt (Nat.lt_of_lt_of_le c67.lt (Nat.le_of_eq g64.symm))
  have c68 := (((c56.ext E52).keep Kq60).wr W63)
  have ne_b14_b64 : b14 ≠ b64 := Nat.ne_of_lt (Nat.lt_of_lt_of_le c68.lt (Nat.le_of_eq g64.symm))
  have c69 := (((c57.ext E52).keep Kq60).wr W63)
  have ne_b22_b64 : b22 ≠ b64 := Nat.ne_of_lt (Nat.lt_of_lt_of_le c69.lt (Nat.le_of_eq g64.symm))
  have c70 := (((c58.ext E52).keep Kq60).wr W63)
  have ne_b31_b64 : b31 ≠ b64 := Nat.ne_of_lt (Nat.lt_of_lt_of_le c70.lt (Nat.le_of_eq g64.symm))
  have c71 := (((c59.ext E52).keep Kq60).wr W63)
  have ne_b41_b64 : b41 ≠ b64 := Nat.ne_of_lt (Nat.lt_of_lt_of_le c71.lt (Nat.le_of_eq g64.symm))
  have c72 := ((A52.keep Kq60).wr W63)
  have ne_b52_b64 : b52 ≠ b64 := Nat.ne_of_lt (Nat.lt_of_lt_of_le c72.lt (Nat.le_of_eq g64.symm))
  have g_b64 : n0 ≤ b64 := Nat.le_trans Z63 (Nat.le_of_eq g64.symm)
  have sz_b64 : h0.size ≤ b64 := Nat.le_trans K63.1 (Nat.le_of_eq g64.symm)
  have Z64 : n0 ≤ h64.size := Nat.le_trans Z63 E64.1
  have K64 := K63.ext E64
  have F64_19 : Fld Z h64 b64 "java/util/BitSet" "wordsInUse" "I" (.int (0 : Int32)) := D64 (Or.inl (own_w19 hw)) (ty := .int) (by decide)
  have F64_21 : Fld Z h64 b64 "java/util/BitSet" "sizeIsSticky" "Z" (.int (0 : Int32)) := D64 (Or.inl (own_w21 hw)) (ty := .boolean) (by decide)
  have F64_32 : Fld Z h64 b64 "java/util/BitSet" "words" "[J" .null := D64 (Or.inl (own_w32 hw)) (ty := (.array .long)) (by decide)
  obtain ⟨_, _, ⟨T73, L73, k73, n73⟩, -, X73, ⟨Lc73, hQ73, l73, y73, z73⟩, st73⟩ := X64.specialBack hx (y := own_m2) rfl hown (mvT hZ (own_w14 hw)) (mvT hZ (own_w15 hw)) (mvT hZ (own_w16 hw)) (by decide) (backOf (W := 2) (own_bs l Z a0 hw [] b64 h64 n0 Z64 g_b64 A64 F64_19 F64_21 F64_32) hZ (own_w16 hw) (own_w13 hw) (by decide) (by decide)) (g := (mkF m 86 #[.val (.ref a1), .val (.long q1), .second] [(.ref b64), (.ref b64), (.ref a1)])) rfl (by rw [hml]; rfl) (Steps.refl _) (a := b64) (argsL := []) (rest := [(.ref b64), (.ref a1)]) (lenOf own_pd2 rfl) rfl (by show 2 * 0 + _ ≤ _; exact Nat.le_of_eq rfl) (hb hby own_d1_86) (fun _ _ => ⟨rfl, e64, (by decide : 15 + 1 ≤ _), (by decide : 31 + 1 ≤ _)⟩)
  dsimp only [Pt.U, Pt.locs, Pt.cells, Pt.slots] at X73 l73 y73 z73 st73 hQ73
  subst l73 y73 z73
  obtain ⟨rfl, N73q, Kq73⟩ := hQ73
  have N73 := Fr.app N63 N73q
  have Z73 : n0 ≤ T73.heap.size := Nat.le_trans Z64 Kq73.1
  have K73 := K64.trans Kq73 (allS (P := fun x => x ∈ ([a1] : List Addr) ∨ h0.size ≤ x) (Or.inr sz_b64) all0)
  have c74 := ((c65.ext E64).keep Kq73)
  have c75 := (((((((((((((((((((((((F7.ext E2).keep Kq3 (ninS ne_a1_b2 nin0)).other W6 (Or.inr (slot_ne (Or.inr (own_w48 hw)) (Or.inr (own_w34 hw)) (by decide) (t := (.object "java/util/BitSet")) (t' := (.object "java/util/BitSet")) (by decide) (by decide)))).ext E7).keep Kq10 (ninS ne_a1_b7 nin0)).other W13 (Or.inr (slot_ne (Or.inr (own_w48 hw)) (Or.inr (own_w36 hw)) (by decide) (t := (.object "java/util/BitSet")) (t' := (.object "java/util/BitSet")) (by decide) (by decide)))).ext E14).keep Kq18 (ninS ne_a1_b14 nin0)).other W21 (Or.inr (slot_ne (Or.inr (own_w48 hw)) (Or.inr (own_w38 hw)) (by decide) (t := (.object "java/util/BitSet")) (t' := (.object "java/util/BitSet")) (by decide) (by decide)))).ext E22).keep Kq27 (ninS ne_a1_b22 nin0)).other W30 (Or.inr (slot_ne (Or.inr (own_w48 hw)) (Or.inr (own_w40 hw)) (by decide) (t := (.object "java/util/BitSet")) (t' := (.object "java/util/BitSet")) (by decide) (by decide)))).ext E31).keep Kq37 (ninS ne_a1_b31 nin0)).other W40 (Or.inr (slot_ne (Or.inr (own_w48 hw)) (Or.inr (own_w42 hw)) (by decide) (t := (.object "java/util/BitSet")) (t' := (.object "java/util/BitSet")) (by decide) (by decide)))).ext E41).keep Kq48 (ninS ne_a1_b41 nin0)).other W51 (Or.inr (slot_ne (Or.inr (own_w48 hw)) (Or.inr (own_w44 hw)) (by decide) (t := (.object "java/util/BitSet")) (t' := (.object "java/util/BitSet")) (by decide) (by decide)))).ext E52).keep Kq60 (ninS ne_a1_b52 nin0)).other W63 (Or.inr (slot_ne (Or.inr (own_w48 hw)) (Or.inr (own_w46 hw)) (by decide) (t := (.object "java/util/BitSet")) (t' := (.object "java/util/BitSet")) (by decide) (by decide)))).ext E64).keep Kq73 (ninS ne_a1_b64 nin0))
  obtain ⟨T76, h76, X76, e76, W76, st76⟩ := putF X73 hx hZ hown (host := "") (Or.inl (own_w47 hw)) Via.refl rfl c75 c74 (Or.inr ⟨(own_w48 hw), rfl, hnm⟩) (own_w3 hw) (ty := (.object "java/util/BitSet")) (by decide) rfl rfl (g := (mkF m 89 #[.val (.ref a1), .val (.long q1), .second] [(.ref b64), (.ref a1)])) rfl rfl (hb hby own_d1_89)
  have Z76 : n0 ≤ h76.size := Nat.le_trans Z73 (Nat.le_of_eq W76.size.symm)
  have K76 := K73.wr W76 (Or.inl (List.mem_of_getElem? (i := 0) rfl))
  have N76 := Fr.snoc X76 N73 g1
  have Fw76 := c75.same W76
  obtain ⟨T77, h77, k77, X77, e77, E77, A77, O77, st77⟩ := newR X76 hx hZ hown (own_w11 hw) (own_w49 hw) e76 (g := (mkF m 95 #[.val (.ref a1), .val (.long q1), .second] [(.int (7 : Int32)), (.ref a1)])) rfl (hb hby own_d1_95) rfl (by decide) (cap := 7) (by decide) (by decide) (by decide) (by decide)
  obtain ⟨b77, g77⟩ : ∃ z, z = h76.size := ⟨_, rfl⟩
  rw [← g77] at A77 st77
  have c78 := (c74.wr W76)
  have ne_a1_b77 : a1 ≠ b77 := Nat.ne_of_lt (Nat.lt_of_lt_of_le c78.lt (Nat.le_of_eq g77.symm))
  have c79 := (((c66.ext E64).keep Kq73).wr W76)
  have ne_b2_b77 : b2 ≠ b77 := Nat.ne_of_lt (Nat.lt_of_lt_of_le c79.lt (Nat.le_of_eq g77.symm))
  have c80 := (((c67.ext E64).keep Kq73).wr W76)
  have ne_b7_b77 : b7 ≠ b77 := Nat.ne_of_lt (Nat.lt_of_lt_of_le c80.lt (Nat.le_of_eq g77.symm))
  have c81 := (((c68.ext E64).keep Kq73).wr W76)
  have ne_b14_b77 : b14 ≠ b77 := Nat.ne_of_lt (Nat.lt_of_lt_of_le c81.lt (Nat.le_of_eq g77.symm))
  have c82 := (((c69.ext E64).keep Kq73).wr W76)
  have ne_b22_b77 : b22 ≠ b77 := Nat.ne_of_lt (Nat.lt_of_lt_of_le c82.lt (Nat.le_of_eq g77.symm))
  have c83 := (((c70.ext E64).keep Kq73).wr W76)
  have ne_b31_b77 : b31 ≠ b77 := Nat.ne_of_lt (Nat.lt_of_lt_of_le c83.lt (Nat.le_of_eq g77.symm))
  have c84 := (((c71.ext E64).keep Kq73).wr W76)
  have ne_b41_b77 : b41 ≠ b77 := Nat.ne_of_lt (Nat.lt_of_lt_of_le c84.lt (Nat.le_of_eq g77.symm))
  have c85 := (((c72.ext E64).keep Kq73).wr W76)
  have ne_b52_b77 : b52 ≠ b77 := Nat.ne_of_lt (Nat.lt_of_lt_of_le c85.lt (Nat.le_of_eq g77.symm))
  have c86 := ((A64.keep Kq73).wr W76)
  have ne_b64_b77 : b64 ≠ b77 := Nat.ne_of_lt (Nat.lt_of_lt_of_le c86.lt (Nat.le_of_eq g77.symm))
  have g_b77 : n0 ≤ b77 := Nat.le_trans Z76 (Nat.le_of_eq g77.symm)
  have sz_b77 : h0.size ≤ b77 := Nat.le_trans K76.1 (Nat.le_of_eq g77.symm)
  have Z77 : n0 ≤ h77.size := Nat.le_trans Z76 E77.1
  have K77 := K76.ext E77
  have V77 : Arv Z h77 b77 k77 (.object "java/util/BitSet") (7 : Int32) [.null, .null, .null, .null, .null, .null, .null] .null := (Arv.new A77 (by decide)).pad (pad_rep [] .null 7)
  have c87 := ((((((((((((((((((((((Fw6.ext E7).keep Kq10 (ninS ne_a1_b7 nin0)).other W13 (Or.inr (slot_ne (Or.inr (own_w34 hw)) (Or.inr (own_w36 hw)) (by decide) (t := (.object "java/util/BitSet")) (t' := (.object "java/util/BitSet")) (by decide) (by decide)))).ext E14).keep Kq18 (ninS ne_a1_b14 nin0)).other W21 (Or.inr (slot_ne (Or.inr (own_w34 hw)) (Or.inr (own_w38 hw)) (by decide) (t := (.object "java/util/BitSet")) (t' := (.object "java/util/BitSet")) (by decide) (by decide)))).ext E22).keep Kq27 (ninS ne_a1_b22 nin0)).other W30 (Or.inr (slot_ne (Or.inr (own_w34 hw)) (Or.inr (own_w40 hw)) (by decide) (t := (.object "java/util/BitSet")) (t' := (.object "java/util/BitSet")) (by decide) (by decide)))).ext E31).keep Kq37 (ninS ne_a1_b31 nin0)).other W40 (Or.inr (slot_ne (Or.inr (own_w34 hw)) (Or.inr (own_w42 hw)) (by decide) (t := (.object "java/util/BitSet")) (t' := (.object "java/util/BitSet")) (by decide) (by decide)))).ext E41).keep Kq48 (ninS ne_a1_b41 nin0)).other W51 (Or.inr (slot_ne (Or.inr (own_w34 hw)) (Or.inr (own_w44 hw)) (by decide) (t := (.object "java/util/BitSet")) (t' := (.object "java/util/BitSet")) (by decide) (by decide)))).ext E52).keep Kq60 (ninS ne_a1_b52 nin0)).other W63 (Or.inr (slot_ne (Or.inr (own_w34 hw)) (Or.inr (own_w46 hw)) (by decide) (t := (.object "java/util/BitSet")) (t' := (.object "java/util/BitSet")) (by decide) (by decide)))).ext E64).keep Kq73 (ninS ne_a1_b64 nin0)).other W76 (Or.inr (slot_ne (Or.inr (own_w34 hw)) (Or.inr (own_w48 hw)) (by decide) (t := (.object "java/util/BitSet")) (t' := (.object "java/util/BitSet")) (by decide) (by decide)))).ext E77)
  obtain ⟨T88, X88, e88, st88⟩ := getF X77 hx hZ hown (host := "") (Or.inl (own_w33 hw)) Via.refl e77 c87 (g := (mkF m 101 #[.val (.ref a1), .val (.long q1), .second] [(.ref a1), (.int (0 : Int32)), (.ref b77), (.ref b77), (.ref a1)])) rfl rfl (hb hby own_d1_101)
  obtain ⟨cl89, Ar89, Aq89, As89, An89, Ah89, Ag89⟩ := V77
  have hin89 : ¬ ((0 : Int32) < 0 ∨ cl89.slots.size ≤ ((0 : Int32)).toNatClampNeg) := inb_of As89 ⟨by decide, by decide⟩
  have c90 := (c79.ext E77)
  obtain ⟨T91, h91, X91, e91, W91, st91⟩ := stR X88 hx hZ e88 Ar89 (j := (0 : Int32)) hin89 rfl (Sto.ofV Ar89 Aq89 O77 (Ins.self c90)) (g := (mkF m 104 #[.val (.ref a1), .val (.long q1), .second] [(.ref b2), (.int (0 : Int32)), (.ref b77), (.ref b77), (.ref a1)])) rfl rfl (hb hby own_d1_104)
  have Z91 : n0 ≤ h91.size := Nat.le_trans Z77 (Nat.le_of_eq W91.size.symm)
  have K91 := K77.wr W91 (Or.inr sz_b77)
  have N91 := Fr.snoc X91 N76 g_b77
  have V91 : Arv Z h91 b77 k77 (.object "java/util/BitSet") (7 : Int32) [(.ref b2), .null, .null, .null, .null, .null, .null] .null := Arv.set Ar89 Aq89 As89 An89 Ah89 Ag89 rfl W91 0 rfl (Nat.le_of_ble_eq_true rfl)
  have c92 := ((((((((((((((((((((Fw13.ext E14).keep Kq18 (ninS ne_a1_b14 nin0)).other W21 (Or.inr (slot_ne (Or.inr (own_w36 hw)) (Or.inr (own_w38 hw)) (by decide) (t := (.object "java/util/BitSet")) (t' := (.object "java/util/BitSet")) (by decide) (by decide)))).ext E22).keep Kq27 (ninS ne_a1_b22 nin0)).other W30 (Or.inr (slot_ne (Or.inr (own_w36 hw)) (Or.inr (own_w40 hw)) (by decide) (t := (.object "java/util/BitSet")) (t' := (.object "java/util/BitSet")) (by decide) (by decide)))).ext E31).keep Kq37 (ninS ne_a1_b31 nin0)).other W40 (Or.inr (slot_ne (Or.inr (own_w36 hw)) (Or.inr (own_w42 hw)) (by decide) (t := (.object "java/util/BitSet")) (t' := (.object "java/util/BitSet")) (by decide) (by decide)))).ext E41).keep Kq48 (ninS ne_a1_b41 nin0)).other W51 (Or.inr (slot_ne (Or.inr (own_w36 hw)) (Or.inr (own_w44 hw)) (by decide) (t := (.object "java/util/BitSet")) (t' := (.object "java/util/BitSet")) (by decide) (by decide)))).ext E52).keep Kq60 (ninS ne_a1_b52 nin0)).other W63 (Or.inr (slot_ne (Or.inr (own_w36 hw)) (Or.inr (own_w46 hw)) (by decide) (t := (.object "java/util/BitSet")) (t' := (.object "java/util/BitSet")) (by decide) (by decide)))).ext E64).keep Kq73 (ninS ne_a1_b64 nin0)).other W76 (Or.inr (slot_ne (Or.inr (own_w36 hw)) (Or.inr (own_w48 hw)) (by decide) (t := (.object "java/util/BitSet")) (t' := (.object "java/util/BitSet")) (by decide) (by decide)))).ext E77).other W91 (Or.inl ne_a1_b77))
  obtain ⟨T93, X93, e93, st93⟩ := getF X91 hx hZ hown (host := "") (Or.inl (own_w35 hw)) Via.refl e91 c92 (g := (mkF m 108 #[.val (.ref a1), .val (.long q1), .second] [(.ref a1), (.int (1 : Int32)), (.ref b77), (.ref b77), (.ref a1)])) rfl rfl (hb hby own_d1_108)
  obtain ⟨cl94, Ar94, Aq94, As94, An94, Ah94, Ag94⟩ := V91
  have hin94 : ¬ ((1 : Int32) < 0 ∨ cl94.slots.size ≤ ((1 : Int32)).toNatClampNeg) := inb_of As94 ⟨by decide, by decide⟩
  have c95 := ((c80.ext E77).wr W91)
  obtain ⟨T96, h96, X96, e96, W96, st96⟩ := stR X93 hx hZ e93 Ar94 (j := (1 : Int32)) hin94 rfl (Sto.ofV Ar94 Aq94 O77 (Ins.self c95)) (g := (mkF m 111 #[.val (.ref a1), .val (.long q1), .second] [(.ref b7), (.int (1 : Int32)), (.ref b77), (.ref b77), (.ref a1)])) rfl rfl (hb hby own_d1_111)
  have Z96 : n0 ≤ h96.size := Nat.le_trans Z91 (Nat.le_of_eq W96.size.symm)
  have K96 := K91.wr W96 (Or.inr sz_b77)
  have N96 := Fr.snoc X96 N91 g_b77
  have V96 : Arv Z h96 b77 k77 (.object "java/util/BitSet") (7 : Int32) [(.ref b2), (.ref b7), .null, .null, .null, .null, .null] .null := Arv.set Ar94 Aq94 As94 An94 Ah94 Ag94 rfl W96 1 rfl (Nat.le_of_ble_eq_true rfl)
  have c97 := ((((((((((((((((((Fw21.ext E22).keep Kq27 (ninS ne_a1_b22 nin0)).other W30 (Or.inr (slot_ne (Or.inr (own_w38 hw)) (Or.inr (own_w40 hw)) (by decide) (t := (.object "java/util/BitSet")) (t' := (.object "java/util/BitSet")) (by decide) (by decide)))).ext E31).keep Kq37 (ninS ne_a1_b31 nin0)).other W40 (Or.inr (slot_ne (Or.inr (own_w38 hw)) (Or.inr (own_w42 hw)) (by decide) (t := (.object "java/util/BitSet")) (t' := (.object "java/util/BitSet")) (by decide) (by decide)))).ext E41).keep Kq48 (ninS ne_a1_b41 nin0)).other W51 (Or.inr (slot_ne (Or.inr (own_w38 hw)) (Or.inr (own_w44 hw)) (by decide) (t := (.object "java/util/BitSet")) (t' := (.object "java/util/BitSet")) (by decide) (by decide)))).ext E52).keep Kq60 (ninS ne_a1_b52 nin0)).other W63 (Or.inr (slot_ne (Or.inr (own_w38 hw)) (Or.inr (own_w46 hw)) (by decide) (t := (.object "java/util/BitSet")) (t' := (.object "java/util/BitSet")) (by decide) (by decide)))).ext E64).keep Kq73 (ninS ne_a1_b64 nin0)).other W76 (Or.inr (slot_ne (Or.inr (own_w38 hw)) (Or.inr (own_w48 hw)) (by decide) (t := (.object "java/util/BitSet")) (t' := (.object "java/util/BitSet")) (by decide) (by decide)))).ext E77).other W91 (Or.inl ne_a1_b77)).other W96 (Or.inl ne_a1_b77))
  obtain ⟨T98, X98, e98, st98⟩ := getF X96 hx hZ hown (host := "") (Or.inl (own_w37 hw)) Via.refl e96 c97 (g := (mkF m 115 #[.val (.ref a1), .val (.long q1), .second] [(.ref a1), (.int (2 : Int32)), (.ref b77), (.ref b77), (.ref a1)])) rfl rfl (hb hby own_d1_115)
  obtain ⟨cl99, Ar99, Aq99, As99, An99, Ah99, Ag99⟩ := V96
  have hin99 : ¬ ((2 : Int32) < 0 ∨ cl99.slots.size ≤ ((2 : Int32)).toNatClampNeg) := inb_of As99 ⟨by decide, by decide⟩
  have c100 := (((c81.ext E77).wr W91).wr W96)
  obtain ⟨T101, h101, X101, e101, W101, st101⟩ := stR X98 hx hZ e98 Ar99 (j := (2 : Int32)) hin99 rfl (Sto.ofV Ar99 Aq99 O77 (Ins.self c100)) (g := (mkF m 118 #[.val (.ref a1), .val (.long q1), .second] [(.ref b14), (.int (2 : Int32)), (.ref b77), (.ref b77), (.ref a1)])) rfl rfl (hb hby own_d1_118)
  have Z101 : n0 ≤ h101.size := Nat.le_trans Z96 (Nat.le_of_eq W101.size.symm)
  have K101 := K96.wr W101 (Or.inr sz_b77)
  have N101 := Fr.snoc X101 N96 g_b77
  have V101 : Arv Z h101 b77 k77 (.object "java/util/BitSet") (7 : Int32) [(.ref b2), (.ref b7), (.ref b14), .null, .null, .null, .null] .null := Arv.set Ar99 Aq99 As99 An99 Ah99 Ag99 rfl W101 2 rfl (Nat.le_of_ble_eq_true rfl)
  have c102 := (((((((((((((Fw40.ext E41).keep Kq48 (ninS ne_a1_b41 nin0)).other W51 (Or.inr (slot_ne (Or.inr (own_w42 hw)) (Or.inr (own_w44 hw)) (by decide) (t := (.object "java/util/BitSet")) (t' := (.object "java/util/BitSet")) (by decide) (by decide)))).ext E52).keep Kq60 (ninS ne_a1_b52 nin0)).other W63 (Or.inr (slot_ne (Or.inr (own_w42 hw)) (Or.inr (own_w46 hw)) (by decide) (t := (.object "java/util/BitSet")) (t' := (.object "java/util/BitSet")) (by decide) (by decide)))).ext E64).keep Kq73 (ninS ne_a1_b64 nin0)).other W76 (Or.inr (slot_ne (Or.inr (own_w42 hw)) (Or.inr (own_w48 hw)) (by decide) (t := (.object "java/util/BitSet")) (t' := (.object "java/util/BitSet")) (by decide) (by decide)))).ext E77).other W91 (Or.inl ne_a1_b77)).other W96 (Or.inl ne_a1_b77)).other W101 (Or.inl ne_a1_b77))
  obtain ⟨T103, X103, e103, st103⟩ := getF X101 hx hZ hown (host := "") (Or.inl (own_w41 hw)) Via.refl e101 c102 (g := (mkF m 122 #[.val (.ref a1), .val (.long q1), .second] [(.ref a1), (.int (3 : Int32)), (.ref b77), (.ref b77), (.ref a1)])) rfl rfl (hb hby own_d1_122)
  obtain ⟨cl104, Ar104, Aq104, As104, An104, Ah104, Ag104⟩ := V101
  have hin104 : ¬ ((3 : Int32) < 0 ∨ cl104.slots.size ≤ ((3 : Int32)).toNatClampNeg) := inb_of As104 ⟨by decide, by decide⟩
  have c105 := ((((c83.ext E77).wr W91).wr W96).wr W101)
  obtain ⟨T106, h106, X106, e106, W106, st106⟩ := stR X103 hx hZ e103 Ar104 (j := (3 : Int32)) hin104 rfl (Sto.ofV Ar104 Aq104 O77 (Ins.self c105)) (g := (mkF m 125 #[.val (.ref a1), .val (.long q1), .second] [(.ref b31), (.int (3 : Int32)), (.ref b77), (.ref b77), (.ref a1)])) rfl rfl (hb hby own_d1_125)
  have Z106 : n0 ≤ h106.size := Nat.le_trans Z101 (Nat.le_of_eq W106.size.symm)
  have K106 := K101.wr W106 (Or.inr sz_b77)
  have N106 := Fr.snoc X106 N101 g_b77
  have V106 : Arv Z h106 b77 k77 (.object "java/util/BitSet") (7 : Int32) [(.ref b2), (.ref b7), (.ref b14), (.ref b31), .null, .null, .null] .null := Arv.set Ar104 Aq104 As104 An104 Ah104 Ag104 rfl W106 3 rfl (Nat.le_of_ble_eq_true rfl)
  have c107 := (((((((((((Fw51.ext E52).keep Kq60 (ninS ne_a1_b52 nin0)).other W63 (Or.inr (slot_ne (Or.inr (own_w44 hw)) (Or.inr (own_w46 hw)) (by decide) (t := (.object "java/util/BitSet")) (t' := (.object "java/util/BitSet")) (by decide) (by decide)))).ext E64).keep Kq73 (ninS ne_a1_b64 nin0)).other W76 (Or.inr (slot_ne (Or.inr (own_w44 hw)) (Or.inr (own_w48 hw)) (by decide) (t := (.object "java/util/BitSet")) (t' := (.object "java/util/BitSet")) (by decide) (by decide)))).ext E77).other W91 (Or.inl ne_a1_b77)).other W96 (Or.inl ne_a1_b77)).other W101 (Or.inl ne_a1_b77)).other W106 (Or.inl ne_a1_b77))
  obtain ⟨T108, X108, e108, st108⟩ := getF X106 hx hZ hown (host := "") (Or.inl (own_w43 hw)) Via.refl e106 c107 (g := (mkF m 129 #[.val (.ref a1), .val (.long q1), .second] [(.ref a1), (.int (4 : Int32)), (.ref b77), (.ref b77), (.ref a1)])) rfl rfl (hb hby own_d1_129)
  obtain ⟨cl109, Ar109, Aq109, As109, An109, Ah109, Ag109⟩ := V106
  have hin109 : ¬ ((4 : Int32) < 0 ∨ cl109.slots.size ≤ ((4 : Int32)).toNatClampNeg) := inb_of As109 ⟨by decide, by decide⟩
  have c110 := (((((c84.ext E77).wr W91).wr W96).wr W101).wr W106)
  obtain ⟨T111, h111, X111, e111, W111, st111⟩ := stR X108 hx hZ e108 Ar109 (j := (4 : Int32)) hin109 rfl (Sto.ofV Ar109 Aq109 O77 (Ins.self c110)) (g := (mkF m 132 #[.val (.ref a1), .val (.long q1), .second] [(.ref b41), (.int (4 : Int32)), (.ref b77), (.ref b77), (.ref a1)])) rfl rfl (hb hby own_d1_132)
  have Z111 : n0 ≤ h111.size := Nat.le_trans Z106 (Nat.le_of_eq W111.size.symm)
  have K111 := K106.wr W111 (Or.inr sz_b77)
  have N111 := Fr.snoc X111 N106 g_b77
  have V111 : Arv Z h111 b77 k77 (.object "java/util/BitSet") (7 : Int32) [(.ref b2), (.ref b7), (.ref b14), (.ref b31), (.ref b41), .null, .null] .null := Arv.set Ar109 Aq109 As109 An109 Ah109 Ag109 rfl W111 4 rfl (Nat.le_of_ble_eq_true rfl)
  have c112 := (((((((((Fw63.ext E64).keep Kq73 (ninS ne_a1_b64 nin0)).other W76 (Or.inr (slot_ne (Or.inr (own_w46 hw)) (Or.inr (own_w48 hw)) (by decide) (t := (.object "java/util/BitSet")) (t' := (.object "java/util/BitSet")) (by decide) (by decide)))).ext E77).other W91 (Or.inl ne_a1_b77)).other W96 (Or.inl ne_a1_b77)).other W101 (Or.inl ne_a1_b77)).other W106 (Or.inl ne_a1_b77)).other W111 (Or.inl ne_a1_b77))
  obtain ⟨T113, X113, e113, st113⟩ := getF X111 hx hZ hown (host := "") (Or.inl (own_w45 hw)) Via.refl e111 c112 (g := (mkF m 136 #[.val (.ref a1), .val (.long q1), .second] [(.ref a1), (.int (5 : Int32)), (.ref b77), (.ref b77), (.ref a1)])) rfl rfl (hb hby own_d1_136)
  obtain ⟨cl114, Ar114, Aq114, As114, An114, Ah114, Ag114⟩ := V111
  have hin114 : ¬ ((5 : Int32) < 0 ∨ cl114.slots.size ≤ ((5 : Int32)).toNatClampNeg) := inb_of As114 ⟨by decide, by decide⟩
  have c115 := ((((((c85.ext E77).wr W91).wr W96).wr W101).wr W106).wr W111)
  obtain ⟨T116, h116, X116, e116, W116, st116⟩ := stR X113 hx hZ e113 Ar114 (j := (5 : Int32)) hin114 rfl (Sto.ofV Ar114 Aq114 O77 (Ins.self c115)) (g := (mkF m 139 #[.val (.ref a1), .val (.long q1), .second] [(.ref b52), (.int (5 : Int32)), (.ref b77), (.ref b77), (.ref a1)])) rfl rfl (hb hby own_d1_139)
  have Z116 : n0 ≤ h116.size := Nat.le_trans Z111 (Nat.le_of_eq W116.size.symm)
  have K116 := K111.wr W116 (Or.inr sz_b77)
  have N116 := Fr.snoc X116 N111 g_b77
  have V116 : Arv Z h116 b77 k77 (.object "java/util/BitSet") (7 : Int32) [(.ref b2), (.ref b7), (.ref b14), (.ref b31), (.ref b41), (.ref b52), .null] .null := Arv.set Ar114 Aq114 As114 An114 Ah114 Ag114 rfl W116 5 rfl (Nat.le_of_ble_eq_true rfl)
  have c117 := (((((((Fw76.ext E77).other W91 (Or.inl ne_a1_b77)).other W96 (Or.inl ne_a1_b77)).other W101 (Or.inl ne_a1_b77)).other W106 (Or.inl ne_a1_b77)).other W111 (Or.inl ne_a1_b77)).other W116 (Or.inl ne_a1_b77))
  obtain ⟨T118, X118, e118, st118⟩ := getF X116 hx hZ hown (host := "") (Or.inl (own_w47 hw)) Via.refl e116 c117 (g := (mkF m 144 #[.val (.ref a1), .val (.long q1), .second] [(.ref a1), (.int (6 : Int32)), (.ref b77), (.ref b77), (.ref a1)])) rfl rfl (hb hby own_d1_144)
  obtain ⟨cl119, Ar119, Aq119, As119, An119, Ah119, Ag119⟩ := V116
  have hin119 : ¬ ((6 : Int32) < 0 ∨ cl119.slots.size ≤ ((6 : Int32)).toNatClampNeg) := inb_of As119 ⟨by decide, by decide⟩
  have c120 := (((((((c86.ext E77).wr W91).wr W96).wr W101).wr W106).wr W111).wr W116)
  obtain ⟨T121, h121, X121, e121, W121, st121⟩ := stR X118 hx hZ e118 Ar119 (j := (6 : Int32)) hin119 rfl (Sto.ofV Ar119 Aq119 O77 (Ins.self c120)) (g := (mkF m 147 #[.val (.ref a1), .val (.long q1), .second] [(.ref b64), (.int (6 : Int32)), (.ref b77), (.ref b77), (.ref a1)])) rfl rfl (hb hby own_d1_147)
  have Z121 : n0 ≤ h121.size := Nat.le_trans Z116 (Nat.le_of_eq W121.size.symm)
  have K121 := K116.wr W121 (Or.inr sz_b77)
  have N121 := Fr.snoc X121 N116 g_b77
  have V121 : Arv Z h121 b77 k77 (.object "java/util/BitSet") (7 : Int32) [(.ref b2), (.ref b7), (.ref b14), (.ref b31), (.ref b41), (.ref b52), (.ref b64)] .null := Arv.set Ar119 Aq119 As119 An119 Ah119 Ag119 rfl W121 6 rfl (Nat.le_of_ble_eq_true rfl)
  have c122 := ((((((((c78.ext E77).wr W91).wr W96).wr W101).wr W106).wr W111).wr W116).wr W121)
  have c123 := ((((((((((((((((((((((((((((((((F8.ext E2).keep Kq3 (ninS ne_a1_b2 nin0)).other W6 (Or.inr (slot_ne (Or.inr (own_w52 hw)) (Or.inr (own_w34 hw)) (by decide) (t := (.array (.object "java/util/BitSet"))) (t' := (.object "java/util/BitSet")) (by decide) (by decide)))).ext E7).keep Kq10 (ninS ne_a1_b7 nin0)).other W13 (Or.inr (slot_ne (Or.inr (own_w52 hw)) (Or.inr (own_w36 hw)) (by decide) (t := (.array (.object "java/util/BitSet"))) (t' := (.object "java/util/BitSet")) (by decide) (by decide)))).ext E14).keep Kq18 (ninS ne_a1_b14 nin0)).other W21 (Or.inr (slot_ne (Or.inr (own_w52 hw)) (Or.inr (own_w38 hw)) (by decide) (t := (.array (.object "java/util/BitSet"))) (t' := (.object "java/util/BitSet")) (by decide) (by decide)))).ext E22).keep Kq27 (ninS ne_a1_b22 nin0)).other W30 (Or.inr (slot_ne (Or.inr (own_w52 hw)) (Or.inr (own_w40 hw)) (by decide) (t := (.array (.object "java/util/BitSet"))) (t' := (.object "java/util/BitSet")) (by decide) (by decide)))).ext E31).keep Kq37 (ninS ne_a1_b31 nin0)).other W40 (Or.inr (slot_ne (Or.inr (own_w52 hw)) (Or.inr (own_w42 hw)) (by decide) (t := (.array (.object "java/util/BitSet"))) (t' := (.object "java/util/BitSet")) (by decide) (by decide)))).ext E41).keep Kq48 (ninS ne_a1_b41 nin0)).other W51 (Or.inr (slot_ne (Or.inr (own_w52 hw)) (Or.inr (own_w44 hw)) (by decide) (t := (.array (.object "java/util/BitSet"))) (t' := (.object "java/util/BitSet")) (by decide) (by decide)))).ext E52).keep Kq60 (ninS ne_a1_b52 nin0)).other W63 (Or.inr (slot_ne (Or.inr (own_w52 hw)) (Or.inr (own_w46 hw)) (by decide) (t := (.array (.object "java/util/BitSet"))) (t' := (.object "java/util/BitSet")) (by decide) (by decide)))).ext E64).keep Kq73 (ninS ne_a1_b64 nin0)).other W76 (Or.inr (slot_ne (Or.inr (own_w52 hw)) (Or.inr (own_w48 hw)) (by decide) (t := (.array (.object "java/util/BitSet"))) (t' := (.object "java/util/BitSet")) (by decide) (by decide)))).ext E77).other W91 (Or.inl ne_a1_b77)).other W96 (Or.inl ne_a1_b77)).other W101 (Or.inl ne_a1_b77)).other W106 (Or.inl ne_a1_b77)).other W111 (Or.inl ne_a1_b77)).other W116 (Or.inl ne_a1_b77)).other W121 (Or.inl ne_a1_b77))
  obtain ⟨T124, h124, X124, e124, W124, st124⟩ := putF X121 hx hZ hown (host := "") (Or.inl (own_w51 hw)) Via.refl e121 c123 c122 (Or.inr ⟨(own_w52 hw), rfl, hnm⟩) (own_w3 hw) (ty := (.array (.object "java/util/BitSet"))) (by decide) rfl rfl (g := (mkF m 148 #[.val (.ref a1), .val (.long q1), .second] [(.ref b77), (.ref a1)])) rfl rfl (hb hby own_d1_148)
  have Z124 : n0 ≤ h124.size := Nat.le_trans Z121 (Nat.le_of_eq W124.size.symm)
  have K124 := K121.wr W124 (Or.inl (List.mem_of_getElem? (i := 0) rfl))
  have N124 := Fr.snoc X124 N121 g1
  have Fw124 := c123.same W124
  obtain ⟨T125, h125, k125, X125, e125, E125, A125, st125⟩ := newP (aty := .long) X124 hx hZ (own_w30 hw) e124 (g := (mkF m 154 #[.val (.ref a1), .val (.long q1), .second] [(.int (8 : Int32)), (.ref a1)])) rfl (hb hby own_d1_154) rfl (by decide) (cap := 8) (by decide) (by decide) (by decide) (by decide)
  obtain ⟨b125, g125⟩ : ∃ z, z = h124.size := ⟨_, rfl⟩
  rw [← g125] at A125 st125
  have c126 := (c122.wr W124)
  have ne_a1_b125 : a1 ≠ b125 := Nat.ne_of_lt (Nat.lt_of_lt_of_le c126.lt (Nat.le_of_eq g125.symm))
  have c127 := ((((((((c90.wr W91).wr W96).wr W101).wr W106).wr W111).wr W116).wr W121).wr W124)
  have ne_b2_b125 : b2 ≠ b125 := Nat.ne_of_lt (Nat.lt_of_lt_of_le c127.lt (Nat.le_of_eq g125.symm))
  have c128 := (((((((c95.wr W96).wr W101).wr W106).wr W111).wr W116).wr W121).wr W124)
  have ne_b7_b125 : b7 ≠ b125 := Nat.ne_of_lt (Nat.lt_of_lt_of_le c128.lt (Nat.le_of_eq g125.symm))
  have c129 := ((((((c100.wr W101).wr W106).wr W111).wr W116).wr W121).wr W124)
  have ne_b14_b125 : b14 ≠ b125 := Nat.ne_of_lt (Nat.lt_of_lt_of_le c129.lt (Nat.le_of_eq g125.symm))
  have c130 := (((((((((c82.ext E77).wr W91).wr W96).wr W101).wr W106).wr W111).wr W116).wr W121).wr W124)
  have ne_b22_b125 : b22 ≠ b125 := Nat.ne_of_lt (Nat.lt_of_lt_of_le c130.lt (Nat.le_of_eq g125.symm))
  have c131 := (((((c105.wr W106).wr W111).wr W116).wr W121).wr W124)
  have ne_b31_b125 : b31 ≠ b125 := Nat.ne_of_lt (Nat.lt_of_lt_of_le c131.lt (Nat.le_of_eq g125.symm))
  have c132 := ((((c110.wr W111).wr W116).wr W121).wr W124)
  have ne_b41_b125 : b41 ≠ b125 := Nat.ne_of_lt (Nat.lt_of_lt_of_le c132.lt (Nat.le_of_eq g125.symm))
  have c133 := (((c115.wr W116).wr W121).wr W124)
  have ne_b52_b125 : b52 ≠ b125 := Nat.ne_of_lt (Nat.lt_of_lt_of_le c133.lt (Nat.le_of_eq g125.symm))
  have c134 := ((c120.wr W121).wr W124)
  have ne_b64_b125 : b64 ≠ b125 := Nat.ne_of_lt (Nat.lt_of_lt_of_le c134.lt (Nat.le_of_eq g125.symm))
  have c135 := (V121.other W124 (Ne.symm ne_a1_b77))
  have ne_b77_b125 : b77 ≠ b125 := Nat.ne_of_lt (Nat.lt_of_lt_of_le c135.lt (Nat.le_of_eq g125.symm))
  have g_b125 : n0 ≤ b125 := Nat.le_trans Z124 (Nat.le_of_eq g125.symm)
  have sz_b125 : h0.size ≤ b125 := Nat.le_trans K124.1 (Nat.le_of_eq g125.symm)
  have Z125 : n0 ≤ h125.size := Nat.le_trans Z124 E125.1
  have K125 := K124.ext E125
  have V125 : Arv Z h125 b125 k125 .long (8 : Int32) [(.long (0 : Int64)), (.long (0 : Int64)), (.long (0 : Int64)), (.long (0 : Int64)), (.long (0 : Int64)), (.long (0 : Int64)), (.long (0 : Int64)), (.long (0 : Int64))] (.long (0 : Int64)) := (Arv.new A125 (by decide)).pad (pad_rep [] (.long (0 : Int64)) 8)
  have c136 := (c126.ext E125)
  have c137 := ((((((((((((((((((((((((((((((((((F9.ext E2).keep Kq3 (ninS ne_a1_b2 nin0)).other W6 (Or.inr (slot_ne (Or.inl (own_w54 hw)) (Or.inr (own_w34 hw)) (by decide) (t := (.array .long)) (t' := (.object "java/util/BitSet")) (by decide) (by decide)))).ext E7).keep Kq10 (ninS ne_a1_b7 nin0)).other W13 (Or.inr (slot_ne (Or.inl (own_w54 hw)) (Or.inr (own_w36 hw)) (by decide) (t := (.array .long)) (t' := (.object "java/util/BitSet")) (by decide) (by decide)))).ext E14).keep Kq18 (ninS ne_a1_b14 nin0)).other W21 (Or.inr (slot_ne (Or.inl (own_w54 hw)) (Or.inr (own_w38 hw)) (by decide) (t := (.array .long)) (t' := (.object "java/util/BitSet")) (by decide) (by decide)))).ext E22).keep Kq27 (ninS ne_a1_b22 nin0)).other W30 (Or.inr (slot_ne (Or.inl (own_w54 hw)) (Or.inr (own_w40 hw)) (by decide) (t := (.array .long)) (t' := (.object "java/util/BitSet")) (by decide) (by decide)))).ext E31).keep Kq37 (ninS ne_a1_b31 nin0)).other W40 (Or.inr (slot_ne (Or.inl (own_w54 hw)) (Or.inr (own_w42 hw)) (by decide) (t := (.array .long)) (t' := (.object "java/util/BitSet")) (by decide) (by decide)))).ext E41).keep Kq48 (ninS ne_a1_b41 nin0)).other W51 (Or.inr (slot_ne (Or.inl (own_w54 hw)) (Or.inr (own_w44 hw)) (by decide) (t := (.array .long)) (t' := (.object "java/util/BitSet")) (by decide) (by decide)))).ext E52).keep Kq60 (ninS ne_a1_b52 nin0)).other W63 (Or.inr (slot_ne (Or.inl (own_w54 hw)) (Or.inr (own_w46 hw)) (by decide) (t := (.array .long)) (t' := (.object "java/util/BitSet")) (by decide) (by decide)))).ext E64).keep Kq73 (ninS ne_a1_b64 nin0)).other W76 (Or.inr (slot_ne (Or.inl (own_w54 hw)) (Or.inr (own_w48 hw)) (by decide) (t := (.array .long)) (t' := (.object "java/util/BitSet")) (by decide) (by decide)))).ext E77).other W91 (Or.inl ne_a1_b77)).other W96 (Or.inl ne_a1_b77)).other W101 (Or.inl ne_a1_b77)).other W106 (Or.inl ne_a1_b77)).other W111 (Or.inl ne_a1_b77)).other W116 (Or.inl ne_a1_b77)).other W121 (Or.inl ne_a1_b77)).other W124 (Or.inr (slot_ne (Or.inl (own_w54 hw)) (Or.inr (own_w52 hw)) (by decide) (t := (.array .long)) (t' := (.array (.object "java/util/BitSet"))) (by decide) (by decide)))).ext E125)
  obtain ⟨T138, h138, X138, e138, W138, st138⟩ := putF X125 hx hZ hown (host := "") (Or.inl (own_w53 hw)) Via.refl e125 c137 c136 (Or.inl (own_w54 hw)) (own_w3 hw) (ty := (.array .long)) (by decide) rfl rfl (g := (mkF m 156 #[.val (.ref a1), .val (.long q1), .second] [(.ref b125), (.ref a1)])) rfl rfl (hb hby own_d1_156)
  have Z138 : n0 ≤ h138.size := Nat.le_trans Z125 (Nat.le_of_eq W138.size.symm)
  have K138 := K125.wr W138 (Or.inl (List.mem_of_getElem? (i := 0) rfl))
  have N138 := Fr.snoc X138 N124 g1
  have Fw138 := c137.same W138
  have c139 := (c136.wr W138)
  have c140 := (((((((((((((((((((((((((((((((((((F10.ext E2).keep Kq3 (ninS ne_a1_b2 nin0)).other W6 (Or.inr (slot_ne (Or.inl (own_w56 hw)) (Or.inr (own_w34 hw)) (by decide) (t := .int) (t' := (.object "java/util/BitSet")) (by decide) (by decide)))).ext E7).keep Kq10 (ninS ne_a1_b7 nin0)).other W13 (Or.inr (slot_ne (Or.inl (own_w56 hw)) (Or.inr (own_w36 hw)) (by decide) (t := .int) (t' := (.object "java/util/BitSet")) (by decide) (by decide)))).ext E14).keep Kq18 (ninS ne_a1_b14 nin0)).other W21 (Or.inr (slot_ne (Or.inl (own_w56 hw)) (Or.inr (own_w38 hw)) (by decide) (t := .int) (t' := (.object "java/util/BitSet")) (by decide) (by decide)))).ext E22).keep Kq27 (ninS ne_a1_b22 nin0)).other W30 (Or.inr (slot_ne (Or.inl (own_w56 hw)) (Or.inr (own_w40 hw)) (by decide) (t := .int) (t' := (.object "java/util/BitSet")) (by decide) (by decide)))).ext E31).keep Kq37 (ninS ne_a1_b31 nin0)).other W40 (Or.inr (slot_ne (Or.inl (own_w56 hw)) (Or.inr (own_w42 hw)) (by decide) (t := .int) (t' := (.object "java/util/BitSet")) (by decide) (by decide)))).ext E41).keep Kq48 (ninS ne_a1_b41 nin0)).other W51 (Or.inr (slot_ne (Or.inl (own_w56 hw)) (Or.inr (own_w44 hw)) (by decide) (t := .int) (t' := (.object "java/util/BitSet")) (by decide) (by decide)))).ext E52).keep Kq60 (ninS ne_a1_b52 nin0)).other W63 (Or.inr (slot_ne (Or.inl (own_w56 hw)) (Or.inr (own_w46 hw)) (by decide) (t := .int) (t' := (.object "java/util/BitSet")) (by decide) (by decide)))).ext E64).keep Kq73 (ninS ne_a1_b64 nin0)).other W76 (Or.inr (slot_ne (Or.inl (own_w56 hw)) (Or.inr (own_w48 hw)) (by decide) (t := .int) (t' := (.object "java/util/BitSet")) (by decide) (by decide)))).ext E77).other W91 (Or.inl ne_a1_b77)).other W96 (Or.inl ne_a1_b77)).other W101 (Or.inl ne_a1_b77)).other W106 (Or.inl ne_a1_b77)).other W111 (Or.inl ne_a1_b77)).other W116 (Or.inl ne_a1_b77)).other W121 (Or.inl ne_a1_b77)).other W124 (Or.inr (slot_ne (Or.inl (own_w56 hw)) (Or.inr (own_w52 hw)) (by decide) (t := .int) (t' := (.array (.object "java/util/BitSet"))) (by decide) (by decide)))).ext E125).other W138 (Or.inr (slot_ne (Or.inl (own_w56 hw)) (Or.inl (own_w54 hw)) (by decide) (t := .int) (t' := (.array .long)) (by decide) (by decide))))
  obtain ⟨T141, h141, X141, e141, W141, st141⟩ := putF X138 hx hZ hown (host := "") (Or.inl (own_w55 hw)) Via.refl e138 c140 c139 (Or.inl (own_w56 hw)) (own_w3 hw) (ty := .int) (by decide) rfl rfl (g := (mkF m 161 #[.val (.ref a1), .val (.long q1), .second] [(.int (-1 : Int32)), (.ref a1)])) rfl rfl (hb hby own_d1_161)
  have Z141 : n0 ≤ h141.size := Nat.le_trans Z138 (Nat.le_of_eq W141.size.symm)
  have K141 := K138.wr W141 (Or.inl (List.mem_of_getElem? (i := 0) rfl))
  have N141 := Fr.snoc X141 N138 g1
  have Fw141 := c140.same W141
  have c142 := ((((((((((((((own_sta_keep (((own_sta_keep (((own_sta_keep (((own_sta_keep (((own_sta_keep (((own_sta_keep (((own_sta_keep (((own_sta_keep (S1.ext E2) A2 Kq3).wr W6).ext E7) A7 Kq10).wr W13).ext E14) A14 Kq18).wr W21).ext E22) A22 Kq27).wr W30).ext E31) A31 Kq37).wr W40).ext E41) A41 Kq48).wr W51).ext E52) A52 Kq60).wr W63).ext E64) A64 Kq73).wr W76).ext E77).wr W91).wr W96).wr W101).wr W106).wr W111).wr W116).wr W121).wr W124).ext E125).wr W138).wr W141)
  obtain ⟨T143, X143, e143, st143⟩ := getS2 X141 hx hZ hown (host := "") (Or.inl (own_w57 hw)) Via.refl e141 c142 (g := (mkF m 165 #[.val (.ref a1), .val (.long q1), .second] [(.ref a1)])) rfl (hb hby own_d1_165)
  have c144 := (c139.wr W141)
  have c145 := ((((((((((((((((((((((((((((((((((((F11.ext E2).keep Kq3 (ninS ne_a1_b2 nin0)).other W6 (Or.inr (slot_ne (Or.inl (own_w61 hw)) (Or.inr (own_w34 hw)) (by decide) (t := (.object "com/example/tempe/tempe/algorithm/LocalMutex$State")) (t' := (.object "java/util/BitSet")) (by decide) (by decide)))).ext E7).keep Kq10 (ninS ne_a1_b7 nin0)).other W13 (Or.inr (slot_ne (Or.inl (own_w61 hw)) (Or.inr (own_w36 hw)) (by decide) (t := (.object "com/example/tempe/tempe/algorithm/LocalMutex$State")) (t' := (.object "java/util/BitSet")) (by decide) (by decide)))).ext E14).keep Kq18 (ninS ne_a1_b14 nin0)).other W21 (Or.inr (slot_ne (Or.inl (own_w61 hw)) (Or.inr (own_w38 hw)) (by decide) (t := (.object "com/example/tempe/tempe/algorithm/LocalMutex$State")) (t' := (.object "java/util/BitSet")) (by decide) (by decide)))).ext E22).keep Kq27 (ninS ne_a1_b22 nin0)).other W30 (Or.inr (slot_ne (Or.inl (own_w61 hw)) (Or.inr (own_w40 hw)) (by decide) (t := (.object "com/example/tempe/tempe/algorithm/LocalMutex$State")) (t' := (.object "java/util/BitSet")) (by decide) (by decide)))).ext E31).keep Kq37 (ninS ne_a1_b31 nin0)).other W40 (Or.inr (slot_ne (Or.inl (own_w61 hw)) (Or.inr (own_w42 hw)) (by decide) (t := (.object "com/example/tempe/tempe/algorithm/LocalMutex$State")) (t' := (.object "java/util/BitSet")) (by decide) (by decide)))).ext E41).keep Kq48 (ninS ne_a1_b41 nin0)).other W51 (Or.inr (slot_ne (Or.inl (own_w61 hw)) (Or.inr (own_w44 hw)) (by decide) (t := (.object "com/example/tempe/tempe/algorithm/LocalMutex$State")) (t' := (.object "java/util/BitSet")) (by decide) (by decide)))).ext E52).keep Kq60 (ninS ne_a1_b52 nin0)).other W63 (Or.inr (slot_ne (Or.inl (own_w61 hw)) (Or.inr (own_w46 hw)) (by decide) (t := (.object "com/example/tempe/tempe/algorithm/LocalMutex$State")) (t' := (.object "java/util/BitSet")) (by decide) (by decide)))).ext E64).keep Kq73 (ninS ne_a1_b64 nin0)).other W76 (Or.inr (slot_ne (Or.inl (own_w61 hw)) (Or.inr (own_w48 hw)) (by decide) (t := (.object "com/example/tempe/tempe/algorithm/LocalMutex$State")) (t' := (.object "java/util/BitSet")) (by decide) (by decide)))).ext E77).other W91 (Or.inl ne_a1_b77)).other W96 (Or.inl ne_a1_b77)).other W101 (Or.inl ne_a1_b77)).other W106 (Or.inl ne_a1_b77)).other W111 (Or.inl ne_a1_b77)).other W116 (Or.inl ne_a1_b77)).other W121 (Or.inl ne_a1_b77)).other W124 (Or.inr (slot_ne (Or.inl (own_w61 hw)) (Or.inr (own_w52 hw)) (by decide) (t := (.object "com/example/tempe/tempe/algorithm/LocalMutex$State")) (t' := (.array (.object "java/util/BitSet"))) (by decide) (by decide)))).ext E125).other W138 (Or.inr (slot_ne (Or.inl (own_w61 hw)) (Or.inl (own_w54 hw)) (by decide) (t := (.object "com/example/tempe/tempe/algorithm/LocalMutex$State")) (t' := (.array .long)) (by decide) (by decide)))).other W141 (Or.inr (slot_ne (Or.inl (own_w61 hw)) (Or.inl (own_w56 hw)) (by decide) (t := (.object "com/example/tempe/tempe/algorithm/LocalMutex$State")) (t' := .int) (by decide) (by decide))))
  obtain ⟨T146, h146, X146, e146, W146, st146⟩ := putF X143 hx hZ hown (host := "") (Or.inl (own_w60 hw)) Via.refl e143 c145 c144 (Or.inl (own_w61 hw)) (own_w3 hw) (ty := (.object "com/example/tempe/tempe/algorithm/LocalMutex$State")) (by decide) rfl rfl (g := (mkF m 168 #[.val (.ref a1), .val (.long q1), .second] [(.ref s1), (.ref a1)])) rfl rfl (hb hby own_d1_168)
  have Z146 : n0 ≤ h146.size := Nat.le_trans Z141 (Nat.le_of_eq W146.size.symm)
  have K146 := K141.wr W146 (Or.inl (List.mem_of_getElem? (i := 0) rfl))
  have N146 := Fr.snoc X146 N141 g1
  have Fw146 := c145.same W146
  have c147 := (((((((((((((((own_sta_keep (((own_sta_keep (((own_sta_keep (((own_sta_keep (((own_sta_keep (((own_sta_keep (((own_sta_keep (((own_sta_keep (S2.ext E2) A2 Kq3).wr W6).ext E7) A7 Kq10).wr W13).ext E14) A14 Kq18).wr W21).ext E22) A22 Kq27).wr W30).ext E31) A31 Kq37).wr W40).ext E41) A41 Kq48).wr W51).ext E52) A52 Kq60).wr W63).ext E64) A64 Kq73).wr W76).ext E77).wr W91).wr W96).wr W101).wr W106).wr W111).wr W116).wr W121).wr W124).ext E125).wr W138).wr W141).wr W146)
  obtain ⟨T148, X148, e148, st148⟩ := getS2 X146 hx hZ hown (host := "") (Or.inl (own_w62 hw)) Via.refl e146 c147 (g := (mkF m 172 #[.val (.ref a1), .val (.long q1), .second] [(.ref a1)])) rfl (hb hby own_d1_172)
  have c149 := (c144.wr W146)
  have c150 := (((((((((((((((((((((((((((((((((((((F12.ext E2).keep Kq3 (ninS ne_a1_b2 nin0)).other W6 (Or.inr (slot_ne (Or.inl (own_w66 hw)) (Or.inr (own_w34 hw)) (by decide) (t := (.object "com/example/tempe/tempe/algorithm/LocalMutex$Phase")) (t' := (.object "java/util/BitSet")) (by decide) (by decide)))).ext E7).keep Kq10 (ninS ne_a1_b7 nin0)).other W13 (Or.inr (slot_ne (Or.inl (own_w66 hw)) (Or.inr (own_w36 hw)) (by decide) (t := (.object "com/example/tempe/tempe/algorithm/LocalMutex$Phase")) (t' := (.object "java/util/BitSet")) (by decide) (by decide)))).ext E14).keep Kq18 (ninS ne_a1_b14 nin0)).other W21 (Or.inr (slot_ne (Or.inl (own_w66 hw)) (Or.inr (own_w38 hw)) (by decide) (t := (.object "com/example/tempe/tempe/algorithm/LocalMutex$Phase")) (t' := (.object "java/util/BitSet")) (by decide) (by decide)))).ext E22).keep Kq27 (ninS ne_a1_b22 nin0)).other W30 (Or.inr (slot_ne (Or.inl (own_w66 hw)) (Or.inr (own_w40 hw)) (by decide) (t := (.object "com/example/tempe/tempe/algorithm/LocalMutex$Phase")) (t' := (.object "java/util/BitSet")) (by decide) (by decide)))).ext E31).keep Kq37 (ninS ne_a1_b31 nin0)).other W40 (Or.inr (slot_ne (Or.inl (own_w66 hw)) (Or.inr (own_w42 hw)) (by decide) (t := (.object "com/example/tempe/tempe/algorithm/LocalMutex$Phase")) (t' := (.object "java/util/BitSet")) (by decide) (by decide)))).ext E41).keep Kq48 (ninS ne_a1_b41 nin0)).other W51 (Or.inr (slot_ne (Or.inl (own_w66 hw)) (Or.inr (own_w44 hw)) (by decide) (t := (.object "com/example/tempe/tempe/algorithm/LocalMutex$Phase")) (t' := (.object "java/util/BitSet")) (by decide) (by decide)))).ext E52).keep Kq60 (ninS ne_a1_b52 nin0)).other W63 (Or.inr (slot_ne (Or.inl (own_w66 hw)) (Or.inr (own_w46 hw)) (by decide) (t := (.object "com/example/tempe/tempe/algorithm/LocalMutex$Phase")) (t' := (.object "java/util/BitSet")) (by decide) (by decide)))).ext E64).keep Kq73 (ninS ne_a1_b64 nin0)).other W76 (Or.inr (slot_ne (Or.inl (own_w66 hw)) (Or.inr (own_w48 hw)) (by decide) (t := (.object "com/example/tempe/tempe/algorithm/LocalMutex$Phase")) (t' := (.object "java/util/BitSet")) (by decide) (by decide)))).ext E77).other W91 (Or.inl ne_a1_b77)).other W96 (Or.inl ne_a1_b77)).other W101 (Or.inl ne_a1_b77)).other W106 (Or.inl ne_a1_b77)).other W111 (Or.inl ne_a1_b77)).other W116 (Or.inl ne_a1_b77)).other W121 (Or.inl ne_a1_b77)).other W124 (Or.inr (slot_ne (Or.inl (own_w66 hw)) (Or.inr (own_w52 hw)) (by decide) (t := (.object "com/example/tempe/tempe/algorithm/LocalMutex$Phase")) (t' := (.array (.object "java/util/BitSet"))) (by decide) (by decide)))).ext E125).other W138 (Or.inr (slot_ne (Or.inl (own_w66 hw)) (Or.inl (own_w54 hw)) (by decide) (t := (.object "com/example/tempe/tempe/algorithm/LocalMutex$Phase")) (t' := (.array .long)) (by decide) (by decide)))).other W141 (Or.inr (slot_ne (Or.inl (own_w66 hw)) (Or.inl (own_w56 hw)) (by decide) (t := (.object "com/example/tempe/tempe/algorithm/LocalMutex$Phase")) (t' := .int) (by decide) (by decide)))).other W146 (Or.inr (slot_ne (Or.inl (own_w66 hw)) (Or.inl (own_w61 hw)) (by decide) (t := (.object "com/example/tempe/tempe/algorithm/LocalMutex$Phase")) (t' := (.object "com/example/tempe/tempe/algorithm/LocalMutex$State")) (by decide) (by decide))))
  obtain ⟨T151, h151, X151, e151, W151, st151⟩ := putF X148 hx hZ hown (host := "") (Or.inl (own_w65 hw)) Via.refl e148 c150 c149 (Or.inl (own_w66 hw)) (own_w3 hw) (ty := (.object "com/example/tempe/tempe/algorithm/LocalMutex$Phase")) (by decide) rfl rfl (g := (mkF m 175 #[.val (.ref a1), .val (.long q1), .second] [(.ref s2), (.ref a1)])) rfl rfl (hb hby own_d1_175)
  have Z151 : n0 ≤ h151.size := Nat.le_trans Z146 (Nat.le_of_eq W151.size.symm)
  have K151 := K146.wr W151 (Or.inl (List.mem_of_getElem? (i := 0) rfl))
  have N151 := Fr.snoc X151 N146 g1
  have Fw151 := c150.same W151
  have c152 := (c149.wr W151)
  have c153 := ((((((((((((((((((((((((((((((((((((((F13.ext E2).keep Kq3 (ninS ne_a1_b2 nin0)).other W6 (Or.inr (slot_ne (Or.inr (own_w69 hw)) (Or.inr (own_w34 hw)) (by decide) (t := .long) (t' := (.object "java/util/BitSet")) (by decide) (by decide)))).ext E7).keep Kq10 (ninS ne_a1_b7 nin0)).other W13 (Or.inr (slot_ne (Or.inr (own_w69 hw)) (Or.inr (own_w36 hw)) (by decide) (t := .long) (t' := (.object "java/util/BitSet")) (by decide) (by decide)))).ext E14).keep Kq18 (ninS ne_a1_b14 nin0)).other W21 (Or.inr (slot_ne (Or.inr (own_w69 hw)) (Or.inr (own_w38 hw)) (by decide) (t := .long) (t' := (.object "java/util/BitSet")) (by decide) (by decide)))).ext E22).keep Kq27 (ninS ne_a1_b22 nin0)).other W30 (Or.inr (slot_ne (Or.inr (own_w69 hw)) (Or.inr (own_w40 hw)) (by decide) (t := .long) (t' := (.object "java/util/BitSet")) (by decide) (by decide)))).ext E31).keep Kq37 (ninS ne_a1_b31 nin0)).other W40 (Or.inr (slot_ne (Or.inr (own_w69 hw)) (Or.inr (own_w42 hw)) (by decide) (t := .long) (t' := (.object "java/util/BitSet")) (by decide) (by decide)))).ext E41).keep Kq48 (ninS ne_a1_b41 nin0)).other W51 (Or.inr (slot_ne (Or.inr (own_w69 hw)) (Or.inr (own_w44 hw)) (by decide) (t := .long) (t' := (.object "java/util/BitSet")) (by decide) (by decide)))).ext E52).keep Kq60 (ninS ne_a1_b52 nin0)).other W63 (Or.inr (slot_ne (Or.inr (own_w69 hw)) (Or.inr (own_w46 hw)) (by decide) (t := .long) (t' := (.object "java/util/BitSet")) (by decide) (by decide)))).ext E64).keep Kq73 (ninS ne_a1_b64 nin0)).other W76 (Or.inr (slot_ne (Or.inr (own_w69 hw)) (Or.inr (own_w48 hw)) (by decide) (t := .long) (t' := (.object "java/util/BitSet")) (by decide) (by decide)))).ext E77).other W91 (Or.inl ne_a1_b77)).other W96 (Or.inl ne_a1_b77)).other W101 (Or.inl ne_a1_b77)).other W106 (Or.inl ne_a1_b77)).other W111 (Or.inl ne_a1_b77)).other W116 (Or.inl ne_a1_b77)).other W121 (Or.inl ne_a1_b77)).other W124 (Or.inr (slot_ne (Or.inr (own_w69 hw)) (Or.inr (own_w52 hw)) (by decide) (t := .long) (t' := (.array (.object "java/util/BitSet"))) (by decide) (by decide)))).ext E125).other W138 (Or.inr (slot_ne (Or.inr (own_w69 hw)) (Or.inl (own_w54 hw)) (by decide) (t := .long) (t' := (.array .long)) (by decide) (by decide)))).other W141 (Or.inr (slot_ne (Or.inr (own_w69 hw)) (Or.inl (own_w56 hw)) (by decide) (t := .long) (t' := .int) (by decide) (by decide)))).other W146 (Or.inr (slot_ne (Or.inr (own_w69 hw)) (Or.inl (own_w61 hw)) (by decide) (t := .long) (t' := (.object "com/example/tempe/tempe/algorithm/LocalMutex$State")) (by decide) (by decide)))).other W151 (Or.inr (slot_ne (Or.inr (own_w69 hw)) (Or.inl (own_w66 hw)) (by decide) (t := .long) (t' := (.object "com/example/tempe/tempe/algorithm/LocalMutex$Phase")) (by decide) (by decide))))
  obtain ⟨T154, h154, X154, e154, W154, st154⟩ := putF X151 hx hZ hown (host := "") (Or.inl (own_w68 hw)) Via.refl e151 c153 c152 (Or.inr ⟨(own_w69 hw), rfl, hnm⟩) (own_w3 hw) (ty := .long) (by decide) rfl rfl (g := (mkF m 202 #[.val (.ref a1), .val (.long q1), .second] [(.long q1), (.ref a1)])) rfl rfl (hb hby own_d1_202)
  have Z154 : n0 ≤ h154.size := Nat.le_trans Z151 (Nat.le_of_eq W154.size.symm)
  have K154 := K151.wr W154 (Or.inl (List.mem_of_getElem? (i := 0) rfl))
  have N154 := Fr.snoc X154 N151 g1
  have Fw154 := c153.same W154
  have c155 := (c152.wr W154)
  have c156 := (((((((((((((((((((((((((((((((((((((((F14.ext E2).keep Kq3 (ninS ne_a1_b2 nin0)).other W6 (Or.inr (slot_ne (Or.inl (own_w76 hw)) (Or.inr (own_w34 hw)) (by decide) (t := .int) (t' := (.object "java/util/BitSet")) (by decide) (by decide)))).ext E7).keep Kq10 (ninS ne_a1_b7 nin0)).other W13 (Or.inr (slot_ne (Or.inl (own_w76 hw)) (Or.inr (own_w36 hw)) (by decide) (t := .int) (t' := (.object "java/util/BitSet")) (by decide) (by decide)))).ext E14).keep Kq18 (ninS ne_a1_b14 nin0)).other W21 (Or.inr (slot_ne (Or.inl (own_w76 hw)) (Or.inr (own_w38 hw)) (by decide) (t := .int) (t' := (.object "java/util/BitSet")) (by decide) (by decide)))).ext E22).keep Kq27 (ninS ne_a1_b22 nin0)).other W30 (Or.inr (slot_ne (Or.inl (own_w76 hw)) (Or.inr (own_w40 hw)) (by decide) (t := .int) (t' := (.object "java/util/BitSet")) (by decide) (by decide)))).ext E31).keep Kq37 (ninS ne_a1_b31 nin0)).other W40 (Or.inr (slot_ne (Or.inl (own_w76 hw)) (Or.inr (own_w42 hw)) (by decide) (t := .int) (t' := (.object "java/util/BitSet")) (by decide) (by decide)))).ext E41).keep Kq48 (ninS ne_a1_b41 nin0)).other W51 (Or.inr (slot_ne (Or.inl (own_w76 hw)) (Or.inr (own_w44 hw)) (by decide) (t := .int) (t' := (.object "java/util/BitSet")) (by decide) (by decide)))).ext E52).keep Kq60 (ninS ne_a1_b52 nin0)).other W63 (Or.inr (slot_ne (Or.inl (own_w76 hw)) (Or.inr (own_w46 hw)) (by decide) (t := .int) (t' := (.object "java/util/BitSet")) (by decide) (by decide)))).ext E64).keep Kq73 (ninS ne_a1_b64 nin0)).other W76 (Or.inr (slot_ne (Or.inl (own_w76 hw)) (Or.inr (own_w48 hw)) (by decide) (t := .int) (t' := (.object "java/util/BitSet")) (by decide) (by decide)))).ext E77).other W91 (Or.inl ne_a1_b77)).other W96 (Or.inl ne_a1_b77)).other W101 (Or.inl ne_a1_b77)).other W106 (Or.inl ne_a1_b77)).other W111 (Or.inl ne_a1_b77)).other W116 (Or.inl ne_a1_b77)).other W121 (Or.inl ne_a1_b77)).other W124 (Or.inr (slot_ne (Or.inl (own_w76 hw)) (Or.inr (own_w52 hw)) (by decide) (t := .int) (t' := (.array (.object "java/util/BitSet"))) (by decide) (by decide)))).ext E125).other W138 (Or.inr (slot_ne (Or.inl (own_w76 hw)) (Or.inl (own_w54 hw)) (by decide) (t := .int) (t' := (.array .long)) (by decide) (by decide)))).other W141 (Or.inr (slot_ne (Or.inl (own_w76 hw)) (Or.inl (own_w56 hw)) (by decide) (t := .int) (t' := .int) (by decide) (by decide)))).other W146 (Or.inr (slot_ne (Or.inl (own_w76 hw)) (Or.inl (own_w61 hw)) (by decide) (t := .int) (t' := (.object "com/example/tempe/tempe/algorithm/LocalMutex$State")) (by decide) (by decide)))).other W151 (Or.inr (slot_ne (Or.inl (own_w76 hw)) (Or.inl (own_w66 hw)) (by decide) (t := .int) (t' := (.object "com/example/tempe/tempe/algorithm/LocalMutex$Phase")) (by decide) (by decide)))).other W154 (Or.inr (slot_ne (Or.inl (own_w76 hw)) (Or.inr (own_w69 hw)) (by decide) (t := .int) (t' := .long) (by decide) (by decide))))
  have c157 := (((((((((((((((((((((((((((((((((((((((F15.ext E2).keep Kq3 (ninS ne_a1_b2 nin0)).other W6 (Or.inr (slot_ne (Or.inl (own_w83 hw)) (Or.inr (own_w34 hw)) (by decide) (t := .boolean) (t' := (.object "java/util/BitSet")) (by decide) (by decide)))).ext E7).keep Kq10 (ninS ne_a1_b7 nin0)).other W13 (Or.inr (slot_ne (Or.inl (own_w83 hw)) (Or.inr (own_w36 hw)) (by decide) (t := .boolean) (t' := (.object "java/util/BitSet")) (by decide) (by decide)))).ext E14).keep Kq18 (ninS ne_a1_b14 nin0)).other W21 (Or.inr (slot_ne (Or.inl (own_w83 hw)) (Or.inr (own_w38 hw)) (by decide) (t := .boolean) (t' := (.object "java/util/BitSet")) (by decide) (by decide)))).ext E22).keep Kq27 (ninS ne_a1_b22 nin0)).other W30 (Or.inr (slot_ne (Or.inl (own_w83 hw)) (Or.inr (own_w40 hw)) (by decide) (t := .boolean) (t' := (.object "java/util/BitSet")) (by decide) (by decide)))).ext E31).keep Kq37 (ninS ne_a1_b31 nin0)).other W40 (Or.inr (slot_ne (Or.inl (own_w83 hw)) (Or.inr (own_w42 hw)) (by decide) (t := .boolean) (t' := (.object "java/util/BitSet")) (by decide) (by decide)))).ext E41).keep Kq48 (ninS ne_a1_b41 nin0)).other W51 (Or.inr (slot_ne (Or.inl (own_w83 hw)) (Or.inr (own_w44 hw)) (by decide) (t := .boolean) (t' := (.object "java/util/BitSet")) (by decide) (by decide)))).ext E52).keep Kq60 (ninS ne_a1_b52 nin0)).other W63 (Or.inr (slot_ne (Or.inl (own_w83 hw)) (Or.inr (own_w46 hw)) (by decide) (t := .boolean) (t' := (.object "java/util/BitSet")) (by decide) (by decide)))).ext E64).keep Kq73 (ninS ne_a1_b64 nin0)).other W76 (Or.inr (slot_ne (Or.inl (own_w83 hw)) (Or.inr (own_w48 hw)) (by decide) (t := .boolean) (t' := (.object "java/util/BitSet")) (by decide) (by decide)))).ext E77).other W91 (Or.inl ne_a1_b77)).other W96 (Or.inl ne_a1_b77)).other W101 (Or.inl ne_a1_b77)).other W106 (Or.inl ne_a1_b77)).other W111 (Or.inl ne_a1_b77)).other W116 (Or.inl ne_a1_b77)).other W121 (Or.inl ne_a1_b77)).other W124 (Or.inr (slot_ne (Or.inl (own_w83 hw)) (Or.inr (own_w52 hw)) (by decide) (t := .boolean) (t' := (.array (.object "java/util/BitSet"))) (by decide) (by decide)))).ext E125).other W138 (Or.inr (slot_ne (Or.inl (own_w83 hw)) (Or.inl (own_w54 hw)) (by decide) (t := .boolean) (t' := (.array .long)) (by decide) (by decide)))).other W141 (Or.inr (slot_ne (Or.inl (own_w83 hw)) (Or.inl (own_w56 hw)) (by decide) (t := .boolean) (t' := .int) (by decide) (by decide)))).other W146 (Or.inr (slot_ne (Or.inl (own_w83 hw)) (Or.inl (own_w61 hw)) (by decide) (t := .boolean) (t' := (.object "com/example/tempe/tempe/algorithm/LocalMutex$State")) (by decide) (by decide)))).other W151 (Or.inr (slot_ne (Or.inl (own_w83 hw)) (Or.inl (own_w66 hw)) (by decide) (t := .boolean) (t' := (.object "com/example/tempe/tempe/algorithm/LocalMutex$Phase")) (by decide) (by decide)))).other W154 (Or.inr (slot_ne (Or.inl (own_w83 hw)) (Or.inr (own_w69 hw)) (by decide) (t := .boolean) (t' := .long) (by decide) (by decide))))
  obtain ⟨fs, hr, hrun, hended, hW, hsame⟩ := X154.leave (v := none) (fun _ => rfl)
  refine ⟨_, _, pre0 _ ?_, hrun, hended, _, _, rfl, ?_, ⟨_, rfl⟩, hW, hsame.mono (by decide) (by decide)⟩
  · show Steps _ _ _ (s₁.setTop (mkF m 0 #[.val (.ref a1), .val (.long q1), .second] [])) _
    refine XS.aloadN X0.here hx rfl (hb hby own_d1_0) rfl rfl ?_
    refine st1 _ ?_
    refine XS.aloadN X1.here hx rfl (hb hby own_d1_4) rfl rfl ?_
    refine st2 _ ?_
    show Steps _ _ _ (T2.setTop (mkF m 8 #[.val (.ref a1), .val (.long q1), .second] [(.ref b2), (.ref a1)])) _
    refine XS.dup X2.here hx rfl (hb hby own_d1_8) rfl rfl ?_
    refine st3.trans ?_
    refine st6 _ ?_
    refine XS.aloadN X6.here hx rfl (hb hby own_d1_15) rfl rfl ?_
    show Steps _ _ _ (T6.setTop (mkF m 16 #[.val (.ref a1), .val (.long q1), .second] [(.ref a1)])) _
    refine st7 _ ?_
    refine XS.dup X7.here hx rfl (hb hby own_d1_19) rfl rfl ?_
    refine st10.trans ?_
    refine st13 _ ?_
    show Steps _ _ _ (T13.setTop (mkF m 26 #[.val (.ref a1), .val (.long q1), .second] [])) _
    refine XS.aloadN X13.here hx rfl (hb hby own_d1_26) rfl rfl ?_
    refine st14 _ ?_
    refine XS.dup X14.here hx rfl (hb hby own_d1_30) rfl rfl ?_
    refine st18.trans ?_
    show Steps _ _ _ (T18.setTop (mkF m 34 #[.val (.ref a1), .val (.long q1), .second] [(.ref b14), (.ref a1)])) _
    refine st21 _ ?_
    refine XS.aloadN X21.here hx rfl (hb hby own_d1_37) rfl rfl ?_
    refine st22 _ ?_
    refine XS.dup X22.here hx rfl (hb hby own_d1_41) rfl rfl ?_
    show Steps _ _ _ (T22.setTop (mkF m 42 #[.val (.ref a1), .val (.long q1), .second] [(.ref b22), (.ref b22), (.ref a1)])) _
    refine st27.trans ?_
    refine st30 _ ?_
    refine XS.aloadN X30.here hx rfl (hb hby own_d1_48) rfl rfl ?_
    refine st31 _ ?_
    show Steps _ _ _ (T31.setTop (mkF m 52 #[.val (.ref a1), .val (.long q1), .second] [(.ref b31), (.ref a1)])) _
    refine XS.dup X31.here hx rfl (hb hby own_d1_52) rfl rfl ?_
    refine st37.trans ?_
    refine st40 _ ?_
    refine XS.aloadN X40.here hx rfl (hb hby own_d1_59) rfl rfl ?_
    show Steps _ _ _ (T40.setTop (mkF m 60 #[.val (.ref a1), .val (.long q1), .second] [(.ref a1)])) _
    refine st41 _ ?_
    refine XS.dup X41.here hx rfl (hb hby own_d1_63) rfl rfl ?_
    refine st48.trans ?_
    refine st51 _ ?_
    show Steps _ _ _ (T51.setTop (mkF m 70 #[.val (.ref a1), .val (.long q1), .second] [])) _
    refine XS.aloadN X51.here hx rfl (hb hby own_d1_70) rfl rfl ?_
    refine st52 _ ?_
    refine XS.dup X52.here hx rfl (hb hby own_d1_74) rfl rfl ?_
    refine st60.trans ?_
    show Steps _ _ _ (T60.setTop (mkF m 78 #[.val (.ref a1), .val (.long q1), .second] [(.ref b52), (.ref a1)])) _
    refine st63 _ ?_
    refine XS.aloadN X63.here hx rfl (hb hby own_d1_81) rfl rfl ?_
    refine st64 _ ?_
    refine XS.dup X64.here hx rfl (hb hby own_d1_85) rfl rfl ?_
    show Steps _ _ _ (T64.setTop (mkF m 86 #[.val (.ref a1), .val (.long q1), .second] [(.ref b64), (.ref b64), (.ref a1)])) _
    refine st73.trans ?_
    refine st76 _ ?_
    refine XS.aloadN X76.here hx rfl (hb hby own_d1_92) rfl rfl ?_
    refine XS.bipush X76.here hx rfl (hb hby own_d1_93) ?_
    show Steps _ _ _ (T76.setTop (mkF m 95 #[.val (.ref a1), .val (.long q1), .second] [(.int (7 : Int32)), (.ref a1)])) _
    refine st77 _ ?_
    refine XS.dup X77.here hx rfl (hb hby own_d1_98) rfl rfl ?_
    refine XS.iconst X77.here hx rfl (hb hby own_d1_99) ?_
    refine XS.aloadN X77.here hx rfl (hb hby own_d1_100) rfl rfl ?_
    show Steps _ _ _ (T77.setTop (mkF m 101 #[.val (.ref a1), .val (.long q1), .second] [(.ref a1), (.int (0 : Int32)), (.ref b77), (.ref b77), (.ref a1)])) _
    refine st88 _ ?_
    refine st91 _ ?_
    refine XS.dup X91.here hx rfl (hb hby own_d1_105) rfl rfl ?_
    refine XS.iconst X91.here hx rfl (hb hby own_d1_106) ?_
    show Steps _ _ _ (T91.setTop (mkF m 107 #[.val (.ref a1), .val (.long q1), .second] [(.int (1 : Int32)), (.ref b77), (.ref b77), (.ref a1)])) _
    refine XS.aloadN X91.here hx rfl (hb hby own_d1_107) rfl rfl ?_
    refine st93 _ ?_
    refine st96 _ ?_
    refine XS.dup X96.here hx rfl (hb hby own_d1_112) rfl rfl ?_
    show Steps _ _ _ (T96.setTop (mkF m 113 #[.val (.ref a1), .val (.long q1), .second] [(.ref b77), (.ref b77), (.ref a1)])) _
    refine XS.iconst X96.here hx rfl (hb hby own_d1_113) ?_
    refine XS.aloadN X96.here hx rfl (hb hby own_d1_114) rfl rfl ?_
    refine st98 _ ?_
    refine st101 _ ?_
    show Steps _ _ _ (T101.setTop (mkF m 119 #[.val (.ref a1), .val (.long q1), .second] [(.ref b77), (.ref a1)])) _
    refine XS.dup X101.here hx rfl (hb hby own_d1_119) rfl rfl ?_
    refine XS.iconst X101.here hx rfl (hb hby own_d1_120) ?_
    refine XS.aloadN X101.here hx rfl (hb hby own_d1_121) rfl rfl ?_
    refine st103 _ ?_
    show Steps _ _ _ (T103.setTop (mkF m 125 #[.val (.ref a1), .val (.long q1), .second] [(.ref b31), (.int (3 : Int32)), (.ref b77), (.ref b77), (.ref a1)])) _
    refine st106 _ ?_
    refine XS.dup X106.here hx rfl (hb hby own_d1_126) rfl rfl ?_
    refine XS.iconst X106.here hx rfl (hb hby own_d1_127) ?_
    refine XS.aloadN X106.here hx rfl (hb hby own_d1_128) rfl rfl ?_
    show Steps _ _ _ (T106.setTop (mkF m 129 #[.val (.ref a1), .val (.long q1), .second] [(.ref a1), (.int (4 : Int32)), (.ref b77), (.ref b77), (.ref a1)])) _
    refine st108 _ ?_
    refine st111 _ ?_
    refine XS.dup X111.here hx rfl (hb hby own_d1_133) rfl rfl ?_
    refine XS.iconst X111.here hx rfl (hb hby own_d1_134) ?_
    show Steps _ _ _ (T111.setTop (mkF m 135 #[.val (.ref a1), .val (.long q1), .second] [(.int (5 : Int32)), (.ref b77), (.ref b77), (.ref a1)])) _
    refine XS.aloadN X111.here hx rfl (hb hby own_d1_135) rfl rfl ?_
    refine st113 _ ?_
    refine st116 _ ?_
    refine XS.dup X116.here hx rfl (hb hby own_d1_140) rfl rfl ?_
    show Steps _ _ _ (T116.setTop (mkF m 141 #[.val (.ref a1), .val (.long q1), .second] [(.ref b77), (.ref b77), (.ref a1)])) _
    refine XS.bipush X116.here hx rfl (hb hby own_d1_141) ?_
    refine XS.aloadN X116.here hx rfl (hb hby own_d1_143) rfl rfl ?_
    refine st118 _ ?_
    refine st121 _ ?_
    show Steps _ _ _ (T121.setTop (mkF m 148 #[.val (.ref a1), .val (.long q1), .second] [(.ref b77), (.ref a1)])) _
    refine st124 _ ?_
    refine XS.aloadN X124.here hx rfl (hb hby own_d1_151) rfl rfl ?_
    refine XS.bipush X124.here hx rfl (hb hby own_d1_152) ?_
    refine st125 _ ?_
    show Steps _ _ _ (T125.setTop (mkF m 156 #[.val (.ref a1), .val (.long q1), .second] [(.ref b125), (.ref a1)])) _
    refine st138 _ ?_
    refine XS.aloadN X138.here hx rfl (hb hby own_d1_159) rfl rfl ?_
    refine XS.iconst X138.here hx rfl (hb hby own_d1_160) ?_
    refine st141 _ ?_
    show Steps _ _ _ (T141.setTop (mkF m 164 #[.val (.ref a1), .val (.long q1), .second] [])) _
    refine XS.aloadN X141.here hx rfl (hb hby own_d1_164) rfl rfl ?_
    refine st143 _ ?_
    refine st146 _ ?_
    refine XS.aloadN X146.here hx rfl (hb hby own_d1_171) rfl rfl ?_
    show Steps _ _ _ (T146.setTop (mkF m 172 #[.val (.ref a1), .val (.long q1), .second] [(.ref a1)])) _
    refine st148 _ ?_
    refine st151 _ ?_
    refine XS.lloadN X151.here hx rfl (hb hby own_d1_178) rfl ?_
    refine X151.ldc2Long hx hown (mvT hZ (own_w67 hw)) (g := (mkF m 179 #[.val (.ref a1), .val (.long q1), .second] [(.long q1)])) rfl (hb hby own_d1_179) _ ?_
    show Steps _ _ _ (T151.setTop (mkF m 182 #[.val (.ref a1), .val (.long q1), .second] [(.long (2 : Int64)), (.long q1)])) _
    refine XS.lcmp X151.here hx rfl (hb hby own_d1_182) rfl ?_
    refine XS.ifYes X151.here hx rfl (pc0 := 183) (pc' := 200) rfl (hb hby own_d1_183) rfl ((if0 _ _).trans (flt hq).2.1) (by decide) (by decide) ?_
    refine XS.aloadN X151.here hx rfl (hb hby own_d1_200) rfl rfl ?_
    refine XS.lloadN X151.here hx rfl (hb hby own_d1_201) rfl ?_
    show Steps _ _ _ (T151.setTop (mkF m 202 #[.val (.ref a1), .val (.long q1), .second] [(.long q1), (.ref a1)])) _
    refine st154 _ ?_
    show Steps _ _ _ (T154.setTop (mkF m 205 #[.val (.ref a1), .val (.long q1), .second] [])) _
    exact X154.returnOut hx Bd.returns (hb hby own_d1_205) hr
  · show Qown_mi Z a1 q1 s1 s2 h0 n0 _ T154.heap _
    rw [e154]
    exact ⟨rfl, N154, K154, c155, c156, c157⟩
def Qown_lp0 (Z : State) (a1 : Addr) (h0 : Heap) (n0 : Nat) (v : Option Value) (h : Heap) (L : List Loc) : Prop := v = some (.int (0 : Int32)) ∧ Fr n0 L ∧ h = h0
set_option maxRecDepth 65536 in
set_option maxHeartbeats 40000000 in
theorem own_lp0 (l : Launch) (Z : State) (a0 : Array Value) (hw : ∀ d ∈ tables_1, d.before a0 Z = true) (ws : List Jvm.Cond) (a1 : Addr) (h0 : Heap) (n0 : Nat) (Z0 : n0 ≤ h0.size) (F1 : Fld Z h0 a1 "com/example/tempe/tempe/algorithm/LocalMutex" "lockCalls" "I" (.int (0 : Int32))) :
    MetFree l own_m4 (head1 (Jvm.Cond.code own_m4 prog_6_method_8_code 1 (some .boolean) :: ws) ({ frames := 0, cells := 0, slots := 0, locals := 0 } : Room)) (fun a U => a = #[(.ref a1)] ∧ Z.Warmed39 U.vm ∧ U.heap = h0) (fun _ _ _ _ _ => True) (fun _ U o U' => ∃ v L, o = .returned v ∧ Qown_lp0 Z a1 h0 n0 v U'.heap L ∧ FrameEnd U o U' L ({ frames := 0, cells := 0, slots := 0, locals := 0 } : Room).cells ({ frames := 0, cells := 0, slots := 0, locals := 0 } : Room).slots) := by
  refine MetFree.of_bodySF (plainFor_of_name own_pn1) hisR ?_
  intro p e s m args below meth c s₁ Bd hml0 hP hK
  obtain ⟨rfl, hZ, hh⟩ := hP
  have hx := Bd.exec
  have hby := Bd.bytes
  have hml : c.maxLocals = 1 := hml0
  have hown : s.vm.findClass "com/example/tempe/tempe/algorithm/LocalMutex" = some m.cls := by have q := findClass_of_methodNamed Bd.named; exact q
  have hnm := (name_of_methodNamed Bd.named Bd.method).1
  have X0 : Stand p l e ({ frames := 0, cells := 0, slots := 0, locals := 0 } : Room) s m #[(.ref a1)] below meth c s₁ [] 0 0 := Stand.of_body Bd
  have e0 : s₁.heap = h0 := by rw [← hh, Bd.state]; rfl
  have N0 := Fr.nil n0
  have pre0 : ∀ t, Steps p.tables e below (s₁.setTop (mkF m 0 #[.val (.ref a1)] [])) t → Steps p.tables e below (s₁.setTop (entryFrame m #[(.ref a1)] 1)) t := fun t k => castTop (by first | (simp [entryFrame, mkF, argsToLocals, Value.category, maxLocals]; done) | rfl) k
  obtain ⟨T1, X1, e1, st1⟩ := getF X0 hx hZ hown (host := "") (Or.inl (own_w75 hw)) Via.refl e0 F1 (g := (mkF m 1 #[.val (.ref a1)] [(.ref a1)])) rfl rfl (hb hby own_d6_1)
  obtain ⟨fs, hr, hrun, hended, hW, hsame⟩ := X1.leave (v := some (.int (0 : Int32))) (fun h => by rw [Bd.returns] at h; cases h)
  refine ⟨_, _, pre0 _ ?_, hrun, hended, _, _, rfl, ?_, ⟨_, rfl⟩, hW, hsame.mono (by decide) (by decide)⟩
  · show Steps _ _ _ (s₁.setTop (mkF m 0 #[.val (.ref a1)] [])) _
    refine XS.aloadN X0.here hx rfl (hb hby own_d6_0) rfl rfl ?_
    refine st1 _ ?_
    refine XS.ifYes X1.here hx rfl (pc0 := 4) (pc' := 11) rfl (hb hby own_d6_4) rfl ((if0 _ _).trans (flt (by decide : ¬ ((0 : Int32) < (0 : Int32)))).2.2.2) (by decide) (by decide) ?_
    refine XS.iconst X1.here hx rfl (hb hby own_d6_11) ?_
    show Steps _ _ _ (T1.setTop (mkF m 12 #[.val (.ref a1)] [(.int (0 : Int32))])) _
    exact retN X1 hx (t := .boolean) Bd.returns (by simp) (hb hby own_d6_12) hr
  · show Qown_lp0 Z a1 h0 n0 _ T1.heap _
    rw [e1]
    exact ⟨rfl, N0, rfl⟩
def Qown_lp1 (Z : State) (a1 : Addr) (h0 : Heap) (n0 : Nat) (v : Option Value) (h : Heap) (L : List Loc) : Prop := v = some (.int (1 : Int32)) ∧ Fr n0 L ∧ h = h0
set_option maxRecDepth 65536 in
set_option maxHeartbeats 40000000 in
theorem own_lp1 (l : Launch) (Z : State) (a0 : Array Value) (hw : ∀ d ∈ tables_1, d.before a0 Z = true) (ws : List Jvm.Cond) (a1 : Addr) (h0 : Heap) (n0 : Nat) (Z0 : n0 ≤ h0.size) (F1 : Fld Z h0 a1 "com/example/tempe/tempe/algorithm/LocalMutex" "lockCalls" "I" (.int (1 : Int32))) :
    MetFree l own_m4 (head1 (Jvm.Cond.code own_m4 prog_6_method_8_code 1 (some .boolean) :: ws) ({ frames := 0, cells := 0, slots := 0, locals := 0 } : Room)) (fun a U => a = #[(.ref a1)] ∧ Z.Warmed39 U.vm ∧ U.heap = h0) (fun _ _ _ _ _ => True) (fun _ U o U' => ∃ v L, o = .returned v ∧ Qown_lp1 Z a1 h0 n0 v U'.heap L ∧ FrameEnd U o U' L ({ frames := 0, cells := 0, slots := 0, locals := 0 } : Room).cells ({ frames := 0, cells := 0, slots := 0, locals := 0 } : Room).slots) := by
  refine MetFree.of_bodySF (plainFor_of_name own_pn1) hisR ?_
  intro p e s m args below meth c s₁ Bd hml0 hP hK
  obtain ⟨rfl, hZ, hh⟩ := hP
  have hx := Bd.exec
  have hby := Bd.bytes
  have hml : c.maxLocals = 1 := hml0
  have hown : s.vm.findClass "com/example/tempe/tempe/algorithm/LocalMutex" = some m.cls := by have q := findClass_of_methodNamed Bd.named; exact q
  have hnm := (name_of_methodNamed Bd.named Bd.method).1
  have X0 : Stand p l e ({ frames := 0, cells := 0, slots := 0, locals := 0 } : Room) s m #[(.ref a1)] below meth c s₁ [] 0 0 := Stand.of_body Bd
  have e0 : s₁.heap = h0 := by rw [← hh, Bd.state]; rfl
  have N0 := Fr.nil n0
  have pre0 : ∀ t, Steps p.tables e below (s₁.setTop (mkF m 0 #[.val (.ref a1)] [])) t → Steps p.tables e below (s₁.setTop (entryFrame m #[(.ref a1)] 1)) t := fun t k => castTop (by first | (simp [entryFrame, mkF, argsToLocals, Value.category, maxLocals]; done) | rfl) k
  obtain ⟨T1, X1, e1, st1⟩ := getF X0 hx hZ hown (host := "") (Or.inl (own_w75 hw)) Via.refl e0 F1 (g := (mkF m 1 #[.val (.ref a1)] [(.ref a1)])) rfl rfl (hb hby own_d6_1)
  obtain ⟨fs, hr, hrun, hended, hW, hsame⟩ := X1.leave (v := some (.int (1 : Int32))) (fun h => by rw [Bd.returns] at h; cases h)
  refine ⟨_, _, pre0 _ ?_, hrun, hended, _, _, rfl, ?_, ⟨_, rfl⟩, hW, hsame.mono (by decide) (by decide)⟩
  · show Steps _ _ _ (s₁.setTop (mkF m 0 #[.val (.ref a1)] [])) _
    refine XS.aloadN X0.here hx rfl (hb hby own_d6_0) rfl rfl ?_
    refine st1 _ ?_
    refine XS.ifNo X1.here hx rfl (hb hby own_d6_4) rfl ((if0 _ _).trans (tlt (by decide : (0 : Int32) < (1 : Int32))).2.2.2) ?_
    refine XS.iconst X1.here hx rfl (hb hby own_d6_7) ?_
    show Steps _ _ _ (T1.setTop (mkF m 8 #[.val (.ref a1)] [(.int (1 : Int32))])) _
    refine XS.goto X1.here hx rfl (pc0 := 8) (pc' := 12) rfl (hb hby own_d6_8) (by decide) (by decide) ?_
    show Steps _ _ _ (T1.setTop (mkF m 12 #[.val (.ref a1)] [(.int (1 : Int32))])) _
    exact retN X1 hx (t := .boolean) Bd.returns (by simp) (hb hby own_d6_12) hr
  · show Qown_lp1 Z a1 h0 n0 _ T1.heap _
    rw [e1]
    exact ⟨rfl, N0, rfl⟩
def Qown_lp2 (Z : State) (a1 : Addr) (h0 : Heap) (n0 : Nat) (v : Option Value) (h : Heap) (L : List Loc) : Prop := v = some (.int (1 : Int32)) ∧ Fr n0 L ∧ h = h0
set_option maxRecDepth 65536 in
set_option maxHeartbeats 40000000 in
theorem own_lp2 (l : Launch) (Z : State) (a0 : Array Value) (hw : ∀ d ∈ tables_1, d.before a0 Z = true) (ws : List Jvm.Cond) (a1 : Addr) (h0 : Heap) (n0 : Nat) (Z0 : n0 ≤ h0.size) (F1 : Fld Z h0 a1 "com/example/tempe/tempe/algorithm/LocalMutex" "lockCalls" "I" (.int (2 : Int32))) :
    MetFree l own_m4 (head1 (Jvm.Cond.code own_m4 prog_6_method_8_code 1 (some .boolean) :: ws) ({ frames := 0, cells := 0, slots := 0, locals := 0 } : Room)) (fun a U => a = #[(.ref a1)] ∧ Z.Warmed39 U.vm ∧ U.heap = h0) (fun _ _ _ _ _ => True) (fun _ U o U' => ∃ v L, o = .returned v ∧ Qown_lp2 Z a1 h0 n0 v U'.heap L ∧ FrameEnd U o U' L ({ frames := 0, cells := 0, slots := 0, locals := 0 } : Room).cells ({ frames := 0, cells := 0, slots := 0, locals := 0 } : Room).slots) := by
  refine MetFree.of_bodySF (plainFor_of_name own_pn1) hisR ?_
  intro p e s m args below meth c s₁ Bd hml0 hP hK
  obtain ⟨rfl, hZ, hh⟩ := hP
  have hx := Bd.exec
  have hby := Bd.bytes
  have hml : c.maxLocals = 1 := hml0
  have hown : s.vm.findClass "com/example/tempe/tempe/algorithm/LocalMutex" = some m.cls := by have q := findClass_of_methodNamed Bd.named; exact q
  have hnm := (name_of_methodNamed Bd.named Bd.method).1
  have X0 : Stand p l e ({ frames := 0, cells := 0, slots := 0, locals := 0 } : Room) s m #[(.ref a1)] below meth c s₁ [] 0 0 := Stand.of_body Bd
  have e0 : s₁.heap = h0 := by rw [← hh, Bd.state]; rfl
  have N0 := Fr.nil n0
  have pre0 : ∀ t, Steps p.tables e below (s₁.setTop (mkF m 0 #[.val (.ref a1)] [])) t → Steps p.tables e below (s₁.setTop (entryFrame m #[(.ref a1)] 1)) t := fun t k => castTop (by first | (simp [entryFrame, mkF, argsToLocals, Value.category, maxLocals]; done) | rfl) k
  obtain ⟨T1, X1, e1, st1⟩ := getF X0 hx hZ hown (host := "") (Or.inl (own_w75 hw)) Via.refl e0 F1 (g := (mkF m 1 #[.val (.ref a1)] [(.ref a1)])) rfl rfl (hb hby own_d6_1)
  obtain ⟨fs, hr, hrun, hended, hW, hsame⟩ := X1.leave (v := some (.int (1 : Int32))) (fun h => by rw [Bd.returns] at h; cases h)
  refine ⟨_, _, pre0 _ ?_, hrun, hended, _, _, rfl, ?_, ⟨_, rfl⟩, hW, hsame.mono (by decide) (by decide)⟩
  · show Steps _ _ _ (s₁.setTop (mkF m 0 #[.val (.ref a1)] [])) _
    refine XS.aloadN X0.here hx rfl (hb hby own_d6_0) rfl rfl ?_
    refine st1 _ ?_
    refine XS.ifNo X1.here hx rfl (hb hby own_d6_4) rfl ((if0 _ _).trans (tlt (by decide : (0 : Int32) < (2 : Int32))).2.2.2) ?_
    refine XS.iconst X1.here hx rfl (hb hby own_d6_7) ?_
    show Steps _ _ _ (T1.setTop (mkF m 8 #[.val (.ref a1)] [(.int (1 : Int32))])) _
    refine XS.goto X1.here hx rfl (pc0 := 8) (pc' := 12) rfl (hb hby own_d6_8) (by decide) (by decide) ?_
    show Steps _ _ _ (T1.setTop (mkF m 12 #[.val (.ref a1)] [(.int (1 : Int32))])) _
    exact retN X1 hx (t := .boolean) Bd.returns (by simp) (hb hby own_d6_12) hr
  · show Qown_lp2 Z a1 h0 n0 _ T1.heap _
    rw [e1]
    exact ⟨rfl, N0, rfl⟩
def Qown_lp3 (Z : State) (a1 : Addr) (h0 : Heap) (n0 : Nat) (v : Option Value) (h : Heap) (L : List Loc) : Prop := v = some (.int (1 : Int32)) ∧ Fr n0 L ∧ h = h0
set_option maxRecDepth 65536 in
set_option maxHeartbeats 40000000 in
theorem own_lp3 (l : Launch) (Z : State) (a0 : Array Value) (hw : ∀ d ∈ tables_1, d.before a0 Z = true) (ws : List Jvm.Cond) (a1 : Addr) (h0 : Heap) (n0 : Nat) (Z0 : n0 ≤ h0.size) (F1 : Fld Z h0 a1 "com/example/tempe/tempe/algorithm/LocalMutex" "lockCalls" "I" (.int (3 : Int32))) :
    MetFree l own_m4 (head1 (Jvm.Cond.code own_m4 prog_6_method_8_code 1 (some .boolean) :: ws) ({ frames := 0, cells := 0, slots := 0, locals := 0 } : Room)) (fun a U => a = #[(.ref a1)] ∧ Z.Warmed39 U.vm ∧ U.heap = h0) (fun _ _ _ _ _ => True) (fun _ U o U' => ∃ v L, o = .returned v ∧ Qown_lp3 Z a1 h0 n0 v U'.heap L ∧ FrameEnd U o U' L ({ frames := 0, cells := 0, slots := 0, locals := 0 } : Room).cells ({ frames := 0, cells := 0, slots := 0, locals := 0 } : Room).slots) := by
  refine MetFree.of_bodySF (plainFor_of_name own_pn1) hisR ?_
  intro p e s m args below meth c s₁ Bd hml0 hP hK
  obtain ⟨rfl, hZ, hh⟩ := hP
  have hx := Bd.exec
  have hby := Bd.bytes
  have hml : c.maxLocals = 1 := hml0
  have hown : s.vm.findClass "com/example/tempe/tempe/algorithm/LocalMutex" = some m.cls := by have q := findClass_of_methodNamed Bd.named; exact q
  have hnm := (name_of_methodNamed Bd.named Bd.method).1
  have X0 : Stand p l e ({ frames := 0, cells := 0, slots := 0, locals := 0 } : Room) s m #[(.ref a1)] below meth c s₁ [] 0 0 := Stand.of_body Bd
  have e0 : s₁.heap = h0 := by rw [← hh, Bd.state]; rfl
  have N0 := Fr.nil n0
  have pre0 : ∀ t, Steps p.tables e below (s₁.setTop (mkF m 0 #[.val (.ref a1)] [])) t → Steps p.tables e below (s₁.setTop (entryFrame m #[(.ref a1)] 1)) t := fun t k => castTop (by first | (simp [entryFrame, mkF, argsToLocals, Value.category, maxLocals]; done) | rfl) k
  obtain ⟨T1, X1, e1, st1⟩ := getF X0 hx hZ hown (host := "") (Or.inl (own_w75 hw)) Via.refl e0 F1 (g := (mkF m 1 #[.val (.ref a1)] [(.ref a1)])) rfl rfl (hb hby own_d6_1)
  obtain ⟨fs, hr, hrun, hended, hW, hsame⟩ := X1.leave (v := some (.int (1 : Int32))) (fun h => by rw [Bd.returns] at h; cases h)
  refine ⟨_, _, pre0 _ ?_, hrun, hended, _, _, rfl, ?_, ⟨_, rfl⟩, hW, hsame.mono (by decide) (by decide)⟩
  · show Steps _ _ _ (s₁.setTop (mkF m 0 #[.val (.ref a1)] [])) _
    refine XS.aloadN X0.here hx rfl (hb hby own_d6_0) rfl rfl ?_
    refine st1 _ ?_
    refine XS.ifNo X1.here hx rfl (hb hby own_d6_4) rfl ((if0 _ _).trans (tlt (by decide : (0 : Int32) < (3 : Int32))).2.2.2) ?_
    refine XS.iconst X1.here hx rfl (hb hby own_d6_7) ?_
    show Steps _ _ _ (T1.setTop (mkF m 8 #[.val (.ref a1)] [(.int (1 : Int32))])) _
    refine XS.goto X1.here hx rfl (pc0 := 8) (pc' := 12) rfl (hb hby own_d6_8) (by decide) (by decide) ?_
    show Steps _ _ _ (T1.setTop (mkF m 12 #[.val (.ref a1)] [(.int (1 : Int32))])) _
    exact retN X1 hx (t := .boolean) Bd.returns (by simp) (hb hby own_d6_12) hr
  · show Qown_lp3 Z a1 h0 n0 _ T1.heap _
    rw [e1]
    exact ⟨rfl, N0, rfl⟩
def Qown_lock (Z : State) (a1 : Addr) (w1 : Int32) (u1 : Value) (h0 : Heap) (n0 : Nat) (v : Option Value) (h : Heap) (L : List Loc) : Prop := v = none ∧ Fr n0 L ∧ Keep h0 h [a1] ∧ Exa Z h a1 "com/example/tempe/tempe/algorithm/LocalMutex" ∧ Fld Z h a1 "com/example/tempe/tempe/algorithm/LocalMutex" "lockCalls" "I" (.int (w1 + (1 : Int32))) ∧ Fld Z h a1 "com/example/tempe/tempe/algorithm/LocalMutex" "unlockCalled" "Z" u1
set_option maxRecDepth 65536 in
set_option maxHeartbeats 40000000 in
theorem own_lock (l : Launch) (Z : State) (a0 : Array Value) (hw : ∀ d ∈ tables_1, d.before a0 Z = true) (ws : List Jvm.Cond) (a1 : Addr) (w1 : Int32) (u1 : Value) (h0 : Heap) (n0 : Nat) (Z0 : n0 ≤ h0.size) (g1 : n0 ≤ a1) (E1 : Exa Z h0 a1 "com/example/tempe/tempe/algorithm/LocalMutex") (F1 : Fld Z h0 a1 "com/example/tempe/tempe/algorithm/LocalMutex" "lockCalls" "I" (.int w1)) (F2 : Fld Z h0 a1 "com/example/tempe/tempe/algorithm/LocalMutex" "unlockCalled" "Z" u1) :
    MetFree l own_m5 (head1 (Jvm.Cond.code own_m5 prog_6_method_5_code 1 none :: ws) ({ frames := 0, cells := 0, slots := 0, locals := 0 } : Room)) (fun a U => a = #[(.ref a1)] ∧ Z.Warmed39 U.vm ∧ U.heap = h0) (fun _ _ _ _ _ => True) (fun _ U o U' => ∃ v L, o = .returned v ∧ Qown_lock Z a1 w1 u1 h0 n0 v U'.heap L ∧ FrameEnd U o U' L ({ frames := 0, cells := 0, slots := 0, locals := 0 } : Room).cells ({ frames := 0, cells := 0, slots := 0, locals := 0 } : Room).slots) := by
  refine MetFree.of_bodySF (plainFor_of_name own_pn1) hisR ?_
  intro p e s m args below meth c s₁ Bd hml0 hP hK
  obtain ⟨rfl, hZ, hh⟩ := hP
  have hx := Bd.exec
  have hby := Bd.bytes
  have hml : c.maxLocals = 1 := hml0
  have hown : s.vm.findClass "com/example/tempe/tempe/algorithm/LocalMutex" = some m.cls := by have q := findClass_of_methodNamed Bd.named; exact q
  have hnm := (name_of_methodNamed Bd.named Bd.method).1
  have X0 : Stand p l e ({ frames := 0, cells := 0, slots := 0, locals := 0 } : Room) s m #[(.ref a1)] below meth c s₁ [] 0 0 := Stand.of_body Bd
  have e0 : s₁.heap = h0 := by rw [← hh, Bd.state]; rfl
  have N0 := Fr.nil n0
  have pre0 : ∀ t, Steps p.tables e below (s₁.setTop (mkF m 0 #[.val (.ref a1)] [])) t → Steps p.tables e below (s₁.setTop (entryFrame m #[(.ref a1)] 1)) t := fun t k => castTop (by first | (simp [entryFrame, mkF, argsToLocals, Value.category, maxLocals]; done) | rfl) k
  obtain ⟨T1, X1, e1, st1⟩ := getF X0 hx hZ hown (host := "") (Or.inl (own_w75 hw)) Via.refl e0 F1 (g := (mkF m 2 #[.val (.ref a1)] [(.ref a1), (.ref a1)])) rfl rfl (hb hby own_d8_2)
  obtain ⟨T2, h2, X2, e2, W2, st2⟩ := putF X1 hx hZ hown (host := "") (Or.inl (own_w75 hw)) Via.refl e1 F1 E1 (Or.inl (own_w76 hw)) (own_w3 hw) (ty := .int) (by decide) rfl rfl (g := (mkF m 7 #[.val (.ref a1)] [(.int (w1 + (1 : Int32))), (.ref a1)])) rfl rfl (hb hby own_d8_7)
  have Z2 : n0 ≤ h2.size := Nat.le_trans Z0 (Nat.le_of_eq W2.size.symm)
  have K2 := (Keep.refl h0 [a1]).wr W2 (Or.inl (List.mem_of_getElem? (i := 0) rfl))
  have N2 := Fr.snoc X2 N0 g1
  have Fw2 := F1.same W2
  have c3 := (E1.wr W2)
  have c4 := (F2.other W2 (Or.inr (slot_ne (Or.inl (own_w83 hw)) (Or.inl (own_w76 hw)) (by decide) (t := .boolean) (t' := .int) (by decide) (by decide))))
  obtain ⟨fs, hr, hrun, hended, hW, hsame⟩ := X2.leave (v := none) (fun _ => rfl)
  refine ⟨_, _, pre0 _ ?_, hrun, hended, _, _, rfl, ?_, ⟨_, rfl⟩, hW, hsame.mono (by decide) (by decide)⟩
  · show Steps _ _ _ (s₁.setTop (mkF m 0 #[.val (.ref a1)] [])) _
    refine XS.aloadN X0.here hx rfl (hb hby own_d8_0) rfl rfl ?_
    refine XS.dup X0.here hx rfl (hb hby own_d8_1) rfl rfl ?_
    refine st1 _ ?_
    refine XS.iconst X1.here hx rfl (hb hby own_d8_5) ?_
    show Steps _ _ _ (T1.setTop (mkF m 6 #[.val (.ref a1)] [(.int (1 : Int32)), (.int w1), (.ref a1)])) _
    refine XS.iadd X1.here hx rfl (hb hby own_d8_6) rfl ?_
    refine st2 _ ?_
    show Steps _ _ _ (T2.setTop (mkF m 10 #[.val (.ref a1)] [])) _
    exact X2.returnOut hx Bd.returns (hb hby own_d8_10) hr
  · show Qown_lock Z a1 w1 u1 h0 n0 _ T2.heap _
    rw [e2]
    exact ⟨rfl, N2, K2, c3, Fw2, c4⟩
def Qown_unlock (Z : State) (a1 : Addr) (w1 : Int32) (u1 : Value) (h0 : Heap) (n0 : Nat) (v : Option Value) (h : Heap) (L : List Loc) : Prop := v = none ∧ Fr n0 L ∧ Keep h0 h [a1] ∧ Exa Z h a1 "com/example/tempe/tempe/algorithm/LocalMutex" ∧ Fld Z h a1 "com/example/tempe/tempe/algorithm/LocalMutex" "lockCalls" "I" (.int w1) ∧ Fld Z h a1 "com/example/tempe/tempe/algorithm/LocalMutex" "unlockCalled" "Z" (.int (1 : Int32))
set_option maxRecDepth 65536 in
set_option maxHeartbeats 40000000 in
theorem own_unlock (l : Launch) (Z : State) (a0 : Array Value) (hw : ∀ d ∈ tables_1, d.before a0 Z = true) (ws : List Jvm.Cond) (a1 : Addr) (w1 : Int32) (u1 : Value) (h0 : Heap) (n0 : Nat) (Z0 : n0 ≤ h0.size) (g1 : n0 ≤ a1) (E1 : Exa Z h0 a1 "com/example/tempe/tempe/algorithm/LocalMutex") (F1 : Fld Z h0 a1 "com/example/tempe/tempe/algorithm/LocalMutex" "lockCalls" "I" (.int w1)) (F2 : Fld Z h0 a1 "com/example/tempe/tempe/algorithm/LocalMutex" "unlockCalled" "Z" u1) :
    MetFree l own_m6 (head1 (Jvm.Cond.code own_m6 prog_6_method_6_code 1 none :: ws) ({ frames := 0, cells := 0, slots := 0, locals := 0 } : Room)) (fun a U => a = #[(.ref a1)] ∧ Z.Warmed39 U.vm ∧ U.heap = h0) (fun _ _ _ _ _ => True) (fun _ U o U' => ∃ v L, o = .returned v ∧ Qown_unlock Z a1 w1 u1 h0 n0 v U'.heap L ∧ FrameEnd U o U' L ({ frames := 0, cells := 0, slots := 0, locals := 0 } : Room).cells ({ frames := 0, cells := 0, slots := 0, locals := 0 } : Room).slots) := by
  refine MetFree.of_bodySF (plainFor_of_name own_pn1) hisR ?_
  intro p e s m args below meth c s₁ Bd hml0 hP hK
  obtain ⟨rfl, hZ, hh⟩ := hP
  have hx := Bd.exec
  have hby := Bd.bytes
  have hml : c.maxLocals = 1 := hml0
  have hown : s.vm.findClass "com/example/tempe/tempe/algorithm/LocalMutex" = some m.cls := by have q := findClass_of_methodNamed Bd.named; exact q
  have hnm := (name_of_methodNamed Bd.named Bd.method).1
  have X0 : Stand p l e ({ frames := 0, cells := 0, slots := 0, locals := 0 } : Room) s m #[(.ref a1)] below meth c s₁ [] 0 0 := Stand.of_body Bd
  have e0 : s₁.heap = h0 := by rw [← hh, Bd.state]; rfl
  have N0 := Fr.nil n0
  have pre0 : ∀ t, Steps p.tables e below (s₁.setTop (mkF m 0 #[.val (.ref a1)] [])) t → Steps p.tables e below (s₁.setTop (entryFrame m #[(.ref a1)] 1)) t := fun t k => castTop (by first | (simp [entryFrame, mkF, argsToLocals, Value.category, maxLocals]; done) | rfl) k
  obtain ⟨T1, h1, X1, e1, W1, st1⟩ := putFN X0 hx hZ hown (own_w82 hw) Via.refl e0 F2 E1 (Or.inl (own_w83 hw)) (own_w3 hw) (ty := .boolean) (v' := (.int (1 : Int32))) (by decide) rfl (by decide) (g := (mkF m 2 #[.val (.ref a1)] [(.int (1 : Int32)), (.ref a1)])) rfl rfl (hb hby own_d7_2)
  have Z1 : n0 ≤ h1.size := Nat.le_trans Z0 (Nat.le_of_eq W1.size.symm)
  have K1 := (Keep.refl h0 [a1]).wr W1 (Or.inl (List.mem_of_getElem? (i := 0) rfl))
  have N1 := Fr.snoc X1 N0 g1
  have Fw1 := F2.same W1
  have c2 := (E1.wr W1)
  have c3 := (F1.other W1 (Or.inr (slot_ne (Or.inl (own_w76 hw)) (Or.inl (own_w83 hw)) (by decide) (t := .int) (t' := .boolean) (by decide) (by decide))))
  obtain ⟨fs, hr, hrun, hended, hW, hsame⟩ := X1.leave (v := none) (fun _ => rfl)
  refine ⟨_, _, pre0 _ ?_, hrun, hended, _, _, rfl, ?_, ⟨_, rfl⟩, hW, hsame.mono (by decide) (by decide)⟩
  · show Steps _ _ _ (s₁.setTop (mkF m 0 #[.val (.ref a1)] [])) _
    refine XS.aloadN X0.here hx rfl (hb hby own_d7_0) rfl rfl ?_
    refine XS.iconst X0.here hx rfl (hb hby own_d7_1) ?_
    refine st1 _ ?_
    show Steps _ _ _ (T1.setTop (mkF m 5 #[.val (.ref a1)] [])) _
    exact X1.returnOut hx Bd.returns (hb hby own_d7_5) hr
  · show Qown_unlock Z a1 w1 u1 h0 n0 _ T1.heap _
    rw [e1]
    exact ⟨rfl, N1, K1, c2, c3, Fw1⟩
def Qown_law (Z : State) (p1 : Int64) (p2 p3 : Int32) (s1 s2 : Addr) (h0 : Heap) (n0 : Nat) (v : Option Value) (h : Heap) (L : List Loc) : Prop := v = some (.int (1 : Int32)) ∧ Fr n0 L
set_option maxRecDepth 65536 in
set_option maxHeartbeats 40000000 in
theorem own_law (l : Launch) (Z : State) (a0 : Array Value) (hw : ∀ d ∈ tables_1, d.before a0 Z = true) (ws : List Jvm.Cond) (p1 : Int64) (p2 p3 : Int32) (s1 s2 : Addr) (h0 : Heap) (n0 : Nat) (Z0 : n0 ≤ h0.size) (S1 : Sta Z h0 "com/example/tempe/tempe/algorithm/LocalMutex$State" "IDLE" "Lcom/example/tempe/tempe/algorithm/LocalMutex$State;" (.ref s1)) (S2 : Sta Z h0 "com/example/tempe/tempe/algorithm/LocalMutex$Phase" "IDLE" "Lcom/example/tempe/tempe/algorithm/LocalMutex$Phase;" (.ref s2)) :
    MetFree l x (head1 (Jvm.Cond.code x code maxLocals ret :: ws) room_1) (fun a U => a = #[(.long p1), (.int p2), (.int p3)] ∧ Z.Warmed39 U.vm ∧ U.heap = h0) (fun _ _ _ _ _ => True) (fun _ U o U' => ∃ v L, o = .returned v ∧ Qown_law Z p1 p2 p3 s1 s2 h0 n0 v U'.heap L ∧ FrameEnd U o U' L room_1.cells room_1.slots) := by
  refine MetFree.of_bodySF (plainFor_of_name own_pn2) hisR ?_
  intro p e s m args below meth c s₁ Bd hml0 hP hK
  obtain ⟨rfl, hZ, hh⟩ := hP
  have hx := Bd.exec
  have hby := Bd.bytes
  have hml : c.maxLocals = 9 := hml0
  have hown : s.vm.findClass "com/example/tempe/tempe/algorithm/LocalMutexLockPendingPinLaw" = some m.cls := by have q := findClass_of_methodNamed Bd.named; exact q
  have hnm := (name_of_methodNamed Bd.named Bd.method).1
  have X0 : Stand p l e room_1 s m #[(.long p1), (.int p2), (.int p3)] below meth c s₁ [] 0 0 := Stand.of_body Bd
  have e0 : s₁.heap = h0 := by rw [← hh, Bd.state]; rfl
  have N0 := Fr.nil n0
  have pre0 : ∀ t, Steps p.tables e below (s₁.setTop (mkF m 0 #[.val (.long p1), .second, .val (.int p2), .val (.int p3), .unset, .unset, .unset, .unset, .unset] [])) t → Steps p.tables e below (s₁.setTop (entryFrame m #[(.long p1), (.int p2), (.int p3)] maxLocals)) t := fun t k => castTop (by first | (simp [entryFrame, mkF, argsToLocals, Value.category, maxLocals]; done) | rfl) k
  obtain ⟨T1, h1, X1, e1, E1, A1, D1, -, st1⟩ := newO X0 hx hZ hown (own_w2 hw) (own_w3 hw) (own_w4 hw) e0 (g := (mkF m 11 #[.val (.long p1), .second, .val (.int p2), .val (.int p3), .val (.long ((p1 &&& (4611686018427387903 : Int64)) + (2 : Int64))), .second, .unset, .unset, .unset] [])) rfl (hb hby at_11) (by decide) (by decide)
  obtain ⟨b1, g1⟩ : ∃ z, z = h0.size := ⟨_, rfl⟩
  rw [← g1] at A1 D1 st1
  have g_b1 : n0 ≤ b1 := Nat.le_trans Z0 (Nat.le_of_eq g1.symm)
  have sz_b1 : h0.size ≤ b1 := Nat.le_trans (Keep.refl h0 []).1 (Nat.le_of_eq g1.symm)
  have Z1 : n0 ≤ h1.size := Nat.le_trans Z0 E1.1
  have K1 := (Keep.refl h0 []).ext E1
  have F1_34 : Fld Z h1 b1 "com/example/tempe/tempe/algorithm/LocalMutex" "toLock" "Ljava/util/BitSet;" .null := D1 (Or.inr (own_w34 hw)) (ty := (.object "java/util/BitSet")) (by decide)
  have F1_36 : Fld Z h1 b1 "com/example/tempe/tempe/algorithm/LocalMutex" "replied" "Ljava/util/BitSet;" .null := D1 (Or.inr (own_w36 hw)) (ty := (.object "java/util/BitSet")) (by decide)
  have F1_38 : Fld Z h1 b1 "com/example/tempe/tempe/algorithm/LocalMutex" "outcomes" "Ljava/util/BitSet;" .null := D1 (Or.inr (own_w38 hw)) (ty := (.object "java/util/BitSet")) (by decide)
  have F1_40 : Fld Z h1 b1 "com/example/tempe/tempe/algorithm/LocalMutex" "refusals" "Ljava/util/BitSet;" .null := D1 (Or.inr (own_w40 hw)) (ty := (.object "java/util/BitSet")) (by decide)
  have F1_42 : Fld Z h1 b1 "com/example/tempe/tempe/algorithm/LocalMutex" "onHold" "Ljava/util/BitSet;" .null := D1 (Or.inr (own_w42 hw)) (ty := (.object "java/util/BitSet")) (by decide)
  have F1_44 : Fld Z h1 b1 "com/example/tempe/tempe/algorithm/LocalMutex" "applicants" "Ljava/util/BitSet;" .null := D1 (Or.inr (own_w44 hw)) (ty := (.object "java/util/BitSet")) (by decide)
  have F1_46 : Fld Z h1 b1 "com/example/tempe/tempe/algorithm/LocalMutex" "candidates" "Ljava/util/BitSet;" .null := D1 (Or.inr (own_w46 hw)) (ty := (.object "java/util/BitSet")) (by decide)
  have F1_48 : Fld Z h1 b1 "com/example/tempe/tempe/algorithm/LocalMutex" "bidders" "Ljava/util/BitSet;" .null := D1 (Or.inr (own_w48 hw)) (ty := (.object "java/util/BitSet")) (by decide)
  have F1_52 : Fld Z h1 b1 "com/example/tempe/tempe/algorithm/LocalMutex" "sets" "[Ljava/util/BitSet;" .null := D1 (Or.inr (own_w52 hw)) (ty := (.array (.object "java/util/BitSet"))) (by decide)
  have F1_54 : Fld Z h1 b1 "com/example/tempe/tempe/algorithm/LocalMutex" "bids" "[J" .null := D1 (Or.inl (own_w54 hw)) (ty := (.array .long)) (by decide)
  have F1_56 : Fld Z h1 b1 "com/example/tempe/tempe/algorithm/LocalMutex" "lock" "I" (.int (0 : Int32)) := D1 (Or.inl (own_w56 hw)) (ty := .int) (by decide)
  have F1_61 : Fld Z h1 b1 "com/example/tempe/tempe/algorithm/LocalMutex" "state" "Lcom/example/tempe/tempe/algorithm/LocalMutex$State;" .null := D1 (Or.inl (own_w61 hw)) (ty := (.object "com/example/tempe/tempe/algorithm/LocalMutex$State")) (by decide)
  have F1_66 : Fld Z h1 b1 "com/example/tempe/tempe/algorithm/LocalMutex" "phase" "Lcom/example/tempe/tempe/algorithm/LocalMutex$Phase;" .null := D1 (Or.inl (own_w66 hw)) (ty := (.object "com/example/tempe/tempe/algorithm/LocalMutex$Phase")) (by decide)
  have F1_69 : Fld Z h1 b1 "com/example/tempe/tempe/algorithm/LocalMutex" "priorities" "J" (.long (0 : Int64)) := D1 (Or.inr (own_w69 hw)) (ty := .long) (by decide)
  have F1_76 : Fld Z h1 b1 "com/example/tempe/tempe/algorithm/LocalMutex" "lockCalls" "I" (.int (0 : Int32)) := D1 (Or.inl (own_w76 hw)) (ty := .int) (by decide)
  have F1_83 : Fld Z h1 b1 "com/example/tempe/tempe/algorithm/LocalMutex" "unlockCalled" "Z" (.int (0 : Int32)) := D1 (Or.inl (own_w83 hw)) (ty := .boolean) (by decide)
  have c2 := (S1.ext E1)
  have c3 := (S2.ext E1)
  obtain ⟨_, _, ⟨T4, L4, k4, n4⟩, -, X4, ⟨Lc4, hQ4, l4, y4, z4⟩, st4⟩ := X1.specialBack hx (y := own_m3) rfl hown (mvT hZ (own_w5 hw)) (mvT hZ (own_w6 hw)) (mvT hZ (own_w7 hw)) (by decide) (backOf (W := 1) (own_mi l Z a0 hw [] b1 ((p1 &&& (4611686018427387903 : Int64)) + (2 : Int64)) s1 s2 h1 n0 Z1 (own_two p1) g_b1 A1 c2 c3 F1_34 F1_36 F1_38 F1_40 F1_42 F1_44 F1_46 F1_48 F1_52 F1_54 F1_56 F1_61 F1_66 F1_69 F1_76 F1_83) hZ (own_w7 hw) (own_w4 hw) (by decide) (by decide)) (g := (mkF m 17 #[.val (.long p1), .second, .val (.int p2), .val (.int p3), .val (.long ((p1 &&& (4611686018427387903 : Int64)) + (2 : Int64))), .second, .unset, .unset, .unset] [(.long ((p1 &&& (4611686018427387903 : Int64)) + (2 : Int64))), (.ref b1), (.ref b1)])) rfl (by rw [hml]; rfl) (Steps.refl _) (a := b1) (argsL := [(.long ((p1 &&& (4611686018427387903 : Int64)) + (2 : Int64)))]) (rest := [(.ref b1)]) (lenOf own_pd3 rfl) rfl (by show 2 * 0 + _ ≤ _; exact Nat.le_of_eq rfl) (hb hby at_17) (fun _ _ => ⟨rfl, e1, (by decide : 1 + 18 ≤ _), (by decide : 16 + 47 ≤ _)⟩)
  dsimp only [Pt.U, Pt.locs, Pt.cells, Pt.slots] at X4 l4 y4 z4 st4 hQ4
  subst l4 y4 z4
  obtain ⟨rfl, N4q, Kq4, Eq4, Lq4, Uq4⟩ := hQ4
  have N4 := Fr.app N0 N4q
  have Z4 : n0 ≤ T4.heap.size := Nat.le_trans Z1 Kq4.1
  have K4 := K1.trans Kq4 (allS (P := fun x => x ∈ ([] : List Addr) ∨ h0.size ≤ x) (Or.inr sz_b1) all0)
  obtain ⟨cq5, kq5, q5a, q5b, q5c⟩ := isOf hZ rfl Eq4
  obtain ⟨_, _, ⟨T5, L5, k5, n5⟩, -, X5, ⟨Lc5, hQ5, l5, y5, z5⟩, st5⟩ := X4.virtualBack hx (y := own_m4) (z := own_m4) hown (mvT hZ (own_w70 hw)) (mvT hZ (own_w71 hw)) (notFace_of_selects (args := #[]) (mvT hZ (own_w73 hw))) (mvT hZ (own_w73 hw)) (mvT hZ (own_w72 hw)) (by decide) (backOf (W := 0) (own_lp0 l Z a0 hw [] b1 T4.heap n0 Z4 Lq4) hZ (own_w74 hw) (own_w4 hw) (by decide) (by decide)) q5a q5c (g := (mkF m 24 #[.val (.long p1), .second, .val (.int p2), .val (.int p3), .val (.long ((p1 &&& (4611686018427387903 : Int64)) + (2 : Int64))), .second, .val (.ref b1), .unset, .unset] [(.ref b1)])) rfl (by rw [hml]; rfl) (Steps.refl _) (argsL := []) (rest := []) (lenOf own_pd4 rfl) rfl (by show 2 * 0 + _ ≤ _; exact Nat.le_of_eq rfl) (hb hby at_24) (fun _ _ => ⟨rfl, rfl, (by decide : 19 + 0 ≤ _), (by decide : 63 + 0 ≤ _)⟩)
  dsimp only [Pt.U, Pt.locs, Pt.cells, Pt.slots] at X5 l5 y5 z5 st5 hQ5
  subst l5 y5 z5
  obtain ⟨rfl, N5q, e5⟩ := hQ5
  have N5 := Fr.app N4 N5q
  have pre6 : ∀ t, Steps p.tables e below (T5.setTop (mkF m 42 #[.val (.long p1), .second, .val (.int p2), .val (.int p3), .val (.long ((p1 &&& (4611686018427387903 : Int64)) + (2 : Int64))), .second, .val (.ref b1), .val (.int (1 : Int32)), .val (.int (p2 &&& (3 : Int32)))] [])) t → Steps p.tables e below (s₁.setTop (entryFrame m #[(.long p1), (.int p2), (.int p3)] maxLocals)) t := fun t kt => pre0 t (by
    show Steps _ _ _ (s₁.setTop (mkF m 0 #[.val (.long p1), .second, .val (.int p2), .val (.int p3), .unset, .unset, .unset, .unset, .unset] [])) _
    refine XS.lloadN X0.here hx rfl (hb hby at_0) rfl ?_
    refine X0.ldc2Long hx hown (mvT hZ (own_w0 hw)) (g := (mkF m 1 #[.val (.long p1), .second, .val (.int p2), .val (.int p3), .unset, .unset, .unset, .unset, .unset] [(.long p1)])) rfl (hb hby at_1) _ ?_
    refine XS.land X0.here hx rfl (hb hby at_4) rfl ?_
    refine X0.ldc2Long hx hown (mvT hZ (own_w1 hw)) (g := (mkF m 5 #[.val (.long p1), .second, .val (.int p2), .val (.int p3), .unset, .unset, .unset, .unset, .unset] [(.long (p1 &&& (4611686018427387903 : Int64)))])) rfl (hb hby at_5) _ ?_
    show Steps _ _ _ (s₁.setTop (mkF m 8 #[.val (.long p1), .second, .val (.int p2), .val (.int p3), .unset, .unset, .unset, .unset, .unset] [(.long (2 : Int64)), (.long (p1 &&& (4611686018427387903 : Int64)))])) _
    refine XS.ladd X0.here hx rfl (hb hby at_8) rfl ?_
    refine XS.lstore X0.here hx rfl (hb hby at_9) rfl (l' := #[.val (.long p1), .second, .val (.int p2), .val (.int p3), .val (.long ((p1 &&& (4611686018427387903 : Int64)) + (2 : Int64))), .second, .unset, .unset, .unset]) rfl ?_
    refine st1 _ ?_
    refine XS.dup X1.here hx rfl (hb hby at_14) rfl rfl ?_
    show Steps _ _ _ (T1.setTop (mkF m 15 #[.val (.long p1), .second, .val (.int p2), .val (.int p3), .val (.long ((p1 &&& (4611686018427387903 : Int64)) + (2 : Int64))), .second, .unset, .unset, .unset] [(.ref b1), (.ref b1)])) _
    refine XS.lload X1.here hx rfl (hb hby at_15) rfl ?_
    refine st4.trans ?_
    refine XS.astore X4.here hx rfl (hb hby at_20) rfl rfl (l' := #[.val (.long p1), .second, .val (.int p2), .val (.int p3), .val (.long ((p1 &&& (4611686018427387903 : Int64)) + (2 : Int64))), .second, .val (.ref b1), .unset, .unset]) rfl ?_
    refine XS.aload X4.here hx rfl (hb hby at_22) rfl rfl ?_
    show Steps _ _ _ (T4.setTop (mkF m 24 #[.val (.long p1), .second, .val (.int p2), .val (.int p3), .val (.long ((p1 &&& (4611686018427387903 : Int64)) + (2 : Int64))), .second, .val (.ref b1), .unset, .unset] [(.ref b1)])) _
    refine st5.trans ?_
    refine XS.ifNo X5.here hx rfl (hb hby at_27) rfl ((if0 _ _).trans (teq (by decide : (0 : Int32) = (0 : Int32))).2) ?_
    refine XS.iconst X5.here hx rfl (hb hby at_30) ?_
    refine XS.goto X5.here hx rfl (pc0 := 31) (pc' := 35) rfl (hb hby at_31) (by decide) (by decide) ?_
    show Steps _ _ _ (T5.setTop (mkF m 35 #[.val (.long p1), .second, .val (.int p2), .val (.int p3), .val (.long ((p1 &&& (4611686018427387903 : Int64)) + (2 : Int64))), .second, .val (.ref b1), .unset, .unset] [(.int (1 : Int32))])) _
    refine XS.istore X5.here hx rfl (hb hby at_35) rfl (l' := #[.val (.long p1), .second, .val (.int p2), .val (.int p3), .val (.long ((p1 &&& (4611686018427387903 : Int64)) + (2 : Int64))), .second, .val (.ref b1), .val (.int (1 : Int32)), .unset]) rfl ?_
    refine XS.iloadN X5.here hx rfl (hb hby at_37) rfl ?_
    refine XS.iconst X5.here hx rfl (hb hby at_38) ?_
    refine XS.iand X5.here hx rfl (hb hby at_39) rfl ?_
    show Steps _ _ _ (T5.setTop (mkF m 40 #[.val (.long p1), .second, .val (.int p2), .val (.int p3), .val (.long ((p1 &&& (4611686018427387903 : Int64)) + (2 : Int64))), .second, .val (.ref b1), .val (.int (1 : Int32)), .unset] [(.int (p2 &&& (3 : Int32)))])) _
    refine XS.istore X5.here hx rfl (hb hby at_40) rfl (l' := #[.val (.long p1), .second, .val (.int p2), .val (.int p3), .val (.long ((p1 &&& (4611686018427387903 : Int64)) + (2 : Int64))), .second, .val (.ref b1), .val (.int (1 : Int32)), .val (.int (p2 &&& (3 : Int32)))]) rfl ?_
    exact kt)
  rcases own_and3 p2 with hs7 | hs7 | hs7 | hs7
  · skip
    rw [hs7] at pre6
    have pre8 : ∀ t, Steps p.tables e below (T5.setTop (mkF m 45 #[.val (.long p1), .second, .val (.int p2), .val (.int p3), .val (.long ((p1 &&& (4611686018427387903 : Int64)) + (2 : Int64))), .second, .val (.ref b1), .val (.int (1 : Int32)), .val (.int (0 : Int32))] [(.int (p3 &&& (1 : Int32)))])) t → Steps p.tables e below (s₁.setTop (entryFrame m #[(.long p1), (.int p2), (.int p3)] maxLocals)) t := fun t kt => pre6 t (by
      show Steps _ _ _ (T5.setTop (mkF m 42 #[.val (.long p1), .second, .val (.int p2), .val (.int p3), .val (.long ((p1 &&& (4611686018427387903 : Int64)) + (2 : Int64))), .second, .val (.ref b1), .val (.int (1 : Int32)), .val (.int (0 : Int32))] [])) _
      refine XS.iloadN X5.here hx rfl (hb hby at_42) rfl ?_
      refine XS.iconst X5.here hx rfl (hb hby at_43) ?_
      refine XS.iand X5.here hx rfl (hb hby at_44) rfl ?_
      exact kt)
    by_cases hc45_9 : (p3 &&& (1 : Int32)) = (0 : Int32)
    · skip
      have ihc45_9 := (own_eq (b := (0 : Int32)) (k := 0) rfl).mp hc45_9
      have pre10 : ∀ t, Steps p.tables e below (T5.setTop (mkF m 67 #[.val (.long p1), .second, .val (.int p2), .val (.int p3), .val (.long ((p1 &&& (4611686018427387903 : Int64)) + (2 : Int64))), .second, .val (.ref b1), .val (.int (1 : Int32)), .val (.int (0 : Int32))] [(.int (p3 &&& (2 : Int32)))])) t → Steps p.tables e below (s₁.setTop (entryFrame m #[(.long p1), (.int p2), (.int p3)] maxLocals)) t := fun t kt => pre8 t (by
        show Steps _ _ _ (T5.setTop (mkF m 45 #[.val (.long p1), .second, .val (.int p2), .val (.int p3), .val (.long ((p1 &&& (4611686018427387903 : Int64)) + (2 : Int64))), .second, .val (.ref b1), .val (.int (1 : Int32)), .val (.int (0 : Int32))] [(.int (p3 &&& (1 : Int32)))])) _
        refine XS.ifYes X5.here hx rfl (pc0 := 45) (pc' := 53) rfl (hb hby at_45) rfl ((if0 _ _).trans (teq hc45_9).1) (by decide) (by decide) ?_
        refine XS.iload X5.here hx rfl (hb hby at_53) rfl ?_
        refine XS.iconst X5.here hx rfl (hb hby at_55) ?_
        refine XS.icmpYes X5.here hx rfl (pc0 := 56) (pc' := 64) rfl (hb hby at_56) rfl (tlt (by decide : (0 : Int32) < (1 : Int32))).1 (by decide) (by decide) ?_
        show Steps _ _ _ (T5.setTop (mkF m 64 #[.val (.long p1), .second, .val (.int p2), .val (.int p3), .val (.long ((p1 &&& (4611686018427387903 : Int64)) + (2 : Int64))), .second, .val (.ref b1), .val (.int (1 : Int32)), .val (.int (0 : Int32))] [])) _
        refine XS.iloadN X5.here hx rfl (hb hby at_64) rfl ?_
        refine XS.iconst X5.here hx rfl (hb hby at_65) ?_
        refine XS.iand X5.here hx rfl (hb hby at_66) rfl ?_
        exact kt)
      by_cases hc67_11 : (p3 &&& (2 : Int32)) = (0 : Int32)
      · skip
        have ihc67_11 := (own_eq (b := (0 : Int32)) (k := 0) rfl).mp hc67_11
        obtain ⟨cq12, kq12, q12a, q12b, q12c⟩ := isOf hZ e5 Eq4
        obtain ⟨_, _, ⟨T12, L12, k12, n12⟩, -, X12, ⟨Lc12, hQ12, l12, y12, z12⟩, st12⟩ := X5.virtualBack hx (y := own_m4) (z := own_m4) hown (mvT hZ (own_w70 hw)) (mvT hZ (own_w71 hw)) (notFace_of_selects (args := #[]) (mvT hZ (own_w73 hw))) (mvT hZ (own_w73 hw)) (mvT hZ (own_w72 hw)) (by decide) (backOf (W := 0) (own_lp0 l Z a0 hw [] b1 T4.heap n0 Z4 Lq4) hZ (own_w74 hw) (own_w4 hw) (by decide) (by decide)) q12a q12c (g := (mkF m 104 #[.val (.long p1), .second, .val (.int p2), .val (.int p3), .val (.long ((p1 &&& (4611686018427387903 : Int64)) + (2 : Int64))), .second, .val (.ref b1), .val (.int (1 : Int32)), .val (.int (0 : Int32))] [(.ref b1)])) rfl (by rw [hml]; rfl) (Steps.refl _) (argsL := []) (rest := []) (lenOf own_pd4 rfl) rfl (by show 2 * 0 + _ ≤ _; exact Nat.le_of_eq rfl) (hb hby at_104) (fun _ _ => ⟨rfl, e5, (by decide : 19 + 0 ≤ _), (by decide : 63 + 0 ≤ _)⟩)
        dsimp only [Pt.U, Pt.locs, Pt.cells, Pt.slots] at X12 l12 y12 z12 st12 hQ12
        subst l12 y12 z12
        obtain ⟨rfl, N12q, e12⟩ := hQ12
        have N12 := Fr.app N5 N12q
        obtain ⟨fs, hr, hrun, hended, hW, hsame⟩ := X12.leave (v := some (.int (1 : Int32))) (fun h => by rw [Bd.returns] at h; cases h)
        refine ⟨_, _, pre10 _ ?_, hrun, hended, _, _, rfl, ?_, ⟨_, rfl⟩, hW, hsame.mono (by decide) (by decide)⟩
        · show Steps _ _ _ (T5.setTop (mkF m 67 #[.val (.long p1), .second, .val (.int p2), .val (.int p3), .val (.long ((p1 &&& (4611686018427387903 : Int64)) + (2 : Int64))), .second, .val (.ref b1), .val (.int (1 : Int32)), .val (.int (0 : Int32))] [(.int (p3 &&& (2 : Int32)))])) _
          refine XS.ifYes X5.here hx rfl (pc0 := 67) (pc' := 75) rfl (hb hby at_67) rfl ((if0 _ _).trans (teq hc67_11).1) (by decide) (by decide) ?_
          refine XS.iload X5.here hx rfl (hb hby at_75) rfl ?_
          refine XS.iconst X5.here hx rfl (hb hby at_77) ?_
          refine XS.icmpYes X5.here hx rfl (pc0 := 78) (pc' := 86) rfl (hb hby at_78) rfl (tlt (by decide : (0 : Int32) < (2 : Int32))).1 (by decide) (by decide) ?_
          show Steps _ _ _ (T5.setTop (mkF m 86 #[.val (.long p1), .second, .val (.int p2), .val (.int p3), .val (.long ((p1 &&& (4611686018427387903 : Int64)) + (2 : Int64))), .second, .val (.ref b1), .val (.int (1 : Int32)), .val (.int (0 : Int32))] [])) _
          refine XS.iload X5.here hx rfl (hb hby at_86) rfl ?_
          refine XS.iconst X5.here hx rfl (hb hby at_88) ?_
          refine XS.icmpYes X5.here hx rfl (pc0 := 89) (pc' := 97) rfl (hb hby at_89) rfl (tlt (by decide : (0 : Int32) < (3 : Int32))).1 (by decide) (by decide) ?_
          refine XS.iload X5.here hx rfl (hb hby at_97) rfl ?_
          show Steps _ _ _ (T5.setTop (mkF m 99 #[.val (.long p1), .second, .val (.int p2), .val (.int p3), .val (.long ((p1 &&& (4611686018427387903 : Int64)) + (2 : Int64))), .second, .val (.ref b1), .val (.int (1 : Int32)), .val (.int (0 : Int32))] [(.int (1 : Int32))])) _
          refine XS.ifNo X5.here hx rfl (hb hby at_99) rfl ((if0 _ _).trans (feq (by decide : ¬ ((1 : Int32) = (0 : Int32)))).1) ?_
          refine XS.aload X5.here hx rfl (hb hby at_102) rfl rfl ?_
          refine st12.trans ?_
          refine XS.iload X12.here hx rfl (hb hby at_107) rfl ?_
          show Steps _ _ _ (T12.setTop (mkF m 109 #[.val (.long p1), .second, .val (.int p2), .val (.int p3), .val (.long ((p1 &&& (4611686018427387903 : Int64)) + (2 : Int64))), .second, .val (.ref b1), .val (.int (1 : Int32)), .val (.int (0 : Int32))] [(.int (0 : Int32)), (.int (0 : Int32))])) _
          refine XS.ifYes X12.here hx rfl (pc0 := 109) (pc' := 116) rfl (hb hby at_109) rfl ((if0 _ _).trans (flt (by decide : ¬ ((0 : Int32) < (0 : Int32)))).2.2.2) (by decide) (by decide) ?_
          refine XS.iconst X12.here hx rfl (hb hby at_116) ?_
          refine XS.icmpNo X12.here hx rfl (hb hby at_117) rfl (teq (by decide : (0 : Int32) = (0 : Int32))).2 ?_
          refine XS.iconst X12.here hx rfl (hb hby at_120) ?_
          show Steps _ _ _ (T12.setTop (mkF m 121 #[.val (.long p1), .second, .val (.int p2), .val (.int p3), .val (.long ((p1 &&& (4611686018427387903 : Int64)) + (2 : Int64))), .second, .val (.ref b1), .val (.int (1 : Int32)), .val (.int (0 : Int32))] [(.int (1 : Int32))])) _
          refine XS.goto X12.here hx rfl (pc0 := 121) (pc' := 125) rfl (hb hby at_121) (by decide) (by decide) ?_
          show Steps _ _ _ (T12.setTop (mkF m 125 #[.val (.long p1), .second, .val (.int p2), .val (.int p3), .val (.long ((p1 &&& (4611686018427387903 : Int64)) + (2 : Int64))), .second, .val (.ref b1), .val (.int (1 : Int32)), .val (.int (0 : Int32))] [(.int (1 : Int32))])) _
          exact retN X12 hx (t := .boolean) Bd.returns (by simp) (hb hby at_125) hr
        · show Qown_law Z p1 p2 p3 s1 s2 h0 n0 _ T12.heap _
          rw [e12]
          exact ⟨rfl, N12⟩
      · skip
        have ihc67_11 := (mt (own_eq (b := (0 : Int32)) (k := 0) rfl).mpr hc67_11)
        obtain ⟨cq13, kq13, q13a, q13b, q13c⟩ := isOf hZ e5 Eq4
        obtain ⟨_, _, ⟨T13, L13, k13, n13⟩, -, X13, ⟨Lc13, hQ13, l13, y13, z13⟩, st13⟩ := X5.virtualBack hx (y := own_m6) (z := own_m6) hown (mvT hZ (own_w77 hw)) (mvT hZ (own_w78 hw)) (notFace_of_selects (args := #[]) (mvT hZ (own_w80 hw))) (mvT hZ (own_w80 hw)) (mvT hZ (own_w79 hw)) (by decide) (backOf (W := 0) (own_unlock l Z a0 hw [] b1 (0 : Int32) (.int (0 : Int32)) T4.heap n0 Z4 g_b1 Eq4 Lq4 Uq4) hZ (own_w81 hw) (own_w4 hw) (by decide) (by decide)) q13a q13c (g := (mkF m 72 #[.val (.long p1), .second, .val (.int p2), .val (.int p3), .val (.long ((p1 &&& (4611686018427387903 : Int64)) + (2 : Int64))), .second, .val (.ref b1), .val (.int (1 : Int32)), .val (.int (0 : Int32))] [(.ref b1)])) rfl (by rw [hml]; rfl) (Steps.refl _) (argsL := []) (rest := []) (lenOf own_pd2 rfl) rfl (by show 2 * 0 + _ ≤ _; exact Nat.le_of_eq rfl) (hb hby at_72) (fun _ _ => ⟨rfl, e5, (by decide : 19 + 0 ≤ _), (by decide : 63 + 0 ≤ _)⟩)
        dsimp only [Pt.U, Pt.locs, Pt.cells, Pt.slots] at X13 l13 y13 z13 st13 hQ13
        subst l13 y13 z13
        obtain ⟨rfl, N13q, Kq13, Eq13, Lq13, Uq13⟩ := hQ13
        have N13 := Fr.app N5 N13q
        have Z13 : n0 ≤ T13.heap.size := Nat.le_trans Z4 Kq13.1
        have K13 := K4.trans Kq13 (allS (P := fun x => x ∈ ([] : List Addr) ∨ h0.size ≤ x) (Or.inr sz_b1) all0)
        have Lr13 : Fld Z T13.heap b1 "com/example/tempe/tempe/algorithm/LocalMutex" "lockCalls" "I" (.int (0 : Int32)) := Lq13
        obtain ⟨cq14, kq14, q14a, q14b, q14c⟩ := isOf hZ rfl Eq13
        obtain ⟨_, _, ⟨T14, L14, k14, n14⟩, -, X14, ⟨Lc14, hQ14, l14, y14, z14⟩, st14⟩ := X13.virtualBack hx (y := own_m4) (z := own_m4) hown (mvT hZ (own_w70 hw)) (mvT hZ (own_w71 hw)) (notFace_of_selects (args := #[]) (mvT hZ (own_w73 hw))) (mvT hZ (own_w73 hw)) (mvT hZ (own_w72 hw)) (by decide) (backOf (W := 0) (own_lp0 l Z a0 hw [] b1 T13.heap n0 Z13 Lr13) hZ (own_w74 hw) (own_w4 hw) (by decide) (by decide)) q14a q14c (g := (mkF m 104 #[.val (.long p1), .second, .val (.int p2), .val (.int p3), .val (.long ((p1 &&& (4611686018427387903 : Int64)) + (2 : Int64))), .second, .val (.ref b1), .val (.int (1 : Int32)), .val (.int (0 : Int32))] [(.ref b1)])) rfl (by rw [hml]; rfl) (Steps.refl _) (argsL := []) (rest := []) (lenOf own_pd4 rfl) rfl (by show 2 * 0 + _ ≤ _; exact Nat.le_of_eq rfl) (hb hby at_104) (fun _ _ => ⟨rfl, rfl, (by decide : 19 + 0 ≤ _), (by decide : 63 + 0 ≤ _)⟩)
        dsimp only [Pt.U, Pt.locs, Pt.cells, Pt.slots] at X14 l14 y14 z14 st14 hQ14
        subst l14 y14 z14
        obtain ⟨rfl, N14q, e14⟩ := hQ14
        have N14 := Fr.app N13 N14q
        obtain ⟨fs, hr, hrun, hended, hW, hsame⟩ := X14.leave (v := some (.int (1 : Int32))) (fun h => by rw [Bd.returns] at h; cases h)
        refine ⟨_, _, pre10 _ ?_, hrun, hended, _, _, rfl, ?_, ⟨_, rfl⟩, hW, hsame.mono (by decide) (by decide)⟩
        · show Steps _ _ _ (T5.setTop (mkF m 67 #[.val (.long p1), .second, .val (.int p2), .val (.int p3), .val (.long ((p1 &&& (4611686018427387903 : Int64)) + (2 : Int64))), .second, .val (.ref b1), .val (.int (1 : Int32)), .val (.int (0 : Int32))] [(.int (p3 &&& (2 : Int32)))])) _
          refine XS.ifNo X5.here hx rfl (hb hby at_67) rfl ((if0 _ _).trans (feq hc67_11).1) ?_
          refine XS.aload X5.here hx rfl (hb hby at_70) rfl rfl ?_
          refine st13.trans ?_
          refine XS.iload X13.here hx rfl (hb hby at_75) rfl ?_
          show Steps _ _ _ (T13.setTop (mkF m 77 #[.val (.long p1), .second, .val (.int p2), .val (.int p3), .val (.long ((p1 &&& (4611686018427387903 : Int64)) + (2 : Int64))), .second, .val (.ref b1), .val (.int (1 : Int32)), .val (.int (0 : Int32))] [(.int (0 : Int32))])) _
          refine XS.iconst X13.here hx rfl (hb hby at_77) ?_
          refine XS.icmpYes X13.here hx rfl (pc0 := 78) (pc' := 86) rfl (hb hby at_78) rfl (tlt (by decide : (0 : Int32) < (2 : Int32))).1 (by decide) (by decide) ?_
          refine XS.iload X13.here hx rfl (hb hby at_86) rfl ?_
          refine XS.iconst X13.here hx rfl (hb hby at_88) ?_
          show Steps _ _ _ (T13.setTop (mkF m 89 #[.val (.long p1), .second, .val (.int p2), .val (.int p3), .val (.long ((p1 &&& (4611686018427387903 : Int64)) + (2 : Int64))), .second, .val (.ref b1), .val (.int (1 : Int32)), .val (.int (0 : Int32))] [(.int (3 : Int32)), (.int (0 : Int32))])) _
          refine XS.icmpYes X13.here hx rfl (pc0 := 89) (pc' := 97) rfl (hb hby at_89) rfl (tlt (by decide : (0 : Int32) < (3 : Int32))).1 (by decide) (by decide) ?_
          refine XS.iload X13.here hx rfl (hb hby at_97) rfl ?_
          refine XS.ifNo X13.here hx rfl (hb hby at_99) rfl ((if0 _ _).trans (feq (by decide : ¬ ((1 : Int32) = (0 : Int32)))).1) ?_
          refine XS.aload X13.here hx rfl (hb hby at_102) rfl rfl ?_
          show Steps _ _ _ (T13.setTop (mkF m 104 #[.val (.long p1), .second, .val (.int p2), .val (.int p3), .val (.long ((p1 &&& (4611686018427387903 : Int64)) + (2 : Int64))), .second, .val (.ref b1), .val (.int (1 : Int32)), .val (.int (0 : Int32))] [(.ref b1)])) _
          refine st14.trans ?_
          refine XS.iload X14.here hx rfl (hb hby at_107) rfl ?_
          refine XS.ifYes X14.here hx rfl (pc0 := 109) (pc' := 116) rfl (hb hby at_109) rfl ((if0 _ _).trans (flt (by decide : ¬ ((0 : Int32) < (0 : Int32)))).2.2.2) (by decide) (by decide) ?_
          refine XS.iconst X14.here hx rfl (hb hby at_116) ?_
          show Steps _ _ _ (T14.setTop (mkF m 117 #[.val (.long p1), .second, .val (.int p2), .val (.int p3), .val (.long ((p1 &&& (4611686018427387903 : Int64)) + (2 : Int64))), .second, .val (.ref b1), .val (.int (1 : Int32)), .val (.int (0 : Int32))] [(.int (0 : Int32)), (.int (0 : Int32))])) _
          refine XS.icmpNo X14.here hx rfl (hb hby at_117) rfl (teq (by decide : (0 : Int32) = (0 : Int32))).2 ?_
          refine XS.iconst X14.here hx rfl (hb hby at_120) ?_
          refine XS.goto X14.here hx rfl (pc0 := 121) (pc' := 125) rfl (hb hby at_121) (by decide) (by decide) ?_
          show Steps _ _ _ (T14.setTop (mkF m 125 #[.val (.long p1), .second, .val (.int p2), .val (.int p3), .val (.long ((p1 &&& (4611686018427387903 : Int64)) + (2 : Int64))), .second, .val (.ref b1), .val (.int (1 : Int32)), .val (.int (0 : Int32))] [(.int (1 : Int32))])) _
          exact retN X14 hx (t := .boolean) Bd.returns (by simp) (hb hby at_125) hr
        · show Qown_law Z p1 p2 p3 s1 s2 h0 n0 _ T14.heap _
          rw [e14]
          exact ⟨rfl, N14⟩
    · skip
      have ihc45_9 := (mt (own_eq (b := (0 : Int32)) (k := 0) rfl).mpr hc45_9)
      obtain ⟨cq15, kq15, q15a, q15b, q15c⟩ := isOf hZ e5 Eq4
      obtain ⟨_, _, ⟨T15, L15, k15, n15⟩, -, X15, ⟨Lc15, hQ15, l15, y15, z15⟩, st15⟩ := X5.virtualBack hx (y := own_m6) (z := own_m6) hown (mvT hZ (own_w77 hw)) (mvT hZ (own_w78 hw)) (notFace_of_selects (args := #[]) (mvT hZ (own_w80 hw))) (mvT hZ (own_w80 hw)) (mvT hZ (own_w79 hw)) (by decide) (backOf (W := 0) (own_unlock l Z a0 hw [] b1 (0 : Int32) (.int (0 : Int32)) T4.heap n0 Z4 g_b1 Eq4 Lq4 Uq4) hZ (own_w81 hw) (own_w4 hw) (by decide) (by decide)) q15a q15c (g := (mkF m 50 #[.val (.long p1), .second, .val (.int p2), .val (.int p3), .val (.long ((p1 &&& (4611686018427387903 : Int64)) + (2 : Int64))), .second, .val (.ref b1), .val (.int (1 : Int32)), .val (.int (0 : Int32))] [(.ref b1)])) rfl (by rw [hml]; rfl) (Steps.refl _) (argsL := []) (rest := []) (lenOf own_pd2 rfl) rfl (by show 2 * 0 + _ ≤ _; exact Nat.le_of_eq rfl) (hb hby at_50) (fun _ _ => ⟨rfl, e5, (by decide : 19 + 0 ≤ _), (by decide : 63 + 0 ≤ _)⟩)
      dsimp only [Pt.U, Pt.locs, Pt.cells, Pt.slots] at X15 l15 y15 z15 st15 hQ15
      subst l15 y15 z15
      obtain ⟨rfl, N15q, Kq15, Eq15, Lq15, Uq15⟩ := hQ15
      have N15 := Fr.app N5 N15q
      have Z15 : n0 ≤ T15.heap.size := Nat.le_trans Z4 Kq15.1
      have K15 := K4.trans Kq15 (allS (P := fun x => x ∈ ([] : List Addr) ∨ h0.size ≤ x) (Or.inr sz_b1) all0)
      have Lr15 : Fld Z T15.heap b1 "com/example/tempe/tempe/algorithm/LocalMutex" "lockCalls" "I" (.int (0 : Int32)) := Lq15
      have pre16 : ∀ t, Steps p.tables e below (T15.setTop (mkF m 67 #[.val (.long p1), .second, .val (.int p2), .val (.int p3), .val (.long ((p1 &&& (4611686018427387903 : Int64)) + (2 : Int64))), .second, .val (.ref b1), .val (.int (1 : Int32)), .val (.int (0 : Int32))] [(.int (p3 &&& (2 : Int32)))])) t → Steps p.tables e below (s₁.setTop (entryFrame m #[(.long p1), (.int p2), (.int p3)] maxLocals)) t := fun t kt => pre8 t (by
        show Steps _ _ _ (T5.setTop (mkF m 45 #[.val (.long p1), .second, .val (.int p2), .val (.int p3), .val (.long ((p1 &&& (4611686018427387903 : Int64)) + (2 : Int64))), .second, .val (.ref b1), .val (.int (1 : Int32)), .val (.int (0 : Int32))] [(.int (p3 &&& (1 : Int32)))])) _
        refine XS.ifNo X5.here hx rfl (hb hby at_45) rfl ((if0 _ _).trans (feq hc45_9).1) ?_
        refine XS.aload X5.here hx rfl (hb hby at_48) rfl rfl ?_
        refine st15.trans ?_
        refine XS.iload X15.here hx rfl (hb hby at_53) rfl ?_
        show Steps _ _ _ (T15.setTop (mkF m 55 #[.val (.long p1), .second, .val (.int p2), .val (.int p3), .val (.long ((p1 &&& (4611686018427387903 : Int64)) + (2 : Int64))), .second, .val (.ref b1), .val (.int (1 : Int32)), .val (.int (0 : Int32))] [(.int (0 : Int32))])) _
        refine XS.iconst X15.here hx rfl (hb hby at_55) ?_
        refine XS.icmpYes X15.here hx rfl (pc0 := 56) (pc' := 64) rfl (hb hby at_56) rfl (tlt (by decide : (0 : Int32) < (1 : Int32))).1 (by decide) (by decide) ?_
        refine XS.iloadN X15.here hx rfl (hb hby at_64) rfl ?_
        refine XS.iconst X15.here hx rfl (hb hby at_65) ?_
        show Steps _ _ _ (T15.setTop (mkF m 66 #[.val (.long p1), .second, .val (.int p2), .val (.int p3), .val (.long ((p1 &&& (4611686018427387903 : Int64)) + (2 : Int64))), .second, .val (.ref b1), .val (.int (1 : Int32)), .val (.int (0 : Int32))] [(.int (2 : Int32)), (.int p3)])) _
        refine XS.iand X15.here hx rfl (hb hby at_66) rfl ?_
        exact kt)
      by_cases hc67_17 : (p3 &&& (2 : Int32)) = (0 : Int32)
      · skip
        have ihc67_17 := (own_eq (b := (0 : Int32)) (k := 0) rfl).mp hc67_17
        obtain ⟨cq18, kq18, q18a, q18b, q18c⟩ := isOf hZ rfl Eq15
        obtain ⟨_, _, ⟨T18, L18, k18, n18⟩, -, X18, ⟨Lc18, hQ18, l18, y18, z18⟩, st18⟩ := X15.virtualBack hx (y := own_m4) (z := own_m4) hown (mvT hZ (own_w70 hw)) (mvT hZ (own_w71 hw)) (notFace_of_selects (args := #[]) (mvT hZ (own_w73 hw))) (mvT hZ (own_w73 hw)) (mvT hZ (own_w72 hw)) (by decide) (backOf (W := 0) (own_lp0 l Z a0 hw [] b1 T15.heap n0 Z15 Lr15) hZ (own_w74 hw) (own_w4 hw) (by decide) (by decide)) q18a q18c (g := (mkF m 104 #[.val (.long p1), .second, .val (.int p2), .val (.int p3), .val (.long ((p1 &&& (4611686018427387903 : Int64)) + (2 : Int64))), .second, .val (.ref b1), .val (.int (1 : Int32)), .val (.int (0 : Int32))] [(.ref b1)])) rfl (by rw [hml]; rfl) (Steps.refl _) (argsL := []) (rest := []) (lenOf own_pd4 rfl) rfl (by show 2 * 0 + _ ≤ _; exact Nat.le_of_eq rfl) (hb hby at_104) (fun _ _ => ⟨rfl, rfl, (by decide : 19 + 0 ≤ _), (by decide : 63 + 0 ≤ _)⟩)
        dsimp only [Pt.U, Pt.locs, Pt.cells, Pt.slots] at X18 l18 y18 z18 st18 hQ18
        subst l18 y18 z18
        obtain ⟨rfl, N18q, e18⟩ := hQ18
        have N18 := Fr.app N15 N18q
        obtain ⟨fs, hr, hrun, hended, hW, hsame⟩ := X18.leave (v := some (.int (1 : Int32))) (fun h => by rw [Bd.returns] at h; cases h)
        refine ⟨_, _, pre16 _ ?_, hrun, hended, _, _, rfl, ?_, ⟨_, rfl⟩, hW, hsame.mono (by decide) (by decide)⟩
        · show Steps _ _ _ (T15.setTop (mkF m 67 #[.val (.long p1), .second, .val (.int p2), .val (.int p3), .val (.long ((p1 &&& (4611686018427387903 : Int64)) + (2 : Int64))), .second, .val (.ref b1), .val (.int (1 : Int32)), .val (.int (0 : Int32))] [(.int (p3 &&& (2 : Int32)))])) _
          refine XS.ifYes X15.here hx rfl (pc0 := 67) (pc' := 75) rfl (hb hby at_67) rfl ((if0 _ _).trans (teq hc67_17).1) (by decide) (by decide) ?_
          refine XS.iload X15.here hx rfl (hb hby at_75) rfl ?_
          refine XS.iconst X15.here hx rfl (hb hby at_77) ?_
          refine XS.icmpYes X15.here hx rfl (pc0 := 78) (pc' := 86) rfl (hb hby at_78) rfl (tlt (by decide : (0 : Int32) < (2 : Int32))).1 (by decide) (by decide) ?_
          show Steps _ _ _ (T15.setTop (mkF m 86 #[.val (.long p1), .second, .val (.int p2), .val (.int p3), .val (.long ((p1 &&& (4611686018427387903 : Int64)) + (2 : Int64))), .second, .val (.ref b1), .val (.int (1 : Int32)), .val (.int (0 : Int32))] [])) _
          refine XS.iload X15.here hx rfl (hb hby at_86) rfl ?_
          refine XS.iconst X15.here hx rfl (hb hby at_88) ?_
          refine XS.icmpYes X15.here hx rfl (pc0 := 89) (pc' := 97) rfl (hb hby at_89) rfl (tlt (by decide : (0 : Int32) < (3 : Int32))).1 (by decide) (by decide) ?_
          refine XS.iload X15.here hx rfl (hb hby at_97) rfl ?_
          show Steps _ _ _ (T15.setTop (mkF m 99 #[.val (.long p1), .second, .val (.int p2), .val (.int p3), .val (.long ((p1 &&& (4611686018427387903 : Int64)) + (2 : Int64))), .second, .val (.ref b1), .val (.int (1 : Int32)), .val (.int (0 : Int32))] [(.int (1 : Int32))])) _
          refine XS.ifNo X15.here hx rfl (hb hby at_99) rfl ((if0 _ _).trans (feq (by decide : ¬ ((1 : Int32) = (0 : Int32)))).1) ?_
          refine XS.aload X15.here hx rfl (hb hby at_102) rfl rfl ?_
          refine st18.trans ?_
          refine XS.iload X18.here hx rfl (hb hby at_107) rfl ?_
          show Steps _ _ _ (T18.setTop (mkF m 109 #[.val (.long p1), .second, .val (.int p2), .val (.int p3), .val (.long ((p1 &&& (4611686018427387903 : Int64)) + (2 : Int64))), .second, .val (.ref b1), .val (.int (1 : Int32)), .val (.int (0 : Int32))] [(.int (0 : Int32)), (.int (0 : Int32))])) _
          refine XS.ifYes X18.here hx rfl (pc0 := 109) (pc' := 116) rfl (hb hby at_109) rfl ((if0 _ _).trans (flt (by decide : ¬ ((0 : Int32) < (0 : Int32)))).2.2.2) (by decide) (by decide) ?_
          refine XS.iconst X18.here hx rfl (hb hby at_116) ?_
          refine XS.icmpNo X18.here hx rfl (hb hby at_117) rfl (teq (by decide : (0 : Int32) = (0 : Int32))).2 ?_
          refine XS.iconst X18.here hx rfl (hb hby at_120) ?_
          show Steps _ _ _ (T18.setTop (mkF m 121 #[.val (.long p1), .second, .val (.int p2), .val (.int p3), .val (.long ((p1 &&& (4611686018427387903 : Int64)) + (2 : Int64))), .second, .val (.ref b1), .val (.int (1 : Int32)), .val (.int (0 : Int32))] [(.int (1 : Int32))])) _
          refine XS.goto X18.here hx rfl (pc0 := 121) (pc' := 125) rfl (hb hby at_121) (by decide) (by decide) ?_
          show Steps _ _ _ (T18.setTop (mkF m 125 #[.val (.long p1), .second, .val (.int p2), .val (.int p3), .val (.long ((p1 &&& (4611686018427387903 : Int64)) + (2 : Int64))), .second, .val (.ref b1), .val (.int (1 : Int32)), .val (.int (0 : Int32))] [(.int (1 : Int32))])) _
          exact retN X18 hx (t := .boolean) Bd.returns (by simp) (hb hby at_125) hr
        · show Qown_law Z p1 p2 p3 s1 s2 h0 n0 _ T18.heap _
          rw [e18]
          exact ⟨rfl, N18⟩
      · skip
        have ihc67_17 := (mt (own_eq (b := (0 : Int32)) (k := 0) rfl).mpr hc67_17)
        obtain ⟨cq19, kq19, q19a, q19b, q19c⟩ := isOf hZ rfl Eq15
        obtain ⟨_, _, ⟨T19, L19, k19, n19⟩, -, X19, ⟨Lc19, hQ19, l19, y19, z19⟩, st19⟩ := X15.virtualBack hx (y := own_m6) (z := own_m6) hown (mvT hZ (own_w77 hw)) (mvT hZ (own_w78 hw)) (notFace_of_selects (args := #[]) (mvT hZ (own_w80 hw))) (mvT hZ (own_w80 hw)) (mvT hZ (own_w79 hw)) (by decide) (backOf (W := 0) (own_unlock l Z a0 hw [] b1 (0 : Int32) (.int (1 : Int32)) T15.heap n0 Z15 g_b1 Eq15 Lr15 Uq15) hZ (own_w81 hw) (own_w4 hw) (by decide) (by decide)) q19a q19c (g := (mkF m 72 #[.val (.long p1), .second, .val (.int p2), .val (.int p3), .val (.long ((p1 &&& (4611686018427387903 : Int64)) + (2 : Int64))), .second, .val (.ref b1), .val (.int (1 : Int32)), .val (.int (0 : Int32))] [(.ref b1)])) rfl (by rw [hml]; rfl) (Steps.refl _) (argsL := []) (rest := []) (lenOf own_pd2 rfl) rfl (by show 2 * 0 + _ ≤ _; exact Nat.le_of_eq rfl) (hb hby at_72) (fun _ _ => ⟨rfl, rfl, (by decide : 19 + 0 ≤ _), (by decide : 63 + 0 ≤ _)⟩)
        dsimp only [Pt.U, Pt.locs, Pt.cells, Pt.slots] at X19 l19 y19 z19 st19 hQ19
        subst l19 y19 z19
        obtain ⟨rfl, N19q, Kq19, Eq19, Lq19, Uq19⟩ := hQ19
        have N19 := Fr.app N15 N19q
        have Z19 : n0 ≤ T19.heap.size := Nat.le_trans Z15 Kq19.1
        have K19 := K15.trans Kq19 (allS (P := fun x => x ∈ ([] : List Addr) ∨ h0.size ≤ x) (Or.inr sz_b1) all0)
        have Lr19 : Fld Z T19.heap b1 "com/example/tempe/tempe/algorithm/LocalMutex" "lockCalls" "I" (.int (0 : Int32)) := Lq19
        obtain ⟨cq20, kq20, q20a, q20b, q20c⟩ := isOf hZ rfl Eq19
        obtain ⟨_, _, ⟨T20, L20, k20, n20⟩, -, X20, ⟨Lc20, hQ20, l20, y20, z20⟩, st20⟩ := X19.virtualBack hx (y := own_m4) (z := own_m4) hown (mvT hZ (own_w70 hw)) (mvT hZ (own_w71 hw)) (notFace_of_selects (args := #[]) (mvT hZ (own_w73 hw))) (mvT hZ (own_w73 hw)) (mvT hZ (own_w72 hw)) (by decide) (backOf (W := 0) (own_lp0 l Z a0 hw [] b1 T19.heap n0 Z19 Lr19) hZ (own_w74 hw) (own_w4 hw) (by decide) (by decide)) q20a q20c (g := (mkF m 104 #[.val (.long p1), .second, .val (.int p2), .val (.int p3), .val (.long ((p1 &&& (4611686018427387903 : Int64)) + (2 : Int64))), .second, .val (.ref b1), .val (.int (1 : Int32)), .val (.int (0 : Int32))] [(.ref b1)])) rfl (by rw [hml]; rfl) (Steps.refl _) (argsL := []) (rest := []) (lenOf own_pd4 rfl) rfl (by show 2 * 0 + _ ≤ _; exact Nat.le_of_eq rfl) (hb hby at_104) (fun _ _ => ⟨rfl, rfl, (by decide : 19 + 0 ≤ _), (by decide : 63 + 0 ≤ _)⟩)
        dsimp only [Pt.U, Pt.locs, Pt.cells, Pt.slots] at X20 l20 y20 z20 st20 hQ20
        subst l20 y20 z20
        obtain ⟨rfl, N20q, e20⟩ := hQ20
        have N20 := Fr.app N19 N20q
        obtain ⟨fs, hr, hrun, hended, hW, hsame⟩ := X20.leave (v := some (.int (1 : Int32))) (fun h => by rw [Bd.returns] at h; cases h)
        refine ⟨_, _, pre16 _ ?_, hrun, hended, _, _, rfl, ?_, ⟨_, rfl⟩, hW, hsame.mono (by decide) (by decide)⟩
        · show Steps _ _ _ (T15.setTop (mkF m 67 #[.val (.long p1), .second, .val (.int p2), .val (.int p3), .val (.long ((p1 &&& (4611686018427387903 : Int64)) + (2 : Int64))), .second, .val (.ref b1), .val (.int (1 : Int32)), .val (.int (0 : Int32))] [(.int (p3 &&& (2 : Int32)))])) _
          refine XS.ifNo X15.here hx rfl (hb hby at_67) rfl ((if0 _ _).trans (feq hc67_17).1) ?_
          refine XS.aload X15.here hx rfl (hb hby at_70) rfl rfl ?_
          refine st19.trans ?_
          refine XS.iload X19.here hx rfl (hb hby at_75) rfl ?_
          show Steps _ _ _ (T19.setTop (mkF m 77 #[.val (.long p1), .second, .val (.int p2), .val (.int p3), .val (.long ((p1 &&& (4611686018427387903 : Int64)) + (2 : Int64))), .second, .val (.ref b1), .val (.int (1 : Int32)), .val (.int (0 : Int32))] [(.int (0 : Int32))])) _
          refine XS.iconst X19.here hx rfl (hb hby at_77) ?_
          refine XS.icmpYes X19.here hx rfl (pc0 := 78) (pc' := 86) rfl (hb hby at_78) rfl (tlt (by decide : (0 : Int32) < (2 : Int32))).1 (by decide) (by decide) ?_
          refine XS.iload X19.here hx rfl (hb hby at_86) rfl ?_
          refine XS.iconst X19.here hx rfl (hb hby at_88) ?_
          show Steps _ _ _ (T19.setTop (mkF m 89 #[.val (.long p1), .second, .val (.int p2), .val (.int p3), .val (.long ((p1 &&& (4611686018427387903 : Int64)) + (2 : Int64))), .second, .val (.ref b1), .val (.int (1 : Int32)), .val (.int (0 : Int32))] [(.int (3 : Int32)), (.int (0 : Int32))])) _
          refine XS.icmpYes X19.here hx rfl (pc0 := 89) (pc' := 97) rfl (hb hby at_89) rfl (tlt (by decide : (0 : Int32) < (3 : Int32))).1 (by decide) (by decide) ?_
          refine XS.iload X19.here hx rfl (hb hby at_97) rfl ?_
          refine XS.ifNo X19.here hx rfl (hb hby at_99) rfl ((if0 _ _).trans (feq (by decide : ¬ ((1 : Int32) = (0 : Int32)))).1) ?_
          refine XS.aload X19.here hx rfl (hb hby at_102) rfl rfl ?_
          show Steps _ _ _ (T19.setTop (mkF m 104 #[.val (.long p1), .second, .val (.int p2), .val (.int p3), .val (.long ((p1 &&& (4611686018427387903 : Int64)) + (2 : Int64))), .second, .val (.ref b1), .val (.int (1 : Int32)), .val (.int (0 : Int32))] [(.ref b1)])) _
          refine st20.trans ?_
          refine XS.iload X20.here hx rfl (hb hby at_107) rfl ?_
          refine XS.ifYes X20.here hx rfl (pc0 := 109) (pc' := 116) rfl (hb hby at_109) rfl ((if0 _ _).trans (flt (by decide : ¬ ((0 : Int32) < (0 : Int32)))).2.2.2) (by decide) (by decide) ?_
          refine XS.iconst X20.here hx rfl (hb hby at_116) ?_
          show Steps _ _ _ (T20.setTop (mkF m 117 #[.val (.long p1), .second, .val (.int p2), .val (.int p3), .val (.long ((p1 &&& (4611686018427387903 : Int64)) + (2 : Int64))), .second, .val (.ref b1), .val (.int (1 : Int32)), .val (.int (0 : Int32))] [(.int (0 : Int32)), (.int (0 : Int32))])) _
          refine XS.icmpNo X20.here hx rfl (hb hby at_117) rfl (teq (by decide : (0 : Int32) = (0 : Int32))).2 ?_
          refine XS.iconst X20.here hx rfl (hb hby at_120) ?_
          refine XS.goto X20.here hx rfl (pc0 := 121) (pc' := 125) rfl (hb hby at_121) (by decide) (by decide) ?_
          show Steps _ _ _ (T20.setTop (mkF m 125 #[.val (.long p1), .second, .val (.int p2), .val (.int p3), .val (.long ((p1 &&& (4611686018427387903 : Int64)) + (2 : Int64))), .second, .val (.ref b1), .val (.int (1 : Int32)), .val (.int (0 : Int32))] [(.int (1 : Int32))])) _
          exact retN X20 hx (t := .boolean) Bd.returns (by simp) (hb hby at_125) hr
        · show Qown_law Z p1 p2 p3 s1 s2 h0 n0 _ T20.heap _
          rw [e20]
          exact ⟨rfl, N20⟩
  · skip
    rw [hs7] at pre6
    have pre21 : ∀ t, Steps p.tables e below (T5.setTop (mkF m 45 #[.val (.long p1), .second, .val (.int p2), .val (.int p3), .val (.long ((p1 &&& (4611686018427387903 : Int64)) + (2 : Int64))), .second, .val (.ref b1), .val (.int (1 : Int32)), .val (.int (1 : Int32))] [(.int (p3 &&& (1 : Int32)))])) t → Steps p.tables e below (s₁.setTop (entryFrame m #[(.long p1), (.int p2), (.int p3)] maxLocals)) t := fun t kt => pre6 t (by
      show Steps _ _ _ (T5.setTop (mkF m 42 #[.val (.long p1), .second, .val (.int p2), .val (.int p3), .val (.long ((p1 &&& (4611686018427387903 : Int64)) + (2 : Int64))), .second, .val (.ref b1), .val (.int (1 : Int32)), .val (.int (1 : Int32))] [])) _
      refine XS.iloadN X5.here hx rfl (hb hby at_42) rfl ?_
      refine XS.iconst X5.here hx rfl (hb hby at_43) ?_
      refine XS.iand X5.here hx rfl (hb hby at_44) rfl ?_
      exact kt)
    by_cases hc45_22 : (p3 &&& (1 : Int32)) = (0 : Int32)
    · skip
      have ihc45_22 := (own_eq (b := (0 : Int32)) (k := 0) rfl).mp hc45_22
      obtain ⟨cq23, kq23, q23a, q23b, q23c⟩ := isOf hZ e5 Eq4
      obtain ⟨_, _, ⟨T23, L23, k23, n23⟩, -, X23, ⟨Lc23, hQ23, l23, y23, z23⟩, st23⟩ := X5.virtualBack hx (y := own_m5) (z := own_m5) hown (mvT hZ (own_w84 hw)) (mvT hZ (own_w85 hw)) (notFace_of_selects (args := #[]) (mvT hZ (own_w87 hw))) (mvT hZ (own_w87 hw)) (mvT hZ (own_w86 hw)) (by decide) (backOf (W := 0) (own_lock l Z a0 hw [] b1 (0 : Int32) (.int (0 : Int32)) T4.heap n0 Z4 g_b1 Eq4 Lq4 Uq4) hZ (own_w88 hw) (own_w4 hw) (by decide) (by decide)) q23a q23c (g := (mkF m 61 #[.val (.long p1), .second, .val (.int p2), .val (.int p3), .val (.long ((p1 &&& (4611686018427387903 : Int64)) + (2 : Int64))), .second, .val (.ref b1), .val (.int (1 : Int32)), .val (.int (1 : Int32))] [(.ref b1)])) rfl (by rw [hml]; rfl) (Steps.refl _) (argsL := []) (rest := []) (lenOf own_pd2 rfl) rfl (by show 2 * 0 + _ ≤ _; exact Nat.le_of_eq rfl) (hb hby at_61) (fun _ _ => ⟨rfl, e5, (by decide : 19 + 0 ≤ _), (by decide : 63 + 0 ≤ _)⟩)
      dsimp only [Pt.U, Pt.locs, Pt.cells, Pt.slots] at X23 l23 y23 z23 st23 hQ23
      subst l23 y23 z23
      obtain ⟨rfl, N23q, Kq23, Eq23, Lq23, Uq23⟩ := hQ23
      have N23 := Fr.app N5 N23q
      have Z23 : n0 ≤ T23.heap.size := Nat.le_trans Z4 Kq23.1
      have K23 := K4.trans Kq23 (allS (P := fun x => x ∈ ([] : List Addr) ∨ h0.size ≤ x) (Or.inr sz_b1) all0)
      have Lr23 : Fld Z T23.heap b1 "com/example/tempe/tempe/algorithm/LocalMutex" "lockCalls" "I" (.int (1 : Int32)) := Lq23
      have pre24 : ∀ t, Steps p.tables e below (T23.setTop (mkF m 67 #[.val (.long p1), .second, .val (.int p2), .val (.int p3), .val (.long ((p1 &&& (4611686018427387903 : Int64)) + (2 : Int64))), .second, .val (.ref b1), .val (.int (1 : Int32)), .val (.int (1 : Int32))] [(.int (p3 &&& (2 : Int32)))])) t → Steps p.tables e below (s₁.setTop (entryFrame m #[(.long p1), (.int p2), (.int p3)] maxLocals)) t := fun t kt => pre21 t (by
        show Steps _ _ _ (T5.setTop (mkF m 45 #[.val (.long p1), .second, .val (.int p2), .val (.int p3), .val (.long ((p1 &&& (4611686018427387903 : Int64)) + (2 : Int64))), .second, .val (.ref b1), .val (.int (1 : Int32)), .val (.int (1 : Int32))] [(.int (p3 &&& (1 : Int32)))])) _
        refine XS.ifYes X5.here hx rfl (pc0 := 45) (pc' := 53) rfl (hb hby at_45) rfl ((if0 _ _).trans (teq hc45_22).1) (by decide) (by decide) ?_
        refine XS.iload X5.here hx rfl (hb hby at_53) rfl ?_
        refine XS.iconst X5.here hx rfl (hb hby at_55) ?_
        refine XS.icmpNo X5.here hx rfl (hb hby at_56) rfl (flt (by decide : ¬ ((1 : Int32) < (1 : Int32)))).1 ?_
        show Steps _ _ _ (T5.setTop (mkF m 59 #[.val (.long p1), .second, .val (.int p2), .val (.int p3), .val (.long ((p1 &&& (4611686018427387903 : Int64)) + (2 : Int64))), .second, .val (.ref b1), .val (.int (1 : Int32)), .val (.int (1 : Int32))] [])) _
        refine XS.aload X5.here hx rfl (hb hby at_59) rfl rfl ?_
        refine st23.trans ?_
        refine XS.iloadN X23.here hx rfl (hb hby at_64) rfl ?_
        refine XS.iconst X23.here hx rfl (hb hby at_65) ?_
        show Steps _ _ _ (T23.setTop (mkF m 66 #[.val (.long p1), .second, .val (.int p2), .val (.int p3), .val (.long ((p1 &&& (4611686018427387903 : Int64)) + (2 : Int64))), .second, .val (.ref b1), .val (.int (1 : Int32)), .val (.int (1 : Int32))] [(.int (2 : Int32)), (.int p3)])) _
        refine XS.iand X23.here hx rfl (hb hby at_66) rfl ?_
        exact kt)
      by_cases hc67_25 : (p3 &&& (2 : Int32)) = (0 : Int32)
      · skip
        have ihc67_25 := (own_eq (b := (0 : Int32)) (k := 0) rfl).mp hc67_25
        obtain ⟨cq26, kq26, q26a, q26b, q26c⟩ := isOf hZ rfl Eq23
        obtain ⟨_, _, ⟨T26, L26, k26, n26⟩, -, X26, ⟨Lc26, hQ26, l26, y26, z26⟩, st26⟩ := X23.virtualBack hx (y := own_m4) (z := own_m4) hown (mvT hZ (own_w70 hw)) (mvT hZ (own_w71 hw)) (notFace_of_selects (args := #[]) (mvT hZ (own_w73 hw))) (mvT hZ (own_w73 hw)) (mvT hZ (own_w72 hw)) (by decide) (backOf (W := 0) (own_lp1 l Z a0 hw [] b1 T23.heap n0 Z23 Lr23) hZ (own_w74 hw) (own_w4 hw) (by decide) (by decide)) q26a q26c (g := (mkF m 104 #[.val (.long p1), .second, .val (.int p2), .val (.int p3), .val (.long ((p1 &&& (4611686018427387903 : Int64)) + (2 : Int64))), .second, .val (.ref b1), .val (.int (1 : Int32)), .val (.int (1 : Int32))] [(.ref b1)])) rfl (by rw [hml]; rfl) (Steps.refl _) (argsL := []) (rest := []) (lenOf own_pd4 rfl) rfl (by show 2 * 0 + _ ≤ _; exact Nat.le_of_eq rfl) (hb hby at_104) (fun _ _ => ⟨rfl, rfl, (by decide : 19 + 0 ≤ _), (by decide : 63 + 0 ≤ _)⟩)
        dsimp only [Pt.U, Pt.locs, Pt.cells, Pt.slots] at X26 l26 y26 z26 st26 hQ26
        subst l26 y26 z26
        obtain ⟨rfl, N26q, e26⟩ := hQ26
        have N26 := Fr.app N23 N26q
        obtain ⟨fs, hr, hrun, hended, hW, hsame⟩ := X26.leave (v := some (.int (1 : Int32))) (fun h => by rw [Bd.returns] at h; cases h)
        refine ⟨_, _, pre24 _ ?_, hrun, hended, _, _, rfl, ?_, ⟨_, rfl⟩, hW, hsame.mono (by decide) (by decide)⟩
        · show Steps _ _ _ (T23.setTop (mkF m 67 #[.val (.long p1), .second, .val (.int p2), .val (.int p3), .val (.long ((p1 &&& (4611686018427387903 : Int64)) + (2 : Int64))), .second, .val (.ref b1), .val (.int (1 : Int32)), .val (.int (1 : Int32))] [(.int (p3 &&& (2 : Int32)))])) _
          refine XS.ifYes X23.here hx rfl (pc0 := 67) (pc' := 75) rfl (hb hby at_67) rfl ((if0 _ _).trans (teq hc67_25).1) (by decide) (by decide) ?_
          refine XS.iload X23.here hx rfl (hb hby at_75) rfl ?_
          refine XS.iconst X23.here hx rfl (hb hby at_77) ?_
          refine XS.icmpYes X23.here hx rfl (pc0 := 78) (pc' := 86) rfl (hb hby at_78) rfl (tlt (by decide : (1 : Int32) < (2 : Int32))).1 (by decide) (by decide) ?_
          show Steps _ _ _ (T23.setTop (mkF m 86 #[.val (.long p1), .second, .val (.int p2), .val (.int p3), .val (.long ((p1 &&& (4611686018427387903 : Int64)) + (2 : Int64))), .second, .val (.ref b1), .val (.int (1 : Int32)), .val (.int (1 : Int32))] [])) _
          refine XS.iload X23.here hx rfl (hb hby at_86) rfl ?_
          refine XS.iconst X23.here hx rfl (hb hby at_88) ?_
          refine XS.icmpYes X23.here hx rfl (pc0 := 89) (pc' := 97) rfl (hb hby at_89) rfl (tlt (by decide : (1 : Int32) < (3 : Int32))).1 (by decide) (by decide) ?_
          refine XS.iload X23.here hx rfl (hb hby at_97) rfl ?_
          show Steps _ _ _ (T23.setTop (mkF m 99 #[.val (.long p1), .second, .val (.int p2), .val (.int p3), .val (.long ((p1 &&& (4611686018427387903 : Int64)) + (2 : Int64))), .second, .val (.ref b1), .val (.int (1 : Int32)), .val (.int (1 : Int32))] [(.int (1 : Int32))])) _
          refine XS.ifNo X23.here hx rfl (hb hby at_99) rfl ((if0 _ _).trans (feq (by decide : ¬ ((1 : Int32) = (0 : Int32)))).1) ?_
          refine XS.aload X23.here hx rfl (hb hby at_102) rfl rfl ?_
          refine st26.trans ?_
          refine XS.iload X26.here hx rfl (hb hby at_107) rfl ?_
          show Steps _ _ _ (T26.setTop (mkF m 109 #[.val (.long p1), .second, .val (.int p2), .val (.int p3), .val (.long ((p1 &&& (4611686018427387903 : Int64)) + (2 : Int64))), .second, .val (.ref b1), .val (.int (1 : Int32)), .val (.int (1 : Int32))] [(.int (1 : Int32)), (.int (1 : Int32))])) _
          refine XS.ifNo X26.here hx rfl (hb hby at_109) rfl ((if0 _ _).trans (tlt (by decide : (0 : Int32) < (1 : Int32))).2.2.2) ?_
          refine XS.iconst X26.here hx rfl (hb hby at_112) ?_
          refine XS.goto X26.here hx rfl (pc0 := 113) (pc' := 117) rfl (hb hby at_113) (by decide) (by decide) ?_
          refine XS.icmpNo X26.here hx rfl (hb hby at_117) rfl (teq (by decide : (1 : Int32) = (1 : Int32))).2 ?_
          show Steps _ _ _ (T26.setTop (mkF m 120 #[.val (.long p1), .second, .val (.int p2), .val (.int p3), .val (.long ((p1 &&& (4611686018427387903 : Int64)) + (2 : Int64))), .second, .val (.ref b1), .val (.int (1 : Int32)), .val (.int (1 : Int32))] [])) _
          refine XS.iconst X26.here hx rfl (hb hby at_120) ?_
          refine XS.goto X26.here hx rfl (pc0 := 121) (pc' := 125) rfl (hb hby at_121) (by decide) (by decide) ?_
          show Steps _ _ _ (T26.setTop (mkF m 125 #[.val (.long p1), .second, .val (.int p2), .val (.int p3), .val (.long ((p1 &&& (4611686018427387903 : Int64)) + (2 : Int64))), .second, .val (.ref b1), .val (.int (1 : Int32)), .val (.int (1 : Int32))] [(.int (1 : Int32))])) _
          exact retN X26 hx (t := .boolean) Bd.returns (by simp) (hb hby at_125) hr
        · show Qown_law Z p1 p2 p3 s1 s2 h0 n0 _ T26.heap _
          rw [e26]
          exact ⟨rfl, N26⟩
      · skip
        have ihc67_25 := (mt (own_eq (b := (0 : Int32)) (k := 0) rfl).mpr hc67_25)
        obtain ⟨cq27, kq27, q27a, q27b, q27c⟩ := isOf hZ rfl Eq23
        obtain ⟨_, _, ⟨T27, L27, k27, n27⟩, -, X27, ⟨Lc27, hQ27, l27, y27, z27⟩, st27⟩ := X23.virtualBack hx (y := own_m6) (z := own_m6) hown (mvT hZ (own_w77 hw)) (mvT hZ (own_w78 hw)) (notFace_of_selects (args := #[]) (mvT hZ (own_w80 hw))) (mvT hZ (own_w80 hw)) (mvT hZ (own_w79 hw)) (by decide) (backOf (W := 0) (own_unlock l Z a0 hw [] b1 (1 : Int32) (.int (0 : Int32)) T23.heap n0 Z23 g_b1 Eq23 Lr23 Uq23) hZ (own_w81 hw) (own_w4 hw) (by decide) (by decide)) q27a q27c (g := (mkF m 72 #[.val (.long p1), .second, .val (.int p2), .val (.int p3), .val (.long ((p1 &&& (4611686018427387903 : Int64)) + (2 : Int64))), .second, .val (.ref b1), .val (.int (1 : Int32)), .val (.int (1 : Int32))] [(.ref b1)])) rfl (by rw [hml]; rfl) (Steps.refl _) (argsL := []) (rest := []) (lenOf own_pd2 rfl) rfl (by show 2 * 0 + _ ≤ _; exact Nat.le_of_eq rfl) (hb hby at_72) (fun _ _ => ⟨rfl, rfl, (by decide : 19 + 0 ≤ _), (by decide : 63 + 0 ≤ _)⟩)
        dsimp only [Pt.U, Pt.locs, Pt.cells, Pt.slots] at X27 l27 y27 z27 st27 hQ27
        subst l27 y27 z27
        obtain ⟨rfl, N27q, Kq27, Eq27, Lq27, Uq27⟩ := hQ27
        have N27 := Fr.app N23 N27q
        have Z27 : n0 ≤ T27.heap.size := Nat.le_trans Z23 Kq27.1
        have K27 := K23.trans Kq27 (allS (P := fun x => x ∈ ([] : List Addr) ∨ h0.size ≤ x) (Or.inr sz_b1) all0)
        have Lr27 : Fld Z T27.heap b1 "com/example/tempe/tempe/algorithm/LocalMutex" "lockCalls" "I" (.int (1 : Int32)) := Lq27
        obtain ⟨cq28, kq28, q28a, q28b, q28c⟩ := isOf hZ rfl Eq27
        obtain ⟨_, _, ⟨T28, L28, k28, n28⟩, -, X28, ⟨Lc28, hQ28, l28, y28, z28⟩, st28⟩ := X27.virtualBack hx (y := own_m4) (z := own_m4) hown (mvT hZ (own_w70 hw)) (mvT hZ (own_w71 hw)) (notFace_of_selects (args := #[]) (mvT hZ (own_w73 hw))) (mvT hZ (own_w73 hw)) (mvT hZ (own_w72 hw)) (by decide) (backOf (W := 0) (own_lp1 l Z a0 hw [] b1 T27.heap n0 Z27 Lr27) hZ (own_w74 hw) (own_w4 hw) (by decide) (by decide)) q28a q28c (g := (mkF m 104 #[.val (.long p1), .second, .val (.int p2), .val (.int p3), .val (.long ((p1 &&& (4611686018427387903 : Int64)) + (2 : Int64))), .second, .val (.ref b1), .val (.int (1 : Int32)), .val (.int (1 : Int32))] [(.ref b1)])) rfl (by rw [hml]; rfl) (Steps.refl _) (argsL := []) (rest := []) (lenOf own_pd4 rfl) rfl (by show 2 * 0 + _ ≤ _; exact Nat.le_of_eq rfl) (hb hby at_104) (fun _ _ => ⟨rfl, rfl, (by decide : 19 + 0 ≤ _), (by decide : 63 + 0 ≤ _)⟩)
        dsimp only [Pt.U, Pt.locs, Pt.cells, Pt.slots] at X28 l28 y28 z28 st28 hQ28
        subst l28 y28 z28
        obtain ⟨rfl, N28q, e28⟩ := hQ28
        have N28 := Fr.app N27 N28q
        obtain ⟨fs, hr, hrun, hended, hW, hsame⟩ := X28.leave (v := some (.int (1 : Int32))) (fun h => by rw [Bd.returns] at h; cases h)
        refine ⟨_, _, pre24 _ ?_, hrun, hended, _, _, rfl, ?_, ⟨_, rfl⟩, hW, hsame.mono (by decide) (by decide)⟩
        · show Steps _ _ _ (T23.setTop (mkF m 67 #[.val (.long p1), .second, .val (.int p2), .val (.int p3), .val (.long ((p1 &&& (4611686018427387903 : Int64)) + (2 : Int64))), .second, .val (.ref b1), .val (.int (1 : Int32)), .val (.int (1 : Int32))] [(.int (p3 &&& (2 : Int32)))])) _
          refine XS.ifNo X23.here hx rfl (hb hby at_67) rfl ((if0 _ _).trans (feq hc67_25).1) ?_
          refine XS.aload X23.here hx rfl (hb hby at_70) rfl rfl ?_
          refine st27.trans ?_
          refine XS.iload X27.here hx rfl (hb hby at_75) rfl ?_
          show Steps _ _ _ (T27.setTop (mkF m 77 #[.val (.long p1), .second, .val (.int p2), .val (.int p3), .val (.long ((p1 &&& (4611686018427387903 : Int64)) + (2 : Int64))), .second, .val (.ref b1), .val (.int (1 : Int32)), .val (.int (1 : Int32))] [(.int (1 : Int32))])) _
          refine XS.iconst X27.here hx rfl (hb hby at_77) ?_
          refine XS.icmpYes X27.here hx rfl (pc0 := 78) (pc' := 86) rfl (hb hby at_78) rfl (tlt (by decide : (1 : Int32) < (2 : Int32))).1 (by decide) (by decide) ?_
          refine XS.iload X27.here hx rfl (hb hby at_86) rfl ?_
          refine XS.iconst X27.here hx rfl (hb hby at_88) ?_
          show Steps _ _ _ (T27.setTop (mkF m 89 #[.val (.long p1), .second, .val (.int p2), .val (.int p3), .val (.long ((p1 &&& (4611686018427387903 : Int64)) + (2 : Int64))), .second, .val (.ref b1), .val (.int (1 : Int32)), .val (.int (1 : Int32))] [(.int (3 : Int32)), (.int (1 : Int32))])) _
          refine XS.icmpYes X27.here hx rfl (pc0 := 89) (pc' := 97) rfl (hb hby at_89) rfl (tlt (by decide : (1 : Int32) < (3 : Int32))).1 (by decide) (by decide) ?_
          refine XS.iload X27.here hx rfl (hb hby at_97) rfl ?_
          refine XS.ifNo X27.here hx rfl (hb hby at_99) rfl ((if0 _ _).trans (feq (by decide : ¬ ((1 : Int32) = (0 : Int32)))).1) ?_
          refine XS.aload X27.here hx rfl (hb hby at_102) rfl rfl ?_
          show Steps _ _ _ (T27.setTop (mkF m 104 #[.val (.long p1), .second, .val (.int p2), .val (.int p3), .val (.long ((p1 &&& (4611686018427387903 : Int64)) + (2 : Int64))), .second, .val (.ref b1), .val (.int (1 : Int32)), .val (.int (1 : Int32))] [(.ref b1)])) _
          refine st28.trans ?_
          refine XS.iload X28.here hx rfl (hb hby at_107) rfl ?_
          refine XS.ifNo X28.here hx rfl (hb hby at_109) rfl ((if0 _ _).trans (tlt (by decide : (0 : Int32) < (1 : Int32))).2.2.2) ?_
          refine XS.iconst X28.here hx rfl (hb hby at_112) ?_
          show Steps _ _ _ (T28.setTop (mkF m 113 #[.val (.long p1), .second, .val (.int p2), .val (.int p3), .val (.long ((p1 &&& (4611686018427387903 : Int64)) + (2 : Int64))), .second, .val (.ref b1), .val (.int (1 : Int32)), .val (.int (1 : Int32))] [(.int (1 : Int32)), (.int (1 : Int32))])) _
          refine XS.goto X28.here hx rfl (pc0 := 113) (pc' := 117) rfl (hb hby at_113) (by decide) (by decide) ?_
          refine XS.icmpNo X28.here hx rfl (hb hby at_117) rfl (teq (by decide : (1 : Int32) = (1 : Int32))).2 ?_
          refine XS.iconst X28.here hx rfl (hb hby at_120) ?_
          refine XS.goto X28.here hx rfl (pc0 := 121) (pc' := 125) rfl (hb hby at_121) (by decide) (by decide) ?_
          show Steps _ _ _ (T28.setTop (mkF m 125 #[.val (.long p1), .second, .val (.int p2), .val (.int p3), .val (.long ((p1 &&& (4611686018427387903 : Int64)) + (2 : Int64))), .second, .val (.ref b1), .val (.int (1 : Int32)), .val (.int (1 : Int32))] [(.int (1 : Int32))])) _
          exact retN X28 hx (t := .boolean) Bd.returns (by simp) (hb hby at_125) hr
        · show Qown_law Z p1 p2 p3 s1 s2 h0 n0 _ T28.heap _
          rw [e28]
          exact ⟨rfl, N28⟩
    · skip
      have ihc45_22 := (mt (own_eq (b := (0 : Int32)) (k := 0) rfl).mpr hc45_22)
      obtain ⟨cq29, kq29, q29a, q29b, q29c⟩ := isOf hZ e5 Eq4
      obtain ⟨_, _, ⟨T29, L29, k29, n29⟩, -, X29, ⟨Lc29, hQ29, l29, y29, z29⟩, st29⟩ := X5.virtualBack hx (y := own_m6) (z := own_m6) hown (mvT hZ (own_w77 hw)) (mvT hZ (own_w78 hw)) (notFace_of_selects (args := #[]) (mvT hZ (own_w80 hw))) (mvT hZ (own_w80 hw)) (mvT hZ (own_w79 hw)) (by decide) (backOf (W := 0) (own_unlock l Z a0 hw [] b1 (0 : Int32) (.int (0 : Int32)) T4.heap n0 Z4 g_b1 Eq4 Lq4 Uq4) hZ (own_w81 hw) (own_w4 hw) (by decide) (by decide)) q29a q29c (g := (mkF m 50 #[.val (.long p1), .second, .val (.int p2), .val (.int p3), .val (.long ((p1 &&& (4611686018427387903 : Int64)) + (2 : Int64))), .second, .val (.ref b1), .val (.int (1 : Int32)), .val (.int (1 : Int32))] [(.ref b1)])) rfl (by rw [hml]; rfl) (Steps.refl _) (argsL := []) (rest := []) (lenOf own_pd2 rfl) rfl (by show 2 * 0 + _ ≤ _; exact Nat.le_of_eq rfl) (hb hby at_50) (fun _ _ => ⟨rfl, e5, (by decide : 19 + 0 ≤ _), (by decide : 63 + 0 ≤ _)⟩)
      dsimp only [Pt.U, Pt.locs, Pt.cells, Pt.slots] at X29 l29 y29 z29 st29 hQ29
      subst l29 y29 z29
      obtain ⟨rfl, N29q, Kq29, Eq29, Lq29, Uq29⟩ := hQ29
      have N29 := Fr.app N5 N29q
      have Z29 : n0 ≤ T29.heap.size := Nat.le_trans Z4 Kq29.1
      have K29 := K4.trans Kq29 (allS (P := fun x => x ∈ ([] : List Addr) ∨ h0.size ≤ x) (Or.inr sz_b1) all0)
      have Lr29 : Fld Z T29.heap b1 "com/example/tempe/tempe/algorithm/LocalMutex" "lockCalls" "I" (.int (0 : Int32)) := Lq29
      obtain ⟨cq30, kq30, q30a, q30b, q30c⟩ := isOf hZ rfl Eq29
      obtain ⟨_, _, ⟨T30, L30, k30, n30⟩, -, X30, ⟨Lc30, hQ30, l30, y30, z30⟩, st30⟩ := X29.virtualBack hx (y := own_m5) (z := own_m5) hown (mvT hZ (own_w84 hw)) (mvT hZ (own_w85 hw)) (notFace_of_selects (args := #[]) (mvT hZ (own_w87 hw))) (mvT hZ (own_w87 hw)) (mvT hZ (own_w86 hw)) (by decide) (backOf (W := 0) (own_lock l Z a0 hw [] b1 (0 : Int32) (.int (1 : Int32)) T29.heap n0 Z29 g_b1 Eq29 Lr29 Uq29) hZ (own_w88 hw) (own_w4 hw) (by decide) (by decide)) q30a q30c (g := (mkF m 61 #[.val (.long p1), .second, .val (.int p2), .val (.int p3), .val (.long ((p1 &&& (4611686018427387903 : Int64)) + (2 : Int64))), .second, .val (.ref b1), .val (.int (1 : Int32)), .val (.int (1 : Int32))] [(.ref b1)])) rfl (by rw [hml]; rfl) (Steps.refl _) (argsL := []) (rest := []) (lenOf own_pd2 rfl) rfl (by show 2 * 0 + _ ≤ _; exact Nat.le_of_eq rfl) (hb hby at_61) (fun _ _ => ⟨rfl, rfl, (by decide : 19 + 0 ≤ _), (by decide : 63 + 0 ≤ _)⟩)
      dsimp only [Pt.U, Pt.locs, Pt.cells, Pt.slots] at X30 l30 y30 z30 st30 hQ30
      subst l30 y30 z30
      obtain ⟨rfl, N30q, Kq30, Eq30, Lq30, Uq30⟩ := hQ30
      have N30 := Fr.app N29 N30q
      have Z30 : n0 ≤ T30.heap.size := Nat.le_trans Z29 Kq30.1
      have K30 := K29.trans Kq30 (allS (P := fun x => x ∈ ([] : List Addr) ∨ h0.size ≤ x) (Or.inr sz_b1) all0)
      have Lr30 : Fld Z T30.heap b1 "com/example/tempe/tempe/algorithm/LocalMutex" "lockCalls" "I" (.int (1 : Int32)) := Lq30
      have pre31 : ∀ t, Steps p.tables e below (T30.setTop (mkF m 67 #[.val (.long p1), .second, .val (.int p2), .val (.int p3), .val (.long ((p1 &&& (4611686018427387903 : Int64)) + (2 : Int64))), .second, .val (.ref b1), .val (.int (1 : Int32)), .val (.int (1 : Int32))] [(.int (p3 &&& (2 : Int32)))])) t → Steps p.tables e below (s₁.setTop (entryFrame m #[(.long p1), (.int p2), (.int p3)] maxLocals)) t := fun t kt => pre21 t (by
        show Steps _ _ _ (T5.setTop (mkF m 45 #[.val (.long p1), .second, .val (.int p2), .val (.int p3), .val (.long ((p1 &&& (4611686018427387903 : Int64)) + (2 : Int64))), .second, .val (.ref b1), .val (.int (1 : Int32)), .val (.int (1 : Int32))] [(.int (p3 &&& (1 : Int32)))])) _
        refine XS.ifNo X5.here hx rfl (hb hby at_45) rfl ((if0 _ _).trans (feq hc45_22).1) ?_
        refine XS.aload X5.here hx rfl (hb hby at_48) rfl rfl ?_
        refine st29.trans ?_
        refine XS.iload X29.here hx rfl (hb hby at_53) rfl ?_
        show Steps _ _ _ (T29.setTop (mkF m 55 #[.val (.long p1), .second, .val (.int p2), .val (.int p3), .val (.long ((p1 &&& (4611686018427387903 : Int64)) + (2 : Int64))), .second, .val (.ref b1), .val (.int (1 : Int32)), .val (.int (1 : Int32))] [(.int (1 : Int32))])) _
        refine XS.iconst X29.here hx rfl (hb hby at_55) ?_
        refine XS.icmpNo X29.here hx rfl (hb hby at_56) rfl (flt (by decide : ¬ ((1 : Int32) < (1 : Int32)))).1 ?_
        refine XS.aload X29.here hx rfl (hb hby at_59) rfl rfl ?_
        refine st30.trans ?_
        show Steps _ _ _ (T30.setTop (mkF m 64 #[.val (.long p1), .second, .val (.int p2), .val (.int p3), .val (.long ((p1 &&& (4611686018427387903 : Int64)) + (2 : Int64))), .second, .val (.ref b1), .val (.int (1 : Int32)), .val (.int (1 : Int32))] [])) _
        refine XS.iloadN X30.here hx rfl (hb hby at_64) rfl ?_
        refine XS.iconst X30.here hx rfl (hb hby at_65) ?_
        refine XS.iand X30.here hx rfl (hb hby at_66) rfl ?_
        exact kt)
      by_cases hc67_32 : (p3 &&& (2 : Int32)) = (0 : Int32)
      · skip
        have ihc67_32 := (own_eq (b := (0 : Int32)) (k := 0) rfl).mp hc67_32
        obtain ⟨cq33, kq33, q33a, q33b, q33c⟩ := isOf hZ rfl Eq30
        obtain ⟨_, _, ⟨T33, L33, k33, n33⟩, -, X33, ⟨Lc33, hQ33, l33, y33, z33⟩, st33⟩ := X30.virtualBack hx (y := own_m4) (z := own_m4) hown (mvT hZ (own_w70 hw)) (mvT hZ (own_w71 hw)) (notFace_of_selects (args := #[]) (mvT hZ (own_w73 hw))) (mvT hZ (own_w73 hw)) (mvT hZ (own_w72 hw)) (by decide) (backOf (W := 0) (own_lp1 l Z a0 hw [] b1 T30.heap n0 Z30 Lr30) hZ (own_w74 hw) (own_w4 hw) (by decide) (by decide)) q33a q33c (g := (mkF m 104 #[.val (.long p1), .second, .val (.int p2), .val (.int p3), .val (.long ((p1 &&& (4611686018427387903 : Int64)) + (2 : Int64))), .second, .val (.ref b1), .val (.int (1 : Int32)), .val (.int (1 : Int32))] [(.ref b1)])) rfl (by rw [hml]; rfl) (Steps.refl _) (argsL := []) (rest := []) (lenOf own_pd4 rfl) rfl (by show 2 * 0 + _ ≤ _; exact Nat.le_of_eq rfl) (hb hby at_104) (fun _ _ => ⟨rfl, rfl, (by decide : 19 + 0 ≤ _), (by decide : 63 + 0 ≤ _)⟩)
        dsimp only [Pt.U, Pt.locs, Pt.cells, Pt.slots] at X33 l33 y33 z33 st33 hQ33
        subst l33 y33 z33
        obtain ⟨rfl, N33q, e33⟩ := hQ33
        have N33 := Fr.app N30 N33q
        obtain ⟨fs, hr, hrun, hended, hW, hsame⟩ := X33.leave (v := some (.int (1 : Int32))) (fun h => by rw [Bd.returns] at h; cases h)
        refine ⟨_, _, pre31 _ ?_, hrun, hended, _, _, rfl, ?_, ⟨_, rfl⟩, hW, hsame.mono (by decide) (by decide)⟩
        · show Steps _ _ _ (T30.setTop (mkF m 67 #[.val (.long p1), .second, .val (.int p2), .val (.int p3), .val (.long ((p1 &&& (4611686018427387903 : Int64)) + (2 : Int64))), .second, .val (.ref b1), .val (.int (1 : Int32)), .val (.int (1 : Int32))] [(.int (p3 &&& (2 : Int32)))])) _
          refine XS.ifYes X30.here hx rfl (pc0 := 67) (pc' := 75) rfl (hb hby at_67) rfl ((if0 _ _).trans (teq hc67_32).1) (by decide) (by decide) ?_
          refine XS.iload X30.here hx rfl (hb hby at_75) rfl ?_
          refine XS.iconst X30.here hx rfl (hb hby at_77) ?_
          refine XS.icmpYes X30.here hx rfl (pc0 := 78) (pc' := 86) rfl (hb hby at_78) rfl (tlt (by decide : (1 : Int32) < (2 : Int32))).1 (by decide) (by decide) ?_
          show Steps _ _ _ (T30.setTop (mkF m 86 #[.val (.long p1), .second, .val (.int p2), .val (.int p3), .val (.long ((p1 &&& (4611686018427387903 : Int64)) + (2 : Int64))), .second, .val (.ref b1), .val (.int (1 : Int32)), .val (.int (1 : Int32))] [])) _
          refine XS.iload X30.here hx rfl (hb hby at_86) rfl ?_
          refine XS.iconst X30.here hx rfl (hb hby at_88) ?_
          refine XS.icmpYes X30.here hx rfl (pc0 := 89) (pc' := 97) rfl (hb hby at_89) rfl (tlt (by decide : (1 : Int32) < (3 : Int32))).1 (by decide) (by decide) ?_
          refine XS.iload X30.here hx rfl (hb hby at_97) rfl ?_
          show Steps _ _ _ (T30.setTop (mkF m 99 #[.val (.long p1), .second, .val (.int p2), .val (.int p3), .val (.long ((p1 &&& (4611686018427387903 : Int64)) + (2 : Int64))), .second, .val (.ref b1), .val (.int (1 : Int32)), .val (.int (1 : Int32))] [(.int (1 : Int32))])) _
          refine XS.ifNo X30.here hx rfl (hb hby at_99) rfl ((if0 _ _).trans (feq (by decide : ¬ ((1 : Int32) = (0 : Int32)))).1) ?_
          refine XS.aload X30.here hx rfl (hb hby at_102) rfl rfl ?_
          refine st33.trans ?_
          refine XS.iload X33.here hx rfl (hb hby at_107) rfl ?_
          show Steps _ _ _ (T33.setTop (mkF m 109 #[.val (.long p1), .second, .val (.int p2), .val (.int p3), .val (.long ((p1 &&& (4611686018427387903 : Int64)) + (2 : Int64))), .second, .val (.ref b1), .val (.int (1 : Int32)), .val (.int (1 : Int32))] [(.int (1 : Int32)), (.int (1 : Int32))])) _
          refine XS.ifNo X33.here hx rfl (hb hby at_109) rfl ((if0 _ _).trans (tlt (by decide : (0 : Int32) < (1 : Int32))).2.2.2) ?_
          refine XS.iconst X33.here hx rfl (hb hby at_112) ?_
          refine XS.goto X33.here hx rfl (pc0 := 113) (pc' := 117) rfl (hb hby at_113) (by decide) (by decide) ?_
          refine XS.icmpNo X33.here hx rfl (hb hby at_117) rfl (teq (by decide : (1 : Int32) = (1 : Int32))).2 ?_
          show Steps _ _ _ (T33.setTop (mkF m 120 #[.val (.long p1), .second, .val (.int p2), .val (.int p3), .val (.long ((p1 &&& (4611686018427387903 : Int64)) + (2 : Int64))), .second, .val (.ref b1), .val (.int (1 : Int32)), .val (.int (1 : Int32))] [])) _
          refine XS.iconst X33.here hx rfl (hb hby at_120) ?_
          refine XS.goto X33.here hx rfl (pc0 := 121) (pc' := 125) rfl (hb hby at_121) (by decide) (by decide) ?_
          show Steps _ _ _ (T33.setTop (mkF m 125 #[.val (.long p1), .second, .val (.int p2), .val (.int p3), .val (.long ((p1 &&& (4611686018427387903 : Int64)) + (2 : Int64))), .second, .val (.ref b1), .val (.int (1 : Int32)), .val (.int (1 : Int32))] [(.int (1 : Int32))])) _
          exact retN X33 hx (t := .boolean) Bd.returns (by simp) (hb hby at_125) hr
        · show Qown_law Z p1 p2 p3 s1 s2 h0 n0 _ T33.heap _
          rw [e33]
          exact ⟨rfl, N33⟩
      · skip
        have ihc67_32 := (mt (own_eq (b := (0 : Int32)) (k := 0) rfl).mpr hc67_32)
        obtain ⟨cq34, kq34, q34a, q34b, q34c⟩ := isOf hZ rfl Eq30
        obtain ⟨_, _, ⟨T34, L34, k34, n34⟩, -, X34, ⟨Lc34, hQ34, l34, y34, z34⟩, st34⟩ := X30.virtualBack hx (y := own_m6) (z := own_m6) hown (mvT hZ (own_w77 hw)) (mvT hZ (own_w78 hw)) (notFace_of_selects (args := #[]) (mvT hZ (own_w80 hw))) (mvT hZ (own_w80 hw)) (mvT hZ (own_w79 hw)) (by decide) (backOf (W := 0) (own_unlock l Z a0 hw [] b1 (1 : Int32) (.int (1 : Int32)) T30.heap n0 Z30 g_b1 Eq30 Lr30 Uq30) hZ (own_w81 hw) (own_w4 hw) (by decide) (by decide)) q34a q34c (g := (mkF m 72 #[.val (.long p1), .second, .val (.int p2), .val (.int p3), .val (.long ((p1 &&& (4611686018427387903 : Int64)) + (2 : Int64))), .second, .val (.ref b1), .val (.int (1 : Int32)), .val (.int (1 : Int32))] [(.ref b1)])) rfl (by rw [hml]; rfl) (Steps.refl _) (argsL := []) (rest := []) (lenOf own_pd2 rfl) rfl (by show 2 * 0 + _ ≤ _; exact Nat.le_of_eq rfl) (hb hby at_72) (fun _ _ => ⟨rfl, rfl, (by decide : 19 + 0 ≤ _), (by decide : 63 + 0 ≤ _)⟩)
        dsimp only [Pt.U, Pt.locs, Pt.cells, Pt.slots] at X34 l34 y34 z34 st34 hQ34
        subst l34 y34 z34
        obtain ⟨rfl, N34q, Kq34, Eq34, Lq34, Uq34⟩ := hQ34
        have N34 := Fr.app N30 N34q
        have Z34 : n0 ≤ T34.heap.size := Nat.le_trans Z30 Kq34.1
        have K34 := K30.trans Kq34 (allS (P := fun x => x ∈ ([] : List Addr) ∨ h0.size ≤ x) (Or.inr sz_b1) all0)
        have Lr34 : Fld Z T34.heap b1 "com/example/tempe/tempe/algorithm/LocalMutex" "lockCalls" "I" (.int (1 : Int32)) := Lq34
        obtain ⟨cq35, kq35, q35a, q35b, q35c⟩ := isOf hZ rfl Eq34
        obtain ⟨_, _, ⟨T35, L35, k35, n35⟩, -, X35, ⟨Lc35, hQ35, l35, y35, z35⟩, st35⟩ := X34.virtualBack hx (y := own_m4) (z := own_m4) hown (mvT hZ (own_w70 hw)) (mvT hZ (own_w71 hw)) (notFace_of_selects (args := #[]) (mvT hZ (own_w73 hw))) (mvT hZ (own_w73 hw)) (mvT hZ (own_w72 hw)) (by decide) (backOf (W := 0) (own_lp1 l Z a0 hw [] b1 T34.heap n0 Z34 Lr34) hZ (own_w74 hw) (own_w4 hw) (by decide) (by decide)) q35a q35c (g := (mkF m 104 #[.val (.long p1), .second, .val (.int p2), .val (.int p3), .val (.long ((p1 &&& (4611686018427387903 : Int64)) + (2 : Int64))), .second, .val (.ref b1), .val (.int (1 : Int32)), .val (.int (1 : Int32))] [(.ref b1)])) rfl (by rw [hml]; rfl) (Steps.refl _) (argsL := []) (rest := []) (lenOf own_pd4 rfl) rfl (by show 2 * 0 + _ ≤ _; exact Nat.le_of_eq rfl) (hb hby at_104) (fun _ _ => ⟨rfl, rfl, (by decide : 19 + 0 ≤ _), (by decide : 63 + 0 ≤ _)⟩)
        dsimp only [Pt.U, Pt.locs, Pt.cells, Pt.slots] at X35 l35 y35 z35 st35 hQ35
        subst l35 y35 z35
        obtain ⟨rfl, N35q, e35⟩ := hQ35
        have N35 := Fr.app N34 N35q
        obtain ⟨fs, hr, hrun, hended, hW, hsame⟩ := X35.leave (v := some (.int (1 : Int32))) (fun h => by rw [Bd.returns] at h; cases h)
        refine ⟨_, _, pre31 _ ?_, hrun, hended, _, _, rfl, ?_, ⟨_, rfl⟩, hW, hsame.mono (by decide) (by decide)⟩
        · show Steps _ _ _ (T30.setTop (mkF m 67 #[.val (.long p1), .second, .val (.int p2), .val (.int p3), .val (.long ((p1 &&& (4611686018427387903 : Int64)) + (2 : Int64))), .second, .val (.ref b1), .val (.int (1 : Int32)), .val (.int (1 : Int32))] [(.int (p3 &&& (2 : Int32)))])) _
          refine XS.ifNo X30.here hx rfl (hb hby at_67) rfl ((if0 _ _).trans (feq hc67_32).1) ?_
          refine XS.aload X30.here hx rfl (hb hby at_70) rfl rfl ?_
          refine st34.trans ?_
          refine XS.iload X34.here hx rfl (hb hby at_75) rfl ?_
          show Steps _ _ _ (T34.setTop (mkF m 77 #[.val (.long p1), .second, .val (.int p2), .val (.int p3), .val (.long ((p1 &&& (4611686018427387903 : Int64)) + (2 : Int64))), .second, .val (.ref b1), .val (.int (1 : Int32)), .val (.int (1 : Int32))] [(.int (1 : Int32))])) _
          refine XS.iconst X34.here hx rfl (hb hby at_77) ?_
          refine XS.icmpYes X34.here hx rfl (pc0 := 78) (pc' := 86) rfl (hb hby at_78) rfl (tlt (by decide : (1 : Int32) < (2 : Int32))).1 (by decide) (by decide) ?_
          refine XS.iload X34.here hx rfl (hb hby at_86) rfl ?_
          refine XS.iconst X34.here hx rfl (hb hby at_88) ?_
          show Steps _ _ _ (T34.setTop (mkF m 89 #[.val (.long p1), .second, .val (.int p2), .val (.int p3), .val (.long ((p1 &&& (4611686018427387903 : Int64)) + (2 : Int64))), .second, .val (.ref b1), .val (.int (1 : Int32)), .val (.int (1 : Int32))] [(.int (3 : Int32)), (.int (1 : Int32))])) _
          refine XS.icmpYes X34.here hx rfl (pc0 := 89) (pc' := 97) rfl (hb hby at_89) rfl (tlt (by decide : (1 : Int32) < (3 : Int32))).1 (by decide) (by decide) ?_
          refine XS.iload X34.here hx rfl (hb hby at_97) rfl ?_
          refine XS.ifNo X34.here hx rfl (hb hby at_99) rfl ((if0 _ _).trans (feq (by decide : ¬ ((1 : Int32) = (0 : Int32)))).1) ?_
          refine XS.aload X34.here hx rfl (hb hby at_102) rfl rfl ?_
          show Steps _ _ _ (T34.setTop (mkF m 104 #[.val (.long p1), .second, .val (.int p2), .val (.int p3), .val (.long ((p1 &&& (4611686018427387903 : Int64)) + (2 : Int64))), .second, .val (.ref b1), .val (.int (1 : Int32)), .val (.int (1 : Int32))] [(.ref b1)])) _
          refine st35.trans ?_
          refine XS.iload X35.here hx rfl (hb hby at_107) rfl ?_
          refine XS.ifNo X35.here hx rfl (hb hby at_109) rfl ((if0 _ _).trans (tlt (by decide : (0 : Int32) < (1 : Int32))).2.2.2) ?_
          refine XS.iconst X35.here hx rfl (hb hby at_112) ?_
          show Steps _ _ _ (T35.setTop (mkF m 113 #[.val (.long p1), .second, .val (.int p2), .val (.int p3), .val (.long ((p1 &&& (4611686018427387903 : Int64)) + (2 : Int64))), .second, .val (.ref b1), .val (.int (1 : Int32)), .val (.int (1 : Int32))] [(.int (1 : Int32)), (.int (1 : Int32))])) _
          refine XS.goto X35.here hx rfl (pc0 := 113) (pc' := 117) rfl (hb hby at_113) (by decide) (by decide) ?_
          refine XS.icmpNo X35.here hx rfl (hb hby at_117) rfl (teq (by decide : (1 : Int32) = (1 : Int32))).2 ?_
          refine XS.iconst X35.here hx rfl (hb hby at_120) ?_
          refine XS.goto X35.here hx rfl (pc0 := 121) (pc' := 125) rfl (hb hby at_121) (by decide) (by decide) ?_
          show Steps _ _ _ (T35.setTop (mkF m 125 #[.val (.long p1), .second, .val (.int p2), .val (.int p3), .val (.long ((p1 &&& (4611686018427387903 : Int64)) + (2 : Int64))), .second, .val (.ref b1), .val (.int (1 : Int32)), .val (.int (1 : Int32))] [(.int (1 : Int32))])) _
          exact retN X35 hx (t := .boolean) Bd.returns (by simp) (hb hby at_125) hr
        · show Qown_law Z p1 p2 p3 s1 s2 h0 n0 _ T35.heap _
          rw [e35]
          exact ⟨rfl, N35⟩
  · skip
    rw [hs7] at pre6
    have pre36 : ∀ t, Steps p.tables e below (T5.setTop (mkF m 45 #[.val (.long p1), .second, .val (.int p2), .val (.int p3), .val (.long ((p1 &&& (4611686018427387903 : Int64)) + (2 : Int64))), .second, .val (.ref b1), .val (.int (1 : Int32)), .val (.int (2 : Int32))] [(.int (p3 &&& (1 : Int32)))])) t → Steps p.tables e below (s₁.setTop (entryFrame m #[(.long p1), (.int p2), (.int p3)] maxLocals)) t := fun t kt => pre6 t (by
      show Steps _ _ _ (T5.setTop (mkF m 42 #[.val (.long p1), .second, .val (.int p2), .val (.int p3), .val (.long ((p1 &&& (4611686018427387903 : Int64)) + (2 : Int64))), .second, .val (.ref b1), .val (.int (1 : Int32)), .val (.int (2 : Int32))] [])) _
      refine XS.iloadN X5.here hx rfl (hb hby at_42) rfl ?_
      refine XS.iconst X5.here hx rfl (hb hby at_43) ?_
      refine XS.iand X5.here hx rfl (hb hby at_44) rfl ?_
      exact kt)
    by_cases hc45_37 : (p3 &&& (1 : Int32)) = (0 : Int32)
    · skip
      have ihc45_37 := (own_eq (b := (0 : Int32)) (k := 0) rfl).mp hc45_37
      obtain ⟨cq38, kq38, q38a, q38b, q38c⟩ := isOf hZ e5 Eq4
      obtain ⟨_, _, ⟨T38, L38, k38, n38⟩, -, X38, ⟨Lc38, hQ38, l38, y38, z38⟩, st38⟩ := X5.virtualBack hx (y := own_m5) (z := own_m5) hown (mvT hZ (own_w84 hw)) (mvT hZ (own_w85 hw)) (notFace_of_selects (args := #[]) (mvT hZ (own_w87 hw))) (mvT hZ (own_w87 hw)) (mvT hZ (own_w86 hw)) (by decide) (backOf (W := 0) (own_lock l Z a0 hw [] b1 (0 : Int32) (.int (0 : Int32)) T4.heap n0 Z4 g_b1 Eq4 Lq4 Uq4) hZ (own_w88 hw) (own_w4 hw) (by decide) (by decide)) q38a q38c (g := (mkF m 61 #[.val (.long p1), .second, .val (.int p2), .val (.int p3), .val (.long ((p1 &&& (4611686018427387903 : Int64)) + (2 : Int64))), .second, .val (.ref b1), .val (.int (1 : Int32)), .val (.int (2 : Int32))] [(.ref b1)])) rfl (by rw [hml]; rfl) (Steps.refl _) (argsL := []) (rest := []) (lenOf own_pd2 rfl) rfl (by show 2 * 0 + _ ≤ _; exact Nat.le_of_eq rfl) (hb hby at_61) (fun _ _ => ⟨rfl, e5, (by decide : 19 + 0 ≤ _), (by decide : 63 + 0 ≤ _)⟩)
      dsimp only [Pt.U, Pt.locs, Pt.cells, Pt.slots] at X38 l38 y38 z38 st38 hQ38
      subst l38 y38 z38
      obtain ⟨rfl, N38q, Kq38, Eq38, Lq38, Uq38⟩ := hQ38
      have N38 := Fr.app N5 N38q
      have Z38 : n0 ≤ T38.heap.size := Nat.le_trans Z4 Kq38.1
      have K38 := K4.trans Kq38 (allS (P := fun x => x ∈ ([] : List Addr) ∨ h0.size ≤ x) (Or.inr sz_b1) all0)
      have Lr38 : Fld Z T38.heap b1 "com/example/tempe/tempe/algorithm/LocalMutex" "lockCalls" "I" (.int (1 : Int32)) := Lq38
      have pre39 : ∀ t, Steps p.tables e below (T38.setTop (mkF m 67 #[.val (.long p1), .second, .val (.int p2), .val (.int p3), .val (.long ((p1 &&& (4611686018427387903 : Int64)) + (2 : Int64))), .second, .val (.ref b1), .val (.int (1 : Int32)), .val (.int (2 : Int32))] [(.int (p3 &&& (2 : Int32)))])) t → Steps p.tables e below (s₁.setTop (entryFrame m #[(.long p1), (.int p2), (.int p3)] maxLocals)) t := fun t kt => pre36 t (by
        show Steps _ _ _ (T5.setTop (mkF m 45 #[.val (.long p1), .second, .val (.int p2), .val (.int p3), .val (.long ((p1 &&& (4611686018427387903 : Int64)) + (2 : Int64))), .second, .val (.ref b1), .val (.int (1 : Int32)), .val (.int (2 : Int32))] [(.int (p3 &&& (1 : Int32)))])) _
        refine XS.ifYes X5.here hx rfl (pc0 := 45) (pc' := 53) rfl (hb hby at_45) rfl ((if0 _ _).trans (teq hc45_37).1) (by decide) (by decide) ?_
        refine XS.iload X5.here hx rfl (hb hby at_53) rfl ?_
        refine XS.iconst X5.here hx rfl (hb hby at_55) ?_
        refine XS.icmpNo X5.here hx rfl (hb hby at_56) rfl (flt (by decide : ¬ ((2 : Int32) < (1 : Int32)))).1 ?_
        show Steps _ _ _ (T5.setTop (mkF m 59 #[.val (.long p1), .second, .val (.int p2), .val (.int p3), .val (.long ((p1 &&& (4611686018427387903 : Int64)) + (2 : Int64))), .second, .val (.ref b1), .val (.int (1 : Int32)), .val (.int (2 : Int32))] [])) _
        refine XS.aload X5.here hx rfl (hb hby at_59) rfl rfl ?_
        refine st38.trans ?_
        refine XS.iloadN X38.here hx rfl (hb hby at_64) rfl ?_
        refine XS.iconst X38.here hx rfl (hb hby at_65) ?_
        show Steps _ _ _ (T38.setTop (mkF m 66 #[.val (.long p1), .second, .val (.int p2), .val (.int p3), .val (.long ((p1 &&& (4611686018427387903 : Int64)) + (2 : Int64))), .second, .val (.ref b1), .val (.int (1 : Int32)), .val (.int (2 : Int32))] [(.int (2 : Int32)), (.int p3)])) _
        refine XS.iand X38.here hx rfl (hb hby at_66) rfl ?_
        exact kt)
      by_cases hc67_40 : (p3 &&& (2 : Int32)) = (0 : Int32)
      · skip
        have ihc67_40 := (own_eq (b := (0 : Int32)) (k := 0) rfl).mp hc67_40
        obtain ⟨cq41, kq41, q41a, q41b, q41c⟩ := isOf hZ rfl Eq38
        obtain ⟨_, _, ⟨T41, L41, k41, n41⟩, -, X41, ⟨Lc41, hQ41, l41, y41, z41⟩, st41⟩ := X38.virtualBack hx (y := own_m5) (z := own_m5) hown (mvT hZ (own_w84 hw)) (mvT hZ (own_w85 hw)) (notFace_of_selects (args := #[]) (mvT hZ (own_w87 hw))) (mvT hZ (own_w87 hw)) (mvT hZ (own_w86 hw)) (by decide) (backOf (W := 0) (own_lock l Z a0 hw [] b1 (1 : Int32) (.int (0 : Int32)) T38.heap n0 Z38 g_b1 Eq38 Lr38 Uq38) hZ (own_w88 hw) (own_w4 hw) (by decide) (by decide)) q41a q41c (g := (mkF m 83 #[.val (.long p1), .second, .val (.int p2), .val (.int p3), .val (.long ((p1 &&& (4611686018427387903 : Int64)) + (2 : Int64))), .second, .val (.ref b1), .val (.int (1 : Int32)), .val (.int (2 : Int32))] [(.ref b1)])) rfl (by rw [hml]; rfl) (Steps.refl _) (argsL := []) (rest := []) (lenOf own_pd2 rfl) rfl (by show 2 * 0 + _ ≤ _; exact Nat.le_of_eq rfl) (hb hby at_83) (fun _ _ => ⟨rfl, rfl, (by decide : 19 + 0 ≤ _), (by decide : 63 + 0 ≤ _)⟩)
        dsimp only [Pt.U, Pt.locs, Pt.cells, Pt.slots] at X41 l41 y41 z41 st41 hQ41
        subst l41 y41 z41
        obtain ⟨rfl, N41q, Kq41, Eq41, Lq41, Uq41⟩ := hQ41
        have N41 := Fr.app N38 N41q
        have Z41 : n0 ≤ T41.heap.size := Nat.le_trans Z38 Kq41.1
        have K41 := K38.trans Kq41 (allS (P := fun x => x ∈ ([] : List Addr) ∨ h0.size ≤ x) (Or.inr sz_b1) all0)
        have Lr41 : Fld Z T41.heap b1 "com/example/tempe/tempe/algorithm/LocalMutex" "lockCalls" "I" (.int (2 : Int32)) := Lq41
        obtain ⟨cq42, kq42, q42a, q42b, q42c⟩ := isOf hZ rfl Eq41
        obtain ⟨_, _, ⟨T42, L42, k42, n42⟩, -, X42, ⟨Lc42, hQ42, l42, y42, z42⟩, st42⟩ := X41.virtualBack hx (y := own_m4) (z := own_m4) hown (mvT hZ (own_w70 hw)) (mvT hZ (own_w71 hw)) (notFace_of_selects (args := #[]) (mvT hZ (own_w73 hw))) (mvT hZ (own_w73 hw)) (mvT hZ (own_w72 hw)) (by decide) (backOf (W := 0) (own_lp2 l Z a0 hw [] b1 T41.heap n0 Z41 Lr41) hZ (own_w74 hw) (own_w4 hw) (by decide) (by decide)) q42a q42c (g := (mkF m 104 #[.val (.long p1), .second, .val (.int p2), .val (.int p3), .val (.long ((p1 &&& (4611686018427387903 : Int64)) + (2 : Int64))), .second, .val (.ref b1), .val (.int (1 : Int32)), .val (.int (2 : Int32))] [(.ref b1)])) rfl (by rw [hml]; rfl) (Steps.refl _) (argsL := []) (rest := []) (lenOf own_pd4 rfl) rfl (by show 2 * 0 + _ ≤ _; exact Nat.le_of_eq rfl) (hb hby at_104) (fun _ _ => ⟨rfl, rfl, (by decide : 19 + 0 ≤ _), (by decide : 63 + 0 ≤ _)⟩)
        dsimp only [Pt.U, Pt.locs, Pt.cells, Pt.slots] at X42 l42 y42 z42 st42 hQ42
        subst l42 y42 z42
        obtain ⟨rfl, N42q, e42⟩ := hQ42
        have N42 := Fr.app N41 N42q
        obtain ⟨fs, hr, hrun, hended, hW, hsame⟩ := X42.leave (v := some (.int (1 : Int32))) (fun h => by rw [Bd.returns] at h; cases h)
        refine ⟨_, _, pre39 _ ?_, hrun, hended, _, _, rfl, ?_, ⟨_, rfl⟩, hW, hsame.mono (by decide) (by decide)⟩
        · show Steps _ _ _ (T38.setTop (mkF m 67 #[.val (.long p1), .second, .val (.int p2), .val (.int p3), .val (.long ((p1 &&& (4611686018427387903 : Int64)) + (2 : Int64))), .second, .val (.ref b1), .val (.int (1 : Int32)), .val (.int (2 : Int32))] [(.int (p3 &&& (2 : Int32)))])) _
          refine XS.ifYes X38.here hx rfl (pc0 := 67) (pc' := 75) rfl (hb hby at_67) rfl ((if0 _ _).trans (teq hc67_40).1) (by decide) (by decide) ?_
          refine XS.iload X38.here hx rfl (hb hby at_75) rfl ?_
          refine XS.iconst X38.here hx rfl (hb hby at_77) ?_
          refine XS.icmpNo X38.here hx rfl (hb hby at_78) rfl (flt (by decide : ¬ ((2 : Int32) < (2 : Int32)))).1 ?_
          show Steps _ _ _ (T38.setTop (mkF m 81 #[.val (.long p1), .second, .val (.int p2), .val (.int p3), .val (.long ((p1 &&& (4611686018427387903 : Int64)) + (2 : Int64))), .second, .val (.ref b1), .val (.int (1 : Int32)), .val (.int (2 : Int32))] [])) _
          refine XS.aload X38.here hx rfl (hb hby at_81) rfl rfl ?_
          refine st41.trans ?_
          refine XS.iload X41.here hx rfl (hb hby at_86) rfl ?_
          refine XS.iconst X41.here hx rfl (hb hby at_88) ?_
          show Steps _ _ _ (T41.setTop (mkF m 89 #[.val (.long p1), .second, .val (.int p2), .val (.int p3), .val (.long ((p1 &&& (4611686018427387903 : Int64)) + (2 : Int64))), .second, .val (.ref b1), .val (.int (1 : Int32)), .val (.int (2 : Int32))] [(.int (3 : Int32)), (.int (2 : Int32))])) _
          refine XS.icmpYes X41.here hx rfl (pc0 := 89) (pc' := 97) rfl (hb hby at_89) rfl (tlt (by decide : (2 : Int32) < (3 : Int32))).1 (by decide) (by decide) ?_
          refine XS.iload X41.here hx rfl (hb hby at_97) rfl ?_
          refine XS.ifNo X41.here hx rfl (hb hby at_99) rfl ((if0 _ _).trans (feq (by decide : ¬ ((1 : Int32) = (0 : Int32)))).1) ?_
          refine XS.aload X41.here hx rfl (hb hby at_102) rfl rfl ?_
          show Steps _ _ _ (T41.setTop (mkF m 104 #[.val (.long p1), .second, .val (.int p2), .val (.int p3), .val (.long ((p1 &&& (4611686018427387903 : Int64)) + (2 : Int64))), .second, .val (.ref b1), .val (.int (1 : Int32)), .val (.int (2 : Int32))] [(.ref b1)])) _
          refine st42.trans ?_
          refine XS.iload X42.here hx rfl (hb hby at_107) rfl ?_
          refine XS.ifNo X42.here hx rfl (hb hby at_109) rfl ((if0 _ _).trans (tlt (by decide : (0 : Int32) < (2 : Int32))).2.2.2) ?_
          refine XS.iconst X42.here hx rfl (hb hby at_112) ?_
          show Steps _ _ _ (T42.setTop (mkF m 113 #[.val (.long p1), .second, .val (.int p2), .val (.int p3), .val (.long ((p1 &&& (4611686018427387903 : Int64)) + (2 : Int64))), .second, .val (.ref b1), .val (.int (1 : Int32)), .val (.int (2 : Int32))] [(.int (1 : Int32)), (.int (1 : Int32))])) _
          refine XS.goto X42.here hx rfl (pc0 := 113) (pc' := 117) rfl (hb hby at_113) (by decide) (by decide) ?_
          refine XS.icmpNo X42.here hx rfl (hb hby at_117) rfl (teq (by decide : (1 : Int32) = (1 : Int32))).2 ?_
          refine XS.iconst X42.here hx rfl (hb hby at_120) ?_
          refine XS.goto X42.here hx rfl (pc0 := 121) (pc' := 125) rfl (hb hby at_121) (by decide) (by decide) ?_
          show Steps _ _ _ (T42.setTop (mkF m 125 #[.val (.long p1), .second, .val (.int p2), .val (.int p3), .val (.long ((p1 &&& (4611686018427387903 : Int64)) + (2 : Int64))), .second, .val (.ref b1), .val (.int (1 : Int32)), .val (.int (2 : Int32))] [(.int (1 : Int32))])) _
          exact retN X42 hx (t := .boolean) Bd.returns (by simp) (hb hby at_125) hr
        · show Qown_law Z p1 p2 p3 s1 s2 h0 n0 _ T42.heap _
          rw [e42]
          exact ⟨rfl, N42⟩
      · skip
        have ihc67_40 := (mt (own_eq (b := (0 : Int32)) (k := 0) rfl).mpr hc67_40)
        obtain ⟨cq43, kq43, q43a, q43b, q43c⟩ := isOf hZ rfl Eq38
        obtain ⟨_, _, ⟨T43, L43, k43, n43⟩, -, X43, ⟨Lc43, hQ43, l43, y43, z43⟩, st43⟩ := X38.virtualBack hx (y := own_m6) (z := own_m6) hown (mvT hZ (own_w77 hw)) (mvT hZ (own_w78 hw)) (notFace_of_selects (args := #[]) (mvT hZ (own_w80 hw))) (mvT hZ (own_w80 hw)) (mvT hZ (own_w79 hw)) (by decide) (backOf (W := 0) (own_unlock l Z a0 hw [] b1 (1 : Int32) (.int (0 : Int32)) T38.heap n0 Z38 g_b1 Eq38 Lr38 Uq38) hZ (own_w81 hw) (own_w4 hw) (by decide) (by decide)) q43a q43c (g := (mkF m 72 #[.val (.long p1), .second, .val (.int p2), .val (.int p3), .val (.long ((p1 &&& (4611686018427387903 : Int64)) + (2 : Int64))), .second, .val (.ref b1), .val (.int (1 : Int32)), .val (.int (2 : Int32))] [(.ref b1)])) rfl (by rw [hml]; rfl) (Steps.refl _) (argsL := []) (rest := []) (lenOf own_pd2 rfl) rfl (by show 2 * 0 + _ ≤ _; exact Nat.le_of_eq rfl) (hb hby at_72) (fun _ _ => ⟨rfl, rfl, (by decide : 19 + 0 ≤ _), (by decide : 63 + 0 ≤ _)⟩)
        dsimp only [Pt.U, Pt.locs, Pt.cells, Pt.slots] at X43 l43 y43 z43 st43 hQ43
        subst l43 y43 z43
        obtain ⟨rfl, N43q, Kq43, Eq43, Lq43, Uq43⟩ := hQ43
        have N43 := Fr.app N38 N43q
        have Z43 : n0 ≤ T43.heap.size := Nat.le_trans Z38 Kq43.1
        have K43 := K38.trans Kq43 (allS (P := fun x => x ∈ ([] : List Addr) ∨ h0.size ≤ x) (Or.inr sz_b1) all0)
        have Lr43 : Fld Z T43.heap b1 "com/example/tempe/tempe/algorithm/LocalMutex" "lockCalls" "I" (.int (1 : Int32)) := Lq43
        obtain ⟨cq44, kq44, q44a, q44b, q44c⟩ := isOf hZ rfl Eq43
        obtain ⟨_, _, ⟨T44, L44, k44, n44⟩, -, X44, ⟨Lc44, hQ44, l44, y44, z44⟩, st44⟩ := X43.virtualBack hx (y := own_m5) (z := own_m5) hown (mvT hZ (own_w84 hw)) (mvT hZ (own_w85 hw)) (notFace_of_selects (args := #[]) (mvT hZ (own_w87 hw))) (mvT hZ (own_w87 hw)) (mvT hZ (own_w86 hw)) (by decide) (backOf (W := 0) (own_lock l Z a0 hw [] b1 (1 : Int32) (.int (1 : Int32)) T43.heap n0 Z43 g_b1 Eq43 Lr43 Uq43) hZ (own_w88 hw) (own_w4 hw) (by decide) (by decide)) q44a q44c (g := (mkF m 83 #[.val (.long p1), .second, .val (.int p2), .val (.int p3), .val (.long ((p1 &&& (4611686018427387903 : Int64)) + (2 : Int64))), .second, .val (.ref b1), .val (.int (1 : Int32)), .val (.int (2 : Int32))] [(.ref b1)])) rfl (by rw [hml]; rfl) (Steps.refl _) (argsL := []) (rest := []) (lenOf own_pd2 rfl) rfl (by show 2 * 0 + _ ≤ _; exact Nat.le_of_eq rfl) (hb hby at_83) (fun _ _ => ⟨rfl, rfl, (by decide : 19 + 0 ≤ _), (by decide : 63 + 0 ≤ _)⟩)
        dsimp only [Pt.U, Pt.locs, Pt.cells, Pt.slots] at X44 l44 y44 z44 st44 hQ44
        subst l44 y44 z44
        obtain ⟨rfl, N44q, Kq44, Eq44, Lq44, Uq44⟩ := hQ44
        have N44 := Fr.app N43 N44q
        have Z44 : n0 ≤ T44.heap.size := Nat.le_trans Z43 Kq44.1
        have K44 := K43.trans Kq44 (allS (P := fun x => x ∈ ([] : List Addr) ∨ h0.size ≤ x) (Or.inr sz_b1) all0)
        have Lr44 : Fld Z T44.heap b1 "com/example/tempe/tempe/algorithm/LocalMutex" "lockCalls" "I" (.int (2 : Int32)) := Lq44
        obtain ⟨cq45, kq45, q45a, q45b, q45c⟩ := isOf hZ rfl Eq44
        obtain ⟨_, _, ⟨T45, L45, k45, n45⟩, -, X45, ⟨Lc45, hQ45, l45, y45, z45⟩, st45⟩ := X44.virtualBack hx (y := own_m4) (z := own_m4) hown (mvT hZ (own_w70 hw)) (mvT hZ (own_w71 hw)) (notFace_of_selects (args := #[]) (mvT hZ (own_w73 hw))) (mvT hZ (own_w73 hw)) (mvT hZ (own_w72 hw)) (by decide) (backOf (W := 0) (own_lp2 l Z a0 hw [] b1 T44.heap n0 Z44 Lr44) hZ (own_w74 hw) (own_w4 hw) (by decide) (by decide)) q45a q45c (g := (mkF m 104 #[.val (.long p1), .second, .val (.int p2), .val (.int p3), .val (.long ((p1 &&& (4611686018427387903 : Int64)) + (2 : Int64))), .second, .val (.ref b1), .val (.int (1 : Int32)), .val (.int (2 : Int32))] [(.ref b1)])) rfl (by rw [hml]; rfl) (Steps.refl _) (argsL := []) (rest := []) (lenOf own_pd4 rfl) rfl (by show 2 * 0 + _ ≤ _; exact Nat.le_of_eq rfl) (hb hby at_104) (fun _ _ => ⟨rfl, rfl, (by decide : 19 + 0 ≤ _), (by decide : 63 + 0 ≤ _)⟩)
        dsimp only [Pt.U, Pt.locs, Pt.cells, Pt.slots] at X45 l45 y45 z45 st45 hQ45
        subst l45 y45 z45
        obtain ⟨rfl, N45q, e45⟩ := hQ45
        have N45 := Fr.app N44 N45q
        obtain ⟨fs, hr, hrun, hended, hW, hsame⟩ := X45.leave (v := some (.int (1 : Int32))) (fun h => by rw [Bd.returns] at h; cases h)
        refine ⟨_, _, pre39 _ ?_, hrun, hended, _, _, rfl, ?_, ⟨_, rfl⟩, hW, hsame.mono (by decide) (by decide)⟩
        · show Steps _ _ _ (T38.setTop (mkF m 67 #[.val (.long p1), .second, .val (.int p2), .val (.int p3), .val (.long ((p1 &&& (4611686018427387903 : Int64)) + (2 : Int64))), .second, .val (.ref b1), .val (.int (1 : Int32)), .val (.int (2 : Int32))] [(.int (p3 &&& (2 : Int32)))])) _
          refine XS.ifNo X38.here hx rfl (hb hby at_67) rfl ((if0 _ _).trans (feq hc67_40).1) ?_
          refine XS.aload X38.here hx rfl (hb hby at_70) rfl rfl ?_
          refine st43.trans ?_
          refine XS.iload X43.here hx rfl (hb hby at_75) rfl ?_
          show Steps _ _ _ (T43.setTop (mkF m 77 #[.val (.long p1), .second, .val (.int p2), .val (.int p3), .val (.long ((p1 &&& (4611686018427387903 : Int64)) + (2 : Int64))), .second, .val (.ref b1), .val (.int (1 : Int32)), .val (.int (2 : Int32))] [(.int (2 : Int32))])) _
          refine XS.iconst X43.here hx rfl (hb hby at_77) ?_
          refine XS.icmpNo X43.here hx rfl (hb hby at_78) rfl (flt (by decide : ¬ ((2 : Int32) < (2 : Int32)))).1 ?_
          refine XS.aload X43.here hx rfl (hb hby at_81) rfl rfl ?_
          refine st44.trans ?_
          show Steps _ _ _ (T44.setTop (mkF m 86 #[.val (.long p1), .second, .val (.int p2), .val (.int p3), .val (.long ((p1 &&& (4611686018427387903 : Int64)) + (2 : Int64))), .second, .val (.ref b1), .val (.int (1 : Int32)), .val (.int (2 : Int32))] [])) _
          refine XS.iload X44.here hx rfl (hb hby at_86) rfl ?_
          refine XS.iconst X44.here hx rfl (hb hby at_88) ?_
          refine XS.icmpYes X44.here hx rfl (pc0 := 89) (pc' := 97) rfl (hb hby at_89) rfl (tlt (by decide : (2 : Int32) < (3 : Int32))).1 (by decide) (by decide) ?_
          refine XS.iload X44.here hx rfl (hb hby at_97) rfl ?_
          show Steps _ _ _ (T44.setTop (mkF m 99 #[.val (.long p1), .second, .val (.int p2), .val (.int p3), .val (.long ((p1 &&& (4611686018427387903 : Int64)) + (2 : Int64))), .second, .val (.ref b1), .val (.int (1 : Int32)), .val (.int (2 : Int32))] [(.int (1 : Int32))])) _
          refine XS.ifNo X44.here hx rfl (hb hby at_99) rfl ((if0 _ _).trans (feq (by decide : ¬ ((1 : Int32) = (0 : Int32)))).1) ?_
          refine XS.aload X44.here hx rfl (hb hby at_102) rfl rfl ?_
          refine st45.trans ?_
          refine XS.iload X45.here hx rfl (hb hby at_107) rfl ?_
          show Steps _ _ _ (T45.setTop (mkF m 109 #[.val (.long p1), .second, .val (.int p2), .val (.int p3), .val (.long ((p1 &&& (4611686018427387903 : Int64)) + (2 : Int64))), .second, .val (.ref b1), .val (.int (1 : Int32)), .val (.int (2 : Int32))] [(.int (2 : Int32)), (.int (1 : Int32))])) _
          refine XS.ifNo X45.here hx rfl (hb hby at_109) rfl ((if0 _ _).trans (tlt (by decide : (0 : Int32) < (2 : Int32))).2.2.2) ?_
          refine XS.iconst X45.here hx rfl (hb hby at_112) ?_
          refine XS.goto X45.here hx rfl (pc0 := 113) (pc' := 117) rfl (hb hby at_113) (by decide) (by decide) ?_
          refine XS.icmpNo X45.here hx rfl (hb hby at_117) rfl (teq (by decide : (1 : Int32) = (1 : Int32))).2 ?_
          show Steps _ _ _ (T45.setTop (mkF m 120 #[.val (.long p1), .second, .val (.int p2), .val (.int p3), .val (.long ((p1 &&& (4611686018427387903 : Int64)) + (2 : Int64))), .second, .val (.ref b1), .val (.int (1 : Int32)), .val (.int (2 : Int32))] [])) _
          refine XS.iconst X45.here hx rfl (hb hby at_120) ?_
          refine XS.goto X45.here hx rfl (pc0 := 121) (pc' := 125) rfl (hb hby at_121) (by decide) (by decide) ?_
          show Steps _ _ _ (T45.setTop (mkF m 125 #[.val (.long p1), .second, .val (.int p2), .val (.int p3), .val (.long ((p1 &&& (4611686018427387903 : Int64)) + (2 : Int64))), .second, .val (.ref b1), .val (.int (1 : Int32)), .val (.int (2 : Int32))] [(.int (1 : Int32))])) _
          exact retN X45 hx (t := .boolean) Bd.returns (by simp) (hb hby at_125) hr
        · show Qown_law Z p1 p2 p3 s1 s2 h0 n0 _ T45.heap _
          rw [e45]
          exact ⟨rfl, N45⟩
    · skip
      have ihc45_37 := (mt (own_eq (b := (0 : Int32)) (k := 0) rfl).mpr hc45_37)
      obtain ⟨cq46, kq46, q46a, q46b, q46c⟩ := isOf hZ e5 Eq4
      obtain ⟨_, _, ⟨T46, L46, k46, n46⟩, -, X46, ⟨Lc46, hQ46, l46, y46, z46⟩, st46⟩ := X5.virtualBack hx (y := own_m6) (z := own_m6) hown (mvT hZ (own_w77 hw)) (mvT hZ (own_w78 hw)) (notFace_of_selects (args := #[]) (mvT hZ (own_w80 hw))) (mvT hZ (own_w80 hw)) (mvT hZ (own_w79 hw)) (by decide) (backOf (W := 0) (own_unlock l Z a0 hw [] b1 (0 : Int32) (.int (0 : Int32)) T4.heap n0 Z4 g_b1 Eq4 Lq4 Uq4) hZ (own_w81 hw) (own_w4 hw) (by decide) (by decide)) q46a q46c (g := (mkF m 50 #[.val (.long p1), .second, .val (.int p2), .val (.int p3), .val (.long ((p1 &&& (4611686018427387903 : Int64)) + (2 : Int64))), .second, .val (.ref b1), .val (.int (1 : Int32)), .val (.int (2 : Int32))] [(.ref b1)])) rfl (by rw [hml]; rfl) (Steps.refl _) (argsL := []) (rest := []) (lenOf own_pd2 rfl) rfl (by show 2 * 0 + _ ≤ _; exact Nat.le_of_eq rfl) (hb hby at_50) (fun _ _ => ⟨rfl, e5, (by decide : 19 + 0 ≤ _), (by decide : 63 + 0 ≤ _)⟩)
      dsimp only [Pt.U, Pt.locs, Pt.cells, Pt.slots] at X46 l46 y46 z46 st46 hQ46
      subst l46 y46 z46
      obtain ⟨rfl, N46q, Kq46, Eq46, Lq46, Uq46⟩ := hQ46
      have N46 := Fr.app N5 N46q
      have Z46 : n0 ≤ T46.heap.size := Nat.le_trans Z4 Kq46.1
      have K46 := K4.trans Kq46 (allS (P := fun x => x ∈ ([] : List Addr) ∨ h0.size ≤ x) (Or.inr sz_b1) all0)
      have Lr46 : Fld Z T46.heap b1 "com/example/tempe/tempe/algorithm/LocalMutex" "lockCalls" "I" (.int (0 : Int32)) := Lq46
      obtain ⟨cq47, kq47, q47a, q47b, q47c⟩ := isOf hZ rfl Eq46
      obtain ⟨_, _, ⟨T47, L47, k47, n47⟩, -, X47, ⟨Lc47, hQ47, l47, y47, z47⟩, st47⟩ := X46.virtualBack hx (y := own_m5) (z := own_m5) hown (mvT hZ (own_w84 hw)) (mvT hZ (own_w85 hw)) (notFace_of_selects (args := #[]) (mvT hZ (own_w87 hw))) (mvT hZ (own_w87 hw)) (mvT hZ (own_w86 hw)) (by decide) (backOf (W := 0) (own_lock l Z a0 hw [] b1 (0 : Int32) (.int (1 : Int32)) T46.heap n0 Z46 g_b1 Eq46 Lr46 Uq46) hZ (own_w88 hw) (own_w4 hw) (by decide) (by decide)) q47a q47c (g := (mkF m 61 #[.val (.long p1), .second, .val (.int p2), .val (.int p3), .val (.long ((p1 &&& (4611686018427387903 : Int64)) + (2 : Int64))), .second, .val (.ref b1), .val (.int (1 : Int32)), .val (.int (2 : Int32))] [(.ref b1)])) rfl (by rw [hml]; rfl) (Steps.refl _) (argsL := []) (rest := []) (lenOf own_pd2 rfl) rfl (by show 2 * 0 + _ ≤ _; exact Nat.le_of_eq rfl) (hb hby at_61) (fun _ _ => ⟨rfl, rfl, (by decide : 19 + 0 ≤ _), (by decide : 63 + 0 ≤ _)⟩)
      dsimp only [Pt.U, Pt.locs, Pt.cells, Pt.slots] at X47 l47 y47 z47 st47 hQ47
      subst l47 y47 z47
      obtain ⟨rfl, N47q, Kq47, Eq47, Lq47, Uq47⟩ := hQ47
      have N47 := Fr.app N46 N47q
      have Z47 : n0 ≤ T47.heap.size := Nat.le_trans Z46 Kq47.1
      have K47 := K46.trans Kq47 (allS (P := fun x => x ∈ ([] : List Addr) ∨ h0.size ≤ x) (Or.inr sz_b1) all0)
      have Lr47 : Fld Z T47.heap b1 "com/example/tempe/tempe/algorithm/LocalMutex" "lockCalls" "I" (.int (1 : Int32)) := Lq47
      have pre48 : ∀ t, Steps p.tables e below (T47.setTop (mkF m 67 #[.val (.long p1), .second, .val (.int p2), .val (.int p3), .val (.long ((p1 &&& (4611686018427387903 : Int64)) + (2 : Int64))), .second, .val (.ref b1), .val (.int (1 : Int32)), .val (.int (2 : Int32))] [(.int (p3 &&& (2 : Int32)))])) t → Steps p.tables e below (s₁.setTop (entryFrame m #[(.long p1), (.int p2), (.int p3)] maxLocals)) t := fun t kt => pre36 t (by
        show Steps _ _ _ (T5.setTop (mkF m 45 #[.val (.long p1), .second, .val (.int p2), .val (.int p3), .val (.long ((p1 &&& (4611686018427387903 : Int64)) + (2 : Int64))), .second, .val (.ref b1), .val (.int (1 : Int32)), .val (.int (2 : Int32))] [(.int (p3 &&& (1 : Int32)))])) _
        refine XS.ifNo X5.here hx rfl (hb hby at_45) rfl ((if0 _ _).trans (feq hc45_37).1) ?_
        refine XS.aload X5.here hx rfl (hb hby at_48) rfl rfl ?_
        refine st46.trans ?_
        refine XS.iload X46.here hx rfl (hb hby at_53) rfl ?_
        show Steps _ _ _ (T46.setTop (mkF m 55 #[.val (.long p1), .second, .val (.int p2), .val (.int p3), .val (.long ((p1 &&& (4611686018427387903 : Int64)) + (2 : Int64))), .second, .val (.ref b1), .val (.int (1 : Int32)), .val (.int (2 : Int32))] [(.int (2 : Int32))])) _
        refine XS.iconst X46.here hx rfl (hb hby at_55) ?_
        refine XS.icmpNo X46.here hx rfl (hb hby at_56) rfl (flt (by decide : ¬ ((2 : Int32) < (1 : Int32)))).1 ?_
        refine XS.aload X46.here hx rfl (hb hby at_59) rfl rfl ?_
        refine st47.trans ?_
        show Steps _ _ _ (T47.setTop (mkF m 64 #[.val (.long p1), .second, .val (.int p2), .val (.int p3), .val (.long ((p1 &&& (4611686018427387903 : Int64)) + (2 : Int64))), .second, .val (.ref b1), .val (.int (1 : Int32)), .val (.int (2 : Int32))] [])) _
        refine XS.iloadN X47.here hx rfl (hb hby at_64) rfl ?_
        refine XS.iconst X47.here hx rfl (hb hby at_65) ?_
        refine XS.iand X47.here hx rfl (hb hby at_66) rfl ?_
        exact kt)
      by_cases hc67_49 : (p3 &&& (2 : Int32)) = (0 : Int32)
      · skip
        have ihc67_49 := (own_eq (b := (0 : Int32)) (k := 0) rfl).mp hc67_49
        obtain ⟨cq50, kq50, q50a, q50b, q50c⟩ := isOf hZ rfl Eq47
        obtain ⟨_, _, ⟨T50, L50, k50, n50⟩, -, X50, ⟨Lc50, hQ50, l50, y50, z50⟩, st50⟩ := X47.virtualBack hx (y := own_m5) (z := own_m5) hown (mvT hZ (own_w84 hw)) (mvT hZ (own_w85 hw)) (notFace_of_selects (args := #[]) (mvT hZ (own_w87 hw))) (mvT hZ (own_w87 hw)) (mvT hZ (own_w86 hw)) (by decide) (backOf (W := 0) (own_lock l Z a0 hw [] b1 (1 : Int32) (.int (1 : Int32)) T47.heap n0 Z47 g_b1 Eq47 Lr47 Uq47) hZ (own_w88 hw) (own_w4 hw) (by decide) (by decide)) q50a q50c (g := (mkF m 83 #[.val (.long p1), .second, .val (.int p2), .val (.int p3), .val (.long ((p1 &&& (4611686018427387903 : Int64)) + (2 : Int64))), .second, .val (.ref b1), .val (.int (1 : Int32)), .val (.int (2 : Int32))] [(.ref b1)])) rfl (by rw [hml]; rfl) (Steps.refl _) (argsL := []) (rest := []) (lenOf own_pd2 rfl) rfl (by show 2 * 0 + _ ≤ _; exact Nat.le_of_eq rfl) (hb hby at_83) (fun _ _ => ⟨rfl, rfl, (by decide : 19 + 0 ≤ _), (by decide : 63 + 0 ≤ _)⟩)
        dsimp only [Pt.U, Pt.locs, Pt.cells, Pt.slots] at X50 l50 y50 z50 st50 hQ50
        subst l50 y50 z50
        obtain ⟨rfl, N50q, Kq50, Eq50, Lq50, Uq50⟩ := hQ50
        have N50 := Fr.app N47 N50q
        have Z50 : n0 ≤ T50.heap.size := Nat.le_trans Z47 Kq50.1
        have K50 := K47.trans Kq50 (allS (P := fun x => x ∈ ([] : List Addr) ∨ h0.size ≤ x) (Or.inr sz_b1) all0)
        have Lr50 : Fld Z T50.heap b1 "com/example/tempe/tempe/algorithm/LocalMutex" "lockCalls" "I" (.int (2 : Int32)) := Lq50
        obtain ⟨cq51, kq51, q51a, q51b, q51c⟩ := isOf hZ rfl Eq50
        obtain ⟨_, _, ⟨T51, L51, k51, n51⟩, -, X51, ⟨Lc51, hQ51, l51, y51, z51⟩, st51⟩ := X50.virtualBack hx (y := own_m4) (z := own_m4) hown (mvT hZ (own_w70 hw)) (mvT hZ (own_w71 hw)) (notFace_of_selects (args := #[]) (mvT hZ (own_w73 hw))) (mvT hZ (own_w73 hw)) (mvT hZ (own_w72 hw)) (by decide) (backOf (W := 0) (own_lp2 l Z a0 hw [] b1 T50.heap n0 Z50 Lr50) hZ (own_w74 hw) (own_w4 hw) (by decide) (by decide)) q51a q51c (g := (mkF m 104 #[.val (.long p1), .second, .val (.int p2), .val (.int p3), .val (.long ((p1 &&& (4611686018427387903 : Int64)) + (2 : Int64))), .second, .val (.ref b1), .val (.int (1 : Int32)), .val (.int (2 : Int32))] [(.ref b1)])) rfl (by rw [hml]; rfl) (Steps.refl _) (argsL := []) (rest := []) (lenOf own_pd4 rfl) rfl (by show 2 * 0 + _ ≤ _; exact Nat.le_of_eq rfl) (hb hby at_104) (fun _ _ => ⟨rfl, rfl, (by decide : 19 + 0 ≤ _), (by decide : 63 + 0 ≤ _)⟩)
        dsimp only [Pt.U, Pt.locs, Pt.cells, Pt.slots] at X51 l51 y51 z51 st51 hQ51
        subst l51 y51 z51
        obtain ⟨rfl, N51q, e51⟩ := hQ51
        have N51 := Fr.app N50 N51q
        obtain ⟨fs, hr, hrun, hended, hW, hsame⟩ := X51.leave (v := some (.int (1 : Int32))) (fun h => by rw [Bd.returns] at h; cases h)
        refine ⟨_, _, pre48 _ ?_, hrun, hended, _, _, rfl, ?_, ⟨_, rfl⟩, hW, hsame.mono (by decide) (by decide)⟩
        · show Steps _ _ _ (T47.setTop (mkF m 67 #[.val (.long p1), .second, .val (.int p2), .val (.int p3), .val (.long ((p1 &&& (4611686018427387903 : Int64)) + (2 : Int64))), .second, .val (.ref b1), .val (.int (1 : Int32)), .val (.int (2 : Int32))] [(.int (p3 &&& (2 : Int32)))])) _
          refine XS.ifYes X47.here hx rfl (pc0 := 67) (pc' := 75) rfl (hb hby at_67) rfl ((if0 _ _).trans (teq hc67_49).1) (by decide) (by decide) ?_
          refine XS.iload X47.here hx rfl (hb hby at_75) rfl ?_
          refine XS.iconst X47.here hx rfl (hb hby at_77) ?_
          refine XS.icmpNo X47.here hx rfl (hb hby at_78) rfl (flt (by decide : ¬ ((2 : Int32) < (2 : Int32)))).1 ?_
          show Steps _ _ _ (T47.setTop (mkF m 81 #[.val (.long p1), .second, .val (.int p2), .val (.int p3), .val (.long ((p1 &&& (4611686018427387903 : Int64)) + (2 : Int64))), .second, .val (.ref b1), .val (.int (1 : Int32)), .val (.int (2 : Int32))] [])) _
          refine XS.aload X47.here hx rfl (hb hby at_81) rfl rfl ?_
          refine st50.trans ?_
          refine XS.iload X50.here hx rfl (hb hby at_86) rfl ?_
          refine XS.iconst X50.here hx rfl (hb hby at_88) ?_
          show Steps _ _ _ (T50.setTop (mkF m 89 #[.val (.long p1), .second, .val (.int p2), .val (.int p3), .val (.long ((p1 &&& (4611686018427387903 : Int64)) + (2 : Int64))), .second, .val (.ref b1), .val (.int (1 : Int32)), .val (.int (2 : Int32))] [(.int (3 : Int32)), (.int (2 : Int32))])) _
          refine XS.icmpYes X50.here hx rfl (pc0 := 89) (pc' := 97) rfl (hb hby at_89) rfl (tlt (by decide : (2 : Int32) < (3 : Int32))).1 (by decide) (by decide) ?_
          refine XS.iload X50.here hx rfl (hb hby at_97) rfl ?_
          refine XS.ifNo X50.here hx rfl (hb hby at_99) rfl ((if0 _ _).trans (feq (by decide : ¬ ((1 : Int32) = (0 : Int32)))).1) ?_
          refine XS.aload X50.here hx rfl (hb hby at_102) rfl rfl ?_
          show Steps _ _ _ (T50.setTop (mkF m 104 #[.val (.long p1), .second, .val (.int p2), .val (.int p3), .val (.long ((p1 &&& (4611686018427387903 : Int64)) + (2 : Int64))), .second, .val (.ref b1), .val (.int (1 : Int32)), .val (.int (2 : Int32))] [(.ref b1)])) _
          refine st51.trans ?_
          refine XS.iload X51.here hx rfl (hb hby at_107) rfl ?_
          refine XS.ifNo X51.here hx rfl (hb hby at_109) rfl ((if0 _ _).trans (tlt (by decide : (0 : Int32) < (2 : Int32))).2.2.2) ?_
          refine XS.iconst X51.here hx rfl (hb hby at_112) ?_
          show Steps _ _ _ (T51.setTop (mkF m 113 #[.val (.long p1), .second, .val (.int p2), .val (.int p3), .val (.long ((p1 &&& (4611686018427387903 : Int64)) + (2 : Int64))), .second, .val (.ref b1), .val (.int (1 : Int32)), .val (.int (2 : Int32))] [(.int (1 : Int32)), (.int (1 : Int32))])) _
          refine XS.goto X51.here hx rfl (pc0 := 113) (pc' := 117) rfl (hb hby at_113) (by decide) (by decide) ?_
          refine XS.icmpNo X51.here hx rfl (hb hby at_117) rfl (teq (by decide : (1 : Int32) = (1 : Int32))).2 ?_
          refine XS.iconst X51.here hx rfl (hb hby at_120) ?_
          refine XS.goto X51.here hx rfl (pc0 := 121) (pc' := 125) rfl (hb hby at_121) (by decide) (by decide) ?_
          show Steps _ _ _ (T51.setTop (mkF m 125 #[.val (.long p1), .second, .val (.int p2), .val (.int p3), .val (.long ((p1 &&& (4611686018427387903 : Int64)) + (2 : Int64))), .second, .val (.ref b1), .val (.int (1 : Int32)), .val (.int (2 : Int32))] [(.int (1 : Int32))])) _
          exact retN X51 hx (t := .boolean) Bd.returns (by simp) (hb hby at_125) hr
        · show Qown_law Z p1 p2 p3 s1 s2 h0 n0 _ T51.heap _
          rw [e51]
          exact ⟨rfl, N51⟩
      · skip
        have ihc67_49 := (mt (own_eq (b := (0 : Int32)) (k := 0) rfl).mpr hc67_49)
        obtain ⟨cq52, kq52, q52a, q52b, q52c⟩ := isOf hZ rfl Eq47
        obtain ⟨_, _, ⟨T52, L52, k52, n52⟩, -, X52, ⟨Lc52, hQ52, l52, y52, z52⟩, st52⟩ := X47.virtualBack hx (y := own_m6) (z := own_m6) hown (mvT hZ (own_w77 hw)) (mvT hZ (own_w78 hw)) (notFace_of_selects (args := #[]) (mvT hZ (own_w80 hw))) (mvT hZ (own_w80 hw)) (mvT hZ (own_w79 hw)) (by decide) (backOf (W := 0) (own_unlock l Z a0 hw [] b1 (1 : Int32) (.int (1 : Int32)) T47.heap n0 Z47 g_b1 Eq47 Lr47 Uq47) hZ (own_w81 hw) (own_w4 hw) (by decide) (by decide)) q52a q52c (g := (mkF m 72 #[.val (.long p1), .second, .val (.int p2), .val (.int p3), .val (.long ((p1 &&& (4611686018427387903 : Int64)) + (2 : Int64))), .second, .val (.ref b1), .val (.int (1 : Int32)), .val (.int (2 : Int32))] [(.ref b1)])) rfl (by rw [hml]; rfl) (Steps.refl _) (argsL := []) (rest := []) (lenOf own_pd2 rfl) rfl (by show 2 * 0 + _ ≤ _; exact Nat.le_of_eq rfl) (hb hby at_72) (fun _ _ => ⟨rfl, rfl, (by decide : 19 + 0 ≤ _), (by decide : 63 + 0 ≤ _)⟩)
        dsimp only [Pt.U, Pt.locs, Pt.cells, Pt.slots] at X52 l52 y52 z52 st52 hQ52
        subst l52 y52 z52
        obtain ⟨rfl, N52q, Kq52, Eq52, Lq52, Uq52⟩ := hQ52
        have N52 := Fr.app N47 N52q
        have Z52 : n0 ≤ T52.heap.size := Nat.le_trans Z47 Kq52.1
        have K52 := K47.trans Kq52 (allS (P := fun x => x ∈ ([] : List Addr) ∨ h0.size ≤ x) (Or.inr sz_b1) all0)
        have Lr52 : Fld Z T52.heap b1 "com/example/tempe/tempe/algorithm/LocalMutex" "lockCalls" "I" (.int (1 : Int32)) := Lq52
        obtain ⟨cq53, kq53, q53a, q53b, q53c⟩ := isOf hZ rfl Eq52
        obtain ⟨_, _, ⟨T53, L53, k53, n53⟩, -, X53, ⟨Lc53, hQ53, l53, y53, z53⟩, st53⟩ := X52.virtualBack hx (y := own_m5) (z := own_m5) hown (mvT hZ (own_w84 hw)) (mvT hZ (own_w85 hw)) (notFace_of_selects (args := #[]) (mvT hZ (own_w87 hw))) (mvT hZ (own_w87 hw)) (mvT hZ (own_w86 hw)) (by decide) (backOf (W := 0) (own_lock l Z a0 hw [] b1 (1 : Int32) (.int (1 : Int32)) T52.heap n0 Z52 g_b1 Eq52 Lr52 Uq52) hZ (own_w88 hw) (own_w4 hw) (by decide) (by decide)) q53a q53c (g := (mkF m 83 #[.val (.long p1), .second, .val (.int p2), .val (.int p3), .val (.long ((p1 &&& (4611686018427387903 : Int64)) + (2 : Int64))), .second, .val (.ref b1), .val (.int (1 : Int32)), .val (.int (2 : Int32))] [(.ref b1)])) rfl (by rw [hml]; rfl) (Steps.refl _) (argsL := []) (rest := []) (lenOf own_pd2 rfl) rfl (by show 2 * 0 + _ ≤ _; exact Nat.le_of_eq rfl) (hb hby at_83) (fun _ _ => ⟨rfl, rfl, (by decide : 19 + 0 ≤ _), (by decide : 63 + 0 ≤ _)⟩)
        dsimp only [Pt.U, Pt.locs, Pt.cells, Pt.slots] at X53 l53 y53 z53 st53 hQ53
        subst l53 y53 z53
        obtain ⟨rfl, N53q, Kq53, Eq53, Lq53, Uq53⟩ := hQ53
        have N53 := Fr.app N52 N53q
        have Z53 : n0 ≤ T53.heap.size := Nat.le_trans Z52 Kq53.1
        have K53 := K52.trans Kq53 (allS (P := fun x => x ∈ ([] : List Addr) ∨ h0.size ≤ x) (Or.inr sz_b1) all0)
        have Lr53 : Fld Z T53.heap b1 "com/example/tempe/tempe/algorithm/LocalMutex" "lockCalls" "I" (.int (2 : Int32)) := Lq53
        obtain ⟨cq54, kq54, q54a, q54b, q54c⟩ := isOf hZ rfl Eq53
        obtain ⟨_, _, ⟨T54, L54, k54, n54⟩, -, X54, ⟨Lc54, hQ54, l54, y54, z54⟩, st54⟩ := X53.virtualBack hx (y := own_m4) (z := own_m4) hown (mvT hZ (own_w70 hw)) (mvT hZ (own_w71 hw)) (notFace_of_selects (args := #[]) (mvT hZ (own_w73 hw))) (mvT hZ (own_w73 hw)) (mvT hZ (own_w72 hw)) (by decide) (backOf (W := 0) (own_lp2 l Z a0 hw [] b1 T53.heap n0 Z53 Lr53) hZ (own_w74 hw) (own_w4 hw) (by decide) (by decide)) q54a q54c (g := (mkF m 104 #[.val (.long p1), .second, .val (.int p2), .val (.int p3), .val (.long ((p1 &&& (4611686018427387903 : Int64)) + (2 : Int64))), .second, .val (.ref b1), .val (.int (1 : Int32)), .val (.int (2 : Int32))] [(.ref b1)])) rfl (by rw [hml]; rfl) (Steps.refl _) (argsL := []) (rest := []) (lenOf own_pd4 rfl) rfl (by show 2 * 0 + _ ≤ _; exact Nat.le_of_eq rfl) (hb hby at_104) (fun _ _ => ⟨rfl, rfl, (by decide : 19 + 0 ≤ _), (by decide : 63 + 0 ≤ _)⟩)
        dsimp only [Pt.U, Pt.locs, Pt.cells, Pt.slots] at X54 l54 y54 z54 st54 hQ54
        subst l54 y54 z54
        obtain ⟨rfl, N54q, e54⟩ := hQ54
        have N54 := Fr.app N53 N54q
        obtain ⟨fs, hr, hrun, hended, hW, hsame⟩ := X54.leave (v := some (.int (1 : Int32))) (fun h => by rw [Bd.returns] at h; cases h)
        refine ⟨_, _, pre48 _ ?_, hrun, hended, _, _, rfl, ?_, ⟨_, rfl⟩, hW, hsame.mono (by decide) (by decide)⟩
        · show Steps _ _ _ (T47.setTop (mkF m 67 #[.val (.long p1), .second, .val (.int p2), .val (.int p3), .val (.long ((p1 &&& (4611686018427387903 : Int64)) + (2 : Int64))), .second, .val (.ref b1), .val (.int (1 : Int32)), .val (.int (2 : Int32))] [(.int (p3 &&& (2 : Int32)))])) _
          refine XS.ifNo X47.here hx rfl (hb hby at_67) rfl ((if0 _ _).trans (feq hc67_49).1) ?_
          refine XS.aload X47.here hx rfl (hb hby at_70) rfl rfl ?_
          refine st52.trans ?_
          refine XS.iload X52.here hx rfl (hb hby at_75) rfl ?_
          show Steps _ _ _ (T52.setTop (mkF m 77 #[.val (.long p1), .second, .val (.int p2), .val (.int p3), .val (.long ((p1 &&& (4611686018427387903 : Int64)) + (2 : Int64))), .second, .val (.ref b1), .val (.int (1 : Int32)), .val (.int (2 : Int32))] [(.int (2 : Int32))])) _
          refine XS.iconst X52.here hx rfl (hb hby at_77) ?_
          refine XS.icmpNo X52.here hx rfl (hb hby at_78) rfl (flt (by decide : ¬ ((2 : Int32) < (2 : Int32)))).1 ?_
          refine XS.aload X52.here hx rfl (hb hby at_81) rfl rfl ?_
          refine st53.trans ?_
          show Steps _ _ _ (T53.setTop (mkF m 86 #[.val (.long p1), .second, .val (.int p2), .val (.int p3), .val (.long ((p1 &&& (4611686018427387903 : Int64)) + (2 : Int64))), .second, .val (.ref b1), .val (.int (1 : Int32)), .val (.int (2 : Int32))] [])) _
          refine XS.iload X53.here hx rfl (hb hby at_86) rfl ?_
          refine XS.iconst X53.here hx rfl (hb hby at_88) ?_
          refine XS.icmpYes X53.here hx rfl (pc0 := 89) (pc' := 97) rfl (hb hby at_89) rfl (tlt (by decide : (2 : Int32) < (3 : Int32))).1 (by decide) (by decide) ?_
          refine XS.iload X53.here hx rfl (hb hby at_97) rfl ?_
          show Steps _ _ _ (T53.setTop (mkF m 99 #[.val (.long p1), .second, .val (.int p2), .val (.int p3), .val (.long ((p1 &&& (4611686018427387903 : Int64)) + (2 : Int64))), .second, .val (.ref b1), .val (.int (1 : Int32)), .val (.int (2 : Int32))] [(.int (1 : Int32))])) _
          refine XS.ifNo X53.here hx rfl (hb hby at_99) rfl ((if0 _ _).trans (feq (by decide : ¬ ((1 : Int32) = (0 : Int32)))).1) ?_
          refine XS.aload X53.here hx rfl (hb hby at_102) rfl rfl ?_
          refine st54.trans ?_
          refine XS.iload X54.here hx rfl (hb hby at_107) rfl ?_
          show Steps _ _ _ (T54.setTop (mkF m 109 #[.val (.long p1), .second, .val (.int p2), .val (.int p3), .val (.long ((p1 &&& (4611686018427387903 : Int64)) + (2 : Int64))), .second, .val (.ref b1), .val (.int (1 : Int32)), .val (.int (2 : Int32))] [(.int (2 : Int32)), (.int (1 : Int32))])) _
          refine XS.ifNo X54.here hx rfl (hb hby at_109) rfl ((if0 _ _).trans (tlt (by decide : (0 : Int32) < (2 : Int32))).2.2.2) ?_
          refine XS.iconst X54.here hx rfl (hb hby at_112) ?_
          refine XS.goto X54.here hx rfl (pc0 := 113) (pc' := 117) rfl (hb hby at_113) (by decide) (by decide) ?_
          refine XS.icmpNo X54.here hx rfl (hb hby at_117) rfl (teq (by decide : (1 : Int32) = (1 : Int32))).2 ?_
          show Steps _ _ _ (T54.setTop (mkF m 120 #[.val (.long p1), .second, .val (.int p2), .val (.int p3), .val (.long ((p1 &&& (4611686018427387903 : Int64)) + (2 : Int64))), .second, .val (.ref b1), .val (.int (1 : Int32)), .val (.int (2 : Int32))] [])) _
          refine XS.iconst X54.here hx rfl (hb hby at_120) ?_
          refine XS.goto X54.here hx rfl (pc0 := 121) (pc' := 125) rfl (hb hby at_121) (by decide) (by decide) ?_
          show Steps _ _ _ (T54.setTop (mkF m 125 #[.val (.long p1), .second, .val (.int p2), .val (.int p3), .val (.long ((p1 &&& (4611686018427387903 : Int64)) + (2 : Int64))), .second, .val (.ref b1), .val (.int (1 : Int32)), .val (.int (2 : Int32))] [(.int (1 : Int32))])) _
          exact retN X54 hx (t := .boolean) Bd.returns (by simp) (hb hby at_125) hr
        · show Qown_law Z p1 p2 p3 s1 s2 h0 n0 _ T54.heap _
          rw [e54]
          exact ⟨rfl, N54⟩
  · skip
    rw [hs7] at pre6
    have pre55 : ∀ t, Steps p.tables e below (T5.setTop (mkF m 45 #[.val (.long p1), .second, .val (.int p2), .val (.int p3), .val (.long ((p1 &&& (4611686018427387903 : Int64)) + (2 : Int64))), .second, .val (.ref b1), .val (.int (1 : Int32)), .val (.int (3 : Int32))] [(.int (p3 &&& (1 : Int32)))])) t → Steps p.tables e below (s₁.setTop (entryFrame m #[(.long p1), (.int p2), (.int p3)] maxLocals)) t := fun t kt => pre6 t (by
      show Steps _ _ _ (T5.setTop (mkF m 42 #[.val (.long p1), .second, .val (.int p2), .val (.int p3), .val (.long ((p1 &&& (4611686018427387903 : Int64)) + (2 : Int64))), .second, .val (.ref b1), .val (.int (1 : Int32)), .val (.int (3 : Int32))] [])) _
      refine XS.iloadN X5.here hx rfl (hb hby at_42) rfl ?_
      refine XS.iconst X5.here hx rfl (hb hby at_43) ?_
      refine XS.iand X5.here hx rfl (hb hby at_44) rfl ?_
      exact kt)
    by_cases hc45_56 : (p3 &&& (1 : Int32)) = (0 : Int32)
    · skip
      have ihc45_56 := (own_eq (b := (0 : Int32)) (k := 0) rfl).mp hc45_56
      obtain ⟨cq57, kq57, q57a, q57b, q57c⟩ := isOf hZ e5 Eq4
      obtain ⟨_, _, ⟨T57, L57, k57, n57⟩, -, X57, ⟨Lc57, hQ57, l57, y57, z57⟩, st57⟩ := X5.virtualBack hx (y := own_m5) (z := own_m5) hown (mvT hZ (own_w84 hw)) (mvT hZ (own_w85 hw)) (notFace_of_selects (args := #[]) (mvT hZ (own_w87 hw))) (mvT hZ (own_w87 hw)) (mvT hZ (own_w86 hw)) (by decide) (backOf (W := 0) (own_lock l Z a0 hw [] b1 (0 : Int32) (.int (0 : Int32)) T4.heap n0 Z4 g_b1 Eq4 Lq4 Uq4) hZ (own_w88 hw) (own_w4 hw) (by decide) (by decide)) q57a q57c (g := (mkF m 61 #[.val (.long p1), .second, .val (.int p2), .val (.int p3), .val (.long ((p1 &&& (4611686018427387903 : Int64)) + (2 : Int64))), .second, .val (.ref b1), .val (.int (1 : Int32)), .val (.int (3 : Int32))] [(.ref b1)])) rfl (by rw [hml]; rfl) (Steps.refl _) (argsL := []) (rest := []) (lenOf own_pd2 rfl) rfl (by show 2 * 0 + _ ≤ _; exact Nat.le_of_eq rfl) (hb hby at_61) (fun _ _ => ⟨rfl, e5, (by decide : 19 + 0 ≤ _), (by decide : 63 + 0 ≤ _)⟩)
      dsimp only [Pt.U, Pt.locs, Pt.cells, Pt.slots] at X57 l57 y57 z57 st57 hQ57
      subst l57 y57 z57
      obtain ⟨rfl, N57q, Kq57, Eq57, Lq57, Uq57⟩ := hQ57
      have N57 := Fr.app N5 N57q
      have Z57 : n0 ≤ T57.heap.size := Nat.le_trans Z4 Kq57.1
      have K57 := K4.trans Kq57 (allS (P := fun x => x ∈ ([] : List Addr) ∨ h0.size ≤ x) (Or.inr sz_b1) all0)
      have Lr57 : Fld Z T57.heap b1 "com/example/tempe/tempe/algorithm/LocalMutex" "lockCalls" "I" (.int (1 : Int32)) := Lq57
      have pre58 : ∀ t, Steps p.tables e below (T57.setTop (mkF m 67 #[.val (.long p1), .second, .val (.int p2), .val (.int p3), .val (.long ((p1 &&& (4611686018427387903 : Int64)) + (2 : Int64))), .second, .val (.ref b1), .val (.int (1 : Int32)), .val (.int (3 : Int32))] [(.int (p3 &&& (2 : Int32)))])) t → Steps p.tables e below (s₁.setTop (entryFrame m #[(.long p1), (.int p2), (.int p3)] maxLocals)) t := fun t kt => pre55 t (by
        show Steps _ _ _ (T5.setTop (mkF m 45 #[.val (.long p1), .second, .val (.int p2), .val (.int p3), .val (.long ((p1 &&& (4611686018427387903 : Int64)) + (2 : Int64))), .second, .val (.ref b1), .val (.int (1 : Int32)), .val (.int (3 : Int32))] [(.int (p3 &&& (1 : Int32)))])) _
        refine XS.ifYes X5.here hx rfl (pc0 := 45) (pc' := 53) rfl (hb hby at_45) rfl ((if0 _ _).trans (teq hc45_56).1) (by decide) (by decide) ?_
        refine XS.iload X5.here hx rfl (hb hby at_53) rfl ?_
        refine XS.iconst X5.here hx rfl (hb hby at_55) ?_
        refine XS.icmpNo X5.here hx rfl (hb hby at_56) rfl (flt (by decide : ¬ ((3 : Int32) < (1 : Int32)))).1 ?_
        show Steps _ _ _ (T5.setTop (mkF m 59 #[.val (.long p1), .second, .val (.int p2), .val (.int p3), .val (.long ((p1 &&& (4611686018427387903 : Int64)) + (2 : Int64))), .second, .val (.ref b1), .val (.int (1 : Int32)), .val (.int (3 : Int32))] [])) _
        refine XS.aload X5.here hx rfl (hb hby at_59) rfl rfl ?_
        refine st57.trans ?_
        refine XS.iloadN X57.here hx rfl (hb hby at_64) rfl ?_
        refine XS.iconst X57.here hx rfl (hb hby at_65) ?_
        show Steps _ _ _ (T57.setTop (mkF m 66 #[.val (.long p1), .second, .val (.int p2), .val (.int p3), .val (.long ((p1 &&& (4611686018427387903 : Int64)) + (2 : Int64))), .second, .val (.ref b1), .val (.int (1 : Int32)), .val (.int (3 : Int32))] [(.int (2 : Int32)), (.int p3)])) _
        refine XS.iand X57.here hx rfl (hb hby at_66) rfl ?_
        exact kt)
      by_cases hc67_59 : (p3 &&& (2 : Int32)) = (0 : Int32)
      · skip
        have ihc67_59 := (own_eq (b := (0 : Int32)) (k := 0) rfl).mp hc67_59
        obtain ⟨cq60, kq60, q60a, q60b, q60c⟩ := isOf hZ rfl Eq57
        obtain ⟨_, _, ⟨T60, L60, k60, n60⟩, -, X60, ⟨Lc60, hQ60, l60, y60, z60⟩, st60⟩ := X57.virtualBack hx (y := own_m5) (z := own_m5) hown (mvT hZ (own_w84 hw)) (mvT hZ (own_w85 hw)) (notFace_of_selects (args := #[]) (mvT hZ (own_w87 hw))) (mvT hZ (own_w87 hw)) (mvT hZ (own_w86 hw)) (by decide) (backOf (W := 0) (own_lock l Z a0 hw [] b1 (1 : Int32) (.int (0 : Int32)) T57.heap n0 Z57 g_b1 Eq57 Lr57 Uq57) hZ (own_w88 hw) (own_w4 hw) (by decide) (by decide)) q60a q60c (g := (mkF m 83 #[.val (.long p1), .second, .val (.int p2), .val (.int p3), .val (.long ((p1 &&& (4611686018427387903 : Int64)) + (2 : Int64))), .second, .val (.ref b1), .val (.int (1 : Int32)), .val (.int (3 : Int32))] [(.ref b1)])) rfl (by rw [hml]; rfl) (Steps.refl _) (argsL := []) (rest := []) (lenOf own_pd2 rfl) rfl (by show 2 * 0 + _ ≤ _; exact Nat.le_of_eq rfl) (hb hby at_83) (fun _ _ => ⟨rfl, rfl, (by decide : 19 + 0 ≤ _), (by decide : 63 + 0 ≤ _)⟩)
        dsimp only [Pt.U, Pt.locs, Pt.cells, Pt.slots] at X60 l60 y60 z60 st60 hQ60
        subst l60 y60 z60
        obtain ⟨rfl, N60q, Kq60, Eq60, Lq60, Uq60⟩ := hQ60
        have N60 := Fr.app N57 N60q
        have Z60 : n0 ≤ T60.heap.size := Nat.le_trans Z57 Kq60.1
        have K60 := K57.trans Kq60 (allS (P := fun x => x ∈ ([] : List Addr) ∨ h0.size ≤ x) (Or.inr sz_b1) all0)
        have Lr60 : Fld Z T60.heap b1 "com/example/tempe/tempe/algorithm/LocalMutex" "lockCalls" "I" (.int (2 : Int32)) := Lq60
        obtain ⟨cq61, kq61, q61a, q61b, q61c⟩ := isOf hZ rfl Eq60
        obtain ⟨_, _, ⟨T61, L61, k61, n61⟩, -, X61, ⟨Lc61, hQ61, l61, y61, z61⟩, st61⟩ := X60.virtualBack hx (y := own_m5) (z := own_m5) hown (mvT hZ (own_w84 hw)) (mvT hZ (own_w85 hw)) (notFace_of_selects (args := #[]) (mvT hZ (own_w87 hw))) (mvT hZ (own_w87 hw)) (mvT hZ (own_w86 hw)) (by decide) (backOf (W := 0) (own_lock l Z a0 hw [] b1 (2 : Int32) (.int (0 : Int32)) T60.heap n0 Z60 g_b1 Eq60 Lr60 Uq60) hZ (own_w88 hw) (own_w4 hw) (by decide) (by decide)) q61a q61c (g := (mkF m 94 #[.val (.long p1), .second, .val (.int p2), .val (.int p3), .val (.long ((p1 &&& (4611686018427387903 : Int64)) + (2 : Int64))), .second, .val (.ref b1), .val (.int (1 : Int32)), .val (.int (3 : Int32))] [(.ref b1)])) rfl (by rw [hml]; rfl) (Steps.refl _) (argsL := []) (rest := []) (lenOf own_pd2 rfl) rfl (by show 2 * 0 + _ ≤ _; exact Nat.le_of_eq rfl) (hb hby at_94) (fun _ _ => ⟨rfl, rfl, (by decide : 19 + 0 ≤ _), (by decide : 63 + 0 ≤ _)⟩)
        dsimp only [Pt.U, Pt.locs, Pt.cells, Pt.slots] at X61 l61 y61 z61 st61 hQ61
        subst l61 y61 z61
        obtain ⟨rfl, N61q, Kq61, Eq61, Lq61, Uq61⟩ := hQ61
        have N61 := Fr.app N60 N61q
        have Z61 : n0 ≤ T61.heap.size := Nat.le_trans Z60 Kq61.1
        have K61 := K60.trans Kq61 (allS (P := fun x => x ∈ ([] : List Addr) ∨ h0.size ≤ x) (Or.inr sz_b1) all0)
        have Lr61 : Fld Z T61.heap b1 "com/example/tempe/tempe/algorithm/LocalMutex" "lockCalls" "I" (.int (3 : Int32)) := Lq61
        obtain ⟨cq62, kq62, q62a, q62b, q62c⟩ := isOf hZ rfl Eq61
        obtain ⟨_, _, ⟨T62, L62, k62, n62⟩, -, X62, ⟨Lc62, hQ62, l62, y62, z62⟩, st62⟩ := X61.virtualBack hx (y := own_m4) (z := own_m4) hown (mvT hZ (own_w70 hw)) (mvT hZ (own_w71 hw)) (notFace_of_selects (args := #[]) (mvT hZ (own_w73 hw))) (mvT hZ (own_w73 hw)) (mvT hZ (own_w72 hw)) (by decide) (backOf (W := 0) (own_lp3 l Z a0 hw [] b1 T61.heap n0 Z61 Lr61) hZ (own_w74 hw) (own_w4 hw) (by decide) (by decide)) q62a q62c (g := (mkF m 104 #[.val (.long p1), .second, .val (.int p2), .val (.int p3), .val (.long ((p1 &&& (4611686018427387903 : Int64)) + (2 : Int64))), .second, .val (.ref b1), .val (.int (1 : Int32)), .val (.int (3 : Int32))] [(.ref b1)])) rfl (by rw [hml]; rfl) (Steps.refl _) (argsL := []) (rest := []) (lenOf own_pd4 rfl) rfl (by show 2 * 0 + _ ≤ _; exact Nat.le_of_eq rfl) (hb hby at_104) (fun _ _ => ⟨rfl, rfl, (by decide : 19 + 0 ≤ _), (by decide : 63 + 0 ≤ _)⟩)
        dsimp only [Pt.U, Pt.locs, Pt.cells, Pt.slots] at X62 l62 y62 z62 st62 hQ62
        subst l62 y62 z62
        obtain ⟨rfl, N62q, e62⟩ := hQ62
        have N62 := Fr.app N61 N62q
        obtain ⟨fs, hr, hrun, hended, hW, hsame⟩ := X62.leave (v := some (.int (1 : Int32))) (fun h => by rw [Bd.returns] at h; cases h)
        refine ⟨_, _, pre58 _ ?_, hrun, hended, _, _, rfl, ?_, ⟨_, rfl⟩, hW, hsame.mono (by decide) (by decide)⟩
        · show Steps _ _ _ (T57.setTop (mkF m 67 #[.val (.long p1), .second, .val (.int p2), .val (.int p3), .val (.long ((p1 &&& (4611686018427387903 : Int64)) + (2 : Int64))), .second, .val (.ref b1), .val (.int (1 : Int32)), .val (.int (3 : Int32))] [(.int (p3 &&& (2 : Int32)))])) _
          refine XS.ifYes X57.here hx rfl (pc0 := 67) (pc' := 75) rfl (hb hby at_67) rfl ((if0 _ _).trans (teq hc67_59).1) (by decide) (by decide) ?_
          refine XS.iload X57.here hx rfl (hb hby at_75) rfl ?_
          refine XS.iconst X57.here hx rfl (hb hby at_77) ?_
          refine XS.icmpNo X57.here hx rfl (hb hby at_78) rfl (flt (by decide : ¬ ((3 : Int32) < (2 : Int32)))).1 ?_
          show Steps _ _ _ (T57.setTop (mkF m 81 #[.val (.long p1), .second, .val (.int p2), .val (.int p3), .val (.long ((p1 &&& (4611686018427387903 : Int64)) + (2 : Int64))), .second, .val (.ref b1), .val (.int (1 : Int32)), .val (.int (3 : Int32))] [])) _
          refine XS.aload X57.here hx rfl (hb hby at_81) rfl rfl ?_
          refine st60.trans ?_
          refine XS.iload X60.here hx rfl (hb hby at_86) rfl ?_
          refine XS.iconst X60.here hx rfl (hb hby at_88) ?_
          show Steps _ _ _ (T60.setTop (mkF m 89 #[.val (.long p1), .second, .val (.int p2), .val (.int p3), .val (.long ((p1 &&& (4611686018427387903 : Int64)) + (2 : Int64))), .second, .val (.ref b1), .val (.int (1 : Int32)), .val (.int (3 : Int32))] [(.int (3 : Int32)), (.int (3 : Int32))])) _
          refine XS.icmpNo X60.here hx rfl (hb hby at_89) rfl (flt (by decide : ¬ ((3 : Int32) < (3 : Int32)))).1 ?_
          refine XS.aload X60.here hx rfl (hb hby at_92) rfl rfl ?_
          refine st61.trans ?_
          refine XS.iload X61.here hx rfl (hb hby at_97) rfl ?_
          show Steps _ _ _ (T61.setTop (mkF m 99 #[.val (.long p1), .second, .val (.int p2), .val (.int p3), .val (.long ((p1 &&& (4611686018427387903 : Int64)) + (2 : Int64))), .second, .val (.ref b1), .val (.int (1 : Int32)), .val (.int (3 : Int32))] [(.int (1 : Int32))])) _
          refine XS.ifNo X61.here hx rfl (hb hby at_99) rfl ((if0 _ _).trans (feq (by decide : ¬ ((1 : Int32) = (0 : Int32)))).1) ?_
          refine XS.aload X61.here hx rfl (hb hby at_102) rfl rfl ?_
          refine st62.trans ?_
          refine XS.iload X62.here hx rfl (hb hby at_107) rfl ?_
          show Steps _ _ _ (T62.setTop (mkF m 109 #[.val (.long p1), .second, .val (.int p2), .val (.int p3), .val (.long ((p1 &&& (4611686018427387903 : Int64)) + (2 : Int64))), .second, .val (.ref b1), .val (.int (1 : Int32)), .val (.int (3 : Int32))] [(.int (3 : Int32)), (.int (1 : Int32))])) _
          refine XS.ifNo X62.here hx rfl (hb hby at_109) rfl ((if0 _ _).trans (tlt (by decide : (0 : Int32) < (3 : Int32))).2.2.2) ?_
          refine XS.iconst X62.here hx rfl (hb hby at_112) ?_
          refine XS.goto X62.here hx rfl (pc0 := 113) (pc' := 117) rfl (hb hby at_113) (by decide) (by decide) ?_
          refine XS.icmpNo X62.here hx rfl (hb hby at_117) rfl (teq (by decide : (1 : Int32) = (1 : Int32))).2 ?_
          show Steps _ _ _ (T62.setTop (mkF m 120 #[.val (.long p1), .second, .val (.int p2), .val (.int p3), .val (.long ((p1 &&& (4611686018427387903 : Int64)) + (2 : Int64))), .second, .val (.ref b1), .val (.int (1 : Int32)), .val (.int (3 : Int32))] [])) _
          refine XS.iconst X62.here hx rfl (hb hby at_120) ?_
          refine XS.goto X62.here hx rfl (pc0 := 121) (pc' := 125) rfl (hb hby at_121) (by decide) (by decide) ?_
          show Steps _ _ _ (T62.setTop (mkF m 125 #[.val (.long p1), .second, .val (.int p2), .val (.int p3), .val (.long ((p1 &&& (4611686018427387903 : Int64)) + (2 : Int64))), .second, .val (.ref b1), .val (.int (1 : Int32)), .val (.int (3 : Int32))] [(.int (1 : Int32))])) _
          exact retN X62 hx (t := .boolean) Bd.returns (by simp) (hb hby at_125) hr
        · show Qown_law Z p1 p2 p3 s1 s2 h0 n0 _ T62.heap _
          rw [e62]
          exact ⟨rfl, N62⟩
      · skip
        have ihc67_59 := (mt (own_eq (b := (0 : Int32)) (k := 0) rfl).mpr hc67_59)
        obtain ⟨cq63, kq63, q63a, q63b, q63c⟩ := isOf hZ rfl Eq57
        obtain ⟨_, _, ⟨T63, L63, k63, n63⟩, -, X63, ⟨Lc63, hQ63, l63, y63, z63⟩, st63⟩ := X57.virtualBack hx (y := own_m6) (z := own_m6) hown (mvT hZ (own_w77 hw)) (mvT hZ (own_w78 hw)) (notFace_of_selects (args := #[]) (mvT hZ (own_w80 hw))) (mvT hZ (own_w80 hw)) (mvT hZ (own_w79 hw)) (by decide) (backOf (W := 0) (own_unlock l Z a0 hw [] b1 (1 : Int32) (.int (0 : Int32)) T57.heap n0 Z57 g_b1 Eq57 Lr57 Uq57) hZ (own_w81 hw) (own_w4 hw) (by decide) (by decide)) q63a q63c (g := (mkF m 72 #[.val (.long p1), .second, .val (.int p2), .val (.int p3), .val (.long ((p1 &&& (4611686018427387903 : Int64)) + (2 : Int64))), .second, .val (.ref b1), .val (.int (1 : Int32)), .val (.int (3 : Int32))] [(.ref b1)])) rfl (by rw [hml]; rfl) (Steps.refl _) (argsL := []) (rest := []) (lenOf own_pd2 rfl) rfl (by show 2 * 0 + _ ≤ _; exact Nat.le_of_eq rfl) (hb hby at_72) (fun _ _ => ⟨rfl, rfl, (by decide : 19 + 0 ≤ _), (by decide : 63 + 0 ≤ _)⟩)
        dsimp only [Pt.U, Pt.locs, Pt.cells, Pt.slots] at X63 l63 y63 z63 st63 hQ63
        subst l63 y63 z63
        obtain ⟨rfl, N63q, Kq63, Eq63, Lq63, Uq63⟩ := hQ63
        have N63 := Fr.app N57 N63q
        have Z63 : n0 ≤ T63.heap.size := Nat.le_trans Z57 Kq63.1
        have K63 := K57.trans Kq63 (allS (P := fun x => x ∈ ([] : List Addr) ∨ h0.size ≤ x) (Or.inr sz_b1) all0)
        have Lr63 : Fld Z T63.heap b1 "com/example/tempe/tempe/algorithm/LocalMutex" "lockCalls" "I" (.int (1 : Int32)) := Lq63
        obtain ⟨cq64, kq64, q64a, q64b, q64c⟩ := isOf hZ rfl Eq63
        obtain ⟨_, _, ⟨T64, L64, k64, n64⟩, -, X64, ⟨Lc64, hQ64, l64, y64, z64⟩, st64⟩ := X63.virtualBack hx (y := own_m5) (z := own_m5) hown (mvT hZ (own_w84 hw)) (mvT hZ (own_w85 hw)) (notFace_of_selects (args := #[]) (mvT hZ (own_w87 hw))) (mvT hZ (own_w87 hw)) (mvT hZ (own_w86 hw)) (by decide) (backOf (W := 0) (own_lock l Z a0 hw [] b1 (1 : Int32) (.int (1 : Int32)) T63.heap n0 Z63 g_b1 Eq63 Lr63 Uq63) hZ (own_w88 hw) (own_w4 hw) (by decide) (by decide)) q64a q64c (g := (mkF m 83 #[.val (.long p1), .second, .val (.int p2), .val (.int p3), .val (.long ((p1 &&& (4611686018427387903 : Int64)) + (2 : Int64))), .second, .val (.ref b1), .val (.int (1 : Int32)), .val (.int (3 : Int32))] [(.ref b1)])) rfl (by rw [hml]; rfl) (Steps.refl _) (argsL := []) (rest := []) (lenOf own_pd2 rfl) rfl (by show 2 * 0 + _ ≤ _; exact Nat.le_of_eq rfl) (hb hby at_83) (fun _ _ => ⟨rfl, rfl, (by decide : 19 + 0 ≤ _), (by decide : 63 + 0 ≤ _)⟩)
        dsimp only [Pt.U, Pt.locs, Pt.cells, Pt.slots] at X64 l64 y64 z64 st64 hQ64
        subst l64 y64 z64
        obtain ⟨rfl, N64q, Kq64, Eq64, Lq64, Uq64⟩ := hQ64
        have N64 := Fr.app N63 N64q
        have Z64 : n0 ≤ T64.heap.size := Nat.le_trans Z63 Kq64.1
        have K64 := K63.trans Kq64 (allS (P := fun x => x ∈ ([] : List Addr) ∨ h0.size ≤ x) (Or.inr sz_b1) all0)
        have Lr64 : Fld Z T64.heap b1 "com/example/tempe/tempe/algorithm/LocalMutex" "lockCalls" "I" (.int (2 : Int32)) := Lq64
        obtain ⟨cq65, kq65, q65a, q65b, q65c⟩ := isOf hZ rfl Eq64
        obtain ⟨_, _, ⟨T65, L65, k65, n65⟩, -, X65, ⟨Lc65, hQ65, l65, y65, z65⟩, st65⟩ := X64.virtualBack hx (y := own_m5) (z := own_m5) hown (mvT hZ (own_w84 hw)) (mvT hZ (own_w85 hw)) (notFace_of_selects (args := #[]) (mvT hZ (own_w87 hw))) (mvT hZ (own_w87 hw)) (mvT hZ (own_w86 hw)) (by decide) (backOf (W := 0) (own_lock l Z a0 hw [] b1 (2 : Int32) (.int (1 : Int32)) T64.heap n0 Z64 g_b1 Eq64 Lr64 Uq64) hZ (own_w88 hw) (own_w4 hw) (by decide) (by decide)) q65a q65c (g := (mkF m 94 #[.val (.long p1), .second, .val (.int p2), .val (.int p3), .val (.long ((p1 &&& (4611686018427387903 : Int64)) + (2 : Int64))), .second, .val (.ref b1), .val (.int (1 : Int32)), .val (.int (3 : Int32))] [(.ref b1)])) rfl (by rw [hml]; rfl) (Steps.refl _) (argsL := []) (rest := []) (lenOf own_pd2 rfl) rfl (by show 2 * 0 + _ ≤ _; exact Nat.le_of_eq rfl) (hb hby at_94) (fun _ _ => ⟨rfl, rfl, (by decide : 19 + 0 ≤ _), (by decide : 63 + 0 ≤ _)⟩)
        dsimp only [Pt.U, Pt.locs, Pt.cells, Pt.slots] at X65 l65 y65 z65 st65 hQ65
        subst l65 y65 z65
        obtain ⟨rfl, N65q, Kq65, Eq65, Lq65, Uq65⟩ := hQ65
        have N65 := Fr.app N64 N65q
        have Z65 : n0 ≤ T65.heap.size := Nat.le_trans Z64 Kq65.1
        have K65 := K64.trans Kq65 (allS (P := fun x => x ∈ ([] : List Addr) ∨ h0.size ≤ x) (Or.inr sz_b1) all0)
        have Lr65 : Fld Z T65.heap b1 "com/example/tempe/tempe/algorithm/LocalMutex" "lockCalls" "I" (.int (3 : Int32)) := Lq65
        obtain ⟨cq66, kq66, q66a, q66b, q66c⟩ := isOf hZ rfl Eq65
        obtain ⟨_, _, ⟨T66, L66, k66, n66⟩, -, X66, ⟨Lc66, hQ66, l66, y66, z66⟩, st66⟩ := X65.virtualBack hx (y := own_m4) (z := own_m4) hown (mvT hZ (own_w70 hw)) (mvT hZ (own_w71 hw)) (notFace_of_selects (args := #[]) (mvT hZ (own_w73 hw))) (mvT hZ (own_w73 hw)) (mvT hZ (own_w72 hw)) (by decide) (backOf (W := 0) (own_lp3 l Z a0 hw [] b1 T65.heap n0 Z65 Lr65) hZ (own_w74 hw) (own_w4 hw) (by decide) (by decide)) q66a q66c (g := (mkF m 104 #[.val (.long p1), .second, .val (.int p2), .val (.int p3), .val (.long ((p1 &&& (4611686018427387903 : Int64)) + (2 : Int64))), .second, .val (.ref b1), .val (.int (1 : Int32)), .val (.int (3 : Int32))] [(.ref b1)])) rfl (by rw [hml]; rfl) (Steps.refl _) (argsL := []) (rest := []) (lenOf own_pd4 rfl) rfl (by show 2 * 0 + _ ≤ _; exact Nat.le_of_eq rfl) (hb hby at_104) (fun _ _ => ⟨rfl, rfl, (by decide : 19 + 0 ≤ _), (by decide : 63 + 0 ≤ _)⟩)
        dsimp only [Pt.U, Pt.locs, Pt.cells, Pt.slots] at X66 l66 y66 z66 st66 hQ66
        subst l66 y66 z66
        obtain ⟨rfl, N66q, e66⟩ := hQ66
        have N66 := Fr.app N65 N66q
        obtain ⟨fs, hr, hrun, hended, hW, hsame⟩ := X66.leave (v := some (.int (1 : Int32))) (fun h => by rw [Bd.returns] at h; cases h)
        refine ⟨_, _, pre58 _ ?_, hrun, hended, _, _, rfl, ?_, ⟨_, rfl⟩, hW, hsame.mono (by decide) (by decide)⟩
        · show Steps _ _ _ (T57.setTop (mkF m 67 #[.val (.long p1), .second, .val (.int p2), .val (.int p3), .val (.long ((p1 &&& (4611686018427387903 : Int64)) + (2 : Int64))), .second, .val (.ref b1), .val (.int (1 : Int32)), .val (.int (3 : Int32))] [(.int (p3 &&& (2 : Int32)))])) _
          refine XS.ifNo X57.here hx rfl (hb hby at_67) rfl ((if0 _ _).trans (feq hc67_59).1) ?_
          refine XS.aload X57.here hx rfl (hb hby at_70) rfl rfl ?_
          refine st63.trans ?_
          refine XS.iload X63.here hx rfl (hb hby at_75) rfl ?_
          show Steps _ _ _ (T63.setTop (mkF m 77 #[.val (.long p1), .second, .val (.int p2), .val (.int p3), .val (.long ((p1 &&& (4611686018427387903 : Int64)) + (2 : Int64))), .second, .val (.ref b1), .val (.int (1 : Int32)), .val (.int (3 : Int32))] [(.int (3 : Int32))])) _
          refine XS.iconst X63.here hx rfl (hb hby at_77) ?_
          refine XS.icmpNo X63.here hx rfl (hb hby at_78) rfl (flt (by decide : ¬ ((3 : Int32) < (2 : Int32)))).1 ?_
          refine XS.aload X63.here hx rfl (hb hby at_81) rfl rfl ?_
          refine st64.trans ?_
          show Steps _ _ _ (T64.setTop (mkF m 86 #[.val (.long p1), .second, .val (.int p2), .val (.int p3), .val (.long ((p1 &&& (4611686018427387903 : Int64)) + (2 : Int64))), .second, .val (.ref b1), .val (.int (1 : Int32)), .val (.int (3 : Int32))] [])) _
          refine XS.iload X64.here hx rfl (hb hby at_86) rfl ?_
          refine XS.iconst X64.here hx rfl (hb hby at_88) ?_
          refine XS.icmpNo X64.here hx rfl (hb hby at_89) rfl (flt (by decide : ¬ ((3 : Int32) < (3 : Int32)))).1 ?_
          refine XS.aload X64.here hx rfl (hb hby at_92) rfl rfl ?_
          show Steps _ _ _ (T64.setTop (mkF m 94 #[.val (.long p1), .second, .val (.int p2), .val (.int p3), .val (.long ((p1 &&& (4611686018427387903 : Int64)) + (2 : Int64))), .second, .val (.ref b1), .val (.int (1 : Int32)), .val (.int (3 : Int32))] [(.ref b1)])) _
          refine st65.trans ?_
          refine XS.iload X65.here hx rfl (hb hby at_97) rfl ?_
          refine XS.ifNo X65.here hx rfl (hb hby at_99) rfl ((if0 _ _).trans (feq (by decide : ¬ ((1 : Int32) = (0 : Int32)))).1) ?_
          refine XS.aload X65.here hx rfl (hb hby at_102) rfl rfl ?_
          show Steps _ _ _ (T65.setTop (mkF m 104 #[.val (.long p1), .second, .val (.int p2), .val (.int p3), .val (.long ((p1 &&& (4611686018427387903 : Int64)) + (2 : Int64))), .second, .val (.ref b1), .val (.int (1 : Int32)), .val (.int (3 : Int32))] [(.ref b1)])) _
          refine st66.trans ?_
          refine XS.iload X66.here hx rfl (hb hby at_107) rfl ?_
          refine XS.ifNo X66.here hx rfl (hb hby at_109) rfl ((if0 _ _).trans (tlt (by decide : (0 : Int32) < (3 : Int32))).2.2.2) ?_
          refine XS.iconst X66.here hx rfl (hb hby at_112) ?_
          show Steps _ _ _ (T66.setTop (mkF m 113 #[.val (.long p1), .second, .val (.int p2), .val (.int p3), .val (.long ((p1 &&& (4611686018427387903 : Int64)) + (2 : Int64))), .second, .val (.ref b1), .val (.int (1 : Int32)), .val (.int (3 : Int32))] [(.int (1 : Int32)), (.int (1 : Int32))])) _
          refine XS.goto X66.here hx rfl (pc0 := 113) (pc' := 117) rfl (hb hby at_113) (by decide) (by decide) ?_
          refine XS.icmpNo X66.here hx rfl (hb hby at_117) rfl (teq (by decide : (1 : Int32) = (1 : Int32))).2 ?_
          refine XS.iconst X66.here hx rfl (hb hby at_120) ?_
          refine XS.goto X66.here hx rfl (pc0 := 121) (pc' := 125) rfl (hb hby at_121) (by decide) (by decide) ?_
          show Steps _ _ _ (T66.setTop (mkF m 125 #[.val (.long p1), .second, .val (.int p2), .val (.int p3), .val (.long ((p1 &&& (4611686018427387903 : Int64)) + (2 : Int64))), .second, .val (.ref b1), .val (.int (1 : Int32)), .val (.int (3 : Int32))] [(.int (1 : Int32))])) _
          exact retN X66 hx (t := .boolean) Bd.returns (by simp) (hb hby at_125) hr
        · show Qown_law Z p1 p2 p3 s1 s2 h0 n0 _ T66.heap _
          rw [e66]
          exact ⟨rfl, N66⟩
    · skip
      have ihc45_56 := (mt (own_eq (b := (0 : Int32)) (k := 0) rfl).mpr hc45_56)
      obtain ⟨cq67, kq67, q67a, q67b, q67c⟩ := isOf hZ e5 Eq4
      obtain ⟨_, _, ⟨T67, L67, k67, n67⟩, -, X67, ⟨Lc67, hQ67, l67, y67, z67⟩, st67⟩ := X5.virtualBack hx (y := own_m6) (z := own_m6) hown (mvT hZ (own_w77 hw)) (mvT hZ (own_w78 hw)) (notFace_of_selects (args := #[]) (mvT hZ (own_w80 hw))) (mvT hZ (own_w80 hw)) (mvT hZ (own_w79 hw)) (by decide) (backOf (W := 0) (own_unlock l Z a0 hw [] b1 (0 : Int32) (.int (0 : Int32)) T4.heap n0 Z4 g_b1 Eq4 Lq4 Uq4) hZ (own_w81 hw) (own_w4 hw) (by decide) (by decide)) q67a q67c (g := (mkF m 50 #[.val (.long p1), .second, .val (.int p2), .val (.int p3), .val (.long ((p1 &&& (4611686018427387903 : Int64)) + (2 : Int64))), .second, .val (.ref b1), .val (.int (1 : Int32)), .val (.int (3 : Int32))] [(.ref b1)])) rfl (by rw [hml]; rfl) (Steps.refl _) (argsL := []) (rest := []) (lenOf own_pd2 rfl) rfl (by show 2 * 0 + _ ≤ _; exact Nat.le_of_eq rfl) (hb hby at_50) (fun _ _ => ⟨rfl, e5, (by decide : 19 + 0 ≤ _), (by decide : 63 + 0 ≤ _)⟩)
      dsimp only [Pt.U, Pt.locs, Pt.cells, Pt.slots] at X67 l67 y67 z67 st67 hQ67
      subst l67 y67 z67
      obtain ⟨rfl, N67q, Kq67, Eq67, Lq67, Uq67⟩ := hQ67
      have N67 := Fr.app N5 N67q
      have Z67 : n0 ≤ T67.heap.size := Nat.le_trans Z4 Kq67.1
      have K67 := K4.trans Kq67 (allS (P := fun x => x ∈ ([] : List Addr) ∨ h0.size ≤ x) (Or.inr sz_b1) all0)
      have Lr67 : Fld Z T67.heap b1 "com/example/tempe/tempe/algorithm/LocalMutex" "lockCalls" "I" (.int (0 : Int32)) := Lq67
      obtain ⟨cq68, kq68, q68a, q68b, q68c⟩ := isOf hZ rfl Eq67
      obtain ⟨_, _, ⟨T68, L68, k68, n68⟩, -, X68, ⟨Lc68, hQ68, l68, y68, z68⟩, st68⟩ := X67.virtualBack hx (y := own_m5) (z := own_m5) hown (mvT hZ (own_w84 hw)) (mvT hZ (own_w85 hw)) (notFace_of_selects (args := #[]) (mvT hZ (own_w87 hw))) (mvT hZ (own_w87 hw)) (mvT hZ (own_w86 hw)) (by decide) (backOf (W := 0) (own_lock l Z a0 hw [] b1 (0 : Int32) (.int (1 : Int32)) T67.heap n0 Z67 g_b1 Eq67 Lr67 Uq67) hZ (own_w88 hw) (own_w4 hw) (by decide) (by decide)) q68a q68c (g := (mkF m 61 #[.val (.long p1), .second, .val (.int p2), .val (.int p3), .val (.long ((p1 &&& (4611686018427387903 : Int64)) + (2 : Int64))), .second, .val (.ref b1), .val (.int (1 : Int32)), .val (.int (3 : Int32))] [(.ref b1)])) rfl (by rw [hml]; rfl) (Steps.refl _) (argsL := []) (rest := []) (lenOf own_pd2 rfl) rfl (by show 2 * 0 + _ ≤ _; exact Nat.le_of_eq rfl) (hb hby at_61) (fun _ _ => ⟨rfl, rfl, (by decide : 19 + 0 ≤ _), (by decide : 63 + 0 ≤ _)⟩)
      dsimp only [Pt.U, Pt.locs, Pt.cells, Pt.slots] at X68 l68 y68 z68 st68 hQ68
      subst l68 y68 z68
      obtain ⟨rfl, N68q, Kq68, Eq68, Lq68, Uq68⟩ := hQ68
      have N68 := Fr.app N67 N68q
      have Z68 : n0 ≤ T68.heap.size := Nat.le_trans Z67 Kq68.1
      have K68 := K67.trans Kq68 (allS (P := fun x => x ∈ ([] : List Addr) ∨ h0.size ≤ x) (Or.inr sz_b1) all0)
      have Lr68 : Fld Z T68.heap b1 "com/example/tempe/tempe/algorithm/LocalMutex" "lockCalls" "I" (.int (1 : Int32)) := Lq68
      have pre69 : ∀ t, Steps p.tables e below (T68.setTop (mkF m 67 #[.val (.long p1), .second, .val (.int p2), .val (.int p3), .val (.long ((p1 &&& (4611686018427387903 : Int64)) + (2 : Int64))), .second, .val (.ref b1), .val (.int (1 : Int32)), .val (.int (3 : Int32))] [(.int (p3 &&& (2 : Int32)))])) t → Steps p.tables e below (s₁.setTop (entryFrame m #[(.long p1), (.int p2), (.int p3)] maxLocals)) t := fun t kt => pre55 t (by
        show Steps _ _ _ (T5.setTop (mkF m 45 #[.val (.long p1), .second, .val (.int p2), .val (.int p3), .val (.long ((p1 &&& (4611686018427387903 : Int64)) + (2 : Int64))), .second, .val (.ref b1), .val (.int (1 : Int32)), .val (.int (3 : Int32))] [(.int (p3 &&& (1 : Int32)))])) _
        refine XS.ifNo X5.here hx rfl (hb hby at_45) rfl ((if0 _ _).trans (feq hc45_56).1) ?_
        refine XS.aload X5.here hx rfl (hb hby at_48) rfl rfl ?_
        refine st67.trans ?_
        refine XS.iload X67.here hx rfl (hb hby at_53) rfl ?_
        show Steps _ _ _ (T67.setTop (mkF m 55 #[.val (.long p1), .second, .val (.int p2), .val (.int p3), .val (.long ((p1 &&& (4611686018427387903 : Int64)) + (2 : Int64))), .second, .val (.ref b1), .val (.int (1 : Int32)), .val (.int (3 : Int32))] [(.int (3 : Int32))])) _
        refine XS.iconst X67.here hx rfl (hb hby at_55) ?_
        refine XS.icmpNo X67.here hx rfl (hb hby at_56) rfl (flt (by decide : ¬ ((3 : Int32) < (1 : Int32)))).1 ?_
        refine XS.aload X67.here hx rfl (hb hby at_59) rfl rfl ?_
        refine st68.trans ?_
        show Steps _ _ _ (T68.setTop (mkF m 64 #[.val (.long p1), .second, .val (.int p2), .val (.int p3), .val (.long ((p1 &&& (4611686018427387903 : Int64)) + (2 : Int64))), .second, .val (.ref b1), .val (.int (1 : Int32)), .val (.int (3 : Int32))] [])) _
        refine XS.iloadN X68.here hx rfl (hb hby at_64) rfl ?_
        refine XS.iconst X68.here hx rfl (hb hby at_65) ?_
        refine XS.iand X68.here hx rfl (hb hby at_66) rfl ?_
        exact kt)
      by_cases hc67_70 : (p3 &&& (2 : Int32)) = (0 : Int32)
      · skip
        have ihc67_70 := (own_eq (b := (0 : Int32)) (k := 0) rfl).mp hc67_70
        obtain ⟨cq71, kq71, q71a, q71b, q71c⟩ := isOf hZ rfl Eq68
        obtain ⟨_, _, ⟨T71, L71, k71, n71⟩, -, X71, ⟨Lc71, hQ71, l71, y71, z71⟩, st71⟩ := X68.virtualBack hx (y := own_m5) (z := own_m5) hown (mvT hZ (own_w84 hw)) (mvT hZ (own_w85 hw)) (notFace_of_selects (args := #[]) (mvT hZ (own_w87 hw))) (mvT hZ (own_w87 hw)) (mvT hZ (own_w86 hw)) (by decide) (backOf (W := 0) (own_lock l Z a0 hw [] b1 (1 : Int32) (.int (1 : Int32)) T68.heap n0 Z68 g_b1 Eq68 Lr68 Uq68) hZ (own_w88 hw) (own_w4 hw) (by decide) (by decide)) q71a q71c (g := (mkF m 83 #[.val (.long p1), .second, .val (.int p2), .val (.int p3), .val (.long ((p1 &&& (4611686018427387903 : Int64)) + (2 : Int64))), .second, .val (.ref b1), .val (.int (1 : Int32)), .val (.int (3 : Int32))] [(.ref b1)])) rfl (by rw [hml]; rfl) (Steps.refl _) (argsL := []) (rest := []) (lenOf own_pd2 rfl) rfl (by show 2 * 0 + _ ≤ _; exact Nat.le_of_eq rfl) (hb hby at_83) (fun _ _ => ⟨rfl, rfl, (by decide : 19 + 0 ≤ _), (by decide : 63 + 0 ≤ _)⟩)
        dsimp only [Pt.U, Pt.locs, Pt.cells, Pt.slots] at X71 l71 y71 z71 st71 hQ71
        subst l71 y71 z71
        obtain ⟨rfl, N71q, Kq71, Eq71, Lq71, Uq71⟩ := hQ71
        have N71 := Fr.app N68 N71q
        have Z71 : n0 ≤ T71.heap.size := Nat.le_trans Z68 Kq71.1
        have K71 := K68.trans Kq71 (allS (P := fun x => x ∈ ([] : List Addr) ∨ h0.size ≤ x) (Or.inr sz_b1) all0)
        have Lr71 : Fld Z T71.heap b1 "com/example/tempe/tempe/algorithm/LocalMutex" "lockCalls" "I" (.int (2 : Int32)) := Lq71
        obtain ⟨cq72, kq72, q72a, q72b, q72c⟩ := isOf hZ rfl Eq71
        obtain ⟨_, _, ⟨T72, L72, k72, n72⟩, -, X72, ⟨Lc72, hQ72, l72, y72, z72⟩, st72⟩ := X71.virtualBack hx (y := own_m5) (z := own_m5) hown (mvT hZ (own_w84 hw)) (mvT hZ (own_w85 hw)) (notFace_of_selects (args := #[]) (mvT hZ (own_w87 hw))) (mvT hZ (own_w87 hw)) (mvT hZ (own_w86 hw)) (by decide) (backOf (W := 0) (own_lock l Z a0 hw [] b1 (2 : Int32) (.int (1 : Int32)) T71.heap n0 Z71 g_b1 Eq71 Lr71 Uq71) hZ (own_w88 hw) (own_w4 hw) (by decide) (by decide)) q72a q72c (g := (mkF m 94 #[.val (.long p1), .second, .val (.int p2), .val (.int p3), .val (.long ((p1 &&& (4611686018427387903 : Int64)) + (2 : Int64))), .second, .val (.ref b1), .val (.int (1 : Int32)), .val (.int (3 : Int32))] [(.ref b1)])) rfl (by rw [hml]; rfl) (Steps.refl _) (argsL := []) (rest := []) (lenOf own_pd2 rfl) rfl (by show 2 * 0 + _ ≤ _; exact Nat.le_of_eq rfl) (hb hby at_94) (fun _ _ => ⟨rfl, rfl, (by decide : 19 + 0 ≤ _), (by decide : 63 + 0 ≤ _)⟩)
        dsimp only [Pt.U, Pt.locs, Pt.cells, Pt.slots] at X72 l72 y72 z72 st72 hQ72
        subst l72 y72 z72
        obtain ⟨rfl, N72q, Kq72, Eq72, Lq72, Uq72⟩ := hQ72
        have N72 := Fr.app N71 N72q
        have Z72 : n0 ≤ T72.heap.size := Nat.le_trans Z71 Kq72.1
        have K72 := K71.trans Kq72 (allS (P := fun x => x ∈ ([] : List Addr) ∨ h0.size ≤ x) (Or.inr sz_b1) all0)
        have Lr72 : Fld Z T72.heap b1 "com/example/tempe/tempe/algorithm/LocalMutex" "lockCalls" "I" (.int (3 : Int32)) := Lq72
        obtain ⟨cq73, kq73, q73a, q73b, q73c⟩ := isOf hZ rfl Eq72
        obtain ⟨_, _, ⟨T73, L73, k73, n73⟩, -, X73, ⟨Lc73, hQ73, l73, y73, z73⟩, st73⟩ := X72.virtualBack hx (y := own_m4) (z := own_m4) hown (mvT hZ (own_w70 hw)) (mvT hZ (own_w71 hw)) (notFace_of_selects (args := #[]) (mvT hZ (own_w73 hw))) (mvT hZ (own_w73 hw)) (mvT hZ (own_w72 hw)) (by decide) (backOf (W := 0) (own_lp3 l Z a0 hw [] b1 T72.heap n0 Z72 Lr72) hZ (own_w74 hw) (own_w4 hw) (by decide) (by decide)) q73a q73c (g := (mkF m 104 #[.val (.long p1), .second, .val (.int p2), .val (.int p3), .val (.long ((p1 &&& (4611686018427387903 : Int64)) + (2 : Int64))), .second, .val (.ref b1), .val (.int (1 : Int32)), .val (.int (3 : Int32))] [(.ref b1)])) rfl (by rw [hml]; rfl) (Steps.refl _) (argsL := []) (rest := []) (lenOf own_pd4 rfl) rfl (by show 2 * 0 + _ ≤ _; exact Nat.le_of_eq rfl) (hb hby at_104) (fun _ _ => ⟨rfl, rfl, (by decide : 19 + 0 ≤ _), (by decide : 63 + 0 ≤ _)⟩)
        dsimp only [Pt.U, Pt.locs, Pt.cells, Pt.slots] at X73 l73 y73 z73 st73 hQ73
        subst l73 y73 z73
        obtain ⟨rfl, N73q, e73⟩ := hQ73
        have N73 := Fr.app N72 N73q
        obtain ⟨fs, hr, hrun, hended, hW, hsame⟩ := X73.leave (v := some (.int (1 : Int32))) (fun h => by rw [Bd.returns] at h; cases h)
        refine ⟨_, _, pre69 _ ?_, hrun, hended, _, _, rfl, ?_, ⟨_, rfl⟩, hW, hsame.mono (by decide) (by decide)⟩
        · show Steps _ _ _ (T68.setTop (mkF m 67 #[.val (.long p1), .second, .val (.int p2), .val (.int p3), .val (.long ((p1 &&& (4611686018427387903 : Int64)) + (2 : Int64))), .second, .val (.ref b1), .val (.int (1 : Int32)), .val (.int (3 : Int32))] [(.int (p3 &&& (2 : Int32)))])) _
          refine XS.ifYes X68.here hx rfl (pc0 := 67) (pc' := 75) rfl (hb hby at_67) rfl ((if0 _ _).trans (teq hc67_70).1) (by decide) (by decide) ?_
          refine XS.iload X68.here hx rfl (hb hby at_75) rfl ?_
          refine XS.iconst X68.here hx rfl (hb hby at_77) ?_
          refine XS.icmpNo X68.here hx rfl (hb hby at_78) rfl (flt (by decide : ¬ ((3 : Int32) < (2 : Int32)))).1 ?_
          show Steps _ _ _ (T68.setTop (mkF m 81 #[.val (.long p1), .second, .val (.int p2), .val (.int p3), .val (.long ((p1 &&& (4611686018427387903 : Int64)) + (2 : Int64))), .second, .val (.ref b1), .val (.int (1 : Int32)), .val (.int (3 : Int32))] [])) _
          refine XS.aload X68.here hx rfl (hb hby at_81) rfl rfl ?_
          refine st71.trans ?_
          refine XS.iload X71.here hx rfl (hb hby at_86) rfl ?_
          refine XS.iconst X71.here hx rfl (hb hby at_88) ?_
          show Steps _ _ _ (T71.setTop (mkF m 89 #[.val (.long p1), .second, .val (.int p2), .val (.int p3), .val (.long ((p1 &&& (4611686018427387903 : Int64)) + (2 : Int64))), .second, .val (.ref b1), .val (.int (1 : Int32)), .val (.int (3 : Int32))] [(.int (3 : Int32)), (.int (3 : Int32))])) _
          refine XS.icmpNo X71.here hx rfl (hb hby at_89) rfl (flt (by decide : ¬ ((3 : Int32) < (3 : Int32)))).1 ?_
          refine XS.aload X71.here hx rfl (hb hby at_92) rfl rfl ?_
          refine st72.trans ?_
          refine XS.iload X72.here hx rfl (hb hby at_97) rfl ?_
          show Steps _ _ _ (T72.setTop (mkF m 99 #[.val (.long p1), .second, .val (.int p2), .val (.int p3), .val (.long ((p1 &&& (4611686018427387903 : Int64)) + (2 : Int64))), .second, .val (.ref b1), .val (.int (1 : Int32)), .val (.int (3 : Int32))] [(.int (1 : Int32))])) _
          refine XS.ifNo X72.here hx rfl (hb hby at_99) rfl ((if0 _ _).trans (feq (by decide : ¬ ((1 : Int32) = (0 : Int32)))).1) ?_
          refine XS.aload X72.here hx rfl (hb hby at_102) rfl rfl ?_
          refine st73.trans ?_
          refine XS.iload X73.here hx rfl (hb hby at_107) rfl ?_
          show Steps _ _ _ (T73.setTop (mkF m 109 #[.val (.long p1), .second, .val (.int p2), .val (.int p3), .val (.long ((p1 &&& (4611686018427387903 : Int64)) + (2 : Int64))), .second, .val (.ref b1), .val (.int (1 : Int32)), .val (.int (3 : Int32))] [(.int (3 : Int32)), (.int (1 : Int32))])) _
          refine XS.ifNo X73.here hx rfl (hb hby at_109) rfl ((if0 _ _).trans (tlt (by decide : (0 : Int32) < (3 : Int32))).2.2.2) ?_
          refine XS.iconst X73.here hx rfl (hb hby at_112) ?_
          refine XS.goto X73.here hx rfl (pc0 := 113) (pc' := 117) rfl (hb hby at_113) (by decide) (by decide) ?_
          refine XS.icmpNo X73.here hx rfl (hb hby at_117) rfl (teq (by decide : (1 : Int32) = (1 : Int32))).2 ?_
          show Steps _ _ _ (T73.setTop (mkF m 120 #[.val (.long p1), .second, .val (.int p2), .val (.int p3), .val (.long ((p1 &&& (4611686018427387903 : Int64)) + (2 : Int64))), .second, .val (.ref b1), .val (.int (1 : Int32)), .val (.int (3 : Int32))] [])) _
          refine XS.iconst X73.here hx rfl (hb hby at_120) ?_
          refine XS.goto X73.here hx rfl (pc0 := 121) (pc' := 125) rfl (hb hby at_121) (by decide) (by decide) ?_
          show Steps _ _ _ (T73.setTop (mkF m 125 #[.val (.long p1), .second, .val (.int p2), .val (.int p3), .val (.long ((p1 &&& (4611686018427387903 : Int64)) + (2 : Int64))), .second, .val (.ref b1), .val (.int (1 : Int32)), .val (.int (3 : Int32))] [(.int (1 : Int32))])) _
          exact retN X73 hx (t := .boolean) Bd.returns (by simp) (hb hby at_125) hr
        · show Qown_law Z p1 p2 p3 s1 s2 h0 n0 _ T73.heap _
          rw [e73]
          exact ⟨rfl, N73⟩
      · skip
        have ihc67_70 := (mt (own_eq (b := (0 : Int32)) (k := 0) rfl).mpr hc67_70)
        obtain ⟨cq74, kq74, q74a, q74b, q74c⟩ := isOf hZ rfl Eq68
        obtain ⟨_, _, ⟨T74, L74, k74, n74⟩, -, X74, ⟨Lc74, hQ74, l74, y74, z74⟩, st74⟩ := X68.virtualBack hx (y := own_m6) (z := own_m6) hown (mvT hZ (own_w77 hw)) (mvT hZ (own_w78 hw)) (notFace_of_selects (args := #[]) (mvT hZ (own_w80 hw))) (mvT hZ (own_w80 hw)) (mvT hZ (own_w79 hw)) (by decide) (backOf (W := 0) (own_unlock l Z a0 hw [] b1 (1 : Int32) (.int (1 : Int32)) T68.heap n0 Z68 g_b1 Eq68 Lr68 Uq68) hZ (own_w81 hw) (own_w4 hw) (by decide) (by decide)) q74a q74c (g := (mkF m 72 #[.val (.long p1), .second, .val (.int p2), .val (.int p3), .val (.long ((p1 &&& (4611686018427387903 : Int64)) + (2 : Int64))), .second, .val (.ref b1), .val (.int (1 : Int32)), .val (.int (3 : Int32))] [(.ref b1)])) rfl (by rw [hml]; rfl) (Steps.refl _) (argsL := []) (rest := []) (lenOf own_pd2 rfl) rfl (by show 2 * 0 + _ ≤ _; exact Nat.le_of_eq rfl) (hb hby at_72) (fun _ _ => ⟨rfl, rfl, (by decide : 19 + 0 ≤ _), (by decide : 63 + 0 ≤ _)⟩)
        dsimp only [Pt.U, Pt.locs, Pt.cells, Pt.slots] at X74 l74 y74 z74 st74 hQ74
        subst l74 y74 z74
        obtain ⟨rfl, N74q, Kq74, Eq74, Lq74, Uq74⟩ := hQ74
        have N74 := Fr.app N68 N74q
        have Z74 : n0 ≤ T74.heap.size := Nat.le_trans Z68 Kq74.1
        have K74 := K68.trans Kq74 (allS (P := fun x => x ∈ ([] : List Addr) ∨ h0.size ≤ x) (Or.inr sz_b1) all0)
        have Lr74 : Fld Z T74.heap b1 "com/example/tempe/tempe/algorithm/LocalMutex" "lockCalls" "I" (.int (1 : Int32)) := Lq74
        obtain ⟨cq75, kq75, q75a, q75b, q75c⟩ := isOf hZ rfl Eq74
        obtain ⟨_, _, ⟨T75, L75, k75, n75⟩, -, X75, ⟨Lc75, hQ75, l75, y75, z75⟩, st75⟩ := X74.virtualBack hx (y := own_m5) (z := own_m5) hown (mvT hZ (own_w84 hw)) (mvT hZ (own_w85 hw)) (notFace_of_selects (args := #[]) (mvT hZ (own_w87 hw))) (mvT hZ (own_w87 hw)) (mvT hZ (own_w86 hw)) (by decide) (backOf (W := 0) (own_lock l Z a0 hw [] b1 (1 : Int32) (.int (1 : Int32)) T74.heap n0 Z74 g_b1 Eq74 Lr74 Uq74) hZ (own_w88 hw) (own_w4 hw) (by decide) (by decide)) q75a q75c (g := (mkF m 83 #[.val (.long p1), .second, .val (.int p2), .val (.int p3), .val (.long ((p1 &&& (4611686018427387903 : Int64)) + (2 : Int64))), .second, .val (.ref b1), .val (.int (1 : Int32)), .val (.int (3 : Int32))] [(.ref b1)])) rfl (by rw [hml]; rfl) (Steps.refl _) (argsL := []) (rest := []) (lenOf own_pd2 rfl) rfl (by show 2 * 0 + _ ≤ _; exact Nat.le_of_eq rfl) (hb hby at_83) (fun _ _ => ⟨rfl, rfl, (by decide : 19 + 0 ≤ _), (by decide : 63 + 0 ≤ _)⟩)
        dsimp only [Pt.U, Pt.locs, Pt.cells, Pt.slots] at X75 l75 y75 z75 st75 hQ75
        subst l75 y75 z75
        obtain ⟨rfl, N75q, Kq75, Eq75, Lq75, Uq75⟩ := hQ75
        have N75 := Fr.app N74 N75q
        have Z75 : n0 ≤ T75.heap.size := Nat.le_trans Z74 Kq75.1
        have K75 := K74.trans Kq75 (allS (P := fun x => x ∈ ([] : List Addr) ∨ h0.size ≤ x) (Or.inr sz_b1) all0)
        have Lr75 : Fld Z T75.heap b1 "com/example/tempe/tempe/algorithm/LocalMutex" "lockCalls" "I" (.int (2 : Int32)) := Lq75
        obtain ⟨cq76, kq76, q76a, q76b, q76c⟩ := isOf hZ rfl Eq75
        obtain ⟨_, _, ⟨T76, L76, k76, n76⟩, -, X76, ⟨Lc76, hQ76, l76, y76, z76⟩, st76⟩ := X75.virtualBack hx (y := own_m5) (z := own_m5) hown (mvT hZ (own_w84 hw)) (mvT hZ (own_w85 hw)) (notFace_of_selects (args := #[]) (mvT hZ (own_w87 hw))) (mvT hZ (own_w87 hw)) (mvT hZ (own_w86 hw)) (by decide) (backOf (W := 0) (own_lock l Z a0 hw [] b1 (2 : Int32) (.int (1 : Int32)) T75.heap n0 Z75 g_b1 Eq75 Lr75 Uq75) hZ (own_w88 hw) (own_w4 hw) (by decide) (by decide)) q76a q76c (g := (mkF m 94 #[.val (.long p1), .second, .val (.int p2), .val (.int p3), .val (.long ((p1 &&& (4611686018427387903 : Int64)) + (2 : Int64))), .second, .val (.ref b1), .val (.int (1 : Int32)), .val (.int (3 : Int32))] [(.ref b1)])) rfl (by rw [hml]; rfl) (Steps.refl _) (argsL := []) (rest := []) (lenOf own_pd2 rfl) rfl (by show 2 * 0 + _ ≤ _; exact Nat.le_of_eq rfl) (hb hby at_94) (fun _ _ => ⟨rfl, rfl, (by decide : 19 + 0 ≤ _), (by decide : 63 + 0 ≤ _)⟩)
        dsimp only [Pt.U, Pt.locs, Pt.cells, Pt.slots] at X76 l76 y76 z76 st76 hQ76
        subst l76 y76 z76
        obtain ⟨rfl, N76q, Kq76, Eq76, Lq76, Uq76⟩ := hQ76
        have N76 := Fr.app N75 N76q
        have Z76 : n0 ≤ T76.heap.size := Nat.le_trans Z75 Kq76.1
        have K76 := K75.trans Kq76 (allS (P := fun x => x ∈ ([] : List Addr) ∨ h0.size ≤ x) (Or.inr sz_b1) all0)
        have Lr76 : Fld Z T76.heap b1 "com/example/tempe/tempe/algorithm/LocalMutex" "lockCalls" "I" (.int (3 : Int32)) := Lq76
        obtain ⟨cq77, kq77, q77a, q77b, q77c⟩ := isOf hZ rfl Eq76
        obtain ⟨_, _, ⟨T77, L77, k77, n77⟩, -, X77, ⟨Lc77, hQ77, l77, y77, z77⟩, st77⟩ := X76.virtualBack hx (y := own_m4) (z := own_m4) hown (mvT hZ (own_w70 hw)) (mvT hZ (own_w71 hw)) (notFace_of_selects (args := #[]) (mvT hZ (own_w73 hw))) (mvT hZ (own_w73 hw)) (mvT hZ (own_w72 hw)) (by decide) (backOf (W := 0) (own_lp3 l Z a0 hw [] b1 T76.heap n0 Z76 Lr76) hZ (own_w74 hw) (own_w4 hw) (by decide) (by decide)) q77a q77c (g := (mkF m 104 #[.val (.long p1), .second, .val (.int p2), .val (.int p3), .val (.long ((p1 &&& (4611686018427387903 : Int64)) + (2 : Int64))), .second, .val (.ref b1), .val (.int (1 : Int32)), .val (.int (3 : Int32))] [(.ref b1)])) rfl (by rw [hml]; rfl) (Steps.refl _) (argsL := []) (rest := []) (lenOf own_pd4 rfl) rfl (by show 2 * 0 + _ ≤ _; exact Nat.le_of_eq rfl) (hb hby at_104) (fun _ _ => ⟨rfl, rfl, (by decide : 19 + 0 ≤ _), (by decide : 63 + 0 ≤ _)⟩)
        dsimp only [Pt.U, Pt.locs, Pt.cells, Pt.slots] at X77 l77 y77 z77 st77 hQ77
        subst l77 y77 z77
        obtain ⟨rfl, N77q, e77⟩ := hQ77
        have N77 := Fr.app N76 N77q
        obtain ⟨fs, hr, hrun, hended, hW, hsame⟩ := X77.leave (v := some (.int (1 : Int32))) (fun h => by rw [Bd.returns] at h; cases h)
        refine ⟨_, _, pre69 _ ?_, hrun, hended, _, _, rfl, ?_, ⟨_, rfl⟩, hW, hsame.mono (by decide) (by decide)⟩
        · show Steps _ _ _ (T68.setTop (mkF m 67 #[.val (.long p1), .second, .val (.int p2), .val (.int p3), .val (.long ((p1 &&& (4611686018427387903 : Int64)) + (2 : Int64))), .second, .val (.ref b1), .val (.int (1 : Int32)), .val (.int (3 : Int32))] [(.int (p3 &&& (2 : Int32)))])) _
          refine XS.ifNo X68.here hx rfl (hb hby at_67) rfl ((if0 _ _).trans (feq hc67_70).1) ?_
          refine XS.aload X68.here hx rfl (hb hby at_70) rfl rfl ?_
          refine st74.trans ?_
          refine XS.iload X74.here hx rfl (hb hby at_75) rfl ?_
          show Steps _ _ _ (T74.setTop (mkF m 77 #[.val (.long p1), .second, .val (.int p2), .val (.int p3), .val (.long ((p1 &&& (4611686018427387903 : Int64)) + (2 : Int64))), .second, .val (.ref b1), .val (.int (1 : Int32)), .val (.int (3 : Int32))] [(.int (3 : Int32))])) _
          refine XS.iconst X74.here hx rfl (hb hby at_77) ?_
          refine XS.icmpNo X74.here hx rfl (hb hby at_78) rfl (flt (by decide : ¬ ((3 : Int32) < (2 : Int32)))).1 ?_
          refine XS.aload X74.here hx rfl (hb hby at_81) rfl rfl ?_
          refine st75.trans ?_
          show Steps _ _ _ (T75.setTop (mkF m 86 #[.val (.long p1), .second, .val (.int p2), .val (.int p3), .val (.long ((p1 &&& (4611686018427387903 : Int64)) + (2 : Int64))), .second, .val (.ref b1), .val (.int (1 : Int32)), .val (.int (3 : Int32))] [])) _
          refine XS.iload X75.here hx rfl (hb hby at_86) rfl ?_
          refine XS.iconst X75.here hx rfl (hb hby at_88) ?_
          refine XS.icmpNo X75.here hx rfl (hb hby at_89) rfl (flt (by decide : ¬ ((3 : Int32) < (3 : Int32)))).1 ?_
          refine XS.aload X75.here hx rfl (hb hby at_92) rfl rfl ?_
          show Steps _ _ _ (T75.setTop (mkF m 94 #[.val (.long p1), .second, .val (.int p2), .val (.int p3), .val (.long ((p1 &&& (4611686018427387903 : Int64)) + (2 : Int64))), .second, .val (.ref b1), .val (.int (1 : Int32)), .val (.int (3 : Int32))] [(.ref b1)])) _
          refine st76.trans ?_
          refine XS.iload X76.here hx rfl (hb hby at_97) rfl ?_
          refine XS.ifNo X76.here hx rfl (hb hby at_99) rfl ((if0 _ _).trans (feq (by decide : ¬ ((1 : Int32) = (0 : Int32)))).1) ?_
          refine XS.aload X76.here hx rfl (hb hby at_102) rfl rfl ?_
          show Steps _ _ _ (T76.setTop (mkF m 104 #[.val (.long p1), .second, .val (.int p2), .val (.int p3), .val (.long ((p1 &&& (4611686018427387903 : Int64)) + (2 : Int64))), .second, .val (.ref b1), .val (.int (1 : Int32)), .val (.int (3 : Int32))] [(.ref b1)])) _
          refine st77.trans ?_
          refine XS.iload X77.here hx rfl (hb hby at_107) rfl ?_
          refine XS.ifNo X77.here hx rfl (hb hby at_109) rfl ((if0 _ _).trans (tlt (by decide : (0 : Int32) < (3 : Int32))).2.2.2) ?_
          refine XS.iconst X77.here hx rfl (hb hby at_112) ?_
          show Steps _ _ _ (T77.setTop (mkF m 113 #[.val (.long p1), .second, .val (.int p2), .val (.int p3), .val (.long ((p1 &&& (4611686018427387903 : Int64)) + (2 : Int64))), .second, .val (.ref b1), .val (.int (1 : Int32)), .val (.int (3 : Int32))] [(.int (1 : Int32)), (.int (1 : Int32))])) _
          refine XS.goto X77.here hx rfl (pc0 := 113) (pc' := 117) rfl (hb hby at_113) (by decide) (by decide) ?_
          refine XS.icmpNo X77.here hx rfl (hb hby at_117) rfl (teq (by decide : (1 : Int32) = (1 : Int32))).2 ?_
          refine XS.iconst X77.here hx rfl (hb hby at_120) ?_
          refine XS.goto X77.here hx rfl (pc0 := 121) (pc' := 125) rfl (hb hby at_121) (by decide) (by decide) ?_
          show Steps _ _ _ (T77.setTop (mkF m 125 #[.val (.long p1), .second, .val (.int p2), .val (.int p3), .val (.long ((p1 &&& (4611686018427387903 : Int64)) + (2 : Int64))), .second, .val (.ref b1), .val (.int (1 : Int32)), .val (.int (3 : Int32))] [(.int (1 : Int32))])) _
          exact retN X77 hx (t := .boolean) Bd.returns (by simp) (hb hby at_125) hr
        · show Qown_law Z p1 p2 p3 s1 s2 h0 n0 _ T77.heap _
          rw [e77]
          exact ⟨rfl, N77⟩
set_option maxRecDepth 65536 in
set_option maxHeartbeats 40000000 in
theorem comes_1 {Post : Tables → Env → Array Value → State → Outcome → State → Prop} (hpost : ∀ tb e args s v u, (limb_1_1.after args s (.returned v) u = true ∧ limb_1_2.after args s (.returned v) u = true ∧ True) → FrameEnd s (.returned v) u (Jvm.fieldLocs frame_1_writes args s ++ Jvm.arrayLocs frame_1_arrays args s ++ Jvm.staticLocs frame_1_statics s) 48 192 → Post tb e args s (.returned v) u) :
    ArmFor flags0 classFile x code maxLocals ret World_1 tables_1 room_1 Calls_1 rest_1 Pre_1 Post := by
  intro l hfl _ _ p e ha hc hk s m args below hf hA hF happ hP
  obtain ⟨hcalls, hrest, hpre⟩ := hP
  obtain ⟨-, -, -, hnamed, -, -, -, hat⟩ := (Spec.applies_iff hf).mp happ
  obtain ⟨hg, hn⟩ := and_e (Cond.before_iff.mp (show (Jvm.Cond.and given_1 narrow_1).before args s = true from hpre))
  obtain ⟨gc, gr0⟩ := and_e hg
  obtain ⟨ga0, gr1⟩ := and_e gr0
  obtain ⟨ga1, gr2⟩ := and_e gr1
  have ga2 := gr2
  obtain ⟨w0, w1, w2, rfl⟩ : ∃ w0 w1 w2 : Value, args = #[w0, w1, w2] := by
    have hs : args.size = 3 := by simpa [Cond.value, given_1] using gc
    obtain ⟨L⟩ := args
    match L, hs with
    | [w0, w1, w2], _ => exact ⟨w0, w1, w2, rfl⟩
  have hw := fun d (hd : d ∈ tables_1) => atoms_spec (ws := Jvm.Cond.code x code maxLocals ret :: tables_1) hat d (List.mem_cons_of_mem _ hd)
  have hfit : Fit s := fun {y c} hc i hi => by
    obtain ⟨ha, rfl⟩ := Array.getElem?_eq_some_iff.mp hc
    have q := List.all_eq_true.mp ((Array.all_eq_true_iff_forall_mem.mp hF) _ (Array.getElem_mem ha)) i (List.mem_range.mpr hi)
    simpa [Array.getElem?_eq_getElem hi] using q
  obtain ⟨i0, ei0⟩ := isL_v ga0
  obtain rfl : w0 = (.long i0) := Option.some.inj ei0
  obtain ⟨i1, ei1⟩ := is_v ga1
  obtain rfl : w1 = (.int i1) := Option.some.inj ei1
  obtain ⟨i2, ei2⟩ := is_v ga2
  obtain rfl : w2 = (.int i2) := Option.some.inj ei2
  obtain ⟨na0, nr0⟩ := and_e hn
  have na1 := nr0
  obtain ⟨s1, v1, -⟩ := own_exa na0
  have S1 := Sta.start v1 (Or.inr ⟨hw _ (List.mem_of_getElem? (i := 58) rfl), hw _ (List.mem_of_getElem? (i := 59) rfl)⟩)
  obtain ⟨s2, v2, -⟩ := own_exa na1
  have S2 := Sta.start v2 (Or.inr ⟨hw _ (List.mem_of_getElem? (i := 63) rfl), hw _ (List.mem_of_getElem? (i := 64) rfl)⟩)
  obtain ⟨n, o, h1, h2, h3, _, L, rfl, ⟨rfl, N⟩, hq⟩ := own_law l s _ hw tables_1 i0 i1 i2 s1 s2 s.heap s.heap.size (Nat.le_refl _) S1 S2 p e ha hc hk s m _ below hf ((Spec.applies_iff_loose hf).mp happ).1 ⟨rfl, State.Warmed39.refl s, rfl⟩ trivial
  refine ⟨n, _, h1, h2, h3, hpost _ _ _ _ _ _ ⟨Cond.after_iff.mpr rfl, Cond.after_iff.mpr (eq_i res_at (Term.int_eval (1)) rfl), trivial⟩ ⟨hq.1, hq.2.1, (hq.2.2.sift fun y hy => Or.inr (N y hy)).mono (by decide) (by decide)⟩⟩
theorem main_1_1 : Claimed_1_1 := comes_1 fun _ _ _ _ _ _ h hF => ⟨h.1, hF⟩
theorem main_1_2 : Claimed_1_2 := comes_1 fun _ _ _ _ _ _ h hF => ⟨h.2.1, hF⟩
end Jvm.Pilot.@@N@@
namespace Jvm.Pilot.@@N@@
open Jvm Jvm.ClassFile Sem Op Lib Jvm.Free Jvm.Stand Jvm.Pilot.@@N@@.Jvm.D
/-! MADE BY PROGRAM (witnessworld.py) out of the Statement's table words and the real class files: 19 classes; the members and pool entries that the words name. The judged class is class 1, her method 1. -/
namespace start1
open Jvm.ClassFile
def u (s : String) : CpInfo := .utf8 (stringToUtf16 s)
/-- a pool by its gaps: so many unusable entries, then the entry; so many at the end -/
def gap : Nat → List CpInfo → List CpInfo
  | 0, r => r
  | n + 1, r => .unusable :: gap n r
def poolList (es : List (Nat × CpInfo)) (last : Nat) : List CpInfo := es.foldr (fun e r => gap e.1 (e.2 :: r)) (gap last [])
def pool (es : List (Nat × CpInfo)) (last : Nat) : Array CpInfo := ⟨poolList es last⟩
def fileOf (pool : Array CpInfo) (this : Nat) (attrs : Array Attribute := #[]) (ms : Array MethodInfo := #[]) (fl : Nat := 33) (sup : Nat := 0) (ifs : Array Nat := #[]) (fds : Array FieldInfo := #[]) : ClassFile where
  minorVersion := 0
  majorVersion := 65
  constantPool := pool
  accessFlags := fl
  thisClass := this
  superClass := sup
  interfaces := ifs
  fields := fds
  methods := ms
  attributes := attrs
def plain (name : String) (sup : Option ClassId) : Class where
  name := name
  kind := .ordinary
  loader := none
  accessFlags := 33
  super := sup
  interfaces := #[]
  cf := none
  fields := #[]
  methods := #[]
  instanceTypes := #[]
  staticTypes := #[]
  resolved := #[]
  callSites := []
  init := .initialized
  statics := none
  mirror := none

def pool0 : Array CpInfo := pool [(5, u "<init>"), (0, u "()V"), (1, .class_ 10), (1, u "java/lang/Object")] 113

def k0c0 : Code := { maxStack := 0, maxLocals := 1, code := object_method_1_code, exceptionTable := #[], attributes := #[] }
def k0m0 : Method := { name := "<init>", desc := "()V", sig := { parameters := [], returnType := none }, accessFlags := 1, code := some k0c0 }
/-- java/lang/Object -/
def k0 : Class := { plain "java/lang/Object" none with
  accessFlags := 33
  interfaces := #[]
  cf := some (fileOf pool0 8 #[] #[{ accessFlags := 1, nameIndex := 5, descriptorIndex := 6, attributes := #[] }] 33 0 #[] #[])
  fields := #[]
  methods := #[k0m0]
  instanceTypes := #[]
  staticTypes := #[]
  resolved := Array.replicate 124 none
  statics := none }

def pool1 : Array CpInfo := pool [(2, .class_ 4), (1, u "java/lang/Object"), (0, u "<init>"), (0, u "()V"), (0, .long 4611686018427387903), (1, .long 2), (1, .class_ 12), (0, u "com/example/tempe/tempe/algorithm/LocalMutex"), (0, .methodref 11 14), (0, .nameAndType 5 15), (0, u "(J)V"), (0, .methodref 11 17), (0, .nameAndType 18 19), (0, u "lockPending"), (0, u "()Z"), (0, .methodref 11 21), (0, .nameAndType 22 6), (0, u "unlock"), (0, .methodref 11 24), (0, .nameAndType 25 6), (0, u "lock"), (0, .class_ 27), (0, u "com/example/tempe/tempe/algorithm/LocalMutexLockPendingPinLaw"), (2, u "law"), (0, u "(JII)Z")] 3

def k1m0 : Method := { name := "<init>", desc := "()V", sig := { parameters := [], returnType := none }, accessFlags := 1, code := none }
def k1c1 : Code := { maxStack := 4, maxLocals := 9, code := code, exceptionTable := #[], attributes := #[] }
def k1m1 : Method := { name := "law", desc := "(JII)Z", sig := { parameters := [.long, .int, .int], returnType := some .boolean }, accessFlags := 9, code := some k1c1 }
/-- com/example/tempe/tempe/algorithm/LocalMutexLockPendingPinLaw -/
def k1 : Class := { plain "com/example/tempe/tempe/algorithm/LocalMutexLockPendingPinLaw" (some 0) with
  accessFlags := 49
  interfaces := #[]
  cf := some (fileOf pool1 26 #[] #[{ accessFlags := 1, nameIndex := 5, descriptorIndex := 6, attributes := #[] }, { accessFlags := 9, nameIndex := 30, descriptorIndex := 31, attributes := #[] }] 49 2 #[] #[])
  fields := #[]
  methods := #[k1m0, k1m1]
  instanceTypes := #[]
  staticTypes := #[]
  resolved := Array.replicate 35 none
  statics := none }

def pool2 : Array CpInfo := pool [(1, .class_ 2), (0, u "com/example/tempe/tempe/simulation/RoundNode"), (0, .class_ 4), (0, u "java/lang/Object")] 29

/-- com/example/tempe/tempe/simulation/RoundNode -/
def k2 : Class := { plain "com/example/tempe/tempe/simulation/RoundNode" (some 0) with
  accessFlags := 1537
  interfaces := #[]
  cf := some (fileOf pool2 1 #[] #[] 1537 3 #[] #[])
  fields := #[]
  methods := #[]
  instanceTypes := #[]
  staticTypes := #[]
  resolved := Array.replicate 34 none
  statics := none }

def pool3 : Array CpInfo := pool [(1, .methodref 2 3), (0, .class_ 4), (0, .nameAndType 5 6), (0, u "java/lang/Object"), (0, u "<init>"), (0, u "()V"), (0, .class_ 8), (0, u "java/util/BitSet"), (0, .methodref 7 3), (0, .fieldref 11 12), (0, .class_ 13), (0, .nameAndType 14 15), (0, u "com/example/tempe/tempe/algorithm/LocalMutex"), (0, u "toLock"), (0, u "Ljava/util/BitSet;"), (0, .fieldref 11 17), (0, .nameAndType 18 15), (0, u "replied"), (0, .fieldref 11 20), (0, .nameAndType 21 15), (0, u "outcomes"), (0, .fieldref 11 23), (0, .nameAndType 24 15), (0, u "refusals"), (0, .fieldref 11 26), (0, .nameAndType 27 15), (0, u "onHold"), (0, .fieldref 11 29), (0, .nameAndType 30 15), (0, u "applicants"), (0, .fieldref 11 32), (0, .nameAndType 33 15), (0, u "candidates"), (0, .fieldref 11 35), (0, .nameAndType 36 15), (0, u "bidders"), (0, .fieldref 11 38), (0, .nameAndType 39 40), (0, u "sets"), (0, u "[Ljava/util/BitSet;"), (0, .fieldref 11 42), (0, .nameAndType 43 44), (0, u "bids"), (0, u "[J"), (0, .fieldref 11 46), (0, .nameAndType 47 48), (0, u "lock"), (0, u "I"), (0, .fieldref 50 51), (0, .class_ 52), (0, .nameAndType 53 54), (0, u "com/example/tempe/tempe/algorithm/LocalMutex$State"), (0, u "IDLE"), (0, u "Lcom/example/tempe/tempe/algorithm/LocalMutex$State;"), (0, .fieldref 11 56), (0, .nameAndType 57 54), (0, u "state"), (0, .fieldref 59 60), (0, .class_ 61), (0, .nameAndType 53 62), (0, u "com/example/tempe/tempe/algorithm/LocalMutex$Phase"), (0, u "Lcom/example/tempe/tempe/algorithm/LocalMutex$Phase;"), (0, .fieldref 11 64), (0, .nameAndType 65 62), (0, u "phase"), (0, .long 2), (10, .fieldref 11 78), (0, .nameAndType 79 80), (0, u "priorities"), (0, u "J"), (21, .fieldref 11 103), (0, .nameAndType 104 48), (0, u "lockCalls"), (0, .fieldref 11 106), (0, .nameAndType 107 108), (0, u "unlockCalled"), (0, u "Z"), (14, u "PREPARE"), (59, .class_ 185), (1, u "com/example/tempe/tempe/algorithm/LocalMutex$Message"), (3, .class_ 191), (1, u "com/example/tempe/tempe/algorithm/LocalMutex$Kind"), (0, u "SET_LOCK"), (27, u "ACK_LOCK"), (0, u "Lcom/example/tempe/tempe/algorithm/LocalMutex$Message;"), (8, u "ACK_UNLOCK"), (24, u "()Z"), (6, u "READY"), (38, u "WON"), (2, u "LOST"), (14, u "RELEASE_LOCK"), (46, .class_ 367), (0, u "com/example/tempe/tempe/simulation/RoundNode"), (0, u "START_LOCK"), (2, u "START_COMPETE"), (1, u "TIDY"), (1, u "DECIDE"), (1, u "OUTCOME"), (1, u "FINISH_LOCK"), (1, u "START_UNLOCK"), (1, u "FINISH_UNLOCK"), (1, u "MOST_IN_TRANSIT_PER_EDGE"), (1, u "SELF"), (1, u "NONE"), (1, u "(J)V"), (7, u "unlock"), (1, u "lockPending")] 45

def k3c0 : Code := { maxStack := 5, maxLocals := 3, code := prog_6_method_1_code, exceptionTable := #[], attributes := #[] }
def k3m0 : Method := { name := "<init>", desc := "(J)V", sig := { parameters := [.long], returnType := none }, accessFlags := 1, code := some k3c0 }
def k3c1 : Code := { maxStack := 3, maxLocals := 1, code := prog_6_method_5_code, exceptionTable := #[], attributes := #[] }
def k3m1 : Method := { name := "lock", desc := "()V", sig := { parameters := [], returnType := none }, accessFlags := 1, code := some k3c1 }
def k3c2 : Code := { maxStack := 2, maxLocals := 1, code := prog_6_method_6_code, exceptionTable := #[], attributes := #[] }
def k3m2 : Method := { name := "unlock", desc := "()V", sig := { parameters := [], returnType := none }, accessFlags := 1, code := some k3c2 }
def k3c3 : Code := { maxStack := 1, maxLocals := 1, code := prog_6_method_8_code, exceptionTable := #[], attributes := #[] }
def k3m3 : Method := { name := "lockPending", desc := "()Z", sig := { parameters := [], returnType := some .boolean }, accessFlags := 1, code := some k3c3 }
/-- com/example/tempe/tempe/algorithm/LocalMutex -/
def k3 : Class := { plain "com/example/tempe/tempe/algorithm/LocalMutex" (some 0) with
  accessFlags := 33
  interfaces := #[2]
  cf := some (fileOf pool3 11 #[.nestMembers #[183, 189, 59, 50]] #[{ accessFlags := 1, nameIndex := 5, descriptorIndex := 391, attributes := #[] }, { accessFlags := 1, nameIndex := 47, descriptorIndex := 6, attributes := #[] }, { accessFlags := 1, nameIndex := 399, descriptorIndex := 6, attributes := #[] }, { accessFlags := 1, nameIndex := 401, descriptorIndex := 255, attributes := #[] }] 33 2 #[366] #[{ accessFlags := 25, nameIndex := 368, descriptorIndex := 48, attributes := #[] }, { accessFlags := 25, nameIndex := 371, descriptorIndex := 48, attributes := #[] }, { accessFlags := 25, nameIndex := 373, descriptorIndex := 48, attributes := #[] }, { accessFlags := 25, nameIndex := 375, descriptorIndex := 48, attributes := #[] }, { accessFlags := 25, nameIndex := 377, descriptorIndex := 48, attributes := #[] }, { accessFlags := 25, nameIndex := 379, descriptorIndex := 48, attributes := #[] }, { accessFlags := 25, nameIndex := 381, descriptorIndex := 48, attributes := #[] }, { accessFlags := 25, nameIndex := 383, descriptorIndex := 48, attributes := #[] }, { accessFlags := 25, nameIndex := 385, descriptorIndex := 48, attributes := #[] }, { accessFlags := 26, nameIndex := 387, descriptorIndex := 48, attributes := #[] }, { accessFlags := 26, nameIndex := 389, descriptorIndex := 48, attributes := #[] }, { accessFlags := 26, nameIndex := 123, descriptorIndex := 221, attributes := #[] }, { accessFlags := 26, nameIndex := 262, descriptorIndex := 221, attributes := #[] }, { accessFlags := 26, nameIndex := 301, descriptorIndex := 221, attributes := #[] }, { accessFlags := 26, nameIndex := 304, descriptorIndex := 221, attributes := #[] }, { accessFlags := 26, nameIndex := 192, descriptorIndex := 221, attributes := #[] }, { accessFlags := 26, nameIndex := 220, descriptorIndex := 221, attributes := #[] }, { accessFlags := 26, nameIndex := 319, descriptorIndex := 221, attributes := #[] }, { accessFlags := 26, nameIndex := 230, descriptorIndex := 221, attributes := #[] }, { accessFlags := 18, nameIndex := 79, descriptorIndex := 80, attributes := #[] }, { accessFlags := 18, nameIndex := 14, descriptorIndex := 15, attributes := #[] }, { accessFlags := 18, nameIndex := 18, descriptorIndex := 15, attributes := #[] }, { accessFlags := 18, nameIndex := 21, descriptorIndex := 15, attributes := #[] }, { accessFlags := 18, nameIndex := 24, descriptorIndex := 15, attributes := #[] }, { accessFlags := 18, nameIndex := 27, descriptorIndex := 15, attributes := #[] }, { accessFlags := 18, nameIndex := 30, descriptorIndex := 15, attributes := #[] }, { accessFlags := 18, nameIndex := 33, descriptorIndex := 15, attributes := #[] }, { accessFlags := 18, nameIndex := 36, descriptorIndex := 15, attributes := #[] }, { accessFlags := 18, nameIndex := 39, descriptorIndex := 40, attributes := #[] }, { accessFlags := 2, nameIndex := 43, descriptorIndex := 44, attributes := #[] }, { accessFlags := 2, nameIndex := 47, descriptorIndex := 48, attributes := #[] }, { accessFlags := 2, nameIndex := 57, descriptorIndex := 54, attributes := #[] }, { accessFlags := 2, nameIndex := 65, descriptorIndex := 62, attributes := #[] }, { accessFlags := 2, nameIndex := 104, descriptorIndex := 48, attributes := #[] }, { accessFlags := 2, nameIndex := 107, descriptorIndex := 108, attributes := #[] }])
  fields := #[{ name := "START_LOCK", type := .int, accessFlags := 25, slot := 0, constantValue := 0 }, { name := "START_COMPETE", type := .int, accessFlags := 25, slot := 1, constantValue := 0 }, { name := "TIDY", type := .int, accessFlags := 25, slot := 2, constantValue := 0 }, { name := "DECIDE", type := .int, accessFlags := 25, slot := 3, constantValue := 0 }, { name := "OUTCOME", type := .int, accessFlags := 25, slot := 4, constantValue := 0 }, { name := "FINISH_LOCK", type := .int, accessFlags := 25, slot := 5, constantValue := 0 }, { name := "START_UNLOCK", type := .int, accessFlags := 25, slot := 6, constantValue := 0 }, { name := "FINISH_UNLOCK", type := .int, accessFlags := 25, slot := 7, constantValue := 0 }, { name := "MOST_IN_TRANSIT_PER_EDGE", type := .int, accessFlags := 25, slot := 8, constantValue := 0 }, { name := "SELF", type := .int, accessFlags := 26, slot := 9, constantValue := 0 }, { name := "NONE", type := .int, accessFlags := 26, slot := 10, constantValue := 0 }, { name := "PREPARE", type := (.object "com/example/tempe/tempe/algorithm/LocalMutex$Message"), accessFlags := 26, slot := 11, constantValue := 0 }, { name := "READY", type := (.object "com/example/tempe/tempe/algorithm/LocalMutex$Message"), accessFlags := 26, slot := 12, constantValue := 0 }, { name := "WON", type := (.object "com/example/tempe/tempe/algorithm/LocalMutex$Message"), accessFlags := 26, slot := 13, constantValue := 0 }, { name := "LOST", type := (.object "com/example/tempe/tempe/algorithm/LocalMutex$Message"), accessFlags := 26, slot := 14, constantValue := 0 }, { name := "SET_LOCK", type := (.object "com/example/tempe/tempe/algorithm/LocalMutex$Message"), accessFlags := 26, slot := 15, constantValue := 0 }, { name := "ACK_LOCK", type := (.object "com/example/tempe/tempe/algorithm/LocalMutex$Message"), accessFlags := 26, slot := 16, constantValue := 0 }, { name := "RELEASE_LOCK", type := (.object "com/example/tempe/tempe/algorithm/LocalMutex$Message"), accessFlags := 26, slot := 17, constantValue := 0 }, { name := "ACK_UNLOCK", type := (.object "com/example/tempe/tempe/algorithm/LocalMutex$Message"), accessFlags := 26, slot := 18, constantValue := 0 }, { name := "priorities", type := .long, accessFlags := 18, slot := 0, constantValue := 0 }, { name := "toLock", type := (.object "java/util/BitSet"), accessFlags := 18, slot := 1, constantValue := 0 }, { name := "replied", type := (.object "java/util/BitSet"), accessFlags := 18, slot := 2, constantValue := 0 }, { name := "outcomes", type := (.object "java/util/BitSet"), accessFlags := 18, slot := 3, constantValue := 0 }, { name := "refusals", type := (.object "java/util/BitSet"), accessFlags := 18, slot := 4, constantValue := 0 }, { name := "onHold", type := (.object "java/util/BitSet"), accessFlags := 18, slot := 5, constantValue := 0 }, { name := "applicants", type := (.object "java/util/BitSet"), accessFlags := 18, slot := 6, constantValue := 0 }, { name := "candidates", type := (.object "java/util/BitSet"), accessFlags := 18, slot := 7, constantValue := 0 }, { name := "bidders", type := (.object "java/util/BitSet"), accessFlags := 18, slot := 8, constantValue := 0 }, { name := "sets", type := (.array (.object "java/util/BitSet")), accessFlags := 18, slot := 9, constantValue := 0 }, { name := "bids", type := (.array .long), accessFlags := 2, slot := 10, constantValue := 0 }, { name := "lock", type := .int, accessFlags := 2, slot := 11, constantValue := 0 }, { name := "state", type := (.object "com/example/tempe/tempe/algorithm/LocalMutex$State"), accessFlags := 2, slot := 12, constantValue := 0 }, { name := "phase", type := (.object "com/example/tempe/tempe/algorithm/LocalMutex$Phase"), accessFlags := 2, slot := 13, constantValue := 0 }, { name := "lockCalls", type := .int, accessFlags := 2, slot := 14, constantValue := 0 }, { name := "unlockCalled", type := .boolean, accessFlags := 2, slot := 15, constantValue := 0 }]
  methods := #[k3m0, k3m1, k3m2, k3m3]
  instanceTypes := #[.long, (.object "java/util/BitSet"), (.object "java/util/BitSet"), (.object "java/util/BitSet"), (.object "java/util/BitSet"), (.object "java/util/BitSet"), (.object "java/util/BitSet"), (.object "java/util/BitSet"), (.object "java/util/BitSet"), (.array (.object "java/util/BitSet")), (.array .long), .int, (.object "com/example/tempe/tempe/algorithm/LocalMutex$State"), (.object "com/example/tempe/tempe/algorithm/LocalMutex$Phase"), .int, .boolean]
  staticTypes := #[.int, .int, .int, .int, .int, .int, .int, .int, .int, .int, .int, (.object "com/example/tempe/tempe/algorithm/LocalMutex$Message"), (.object "com/example/tempe/tempe/algorithm/LocalMutex$Message"), (.object "com/example/tempe/tempe/algorithm/LocalMutex$Message"), (.object "com/example/tempe/tempe/algorithm/LocalMutex$Message"), (.object "com/example/tempe/tempe/algorithm/LocalMutex$Message"), (.object "com/example/tempe/tempe/algorithm/LocalMutex$Message"), (.object "com/example/tempe/tempe/algorithm/LocalMutex$Message"), (.object "com/example/tempe/tempe/algorithm/LocalMutex$Message")]
  resolved := Array.replicate 447 none
  statics := none }

def pool4 : Array CpInfo := pool [(1, .class_ 2), (0, u "java/lang/Cloneable"), (0, .class_ 4), (0, u "java/lang/Object")] 2

/-- java/lang/Cloneable -/
def k4 : Class := { plain "java/lang/Cloneable" (some 0) with
  accessFlags := 1537
  interfaces := #[]
  cf := some (fileOf pool4 1 #[] #[] 1537 3 #[] #[])
  fields := #[]
  methods := #[]
  instanceTypes := #[]
  staticTypes := #[]
  resolved := Array.replicate 7 none
  statics := none }

def pool5 : Array CpInfo := pool [(1, .class_ 2), (0, u "java/io/Serializable"), (0, .class_ 4), (0, u "java/lang/Object")] 2

/-- java/io/Serializable -/
def k5 : Class := { plain "java/io/Serializable" (some 0) with
  accessFlags := 1537
  interfaces := #[]
  cf := some (fileOf pool5 1 #[] #[] 1537 3 #[] #[])
  fields := #[]
  methods := #[]
  instanceTypes := #[]
  staticTypes := #[]
  resolved := Array.replicate 7 none
  statics := none }

def pool6 : Array CpInfo := pool [(1, .class_ 2), (0, u "java/util/BitSet"), (2, u "$assertionsDisabled"), (0, u "Z"), (0, .fieldref 1 8), (0, .nameAndType 9 10), (0, u "wordsInUse"), (0, u "I"), (0, .fieldref 1 12), (0, .nameAndType 13 14), (0, u "words"), (0, u "[J"), (3, .nameAndType 19 20), (0, u "<init>"), (0, u "()V"), (0, .methodref 22 18), (0, .class_ 23), (0, u "java/lang/Object"), (0, .fieldref 1 25), (0, .nameAndType 26 6), (0, u "sizeIsSticky"), (0, .methodref 1 28), (0, .nameAndType 29 30), (0, u "initWords"), (0, u "(I)V"), (21, .methodref 1 53), (0, .nameAndType 54 55), (0, u "wordIndex"), (0, u "(I)I"), (213, .class_ 270), (0, u "java/util/BitSet$1BitSetSpliterator"), (22, u "serialPersistentFields"), (0, u "[Ljava/io/ObjectStreamField;"), (0, .class_ 296), (0, u "java/lang/Cloneable"), (0, .class_ 298), (0, u "java/io/Serializable"), (0, u "ADDRESS_BITS_PER_WORD"), (2, u "BITS_PER_WORD"), (1, u "BIT_INDEX_MASK"), (1, u "WORD_MASK"), (0, u "J"), (0, u "serialVersionUID")] 108

def k6c0 : Code := { maxStack := 2, maxLocals := 1, code := jdk_92_method_1_code, exceptionTable := #[], attributes := #[] }
def k6m0 : Method := { name := "wordIndex", desc := "(I)I", sig := { parameters := [.int], returnType := some .int }, accessFlags := 10, code := some k6c0 }
def k6c1 : Code := { maxStack := 2, maxLocals := 1, code := jdk_92_method_4_code, exceptionTable := #[], attributes := #[] }
def k6m1 : Method := { name := "<init>", desc := "()V", sig := { parameters := [], returnType := none }, accessFlags := 1, code := some k6c1 }
def k6c2 : Code := { maxStack := 3, maxLocals := 2, code := jdk_92_method_6_code, exceptionTable := #[], attributes := #[] }
def k6m2 : Method := { name := "initWords", desc := "(I)V", sig := { parameters := [.int], returnType := none }, accessFlags := 2, code := some k6c2 }
/-- java/util/BitSet -/
def k6 : Class := { plain "java/util/BitSet" (some 0) with
  accessFlags := 33
  interfaces := #[4, 5]
  cf := some (fileOf pool6 1 #[.nestMembers #[269]] #[{ accessFlags := 10, nameIndex := 54, descriptorIndex := 55, attributes := #[] }, { accessFlags := 1, nameIndex := 19, descriptorIndex := 20, attributes := #[] }, { accessFlags := 2, nameIndex := 29, descriptorIndex := 30, attributes := #[] }] 33 22 #[295, 297] #[{ accessFlags := 26, nameIndex := 299, descriptorIndex := 10, attributes := #[] }, { accessFlags := 26, nameIndex := 302, descriptorIndex := 10, attributes := #[] }, { accessFlags := 26, nameIndex := 304, descriptorIndex := 10, attributes := #[] }, { accessFlags := 26, nameIndex := 306, descriptorIndex := 307, attributes := #[] }, { accessFlags := 26, nameIndex := 293, descriptorIndex := 294, attributes := #[] }, { accessFlags := 2, nameIndex := 13, descriptorIndex := 14, attributes := #[] }, { accessFlags := 130, nameIndex := 9, descriptorIndex := 10, attributes := #[] }, { accessFlags := 130, nameIndex := 26, descriptorIndex := 6, attributes := #[] }, { accessFlags := 26, nameIndex := 308, descriptorIndex := 307, attributes := #[] }, { accessFlags := 4120, nameIndex := 5, descriptorIndex := 6, attributes := #[] }])
  fields := #[{ name := "ADDRESS_BITS_PER_WORD", type := .int, accessFlags := 26, slot := 0, constantValue := 0 }, { name := "BITS_PER_WORD", type := .int, accessFlags := 26, slot := 1, constantValue := 0 }, { name := "BIT_INDEX_MASK", type := .int, accessFlags := 26, slot := 2, constantValue := 0 }, { name := "WORD_MASK", type := .long, accessFlags := 26, slot := 3, constantValue := 0 }, { name := "serialPersistentFields", type := (.array (.object "java/io/ObjectStreamField")), accessFlags := 26, slot := 4, constantValue := 0 }, { name := "words", type := (.array .long), accessFlags := 2, slot := 0, constantValue := 0 }, { name := "wordsInUse", type := .int, accessFlags := 130, slot := 1, constantValue := 0 }, { name := "sizeIsSticky", type := .boolean, accessFlags := 130, slot := 2, constantValue := 0 }, { name := "serialVersionUID", type := .long, accessFlags := 26, slot := 5, constantValue := 0 }, { name := "$assertionsDisabled", type := .boolean, accessFlags := 4120, slot := 6, constantValue := 0 }]
  methods := #[k6m0, k6m1, k6m2]
  instanceTypes := #[(.array .long), .int, .boolean]
  staticTypes := #[.int, .int, .int, .long, (.array (.object "java/io/ObjectStreamField")), .long, .boolean]
  resolved := Array.replicate 417 none
  statics := none }

def pool7 : Array CpInfo := pool [(1, .class_ 2), (0, u "java/lang/constant/Constable"), (0, .class_ 4), (0, u "java/lang/Object")] 6

/-- java/lang/constant/Constable -/
def k7 : Class := { plain "java/lang/constant/Constable" (some 0) with
  accessFlags := 1537
  interfaces := #[]
  cf := some (fileOf pool7 1 #[] #[] 1537 3 #[] #[])
  fields := #[]
  methods := #[]
  instanceTypes := #[]
  staticTypes := #[]
  resolved := Array.replicate 11 none
  statics := none }

def pool8 : Array CpInfo := pool [(1, .class_ 2), (0, u "java/lang/Comparable"), (0, .class_ 4), (0, u "java/lang/Object")] 7

/-- java/lang/Comparable -/
def k8 : Class := { plain "java/lang/Comparable" (some 0) with
  accessFlags := 1537
  interfaces := #[]
  cf := some (fileOf pool8 1 #[] #[] 1537 3 #[] #[])
  fields := #[]
  methods := #[]
  instanceTypes := #[]
  staticTypes := #[]
  resolved := Array.replicate 12 none
  statics := none }

def pool9 : Array CpInfo := pool [(2, .class_ 4), (1, u "java/lang/Enum"), (0, u "name"), (0, u "Ljava/lang/String;"), (2, u "ordinal"), (0, u "I"), (1, .class_ 14), (1, u "java/lang/Object"), (4, u "hash"), (86, .class_ 108), (1, u "java/lang/Enum$EnumDesc"), (2, .class_ 112), (0, u "java/lang/constant/Constable"), (0, .class_ 114), (0, u "java/lang/Comparable"), (0, .class_ 116), (0, u "java/io/Serializable")] 87

/-- java/lang/Enum -/
def k9 : Class := { plain "java/lang/Enum" (some 0) with
  accessFlags := 1057
  interfaces := #[7, 8, 5]
  cf := some (fileOf pool9 2 #[.nestMembers #[106]] #[] 1057 12 #[111, 113, 115] #[{ accessFlags := 18, nameIndex := 5, descriptorIndex := 6, attributes := #[] }, { accessFlags := 18, nameIndex := 9, descriptorIndex := 10, attributes := #[] }, { accessFlags := 2, nameIndex := 19, descriptorIndex := 10, attributes := #[] }])
  fields := #[{ name := "name", type := (.object "java/lang/String"), accessFlags := 18, slot := 0, constantValue := 0 }, { name := "ordinal", type := .int, accessFlags := 18, slot := 1, constantValue := 0 }, { name := "hash", type := .int, accessFlags := 2, slot := 2, constantValue := 0 }]
  methods := #[]
  instanceTypes := #[(.object "java/lang/String"), .int, .int]
  staticTypes := #[]
  resolved := Array.replicate 204 none
  statics := none }

def pool10 : Array CpInfo := pool [(1, .class_ 2), (0, u "com/example/tempe/tempe/algorithm/LocalMutex$State"), (2, u "IDLE"), (0, u "Lcom/example/tempe/tempe/algorithm/LocalMutex$State;"), (2, u "PREPARE"), (2, u "COMPETE"), (2, u "WIN"), (2, u "LOCKED"), (2, u "UNLOCK"), (2, u "$VALUES"), (0, u "[Lcom/example/tempe/tempe/algorithm/LocalMutex$State;"), (6, .class_ 34), (1, u "java/lang/Enum"), (29, .class_ 65), (0, u "com/example/tempe/tempe/algorithm/LocalMutex")] 2

/-- com/example/tempe/tempe/algorithm/LocalMutex$State -/
def k10 : Class := { plain "com/example/tempe/tempe/algorithm/LocalMutex$State" (some 9) with
  accessFlags := 16432
  interfaces := #[]
  cf := some (fileOf pool10 1 #[.nestHost 64] #[] 16432 32 #[] #[{ accessFlags := 16409, nameIndex := 5, descriptorIndex := 6, attributes := #[] }, { accessFlags := 16409, nameIndex := 9, descriptorIndex := 6, attributes := #[] }, { accessFlags := 16409, nameIndex := 12, descriptorIndex := 6, attributes := #[] }, { accessFlags := 16409, nameIndex := 15, descriptorIndex := 6, attributes := #[] }, { accessFlags := 16409, nameIndex := 18, descriptorIndex := 6, attributes := #[] }, { accessFlags := 16409, nameIndex := 21, descriptorIndex := 6, attributes := #[] }, { accessFlags := 4122, nameIndex := 24, descriptorIndex := 25, attributes := #[] }])
  fields := #[{ name := "IDLE", type := (.object "com/example/tempe/tempe/algorithm/LocalMutex$State"), accessFlags := 16409, slot := 0, constantValue := 0 }, { name := "PREPARE", type := (.object "com/example/tempe/tempe/algorithm/LocalMutex$State"), accessFlags := 16409, slot := 1, constantValue := 0 }, { name := "COMPETE", type := (.object "com/example/tempe/tempe/algorithm/LocalMutex$State"), accessFlags := 16409, slot := 2, constantValue := 0 }, { name := "WIN", type := (.object "com/example/tempe/tempe/algorithm/LocalMutex$State"), accessFlags := 16409, slot := 3, constantValue := 0 }, { name := "LOCKED", type := (.object "com/example/tempe/tempe/algorithm/LocalMutex$State"), accessFlags := 16409, slot := 4, constantValue := 0 }, { name := "UNLOCK", type := (.object "com/example/tempe/tempe/algorithm/LocalMutex$State"), accessFlags := 16409, slot := 5, constantValue := 0 }, { name := "$VALUES", type := (.array (.object "com/example/tempe/tempe/algorithm/LocalMutex$State")), accessFlags := 4122, slot := 6, constantValue := 0 }]
  methods := #[]
  instanceTypes := #[(.object "java/lang/String"), .int, .int]
  staticTypes := #[(.object "com/example/tempe/tempe/algorithm/LocalMutex$State"), (.object "com/example/tempe/tempe/algorithm/LocalMutex$State"), (.object "com/example/tempe/tempe/algorithm/LocalMutex$State"), (.object "com/example/tempe/tempe/algorithm/LocalMutex$State"), (.object "com/example/tempe/tempe/algorithm/LocalMutex$State"), (.object "com/example/tempe/tempe/algorithm/LocalMutex$State"), (.array (.object "com/example/tempe/tempe/algorithm/LocalMutex$State"))]
  resolved := Array.replicate 68 none
  statics := some 0 }

def pool11 : Array CpInfo := pool [(1, .class_ 2), (0, u "com/example/tempe/tempe/algorithm/LocalMutex$Phase"), (2, u "IDLE"), (0, u "Lcom/example/tempe/tempe/algorithm/LocalMutex$Phase;"), (2, u "PREPARE"), (2, u "COMPETE"), (2, u "$VALUES"), (0, u "[Lcom/example/tempe/tempe/algorithm/LocalMutex$Phase;"), (6, .class_ 25), (1, u "java/lang/Enum"), (26, .class_ 53), (0, u "com/example/tempe/tempe/algorithm/LocalMutex")] 2

/-- com/example/tempe/tempe/algorithm/LocalMutex$Phase -/
def k11 : Class := { plain "com/example/tempe/tempe/algorithm/LocalMutex$Phase" (some 9) with
  accessFlags := 16432
  interfaces := #[]
  cf := some (fileOf pool11 1 #[.nestHost 52] #[] 16432 23 #[] #[{ accessFlags := 16409, nameIndex := 5, descriptorIndex := 6, attributes := #[] }, { accessFlags := 16409, nameIndex := 9, descriptorIndex := 6, attributes := #[] }, { accessFlags := 16409, nameIndex := 12, descriptorIndex := 6, attributes := #[] }, { accessFlags := 4122, nameIndex := 15, descriptorIndex := 16, attributes := #[] }])
  fields := #[{ name := "IDLE", type := (.object "com/example/tempe/tempe/algorithm/LocalMutex$Phase"), accessFlags := 16409, slot := 0, constantValue := 0 }, { name := "PREPARE", type := (.object "com/example/tempe/tempe/algorithm/LocalMutex$Phase"), accessFlags := 16409, slot := 1, constantValue := 0 }, { name := "COMPETE", type := (.object "com/example/tempe/tempe/algorithm/LocalMutex$Phase"), accessFlags := 16409, slot := 2, constantValue := 0 }, { name := "$VALUES", type := (.array (.object "com/example/tempe/tempe/algorithm/LocalMutex$Phase")), accessFlags := 4122, slot := 3, constantValue := 0 }]
  methods := #[]
  instanceTypes := #[(.object "java/lang/String"), .int, .int]
  staticTypes := #[(.object "com/example/tempe/tempe/algorithm/LocalMutex$Phase"), (.object "com/example/tempe/tempe/algorithm/LocalMutex$Phase"), (.object "com/example/tempe/tempe/algorithm/LocalMutex$Phase"), (.array (.object "com/example/tempe/tempe/algorithm/LocalMutex$Phase"))]
  resolved := Array.replicate 56 none
  statics := some 1 }

/-- the primitive byte -/
def k12 : Class := { plain "byte" none with kind := .primitive 'B', accessFlags := 0x411 }
/-- [B -/
def k13 : Class := { plain "[B" (some 0) with kind := .array 12 .byte, interfaces := #[4, 5], accessFlags := 1041 }

/-- the primitive int -/
def k14 : Class := { plain "int" none with kind := .primitive 'I', accessFlags := 0x411 }
/-- [I -/
def k15 : Class := { plain "[I" (some 0) with kind := .array 14 .int, interfaces := #[4, 5], accessFlags := 1041 }

/-- the primitive long -/
def k16 : Class := { plain "long" none with kind := .primitive 'J', accessFlags := 0x411 }
/-- [J -/
def k17 : Class := { plain "[J" (some 0) with kind := .array 16 .long, interfaces := #[4, 5], accessFlags := 1041 }

/-- [Ljava/util/BitSet; -/
def k18 : Class := { plain "[Ljava/util/BitSet;" (some 0) with kind := .array 6 (.object "java/util/BitSet"), interfaces := #[4, 5], accessFlags := 1041 }

def heap : Heap := #[{ cls := 10, slots := #[.ref 2, .null, .null, .null, .null, .null, .null], vm := .statics 10 },
  { cls := 11, slots := #[.ref 3, .null, .null, .null], vm := .statics 11 },
  { cls := 10, slots := #[.null, .int 0, .int 0], vm := .none },
  { cls := 11, slots := #[.null, .int 0, .int 0], vm := .none }]
def classes : Array Class := #[k0, k1, k2, k3, k4, k5, k6, k7, k8, k9, k10, k11, k12, k13, k14, k15, k16, k17, k18]
def interned : List (Array UInt16 × Addr) := []
def slotsUsed : Nat := 17
def theMethod : MethodId := ⟨1, 1⟩
def args0 : Array Value := #[.long 5, .int 1, .int 0]
def aboutOver (below : List Frame) : State where
  vm := { classes := classes, interned := interned.toArray }
  heap := heap
  slotsUsed := slotsUsed
  threads := #[{ frames := .invoking theMethod args0 :: below }]
def below0 : List Frame := [.native { method := ⟨0, 0⟩, args := #[] }]
def about1 : State := aboutOver below0
def p0 : Program := .bare "" "" ""
def e0 : Env := launch0.env 0 0 0
theorem w_frames : about1.frames = Frame.invoking theMethod args0 :: below0 := rfl
set_option maxRecDepth 65536 in
theorem w_args : argsFit about1.vm theMethod args0 = true := by decide +kernel
set_option maxRecDepth 65536 in
theorem w_heap : heapFits about1 = true := by decide +kernel
set_option maxRecDepth 65536 in
theorem w_runnable : about1.curStatus? = some .runnable := by decide +kernel
set_option maxRecDepth 65536 in
theorem w_alone : about1.alone = true := by decide +kernel
set_option maxRecDepth 65536 in
theorem w_named : about1.methodNamed? x = some theMethod := by decide +kernel
set_option maxRecDepth 65536 in
theorem w_hears : about1.hears theMethod below0 = true := by decide +kernel
set_option maxRecDepth 65536 in
theorem w_ripe : about1.ripe theMethod args0 below0 = true := by decide +kernel
theorem w_running : about1.status = .running := rfl
set_option maxRecDepth 65536 in
theorem w_room : about1.hasRoom e0.platform room_1 = true :=
  launch0.hasRoom_least _ room_1 (by decide +kernel) (by decide +kernel) (by decide +kernel) (by decide +kernel) (by decide +kernel) (by decide +kernel)
theorem allAtoms_all (ts : List Jvm.Cond) (a : Array Jvm.Value) (st : Jvm.State) : (allAtoms ts).before a st = ts.all (fun c => c.before a st) := by
  induction ts with
  | nil => rfl
  | cons c t ih =>
    show (Jvm.Cond.and c (allAtoms t)).before a st = _
    rw [Jvm.Cond.before_and, ih, List.all_cons]
def words1 : List Jvm.Cond := Jvm.Cond.code x code maxLocals ret :: tables_1
/-- a 'code' word, met by the world's own term for the bytes: nothing is compared byte by byte -/
theorem code_word {y : MethodName} {bytes : ByteArray} {mx : Nat} {rt : Option FieldType} {a : Array Value} {s : State} {m : MethodId} {meth : Method} {c : Code} (h1 : s.methodNamed? y = some m) (h2 : s.vm.method? m = some meth) (h3 : meth.code = some c) (h4 : c.code = bytes)
    (h5 : (c.maxLocals == mx && c.exceptionTable.isEmpty && decide (c.maxStack ≤ mostOperands) && decide (meth.sig.returnType = rt) && !meth.locks && decide (parseMethodDescriptor y.desc = some meth.sig)) = true) : (Jvm.Cond.code y bytes mx rt).before a s = true := by
  simp only [Bool.and_eq_true, beq_iff_eq, Bool.not_eq_true', decide_eq_true_eq] at h5
  obtain ⟨⟨⟨⟨⟨g1, g2⟩, g3⟩, g4⟩, g5⟩, g6⟩ := h5
  simp [Cond.before, Cond.holds, Cond.value, h1, h2, h3, h4, g1, g2, g3, g4, g5, g6]
def isCode : Jvm.Cond → Bool
  | .code _ _ _ _ => true
  | _ => false
theorem all_split {L : List Jvm.Cond} {P : Jvm.Cond → Bool} (h1 : L.all (fun c => isCode c || P c) = true) (h2 : ∀ c ∈ L.filter isCode, P c = true) : L.all P = true := by
  refine List.all_eq_true.mpr fun c hc => ?_
  have h := List.all_eq_true.mp h1 c hc
  rcases Bool.eq_false_or_eq_true (isCode c) with hi | hi
  · exact h2 c (List.mem_filter.mpr ⟨hc, hi⟩)
  · simpa [hi] using h
set_option maxRecDepth 65536 in
theorem w_c0 : (Jvm.Cond.code x code maxLocals ret).before args0 about1 = true := code_word (m := ⟨1, 1⟩) (meth := k1m1) (c := k1c1) (by decide +kernel) rfl rfl rfl (by decide +kernel)
set_option maxRecDepth 65536 in
theorem w_c1 : (Jvm.Cond.code ({ cls := "com/example/tempe/tempe/algorithm/LocalMutex", name := "<init>", desc := "(J)V" } : Jvm.MethodName) prog_6_method_1_code (3 : Nat) (Option.none : Option Jvm.ClassFile.FieldType)).before args0 about1 = true := code_word (m := ⟨3, 0⟩) (meth := k3m0) (c := k3c0) (by decide +kernel) rfl rfl rfl (by decide +kernel)
set_option maxRecDepth 65536 in
theorem w_c2 : (Jvm.Cond.code ({ cls := "java/lang/Object", name := "<init>", desc := "()V" } : Jvm.MethodName) object_method_1_code (1 : Nat) (Option.none : Option Jvm.ClassFile.FieldType)).before args0 about1 = true := code_word (m := ⟨0, 0⟩) (meth := k0m0) (c := k0c0) (by decide +kernel) rfl rfl rfl (by decide +kernel)
set_option maxRecDepth 65536 in
theorem w_c3 : (Jvm.Cond.code ({ cls := "java/util/BitSet", name := "<init>", desc := "()V" } : Jvm.MethodName) jdk_92_method_4_code (1 : Nat) (Option.none : Option Jvm.ClassFile.FieldType)).before args0 about1 = true := code_word (m := ⟨6, 1⟩) (meth := k6m1) (c := k6c1) (by decide +kernel) rfl rfl rfl (by decide +kernel)
set_option maxRecDepth 65536 in
theorem w_c4 : (Jvm.Cond.code ({ cls := "java/util/BitSet", name := "initWords", desc := "(I)V" } : Jvm.MethodName) jdk_92_method_6_code (2 : Nat) (Option.none : Option Jvm.ClassFile.FieldType)).before args0 about1 = true := code_word (m := ⟨6, 2⟩) (meth := k6m2) (c := k6c2) (by decide +kernel) rfl rfl rfl (by decide +kernel)
set_option maxRecDepth 65536 in
theorem w_c5 : (Jvm.Cond.code ({ cls := "java/util/BitSet", name := "wordIndex", desc := "(I)I" } : Jvm.MethodName) jdk_92_method_1_code (1 : Nat) (Option.some Jvm.ClassFile.FieldType.int)).before args0 about1 = true := code_word (m := ⟨6, 0⟩) (meth := k6m0) (c := k6c0) (by decide +kernel) rfl rfl rfl (by decide +kernel)
set_option maxRecDepth 65536 in
theorem w_c6 : (Jvm.Cond.code ({ cls := "com/example/tempe/tempe/algorithm/LocalMutex", name := "lockPending", desc := "()Z" } : Jvm.MethodName) prog_6_method_8_code (1 : Nat) (Option.some Jvm.ClassFile.FieldType.boolean)).before args0 about1 = true := code_word (m := ⟨3, 3⟩) (meth := k3m3) (c := k3c3) (by decide +kernel) rfl rfl rfl (by decide +kernel)
set_option maxRecDepth 65536 in
theorem w_c7 : (Jvm.Cond.code ({ cls := "com/example/tempe/tempe/algorithm/LocalMutex", name := "unlock", desc := "()V" } : Jvm.MethodName) prog_6_method_6_code (1 : Nat) (Option.none : Option Jvm.ClassFile.FieldType)).before args0 about1 = true := code_word (m := ⟨3, 2⟩) (meth := k3m2) (c := k3c2) (by decide +kernel) rfl rfl rfl (by decide +kernel)
set_option maxRecDepth 65536 in
theorem w_c8 : (Jvm.Cond.code ({ cls := "com/example/tempe/tempe/algorithm/LocalMutex", name := "lock", desc := "()V" } : Jvm.MethodName) prog_6_method_5_code (1 : Nat) (Option.none : Option Jvm.ClassFile.FieldType)).before args0 about1 = true := code_word (m := ⟨3, 1⟩) (meth := k3m1) (c := k3c1) (by decide +kernel) rfl rfl rfl (by decide +kernel)
def codes1 : List Jvm.Cond := [Jvm.Cond.code x code maxLocals ret, Jvm.Cond.code ({ cls := "com/example/tempe/tempe/algorithm/LocalMutex", name := "<init>", desc := "(J)V" } : Jvm.MethodName) prog_6_method_1_code (3 : Nat) (Option.none : Option Jvm.ClassFile.FieldType), Jvm.Cond.code ({ cls := "java/lang/Object", name := "<init>", desc := "()V" } : Jvm.MethodName) object_method_1_code (1 : Nat) (Option.none : Option Jvm.ClassFile.FieldType), Jvm.Cond.code ({ cls := "java/util/BitSet", name := "<init>", desc := "()V" } : Jvm.MethodName) jdk_92_method_4_code (1 : Nat) (Option.none : Option Jvm.ClassFile.FieldType), Jvm.Cond.code ({ cls := "java/util/BitSet", name := "initWords", desc := "(I)V" } : Jvm.MethodName) jdk_92_method_6_code (2 : Nat) (Option.none : Option Jvm.ClassFile.FieldType), Jvm.Cond.code ({ cls := "java/util/BitSet", name := "wordIndex", desc := "(I)I" } : Jvm.MethodName) jdk_92_method_1_code (1 : Nat) (Option.some Jvm.ClassFile.FieldType.int), Jvm.Cond.code ({ cls := "com/example/tempe/tempe/algorithm/LocalMutex", name := "lockPending", desc := "()Z" } : Jvm.MethodName) prog_6_method_8_code (1 : Nat) (Option.some Jvm.ClassFile.FieldType.boolean), Jvm.Cond.code ({ cls := "com/example/tempe/tempe/algorithm/LocalMutex", name := "unlock", desc := "()V" } : Jvm.MethodName) prog_6_method_6_code (1 : Nat) (Option.none : Option Jvm.ClassFile.FieldType), Jvm.Cond.code ({ cls := "com/example/tempe/tempe/algorithm/LocalMutex", name := "lock", desc := "()V" } : Jvm.MethodName) prog_6_method_5_code (1 : Nat) (Option.none : Option Jvm.ClassFile.FieldType)]
set_option maxRecDepth 65536 in
theorem codes_eq : words1.filter isCode = codes1 := rfl
theorem w_codes : ∀ c ∈ words1.filter isCode, c.before args0 about1 = true := by
  rw [codes_eq]
  intro c hc
  simp only [codes1, List.mem_cons, List.not_mem_nil, or_false] at hc
  rcases hc with rfl | rfl | rfl | rfl | rfl | rfl | rfl | rfl | rfl
  · exact w_c0
  · exact w_c1
  · exact w_c2
  · exact w_c3
  · exact w_c4
  · exact w_c5
  · exact w_c6
  · exact w_c7
  · exact w_c8
set_option maxRecDepth 65536 in
theorem w_t1 : (words1.take 24).all (fun c => isCode c || c.before args0 about1) = true := by decide +kernel
set_option maxRecDepth 65536 in
theorem w_t2 : ((words1.drop 24).take 24).all (fun c => isCode c || c.before args0 about1) = true := by decide +kernel
set_option maxRecDepth 65536 in
theorem w_t3 : (((words1.drop 24).drop 24).take 24).all (fun c => isCode c || c.before args0 about1) = true := by decide +kernel
set_option maxRecDepth 65536 in
theorem w_t4 : (((words1.drop 24).drop 24).drop 24).all (fun c => isCode c || c.before args0 about1) = true := by decide +kernel
theorem w_tables : (allAtoms (Jvm.Cond.code x code maxLocals ret :: tables_1)).before args0 about1 = true := by
  rw [allAtoms_all]
  show words1.all (fun c => c.before args0 about1) = true
  refine all_split ?_ w_codes
  rw [← List.take_append_drop 24 words1, List.all_append, w_t1, ← List.take_append_drop 24 (words1.drop 24), List.all_append, w_t2, ← List.take_append_drop 24 ((words1.drop 24).drop 24), List.all_append, w_t3, w_t4]
  rfl
set_option maxRecDepth 65536 in
theorem w_case : (Jvm.Cond.and given_1 narrow_1).before args0 about1 = true := by decide +kernel
theorem w_applies : (headSpec (Jvm.Cond.code x code maxLocals ret :: tables_1) room_1).applies x e0.platform about1 = true :=
  (Spec.applies_iff w_frames).mpr ⟨w_running, w_runnable, w_alone, w_named, w_hears, w_ripe, w_room, w_tables⟩
theorem atStart : AtStart classFile x code maxLocals ret World_1 tables_1 room_1 Calls_1 rest_1 Pre_1 launch0 p0 e0 about1 theMethod args0 below0 :=
  ⟨lists_1, trivial, launch0.admits_env _ _ _, launch0.least_env, fairChoices_fair.cas, fairChoices_fair.clock, w_frames, w_args, w_heap, w_applies, trivial, trivial, w_case⟩
end start1
theorem witness_1 : WitnessClaimed_1 := ⟨start1.p0, start1.e0, start1.about1, start1.theMethod, start1.args0, start1.below0, start1.atStart⟩
end Jvm.Pilot.@@N@@
