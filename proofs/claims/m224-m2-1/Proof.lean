import JvmDerived
import JvmDerived.Pilot.@@N@@Statement
import JvmDerived.Pilot.@@N@@Code
set_option linter.unusedVariables false
set_option linter.unusedSimpArgs false
namespace Jvm.RoadKit
open Sem ClassFile Op Lib Jvm.Stand Jvm.Free Jvm.LawKit
section New
variable {p : Program} {l : Launch} {e : Env} {R : Room} {s : State} {m : MethodId} {args : Array Value} {below : List Frame} {meth : Method} {c : Code} {T : State} {locs : List Loc} {cells slots : Nat}
theorem retI (X : Stand p l e R s m args below meth c T locs cells slots) (hx : p.tables.exec = Jvm.exec) {pc : Nat} {Ls : Array Slot} {z : Int32} {rest : List Value} (hret : meth.sig.returnType = some .int) (hd : decode c.code pc = .ok (.ireturn, 1)) {fs : List Frame}
    (hl : ∀ (f : JFrame) (acts : List Action), f.method = m → f.locked = none → f.entered = [] → (doReturn e (T.setTop f) acts (some (.int z))).1 = T.setFrames fs) : Steps p.tables e below (T.setTop (mkF m pc Ls (.int z :: rest))) (T.setFrames fs) := by
  have hm' : T.vm.method? m = some meth := X.method'
  have hn : narrow .int (.int z) = .int z := rfl
  show Steps p.tables e below (T.setTop { method := m, pc := pc, locals := Ls, stack := _ :: rest, locked := none }) _
  jvm_step X.here [X.here.top, hx, hd, hm', hret, hn]
  first | (intro acts; rw [hl _ acts rfl rfl rfl]) | rw [hl _ _ rfl rfl rfl]
  exact Steps.refl _
end New
end Jvm.RoadKit
namespace Jvm.Pilot.@@N@@
open Jvm Jvm.ClassFile Sem Op Lib Jvm.Free Jvm.Stand Jvm.LawKit Jvm.RoadKit Bundle Jvm.Pilot.@@N@@.Jvm.D
abbrev own_m0 : MethodName := ⟨"com/example/don_valley/donvalley/broker/QueuedFrames", "<init>", "()V"⟩
abbrev own_m1 : MethodName := ⟨"com/example/don_valley/donvalley/broker/QueuedFrames", "get", "(I)Ljava/nio/ByteBuffer;"⟩
abbrev own_m2 : MethodName := ⟨"com/example/don_valley/donvalley/broker/QueuedFrames", "grow", "()V"⟩
abbrev own_m3 : MethodName := ⟨"com/example/don_valley/donvalley/broker/QueuedFrames", "add", "(Ljava/nio/ByteBuffer;J)V"⟩
abbrev own_m4 : MethodName := ⟨"com/example/don_valley/donvalley/broker/QueuedFrames", "removeFirst", "()V"⟩
abbrev own_m5 : MethodName := ⟨"com/example/don_valley/donvalley/broker/QueuedFrames", "size", "()I"⟩
abbrev own_m6 : MethodName := ⟨"com/example/don_valley/donvalley/broker/QueuedFrames", "firstQueuedAt", "()J"⟩
theorem own_w0 {Z : State} {a0 : Array Value} (hw : ∀ d ∈ tables_1, d.before a0 Z = true) : (Jvm.Cond.classLink "com/example/don_valley/donvalley/broker/QueuedFramesRemoveFirstPinLaw" (7 : Nat) "com/example/don_valley/donvalley/broker/QueuedFrames").before a0 Z = true := hw _ (List.mem_of_getElem? (i := 0) rfl)
theorem own_w1 {Z : State} {a0 : Array Value} (hw : ∀ d ∈ tables_1, d.before a0 Z = true) : (Jvm.Cond.instantiable "com/example/don_valley/donvalley/broker/QueuedFrames" (4 : Nat)).before a0 Z = true := hw _ (List.mem_of_getElem? (i := 1) rfl)
theorem own_w2 {Z : State} {a0 : Array Value} (hw : ∀ d ∈ tables_1, d.before a0 Z = true) : (Jvm.Cond.initialized "com/example/don_valley/donvalley/broker/QueuedFrames").before a0 Z = true := hw _ (List.mem_of_getElem? (i := 2) rfl)
theorem own_w3 {Z : State} {a0 : Array Value} (hw : ∀ d ∈ tables_1, d.before a0 Z = true) : (Jvm.Cond.methodLink "com/example/don_valley/donvalley/broker/QueuedFramesRemoveFirstPinLaw" (9 : Nat) ({ cls := "com/example/don_valley/donvalley/broker/QueuedFrames", name := "<init>", desc := "()V" } : Jvm.MethodName)).before a0 Z = true := hw _ (List.mem_of_getElem? (i := 3) rfl)
theorem own_w4 {Z : State} {a0 : Array Value} (hw : ∀ d ∈ tables_1, d.before a0 Z = true) : (Jvm.Cond.instanceMethod ({ cls := "com/example/don_valley/donvalley/broker/QueuedFrames", name := "<init>", desc := "()V" } : Jvm.MethodName)).before a0 Z = true := hw _ (List.mem_of_getElem? (i := 4) rfl)
theorem own_w5 {Z : State} {a0 : Array Value} (hw : ∀ d ∈ tables_1, d.before a0 Z = true) : (Jvm.Cond.code ({ cls := "com/example/don_valley/donvalley/broker/QueuedFrames", name := "<init>", desc := "()V" } : Jvm.MethodName) prog_10_method_1_code (1 : Nat) (Option.none : Option Jvm.ClassFile.FieldType)).before a0 Z = true := hw _ (List.mem_of_getElem? (i := 5) rfl)
theorem own_w6 {Z : State} {a0 : Array Value} (hw : ∀ d ∈ tables_1, d.before a0 Z = true) : (Jvm.Cond.methodLink "com/example/don_valley/donvalley/broker/QueuedFrames" (1 : Nat) ({ cls := "java/lang/Object", name := "<init>", desc := "()V" } : Jvm.MethodName)).before a0 Z = true := hw _ (List.mem_of_getElem? (i := 6) rfl)
theorem own_w7 {Z : State} {a0 : Array Value} (hw : ∀ d ∈ tables_1, d.before a0 Z = true) : (Jvm.Cond.instanceMethod ({ cls := "java/lang/Object", name := "<init>", desc := "()V" } : Jvm.MethodName)).before a0 Z = true := hw _ (List.mem_of_getElem? (i := 7) rfl)
theorem own_w8 {Z : State} {a0 : Array Value} (hw : ∀ d ∈ tables_1, d.before a0 Z = true) : (Jvm.Cond.code ({ cls := "java/lang/Object", name := "<init>", desc := "()V" } : Jvm.MethodName) object_method_1_code (1 : Nat) (Option.none : Option Jvm.ClassFile.FieldType)).before a0 Z = true := hw _ (List.mem_of_getElem? (i := 8) rfl)
theorem own_w9 {Z : State} {a0 : Array Value} (hw : ∀ d ∈ tables_1, d.before a0 Z = true) : (Jvm.Cond.classLink "com/example/don_valley/donvalley/broker/QueuedFrames" (7 : Nat) "java/nio/ByteBuffer").before a0 Z = true := hw _ (List.mem_of_getElem? (i := 9) rfl)
theorem own_w10 {Z : State} {a0 : Array Value} (hw : ∀ d ∈ tables_1, d.before a0 Z = true) : (Jvm.Cond.arrayOver (Jvm.ClassFile.FieldType.object "java/nio/ByteBuffer")).before a0 Z = true := hw _ (List.mem_of_getElem? (i := 10) rfl)
theorem own_w11 {Z : State} {a0 : Array Value} (hw : ∀ d ∈ tables_1, d.before a0 Z = true) : (Jvm.Cond.fieldLink "com/example/don_valley/donvalley/broker/QueuedFrames" (9 : Nat) "com/example/don_valley/donvalley/broker/QueuedFrames" "frames" "[Ljava/nio/ByteBuffer;").before a0 Z = true := hw _ (List.mem_of_getElem? (i := 11) rfl)
theorem own_w12 {Z : State} {a0 : Array Value} (hw : ∀ d ∈ tables_1, d.before a0 Z = true) : (Jvm.Cond.lays "com/example/don_valley/donvalley/broker/QueuedFrames" "com/example/don_valley/donvalley/broker/QueuedFrames" "frames" "[Ljava/nio/ByteBuffer;").before a0 Z = true := hw _ (List.mem_of_getElem? (i := 12) rfl)
theorem own_w13 {Z : State} {a0 : Array Value} (hw : ∀ d ∈ tables_1, d.before a0 Z = true) : (Jvm.Cond.arrayClass Jvm.ClassFile.FieldType.long).before a0 Z = true := hw _ (List.mem_of_getElem? (i := 13) rfl)
theorem own_w14 {Z : State} {a0 : Array Value} (hw : ∀ d ∈ tables_1, d.before a0 Z = true) : (Jvm.Cond.fieldLink "com/example/don_valley/donvalley/broker/QueuedFrames" (15 : Nat) "com/example/don_valley/donvalley/broker/QueuedFrames" "times" "[J").before a0 Z = true := hw _ (List.mem_of_getElem? (i := 14) rfl)
theorem own_w15 {Z : State} {a0 : Array Value} (hw : ∀ d ∈ tables_1, d.before a0 Z = true) : (Jvm.Cond.lays "com/example/don_valley/donvalley/broker/QueuedFrames" "com/example/don_valley/donvalley/broker/QueuedFrames" "times" "[J").before a0 Z = true := hw _ (List.mem_of_getElem? (i := 15) rfl)
theorem own_w16 {Z : State} {a0 : Array Value} (hw : ∀ d ∈ tables_1, d.before a0 Z = true) : (Jvm.Cond.methodLink "com/example/don_valley/donvalley/broker/QueuedFramesRemoveFirstPinLaw" (10 : Nat) ({ cls := "com/example/don_valley/donvalley/broker/QueuedFrames", name := "add", desc := "(Ljava/nio/ByteBuffer;J)V" } : Jvm.MethodName)).before a0 Z = true := hw _ (List.mem_of_getElem? (i := 16) rfl)
theorem own_w17 {Z : State} {a0 : Array Value} (hw : ∀ d ∈ tables_1, d.before a0 Z = true) : (Jvm.Cond.declares ({ cls := "com/example/don_valley/donvalley/broker/QueuedFrames", name := "add", desc := "(Ljava/nio/ByteBuffer;J)V" } : Jvm.MethodName)).before a0 Z = true := hw _ (List.mem_of_getElem? (i := 17) rfl)
theorem own_w18 {Z : State} {a0 : Array Value} (hw : ∀ d ∈ tables_1, d.before a0 Z = true) : (Jvm.Cond.instanceMethod ({ cls := "com/example/don_valley/donvalley/broker/QueuedFrames", name := "add", desc := "(Ljava/nio/ByteBuffer;J)V" } : Jvm.MethodName)).before a0 Z = true := hw _ (List.mem_of_getElem? (i := 18) rfl)
theorem own_w19 {Z : State} {a0 : Array Value} (hw : ∀ d ∈ tables_1, d.before a0 Z = true) : (Jvm.Cond.selects "com/example/don_valley/donvalley/broker/QueuedFrames" ({ cls := "com/example/don_valley/donvalley/broker/QueuedFrames", name := "add", desc := "(Ljava/nio/ByteBuffer;J)V" } : Jvm.MethodName) ({ cls := "com/example/don_valley/donvalley/broker/QueuedFrames", name := "add", desc := "(Ljava/nio/ByteBuffer;J)V" } : Jvm.MethodName)).before a0 Z = true := hw _ (List.mem_of_getElem? (i := 19) rfl)
theorem own_w20 {Z : State} {a0 : Array Value} (hw : ∀ d ∈ tables_1, d.before a0 Z = true) : (Jvm.Cond.code ({ cls := "com/example/don_valley/donvalley/broker/QueuedFrames", name := "add", desc := "(Ljava/nio/ByteBuffer;J)V" } : Jvm.MethodName) prog_10_method_2_code (5 : Nat) (Option.none : Option Jvm.ClassFile.FieldType)).before a0 Z = true := hw _ (List.mem_of_getElem? (i := 20) rfl)
theorem own_w21 {Z : State} {a0 : Array Value} (hw : ∀ d ∈ tables_1, d.before a0 Z = true) : (Jvm.Cond.fieldLink "com/example/don_valley/donvalley/broker/QueuedFrames" (19 : Nat) "com/example/don_valley/donvalley/broker/QueuedFrames" "size" "I").before a0 Z = true := hw _ (List.mem_of_getElem? (i := 21) rfl)
theorem own_w22 {Z : State} {a0 : Array Value} (hw : ∀ d ∈ tables_1, d.before a0 Z = true) : (Jvm.Cond.lays "com/example/don_valley/donvalley/broker/QueuedFrames" "com/example/don_valley/donvalley/broker/QueuedFrames" "size" "I").before a0 Z = true := hw _ (List.mem_of_getElem? (i := 22) rfl)
theorem own_w23 {Z : State} {a0 : Array Value} (hw : ∀ d ∈ tables_1, d.before a0 Z = true) : (Jvm.Cond.fieldLink "com/example/don_valley/donvalley/broker/QueuedFrames" (26 : Nat) "com/example/don_valley/donvalley/broker/QueuedFrames" "first" "I").before a0 Z = true := hw _ (List.mem_of_getElem? (i := 23) rfl)
theorem own_w24 {Z : State} {a0 : Array Value} (hw : ∀ d ∈ tables_1, d.before a0 Z = true) : (Jvm.Cond.lays "com/example/don_valley/donvalley/broker/QueuedFrames" "com/example/don_valley/donvalley/broker/QueuedFrames" "first" "I").before a0 Z = true := hw _ (List.mem_of_getElem? (i := 24) rfl)
theorem own_w25 {Z : State} {a0 : Array Value} (hw : ∀ d ∈ tables_1, d.before a0 Z = true) : (Jvm.Cond.methodLink "com/example/don_valley/donvalley/broker/QueuedFramesRemoveFirstPinLaw" (14 : Nat) ({ cls := "com/example/don_valley/donvalley/broker/QueuedFrames", name := "removeFirst", desc := "()V" } : Jvm.MethodName)).before a0 Z = true := hw _ (List.mem_of_getElem? (i := 25) rfl)
theorem own_w26 {Z : State} {a0 : Array Value} (hw : ∀ d ∈ tables_1, d.before a0 Z = true) : (Jvm.Cond.declares ({ cls := "com/example/don_valley/donvalley/broker/QueuedFrames", name := "removeFirst", desc := "()V" } : Jvm.MethodName)).before a0 Z = true := hw _ (List.mem_of_getElem? (i := 26) rfl)
theorem own_w27 {Z : State} {a0 : Array Value} (hw : ∀ d ∈ tables_1, d.before a0 Z = true) : (Jvm.Cond.instanceMethod ({ cls := "com/example/don_valley/donvalley/broker/QueuedFrames", name := "removeFirst", desc := "()V" } : Jvm.MethodName)).before a0 Z = true := hw _ (List.mem_of_getElem? (i := 27) rfl)
theorem own_w28 {Z : State} {a0 : Array Value} (hw : ∀ d ∈ tables_1, d.before a0 Z = true) : (Jvm.Cond.selects "com/example/don_valley/donvalley/broker/QueuedFrames" ({ cls := "com/example/don_valley/donvalley/broker/QueuedFrames", name := "removeFirst", desc := "()V" } : Jvm.MethodName) ({ cls := "com/example/don_valley/donvalley/broker/QueuedFrames", name := "removeFirst", desc := "()V" } : Jvm.MethodName)).before a0 Z = true := hw _ (List.mem_of_getElem? (i := 28) rfl)
theorem own_w29 {Z : State} {a0 : Array Value} (hw : ∀ d ∈ tables_1, d.before a0 Z = true) : (Jvm.Cond.code ({ cls := "com/example/don_valley/donvalley/broker/QueuedFrames", name := "removeFirst", desc := "()V" } : Jvm.MethodName) prog_10_method_8_code (1 : Nat) (Option.none : Option Jvm.ClassFile.FieldType)).before a0 Z = true := hw _ (List.mem_of_getElem? (i := 29) rfl)
theorem own_w30 {Z : State} {a0 : Array Value} (hw : ∀ d ∈ tables_1, d.before a0 Z = true) : (Jvm.Cond.methodLink "com/example/don_valley/donvalley/broker/QueuedFramesRemoveFirstPinLaw" (17 : Nat) ({ cls := "com/example/don_valley/donvalley/broker/QueuedFrames", name := "size", desc := "()I" } : Jvm.MethodName)).before a0 Z = true := hw _ (List.mem_of_getElem? (i := 30) rfl)
theorem own_w31 {Z : State} {a0 : Array Value} (hw : ∀ d ∈ tables_1, d.before a0 Z = true) : (Jvm.Cond.declares ({ cls := "com/example/don_valley/donvalley/broker/QueuedFrames", name := "size", desc := "()I" } : Jvm.MethodName)).before a0 Z = true := hw _ (List.mem_of_getElem? (i := 31) rfl)
theorem own_w32 {Z : State} {a0 : Array Value} (hw : ∀ d ∈ tables_1, d.before a0 Z = true) : (Jvm.Cond.instanceMethod ({ cls := "com/example/don_valley/donvalley/broker/QueuedFrames", name := "size", desc := "()I" } : Jvm.MethodName)).before a0 Z = true := hw _ (List.mem_of_getElem? (i := 32) rfl)
theorem own_w33 {Z : State} {a0 : Array Value} (hw : ∀ d ∈ tables_1, d.before a0 Z = true) : (Jvm.Cond.selects "com/example/don_valley/donvalley/broker/QueuedFrames" ({ cls := "com/example/don_valley/donvalley/broker/QueuedFrames", name := "size", desc := "()I" } : Jvm.MethodName) ({ cls := "com/example/don_valley/donvalley/broker/QueuedFrames", name := "size", desc := "()I" } : Jvm.MethodName)).before a0 Z = true := hw _ (List.mem_of_getElem? (i := 33) rfl)
theorem own_w34 {Z : State} {a0 : Array Value} (hw : ∀ d ∈ tables_1, d.before a0 Z = true) : (Jvm.Cond.code ({ cls := "com/example/don_valley/donvalley/broker/QueuedFrames", name := "size", desc := "()I" } : Jvm.MethodName) prog_10_method_5_code (1 : Nat) (Option.some Jvm.ClassFile.FieldType.int)).before a0 Z = true := hw _ (List.mem_of_getElem? (i := 34) rfl)
theorem own_w35 {Z : State} {a0 : Array Value} (hw : ∀ d ∈ tables_1, d.before a0 Z = true) : (Jvm.Cond.methodLink "com/example/don_valley/donvalley/broker/QueuedFramesRemoveFirstPinLaw" (21 : Nat) ({ cls := "com/example/don_valley/donvalley/broker/QueuedFrames", name := "firstQueuedAt", desc := "()J" } : Jvm.MethodName)).before a0 Z = true := hw _ (List.mem_of_getElem? (i := 35) rfl)
theorem own_w36 {Z : State} {a0 : Array Value} (hw : ∀ d ∈ tables_1, d.before a0 Z = true) : (Jvm.Cond.declares ({ cls := "com/example/don_valley/donvalley/broker/QueuedFrames", name := "firstQueuedAt", desc := "()J" } : Jvm.MethodName)).before a0 Z = true := hw _ (List.mem_of_getElem? (i := 36) rfl)
theorem own_w37 {Z : State} {a0 : Array Value} (hw : ∀ d ∈ tables_1, d.before a0 Z = true) : (Jvm.Cond.instanceMethod ({ cls := "com/example/don_valley/donvalley/broker/QueuedFrames", name := "firstQueuedAt", desc := "()J" } : Jvm.MethodName)).before a0 Z = true := hw _ (List.mem_of_getElem? (i := 37) rfl)
theorem own_w38 {Z : State} {a0 : Array Value} (hw : ∀ d ∈ tables_1, d.before a0 Z = true) : (Jvm.Cond.selects "com/example/don_valley/donvalley/broker/QueuedFrames" ({ cls := "com/example/don_valley/donvalley/broker/QueuedFrames", name := "firstQueuedAt", desc := "()J" } : Jvm.MethodName) ({ cls := "com/example/don_valley/donvalley/broker/QueuedFrames", name := "firstQueuedAt", desc := "()J" } : Jvm.MethodName)).before a0 Z = true := hw _ (List.mem_of_getElem? (i := 38) rfl)
theorem own_w39 {Z : State} {a0 : Array Value} (hw : ∀ d ∈ tables_1, d.before a0 Z = true) : (Jvm.Cond.code ({ cls := "com/example/don_valley/donvalley/broker/QueuedFrames", name := "firstQueuedAt", desc := "()J" } : Jvm.MethodName) prog_10_method_7_code (1 : Nat) (Option.some Jvm.ClassFile.FieldType.long)).before a0 Z = true := hw _ (List.mem_of_getElem? (i := 39) rfl)
theorem own_w40 {Z : State} {a0 : Array Value} (hw : ∀ d ∈ tables_1, d.before a0 Z = true) : (Jvm.Cond.methodLink "com/example/don_valley/donvalley/broker/QueuedFrames" (23 : Nat) ({ cls := "com/example/don_valley/donvalley/broker/QueuedFrames", name := "grow", desc := "()V" } : Jvm.MethodName)).before a0 Z = true := hw _ (List.mem_of_getElem? (i := 40) rfl)
theorem own_w41 {Z : State} {a0 : Array Value} (hw : ∀ d ∈ tables_1, d.before a0 Z = true) : (Jvm.Cond.instanceMethod ({ cls := "com/example/don_valley/donvalley/broker/QueuedFrames", name := "grow", desc := "()V" } : Jvm.MethodName)).before a0 Z = true := hw _ (List.mem_of_getElem? (i := 41) rfl)
theorem own_w42 {Z : State} {a0 : Array Value} (hw : ∀ d ∈ tables_1, d.before a0 Z = true) : (Jvm.Cond.privateMethod ({ cls := "com/example/don_valley/donvalley/broker/QueuedFrames", name := "grow", desc := "()V" } : Jvm.MethodName)).before a0 Z = true := hw _ (List.mem_of_getElem? (i := 42) rfl)
theorem own_w43 {Z : State} {a0 : Array Value} (hw : ∀ d ∈ tables_1, d.before a0 Z = true) : (Jvm.Cond.code ({ cls := "com/example/don_valley/donvalley/broker/QueuedFrames", name := "grow", desc := "()V" } : Jvm.MethodName) prog_10_method_9_code (4 : Nat) (Option.none : Option Jvm.ClassFile.FieldType)).before a0 Z = true := hw _ (List.mem_of_getElem? (i := 43) rfl)
theorem own_w44 {Z : State} {a0 : Array Value} (hw : ∀ d ∈ tables_1, d.before a0 Z = true) : (Jvm.Cond.methodLink "com/example/don_valley/donvalley/broker/QueuedFrames" (33 : Nat) ({ cls := "com/example/don_valley/donvalley/broker/QueuedFrames", name := "get", desc := "(I)Ljava/nio/ByteBuffer;" } : Jvm.MethodName)).before a0 Z = true := hw _ (List.mem_of_getElem? (i := 44) rfl)
theorem own_w45 {Z : State} {a0 : Array Value} (hw : ∀ d ∈ tables_1, d.before a0 Z = true) : (Jvm.Cond.declares ({ cls := "com/example/don_valley/donvalley/broker/QueuedFrames", name := "get", desc := "(I)Ljava/nio/ByteBuffer;" } : Jvm.MethodName)).before a0 Z = true := hw _ (List.mem_of_getElem? (i := 45) rfl)
theorem own_w46 {Z : State} {a0 : Array Value} (hw : ∀ d ∈ tables_1, d.before a0 Z = true) : (Jvm.Cond.instanceMethod ({ cls := "com/example/don_valley/donvalley/broker/QueuedFrames", name := "get", desc := "(I)Ljava/nio/ByteBuffer;" } : Jvm.MethodName)).before a0 Z = true := hw _ (List.mem_of_getElem? (i := 46) rfl)
theorem own_w47 {Z : State} {a0 : Array Value} (hw : ∀ d ∈ tables_1, d.before a0 Z = true) : (Jvm.Cond.selects "com/example/don_valley/donvalley/broker/QueuedFrames" ({ cls := "com/example/don_valley/donvalley/broker/QueuedFrames", name := "get", desc := "(I)Ljava/nio/ByteBuffer;" } : Jvm.MethodName) ({ cls := "com/example/don_valley/donvalley/broker/QueuedFrames", name := "get", desc := "(I)Ljava/nio/ByteBuffer;" } : Jvm.MethodName)).before a0 Z = true := hw _ (List.mem_of_getElem? (i := 47) rfl)
theorem own_w48 {Z : State} {a0 : Array Value} (hw : ∀ d ∈ tables_1, d.before a0 Z = true) : (Jvm.Cond.code ({ cls := "com/example/don_valley/donvalley/broker/QueuedFrames", name := "get", desc := "(I)Ljava/nio/ByteBuffer;" } : Jvm.MethodName) prog_10_method_6_code (2 : Nat) (Option.some (Jvm.ClassFile.FieldType.object "java/nio/ByteBuffer"))).before a0 Z = true := hw _ (List.mem_of_getElem? (i := 48) rfl)
theorem own_d1_0 : decode prog_10_method_1_code 0 = .ok (.aload_n 0, 1) := by decide +kernel
theorem own_d1_1 : decode prog_10_method_1_code 1 = .ok (.invokespecial 1, 3) := by decide +kernel
theorem own_d1_4 : decode prog_10_method_1_code 4 = .ok (.aload_n 0, 1) := by decide +kernel
theorem own_d1_5 : decode prog_10_method_1_code 5 = .ok (.iconst 4, 1) := by decide +kernel
theorem own_d1_6 : decode prog_10_method_1_code 6 = .ok (.anewarray 7, 3) := by decide +kernel
theorem own_d1_9 : decode prog_10_method_1_code 9 = .ok (.putfield 9, 3) := by decide +kernel
theorem own_d1_12 : decode prog_10_method_1_code 12 = .ok (.aload_n 0, 1) := by decide +kernel
theorem own_d1_13 : decode prog_10_method_1_code 13 = .ok (.iconst 4, 1) := by decide +kernel
theorem own_d1_14 : decode prog_10_method_1_code 14 = .ok (.newarray .long, 2) := by decide +kernel
theorem own_d1_16 : decode prog_10_method_1_code 16 = .ok (.putfield 15, 3) := by decide +kernel
theorem own_d1_19 : decode prog_10_method_1_code 19 = .ok (.return_, 1) := by decide +kernel
theorem own_d3_0 : decode prog_10_method_2_code 0 = .ok (.aload_n 0, 1) := by decide +kernel
theorem own_d3_1 : decode prog_10_method_2_code 1 = .ok (.getfield 19, 3) := by decide +kernel
theorem own_d3_4 : decode prog_10_method_2_code 4 = .ok (.aload_n 0, 1) := by decide +kernel
theorem own_d3_5 : decode prog_10_method_2_code 5 = .ok (.getfield 9, 3) := by decide +kernel
theorem own_d3_8 : decode prog_10_method_2_code 8 = .ok (.arraylength, 1) := by decide +kernel
theorem own_d3_9 : decode prog_10_method_2_code 9 = .ok (.if_icmp .ne 7, 3) := by decide +kernel
theorem own_d3_12 : decode prog_10_method_2_code 12 = .ok (.aload_n 0, 1) := by decide +kernel
theorem own_d3_13 : decode prog_10_method_2_code 13 = .ok (.invokevirtual 23, 3) := by decide +kernel
theorem own_d3_16 : decode prog_10_method_2_code 16 = .ok (.aload_n 0, 1) := by decide +kernel
theorem own_d3_17 : decode prog_10_method_2_code 17 = .ok (.getfield 26, 3) := by decide +kernel
theorem own_d3_20 : decode prog_10_method_2_code 20 = .ok (.aload_n 0, 1) := by decide +kernel
theorem own_d3_21 : decode prog_10_method_2_code 21 = .ok (.dup, 1) := by decide +kernel
theorem own_d3_22 : decode prog_10_method_2_code 22 = .ok (.getfield 19, 3) := by decide +kernel
theorem own_d3_25 : decode prog_10_method_2_code 25 = .ok (.dup_x1, 1) := by decide +kernel
theorem own_d3_26 : decode prog_10_method_2_code 26 = .ok (.iconst 1, 1) := by decide +kernel
theorem own_d3_27 : decode prog_10_method_2_code 27 = .ok (.iadd, 1) := by decide +kernel
theorem own_d3_28 : decode prog_10_method_2_code 28 = .ok (.putfield 19, 3) := by decide +kernel
theorem own_d3_31 : decode prog_10_method_2_code 31 = .ok (.iadd, 1) := by decide +kernel
theorem own_d3_32 : decode prog_10_method_2_code 32 = .ok (.aload_n 0, 1) := by decide +kernel
theorem own_d3_33 : decode prog_10_method_2_code 33 = .ok (.getfield 9, 3) := by decide +kernel
theorem own_d3_36 : decode prog_10_method_2_code 36 = .ok (.arraylength, 1) := by decide +kernel
theorem own_d3_37 : decode prog_10_method_2_code 37 = .ok (.irem, 1) := by decide +kernel
theorem own_d3_38 : decode prog_10_method_2_code 38 = .ok (.istore 4, 2) := by decide +kernel
theorem own_d3_40 : decode prog_10_method_2_code 40 = .ok (.aload_n 0, 1) := by decide +kernel
theorem own_d3_41 : decode prog_10_method_2_code 41 = .ok (.getfield 9, 3) := by decide +kernel
theorem own_d3_44 : decode prog_10_method_2_code 44 = .ok (.iload 4, 2) := by decide +kernel
theorem own_d3_46 : decode prog_10_method_2_code 46 = .ok (.aload_n 1, 1) := by decide +kernel
theorem own_d3_47 : decode prog_10_method_2_code 47 = .ok (.aastore, 1) := by decide +kernel
theorem own_d3_48 : decode prog_10_method_2_code 48 = .ok (.aload_n 0, 1) := by decide +kernel
theorem own_d3_49 : decode prog_10_method_2_code 49 = .ok (.getfield 15, 3) := by decide +kernel
theorem own_d3_52 : decode prog_10_method_2_code 52 = .ok (.iload 4, 2) := by decide +kernel
theorem own_d3_54 : decode prog_10_method_2_code 54 = .ok (.lload_n 2, 1) := by decide +kernel
theorem own_d3_55 : decode prog_10_method_2_code 55 = .ok (.lastore, 1) := by decide +kernel
theorem own_d3_56 : decode prog_10_method_2_code 56 = .ok (.return_, 1) := by decide +kernel
theorem own_d4_0 : decode prog_10_method_8_code 0 = .ok (.aload_n 0, 1) := by decide +kernel
theorem own_d4_1 : decode prog_10_method_8_code 1 = .ok (.getfield 9, 3) := by decide +kernel
theorem own_d4_4 : decode prog_10_method_8_code 4 = .ok (.aload_n 0, 1) := by decide +kernel
theorem own_d4_5 : decode prog_10_method_8_code 5 = .ok (.getfield 26, 3) := by decide +kernel
theorem own_d4_8 : decode prog_10_method_8_code 8 = .ok (.aconst_null, 1) := by decide +kernel
theorem own_d4_9 : decode prog_10_method_8_code 9 = .ok (.aastore, 1) := by decide +kernel
theorem own_d4_10 : decode prog_10_method_8_code 10 = .ok (.aload_n 0, 1) := by decide +kernel
theorem own_d4_11 : decode prog_10_method_8_code 11 = .ok (.aload_n 0, 1) := by decide +kernel
theorem own_d4_12 : decode prog_10_method_8_code 12 = .ok (.getfield 26, 3) := by decide +kernel
theorem own_d4_15 : decode prog_10_method_8_code 15 = .ok (.iconst 1, 1) := by decide +kernel
theorem own_d4_16 : decode prog_10_method_8_code 16 = .ok (.iadd, 1) := by decide +kernel
theorem own_d4_17 : decode prog_10_method_8_code 17 = .ok (.aload_n 0, 1) := by decide +kernel
theorem own_d4_18 : decode prog_10_method_8_code 18 = .ok (.getfield 9, 3) := by decide +kernel
theorem own_d4_21 : decode prog_10_method_8_code 21 = .ok (.arraylength, 1) := by decide +kernel
theorem own_d4_22 : decode prog_10_method_8_code 22 = .ok (.irem, 1) := by decide +kernel
theorem own_d4_23 : decode prog_10_method_8_code 23 = .ok (.putfield 26, 3) := by decide +kernel
theorem own_d4_26 : decode prog_10_method_8_code 26 = .ok (.aload_n 0, 1) := by decide +kernel
theorem own_d4_27 : decode prog_10_method_8_code 27 = .ok (.dup, 1) := by decide +kernel
theorem own_d4_28 : decode prog_10_method_8_code 28 = .ok (.getfield 19, 3) := by decide +kernel
theorem own_d4_31 : decode prog_10_method_8_code 31 = .ok (.iconst 1, 1) := by decide +kernel
theorem own_d4_32 : decode prog_10_method_8_code 32 = .ok (.isub, 1) := by decide +kernel
theorem own_d4_33 : decode prog_10_method_8_code 33 = .ok (.putfield 19, 3) := by decide +kernel
theorem own_d4_36 : decode prog_10_method_8_code 36 = .ok (.return_, 1) := by decide +kernel
theorem own_d5_0 : decode prog_10_method_5_code 0 = .ok (.aload_n 0, 1) := by decide +kernel
theorem own_d5_1 : decode prog_10_method_5_code 1 = .ok (.getfield 19, 3) := by decide +kernel
theorem own_d5_4 : decode prog_10_method_5_code 4 = .ok (.ireturn, 1) := by decide +kernel
theorem own_d6_0 : decode prog_10_method_7_code 0 = .ok (.aload_n 0, 1) := by decide +kernel
theorem own_d6_1 : decode prog_10_method_7_code 1 = .ok (.getfield 15, 3) := by decide +kernel
theorem own_d6_4 : decode prog_10_method_7_code 4 = .ok (.aload_n 0, 1) := by decide +kernel
theorem own_d6_5 : decode prog_10_method_7_code 5 = .ok (.getfield 26, 3) := by decide +kernel
theorem own_d6_8 : decode prog_10_method_7_code 8 = .ok (.laload, 1) := by decide +kernel
theorem own_d6_9 : decode prog_10_method_7_code 9 = .ok (.lreturn, 1) := by decide +kernel
theorem own_d7_0 : decode prog_10_method_9_code 0 = .ok (.iconst 2, 1) := by decide +kernel
theorem own_d7_1 : decode prog_10_method_9_code 1 = .ok (.aload_n 0, 1) := by decide +kernel
theorem own_d7_2 : decode prog_10_method_9_code 2 = .ok (.getfield 9, 3) := by decide +kernel
theorem own_d7_5 : decode prog_10_method_9_code 5 = .ok (.arraylength, 1) := by decide +kernel
theorem own_d7_6 : decode prog_10_method_9_code 6 = .ok (.imul, 1) := by decide +kernel
theorem own_d7_7 : decode prog_10_method_9_code 7 = .ok (.anewarray 7, 3) := by decide +kernel
theorem own_d7_10 : decode prog_10_method_9_code 10 = .ok (.astore_n 1, 1) := by decide +kernel
theorem own_d7_11 : decode prog_10_method_9_code 11 = .ok (.iconst 2, 1) := by decide +kernel
theorem own_d7_12 : decode prog_10_method_9_code 12 = .ok (.aload_n 0, 1) := by decide +kernel
theorem own_d7_13 : decode prog_10_method_9_code 13 = .ok (.getfield 9, 3) := by decide +kernel
theorem own_d7_16 : decode prog_10_method_9_code 16 = .ok (.arraylength, 1) := by decide +kernel
theorem own_d7_17 : decode prog_10_method_9_code 17 = .ok (.imul, 1) := by decide +kernel
theorem own_d7_18 : decode prog_10_method_9_code 18 = .ok (.newarray .long, 2) := by decide +kernel
theorem own_d7_20 : decode prog_10_method_9_code 20 = .ok (.astore_n 2, 1) := by decide +kernel
theorem own_d7_21 : decode prog_10_method_9_code 21 = .ok (.iconst 0, 1) := by decide +kernel
theorem own_d7_22 : decode prog_10_method_9_code 22 = .ok (.istore_n 3, 1) := by decide +kernel
theorem own_d7_23 : decode prog_10_method_9_code 23 = .ok (.iload_n 3, 1) := by decide +kernel
theorem own_d7_24 : decode prog_10_method_9_code 24 = .ok (.aload_n 0, 1) := by decide +kernel
theorem own_d7_25 : decode prog_10_method_9_code 25 = .ok (.getfield 19, 3) := by decide +kernel
theorem own_d7_28 : decode prog_10_method_9_code 28 = .ok (.if_icmp .ge 37, 3) := by decide +kernel
theorem own_d7_31 : decode prog_10_method_9_code 31 = .ok (.aload_n 1, 1) := by decide +kernel
theorem own_d7_32 : decode prog_10_method_9_code 32 = .ok (.iload_n 3, 1) := by decide +kernel
theorem own_d7_33 : decode prog_10_method_9_code 33 = .ok (.aload_n 0, 1) := by decide +kernel
theorem own_d7_34 : decode prog_10_method_9_code 34 = .ok (.iload_n 3, 1) := by decide +kernel
theorem own_d7_35 : decode prog_10_method_9_code 35 = .ok (.invokevirtual 33, 3) := by decide +kernel
theorem own_d7_38 : decode prog_10_method_9_code 38 = .ok (.aastore, 1) := by decide +kernel
theorem own_d7_39 : decode prog_10_method_9_code 39 = .ok (.aload_n 2, 1) := by decide +kernel
theorem own_d7_40 : decode prog_10_method_9_code 40 = .ok (.iload_n 3, 1) := by decide +kernel
theorem own_d7_41 : decode prog_10_method_9_code 41 = .ok (.aload_n 0, 1) := by decide +kernel
theorem own_d7_42 : decode prog_10_method_9_code 42 = .ok (.getfield 15, 3) := by decide +kernel
theorem own_d7_45 : decode prog_10_method_9_code 45 = .ok (.aload_n 0, 1) := by decide +kernel
theorem own_d7_46 : decode prog_10_method_9_code 46 = .ok (.getfield 26, 3) := by decide +kernel
theorem own_d7_49 : decode prog_10_method_9_code 49 = .ok (.iload_n 3, 1) := by decide +kernel
theorem own_d7_50 : decode prog_10_method_9_code 50 = .ok (.iadd, 1) := by decide +kernel
theorem own_d7_51 : decode prog_10_method_9_code 51 = .ok (.aload_n 0, 1) := by decide +kernel
theorem own_d7_52 : decode prog_10_method_9_code 52 = .ok (.getfield 9, 3) := by decide +kernel
theorem own_d7_55 : decode prog_10_method_9_code 55 = .ok (.arraylength, 1) := by decide +kernel
theorem own_d7_56 : decode prog_10_method_9_code 56 = .ok (.irem, 1) := by decide +kernel
theorem own_d7_57 : decode prog_10_method_9_code 57 = .ok (.laload, 1) := by decide +kernel
theorem own_d7_58 : decode prog_10_method_9_code 58 = .ok (.lastore, 1) := by decide +kernel
theorem own_d7_59 : decode prog_10_method_9_code 59 = .ok (.iinc 3 1, 3) := by decide +kernel
theorem own_d7_62 : decode prog_10_method_9_code 62 = .ok (.goto (-39), 3) := by decide +kernel
theorem own_d7_65 : decode prog_10_method_9_code 65 = .ok (.aload_n 0, 1) := by decide +kernel
theorem own_d7_66 : decode prog_10_method_9_code 66 = .ok (.aload_n 1, 1) := by decide +kernel
theorem own_d7_67 : decode prog_10_method_9_code 67 = .ok (.putfield 9, 3) := by decide +kernel
theorem own_d7_70 : decode prog_10_method_9_code 70 = .ok (.aload_n 0, 1) := by decide +kernel
theorem own_d7_71 : decode prog_10_method_9_code 71 = .ok (.aload_n 2, 1) := by decide +kernel
theorem own_d7_72 : decode prog_10_method_9_code 72 = .ok (.putfield 15, 3) := by decide +kernel
theorem own_d7_75 : decode prog_10_method_9_code 75 = .ok (.aload_n 0, 1) := by decide +kernel
theorem own_d7_76 : decode prog_10_method_9_code 76 = .ok (.iconst 0, 1) := by decide +kernel
theorem own_d7_77 : decode prog_10_method_9_code 77 = .ok (.putfield 26, 3) := by decide +kernel
theorem own_d7_80 : decode prog_10_method_9_code 80 = .ok (.return_, 1) := by decide +kernel
theorem own_d8_0 : decode prog_10_method_6_code 0 = .ok (.aload_n 0, 1) := by decide +kernel
theorem own_d8_1 : decode prog_10_method_6_code 1 = .ok (.getfield 9, 3) := by decide +kernel
theorem own_d8_4 : decode prog_10_method_6_code 4 = .ok (.aload_n 0, 1) := by decide +kernel
theorem own_d8_5 : decode prog_10_method_6_code 5 = .ok (.getfield 26, 3) := by decide +kernel
theorem own_d8_8 : decode prog_10_method_6_code 8 = .ok (.iload_n 1, 1) := by decide +kernel
theorem own_d8_9 : decode prog_10_method_6_code 9 = .ok (.iadd, 1) := by decide +kernel
theorem own_d8_10 : decode prog_10_method_6_code 10 = .ok (.aload_n 0, 1) := by decide +kernel
theorem own_d8_11 : decode prog_10_method_6_code 11 = .ok (.getfield 9, 3) := by decide +kernel
theorem own_d8_14 : decode prog_10_method_6_code 14 = .ok (.arraylength, 1) := by decide +kernel
theorem own_d8_15 : decode prog_10_method_6_code 15 = .ok (.irem, 1) := by decide +kernel
theorem own_d8_16 : decode prog_10_method_6_code 16 = .ok (.aaload, 1) := by decide +kernel
theorem own_d8_17 : decode prog_10_method_6_code 17 = .ok (.areturn, 1) := by decide +kernel
theorem own_pn0 : plainName "com/example/don_valley/donvalley/broker/QueuedFrames" = true := by first | (simp [plainName, overriddenIn]; done) | decide +kernel
theorem own_pn1 : plainName "com/example/don_valley/donvalley/broker/QueuedFramesRemoveFirstPinLaw" = true := by first | (simp [plainName, overriddenIn]; done) | decide +kernel
theorem own_pd0 : parseMethodDescriptor "(I)Ljava/nio/ByteBuffer;" = some ⟨[.int], some (.object "java/nio/ByteBuffer")⟩ := by decide +kernel
theorem own_pd1 : parseMethodDescriptor "()V" = some ⟨[], none⟩ := by decide +kernel
theorem own_pd2 : parseMethodDescriptor "(Ljava/nio/ByteBuffer;J)V" = some ⟨[(.object "java/nio/ByteBuffer"), .long], none⟩ := by decide +kernel
theorem own_pd3 : parseMethodDescriptor "()I" = some ⟨[], some .int⟩ := by decide +kernel
theorem own_pd4 : parseMethodDescriptor "()J" = some ⟨[], some .long⟩ := by decide +kernel
theorem own_lt {a b : Int32} {k : Int} (hb : b.toInt = k) : a < b ↔ a.toInt < k := by rw [Int32.lt_iff_toInt_lt, hb]
theorem own_gt {a b : Int32} {k : Int} (ha : a.toInt = k) : a < b ↔ k < b.toInt := by rw [Int32.lt_iff_toInt_lt, ha]
theorem own_eq {a b : Int32} {k : Int} (hb : b.toInt = k) : a = b ↔ a.toInt = k := by rw [← Int32.toInt_inj, hb]
theorem own_lt_of {a b : Int32} {k : Int} (hb : b.toInt = k) (h : a.toInt < k) : a < b := (own_lt hb).mpr h
theorem own_nlt_of {a b : Int32} {k : Int} (hb : b.toInt = k) (h : k ≤ a.toInt) : ¬ a < b := fun q => by have := (own_lt hb).mp q; omega
theorem own_gt_of {a b : Int32} {k : Int} (ha : a.toInt = k) (h : k < b.toInt) : a < b := (own_gt ha).mpr h
theorem own_ngt_of {a b : Int32} {k : Int} (ha : a.toInt = k) (h : b.toInt ≤ k) : ¬ a < b := fun q => by have := (own_gt ha).mp q; omega
theorem own_eq_of {a b : Int32} {k : Int} (hb : b.toInt = k) (h : a.toInt = k) : a = b := (own_eq hb).mpr h
theorem own_ne_of {a b : Int32} {k : Int} (hb : b.toInt = k) (h : a.toInt ≠ k) : ¬ a = b := fun q => h ((own_eq hb).mp q)
theorem own_selp {Z : State} {a0 : Array Value} {y : MethodName} {n : Nat} (hins : (Jvm.Cond.instantiable y.cls n).before a0 Z = true) (hpriv : (Jvm.Cond.privateMethod y).before a0 Z = true) (hinst : (Jvm.Cond.instanceMethod y).before a0 Z = true) (hy : y.cls ≠ "java/lang/invoke/MethodHandle" ∧ y.cls ≠ "java/lang/invoke/VarHandle") : (Jvm.Cond.selects y.cls y y).before a0 Z = true := by
  obtain ⟨c, k, hc, hk, -, hniab, -, -⟩ := Cond.instantiable_spec hins
  exact selects_self_of_private hc hk (Bool.or_eq_false_iff.mp hniab).1 (Cond.privateMethod_at hpriv) hinst hy
def own_St (Z : State) (n0 : Nat) (h : Heap) (a1 fr ti : Addr) (kf kt : ClassId) (cap : Int32) (ns ts : List Value) (size first : Int32) : Prop :=
  n0 ≤ h.size ∧ n0 ≤ fr ∧ n0 ≤ ti ∧ Exa Z h a1 "com/example/don_valley/donvalley/broker/QueuedFrames" ∧ Fld Z h a1 "com/example/don_valley/donvalley/broker/QueuedFrames" "frames" "[Ljava/nio/ByteBuffer;" (.ref fr) ∧ Fld Z h a1 "com/example/don_valley/donvalley/broker/QueuedFrames" "times" "[J" (.ref ti) ∧ Fld Z h a1 "com/example/don_valley/donvalley/broker/QueuedFrames" "size" "I" (.int size) ∧ Fld Z h a1 "com/example/don_valley/donvalley/broker/QueuedFrames" "first" "I" (.int first) ∧
  Arv Z h fr kf (.object "java/nio/ByteBuffer") cap ns .null ∧ Arv Z h ti kt .long cap ts (.long (0 : Int64)) ∧ a1 ≠ fr ∧ a1 ≠ ti ∧ fr ≠ ti
theorem own_and3 (p : Int32) : (p &&& (3 : Int32)) = (0 : Int32) ∨ (p &&& (3 : Int32)) = (1 : Int32) ∨ (p &&& (3 : Int32)) = (2 : Int32) ∨ (p &&& (3 : Int32)) = (3 : Int32) := by
  have h1 := c_and p 3 (by decide)
  have h2 : (3 : Int32).toInt = 3 := rfl
  generalize p &&& (3 : Int32) = z at h1 ⊢
  rw [own_eq (b := 0) (k := 0) rfl, own_eq (b := 1) (k := 1) rfl, own_eq (b := 2) (k := 2) rfl, own_eq (b := 3) (k := 3) rfl]
  omega
def Qown_init (Z : State) (a1 : Addr) (h0 : Heap) (n0 : Nat) (v : Option Value) (h : Heap) (L : List Loc) : Prop := v = none ∧ Fr n0 L ∧ ∃ (fr ti : Addr) (kf kt : ClassId), own_St Z n0 h a1 fr ti kf kt (4 : Int32) [.null, .null, .null, .null] [(.long (0 : Int64)), (.long (0 : Int64)), (.long (0 : Int64)), (.long (0 : Int64))] (0 : Int32) (0 : Int32)
set_option maxRecDepth 65536 in
set_option maxHeartbeats 40000000 in
theorem own_init (l : Launch) (Z : State) (a0 : Array Value) (hw : ∀ d ∈ tables_1, d.before a0 Z = true) (ws : List Jvm.Cond) (a1 : Addr) (h0 : Heap) (n0 : Nat) (Z0 : n0 ≤ h0.size) (g1 : n0 ≤ a1) (E1 : Exa Z h0 a1 "com/example/don_valley/donvalley/broker/QueuedFrames") (F0 : Fld Z h0 a1 "com/example/don_valley/donvalley/broker/QueuedFrames" "frames" "[Ljava/nio/ByteBuffer;" .null) (F1 : Fld Z h0 a1 "com/example/don_valley/donvalley/broker/QueuedFrames" "times" "[J" .null) (F2 : Fld Z h0 a1 "com/example/don_valley/donvalley/broker/QueuedFrames" "size" "I" (.int (0 : Int32))) (F3 : Fld Z h0 a1 "com/example/don_valley/donvalley/broker/QueuedFrames" "first" "I" (.int (0 : Int32))) :
    MetFree l own_m0 (head1 (Jvm.Cond.code own_m0 prog_10_method_1_code 1 none :: ws) ({ frames := 1, cells := 2, slots := 8, locals := 12 } : Room)) (fun a U => a = #[(.ref a1)] ∧ Z.Warmed39 U.vm ∧ U.heap = h0) (fun _ _ _ _ _ => True) (fun _ U o U' => ∃ v L, o = .returned v ∧ Qown_init Z a1 h0 n0 v U'.heap L ∧ FrameEnd U o U' L ({ frames := 1, cells := 2, slots := 8, locals := 12 } : Room).cells ({ frames := 1, cells := 2, slots := 8, locals := 12 } : Room).slots) := by
  refine MetFree.of_bodySF (plainFor_of_name own_pn0) hisR ?_
  intro p e s m args below meth c s₁ Bd hml0 hP hK
  obtain ⟨rfl, hZ, hh⟩ := hP
  have hx := Bd.exec
  have hby := Bd.bytes
  have hml : c.maxLocals = 1 := hml0
  have hown : s.vm.findClass "com/example/don_valley/donvalley/broker/QueuedFrames" = some m.cls := by have q := findClass_of_methodNamed Bd.named; exact q
  have hnm := (name_of_methodNamed Bd.named Bd.method).1
  have X0 : Stand p l e ({ frames := 1, cells := 2, slots := 8, locals := 12 } : Room) s m #[(.ref a1)] below meth c s₁ [] 0 0 := Stand.of_body Bd
  have e0 : s₁.heap = h0 := by rw [← hh, Bd.state]; rfl
  have N0 := Fr.nil n0
  have pre0 : ∀ t, Steps p.tables e below (s₁.setTop (mkF m 0 #[.val (.ref a1)] [])) t → Steps p.tables e below (s₁.setTop (entryFrame m #[(.ref a1)] 1)) t := fun t k => castTop (by first | (simp [entryFrame, mkF, argsToLocals, Value.category, maxLocals]; done) | rfl) k
  obtain ⟨T101, X101, e101, st101⟩ := initO X0 hx hZ hown (own_w6 hw) (own_w7 hw) (own_w8 hw) e0 (g := (mkF m 1 #[.val (.ref a1)] [(.ref a1)])) rfl (by rw [hml]; rfl) rfl (hb hby own_d1_1) (by decide) (W := 0) (by show 2 * 0 + _ ≤ _; exact Nat.le_of_eq rfl) (by decide)
  obtain ⟨T102, h102, k102, X102, e102, E102, A102, O102, st102⟩ := newR X101 hx hZ hown (own_w9 hw) (own_w10 hw) e101 (g := (mkF m 6 #[.val (.ref a1)] [(.int (4 : Int32)), (.ref a1)])) rfl (hb hby own_d1_6) rfl (by decide) (cap := 4) (by decide) (by decide) (by decide) (by decide)
  obtain ⟨b102, g102⟩ : ∃ z, z = h0.size := ⟨_, rfl⟩
  rw [← g102] at A102 st102
  have ne_a1_b102 : a1 ≠ b102 := Nat.ne_of_lt (Nat.lt_of_lt_of_le E1.lt (Nat.le_of_eq g102.symm))
  have g_b102 : n0 ≤ b102 := Nat.le_trans Z0 (Nat.le_of_eq g102.symm)
  have Z102 : n0 ≤ h102.size := Nat.le_trans Z0 E102.1
  have V102 : Arv Z h102 b102 k102 (.object "java/nio/ByteBuffer") (4 : Int32) [.null, .null, .null, .null] .null := (Arv.new A102 (by decide)).pad (pad_rep [] .null 4)
  have c103 := (E1.ext E102)
  have c104 := (F0.ext E102)
  obtain ⟨T105, h105, X105, e105, W105, st105⟩ := putF X102 hx hZ hown (host := "") (Or.inl (own_w11 hw)) Via.refl e102 c104 c103 (Or.inl (own_w12 hw)) (own_w1 hw) (ty := (.array (.object "java/nio/ByteBuffer"))) (by decide) rfl rfl (g := (mkF m 9 #[.val (.ref a1)] [(.ref b102), (.ref a1)])) rfl rfl (hb hby own_d1_9)
  have Z105 : n0 ≤ h105.size := Nat.le_trans Z102 (Nat.le_of_eq W105.size.symm)
  have N105 := Fr.snoc X105 N0 g1
  have Fw105 := c104.same W105
  obtain ⟨T106, h106, k106, X106, e106, E106, A106, st106⟩ := newP (aty := .long) X105 hx hZ (own_w13 hw) e105 (g := (mkF m 14 #[.val (.ref a1)] [(.int (4 : Int32)), (.ref a1)])) rfl (hb hby own_d1_14) rfl (by decide) (cap := 4) (by decide) (by decide) (by decide) (by decide)
  obtain ⟨b106, g106⟩ : ∃ z, z = h105.size := ⟨_, rfl⟩
  rw [← g106] at A106 st106
  have c107 := (c103.wr W105)
  have ne_a1_b106 : a1 ≠ b106 := Nat.ne_of_lt (Nat.lt_of_lt_of_le c107.lt (Nat.le_of_eq g106.symm))
  have c108 := (V102.other W105 (Ne.symm ne_a1_b102))
  have ne_b102_b106 : b102 ≠ b106 := Nat.ne_of_lt (Nat.lt_of_lt_of_le c108.lt (Nat.le_of_eq g106.symm))
  have g_b106 : n0 ≤ b106 := Nat.le_trans Z105 (Nat.le_of_eq g106.symm)
  have Z106 : n0 ≤ h106.size := Nat.le_trans Z105 E106.1
  have V106 : Arv Z h106 b106 k106 .long (4 : Int32) [(.long (0 : Int64)), (.long (0 : Int64)), (.long (0 : Int64)), (.long (0 : Int64))] (.long (0 : Int64)) := (Arv.new A106 (by decide)).pad (pad_rep [] (.long (0 : Int64)) 4)
  have c109 := (c107.ext E106)
  have c110 := (((F1.ext E102).other W105 (Or.inr (slot_ne (Or.inl (own_w15 hw)) (Or.inl (own_w12 hw)) (by decide) (t := (.array .long)) (t' := (.array (.object "java/nio/ByteBuffer"))) (by decide) (by decide)))).ext E106)
  obtain ⟨T111, h111, X111, e111, W111, st111⟩ := putF X106 hx hZ hown (host := "") (Or.inl (own_w14 hw)) Via.refl e106 c110 c109 (Or.inl (own_w15 hw)) (own_w1 hw) (ty := (.array .long)) (by decide) rfl rfl (g := (mkF m 16 #[.val (.ref a1)] [(.ref b106), (.ref a1)])) rfl rfl (hb hby own_d1_16)
  have Z111 : n0 ≤ h111.size := Nat.le_trans Z106 (Nat.le_of_eq W111.size.symm)
  have N111 := Fr.snoc X111 N105 g1
  have Fw111 := c110.same W111
  have c112 := (c109.wr W111)
  have c113 := ((Fw105.ext E106).other W111 (Or.inr (slot_ne (Or.inl (own_w12 hw)) (Or.inl (own_w15 hw)) (by decide) (t := (.array (.object "java/nio/ByteBuffer"))) (t' := (.array .long)) (by decide) (by decide))))
  have c114 := ((((F2.ext E102).other W105 (Or.inr (slot_ne (Or.inl (own_w22 hw)) (Or.inl (own_w12 hw)) (by decide) (t := .int) (t' := (.array (.object "java/nio/ByteBuffer"))) (by decide) (by decide)))).ext E106).other W111 (Or.inr (slot_ne (Or.inl (own_w22 hw)) (Or.inl (own_w15 hw)) (by decide) (t := .int) (t' := (.array .long)) (by decide) (by decide))))
  have c115 := ((((F3.ext E102).other W105 (Or.inr (slot_ne (Or.inl (own_w24 hw)) (Or.inl (own_w12 hw)) (by decide) (t := .int) (t' := (.array (.object "java/nio/ByteBuffer"))) (by decide) (by decide)))).ext E106).other W111 (Or.inr (slot_ne (Or.inl (own_w24 hw)) (Or.inl (own_w15 hw)) (by decide) (t := .int) (t' := (.array .long)) (by decide) (by decide))))
  have c116 := ((c108.ext E106).other W111 (Ne.symm ne_a1_b102))
  have c117 := (V106.other W111 (Ne.symm ne_a1_b106))
  obtain ⟨fs, hr, hrun, hended, hW, hsame⟩ := X111.leave (v := none) (fun _ => rfl)
  refine ⟨_, _, pre0 _ ?_, hrun, hended, _, _, rfl, ?_, ⟨_, rfl⟩, hW, hsame.mono (by decide) (by decide)⟩
  · show Steps _ _ _ (s₁.setTop (mkF m 0 #[.val (.ref a1)] [])) _
    refine XS.aloadN X0.here hx rfl (hb hby own_d1_0) rfl rfl ?_
    refine st101 _ ?_
    refine XS.aloadN X101.here hx rfl (hb hby own_d1_4) rfl rfl ?_
    refine XS.iconst X101.here hx rfl (hb hby own_d1_5) ?_
    show Steps _ _ _ (T101.setTop (mkF m 6 #[.val (.ref a1)] [(.int (4 : Int32)), (.ref a1)])) _
    refine st102 _ ?_
    refine st105 _ ?_
    refine XS.aloadN X105.here hx rfl (hb hby own_d1_12) rfl rfl ?_
    refine XS.iconst X105.here hx rfl (hb hby own_d1_13) ?_
    show Steps _ _ _ (T105.setTop (mkF m 14 #[.val (.ref a1)] [(.int (4 : Int32)), (.ref a1)])) _
    refine st106 _ ?_
    refine st111 _ ?_
    show Steps _ _ _ (T111.setTop (mkF m 19 #[.val (.ref a1)] [])) _
    exact X111.returnOut hx Bd.returns (hb hby own_d1_19) hr
  · show Qown_init Z a1 h0 n0 _ T111.heap _
    rw [e111]
    exact ⟨rfl, N111, b102, b106, k102, k106, ⟨Z111, g_b102, g_b106, c112, c113, Fw111, c114, c115, c116, c117, ne_a1_b102, ne_a1_b106, ne_b102_b106⟩⟩
def Qown_get0 (Z : State) (a1 fr : Addr) (kf : ClassId) (h0 : Heap) (n0 : Nat) (v : Option Value) (h : Heap) (L : List Loc) : Prop := v = some .null ∧ Fr n0 L ∧ h = h0
set_option maxRecDepth 65536 in
set_option maxHeartbeats 40000000 in
theorem own_get0 (l : Launch) (Z : State) (a0 : Array Value) (hw : ∀ d ∈ tables_1, d.before a0 Z = true) (ws : List Jvm.Cond) (a1 fr : Addr) (kf : ClassId) (h0 : Heap) (n0 : Nat) (Z0 : n0 ≤ h0.size) (Ff : Fld Z h0 a1 "com/example/don_valley/donvalley/broker/QueuedFrames" "frames" "[Ljava/nio/ByteBuffer;" (.ref fr)) (F1 : Fld Z h0 a1 "com/example/don_valley/donvalley/broker/QueuedFrames" "first" "I" (.int (0 : Int32))) (Vf : Arv Z h0 fr kf (.object "java/nio/ByteBuffer") (4 : Int32) [.null, .null, .null, .null] .null) :
    MetFree l own_m1 (head1 (Jvm.Cond.code own_m1 prog_10_method_6_code 2 (some (.object "java/nio/ByteBuffer")) :: ws) ({ frames := 0, cells := 0, slots := 0, locals := 0 } : Room)) (fun a U => a = #[(.ref a1), (.int (0 : Int32))] ∧ Z.Warmed39 U.vm ∧ U.heap = h0) (fun _ _ _ _ _ => True) (fun _ U o U' => ∃ v L, o = .returned v ∧ Qown_get0 Z a1 fr kf h0 n0 v U'.heap L ∧ FrameEnd U o U' L ({ frames := 0, cells := 0, slots := 0, locals := 0 } : Room).cells ({ frames := 0, cells := 0, slots := 0, locals := 0 } : Room).slots) := by
  refine MetFree.of_bodySF (plainFor_of_name own_pn0) hisR ?_
  intro p e s m args below meth c s₁ Bd hml0 hP hK
  obtain ⟨rfl, hZ, hh⟩ := hP
  have hx := Bd.exec
  have hby := Bd.bytes
  have hml : c.maxLocals = 2 := hml0
  have hown : s.vm.findClass "com/example/don_valley/donvalley/broker/QueuedFrames" = some m.cls := by have q := findClass_of_methodNamed Bd.named; exact q
  have hnm := (name_of_methodNamed Bd.named Bd.method).1
  have X0 : Stand p l e ({ frames := 0, cells := 0, slots := 0, locals := 0 } : Room) s m #[(.ref a1), (.int (0 : Int32))] below meth c s₁ [] 0 0 := Stand.of_body Bd
  have e0 : s₁.heap = h0 := by rw [← hh, Bd.state]; rfl
  have N0 := Fr.nil n0
  have pre0 : ∀ t, Steps p.tables e below (s₁.setTop (mkF m 0 #[.val (.ref a1), .val (.int (0 : Int32))] [])) t → Steps p.tables e below (s₁.setTop (entryFrame m #[(.ref a1), (.int (0 : Int32))] 2)) t := fun t k => castTop (by first | (simp [entryFrame, mkF, argsToLocals, Value.category, maxLocals]; done) | rfl) k
  obtain ⟨T101, X101, e101, st101⟩ := getF X0 hx hZ hown (host := "") (Or.inl (own_w11 hw)) Via.refl e0 Ff (g := (mkF m 1 #[.val (.ref a1), .val (.int (0 : Int32))] [(.ref a1)])) rfl rfl (hb hby own_d8_1)
  obtain ⟨T102, X102, e102, st102⟩ := getF X101 hx hZ hown (host := "") (Or.inl (own_w23 hw)) Via.refl e101 F1 (g := (mkF m 5 #[.val (.ref a1), .val (.int (0 : Int32))] [(.ref a1), (.ref fr)])) rfl rfl (hb hby own_d8_5)
  obtain ⟨T103, X103, e103, st103⟩ := getF X102 hx hZ hown (host := "") (Or.inl (own_w11 hw)) Via.refl e102 Ff (g := (mkF m 11 #[.val (.ref a1), .val (.int (0 : Int32))] [(.ref a1), (.int (0 : Int32)), (.ref fr)])) rfl rfl (hb hby own_d8_11)
  obtain ⟨cl104, Ar104, Aq104, As104, An104, Ah104, Ag104⟩ := id Vf
  obtain ⟨cl105, Ar105, Aq105, As105, An105, Ah105, Ag105⟩ := id Vf
  have hin105 : ¬ ((0 : Int32) < 0 ∨ cl105.slots.size ≤ ((0 : Int32)).toNatClampNeg) := inb_of As105 ⟨by decide, by decide⟩
  obtain ⟨fs, hr, hrun, hended, hW, hsame⟩ := X103.leave (v := some .null) (fun h => by rw [Bd.returns] at h; cases h)
  refine ⟨_, _, pre0 _ ?_, hrun, hended, _, _, rfl, ?_, ⟨_, rfl⟩, hW, hsame.mono (by decide) (by decide)⟩
  · show Steps _ _ _ (s₁.setTop (mkF m 0 #[.val (.ref a1), .val (.int (0 : Int32))] [])) _
    refine XS.aloadN X0.here hx rfl (hb hby own_d8_0) rfl rfl ?_
    refine st101 _ ?_
    refine XS.aloadN X101.here hx rfl (hb hby own_d8_4) rfl rfl ?_
    refine st102 _ ?_
    show Steps _ _ _ (T102.setTop (mkF m 8 #[.val (.ref a1), .val (.int (0 : Int32))] [(.int (0 : Int32)), (.ref fr)])) _
    refine XS.iloadN X102.here hx rfl (hb hby own_d8_8) rfl ?_
    refine XS.iadd X102.here hx rfl (hb hby own_d8_9) rfl ?_
    refine XS.aloadN X102.here hx rfl (hb hby own_d8_10) rfl rfl ?_
    refine st103 _ ?_
    show Steps _ _ _ (T103.setTop (mkF m 14 #[.val (.ref a1), .val (.int (0 : Int32))] [(.ref fr), (.int (0 : Int32)), (.ref fr)])) _
    refine X103.arraylength hx (by rw [e103]; exact Ar104.1) (State.isArrayOf_alike hZ.alike Ar104.2.1) (g := (mkF m 14 #[.val (.ref a1), .val (.int (0 : Int32))] [(.ref fr), (.int (0 : Int32)), (.ref fr)])) rfl rfl (hb hby own_d8_14) _ ?_
    rw [len_of As104 An104]
    refine iremM X103 hx rfl (hb hby own_d8_15) rfl (by decide) ?_
    refine X103.aaload hx (j := (0 : Int32)) (v := .null) (by rw [e103]; exact Ar105.1) (State.isArrayOf_alike hZ.alike Ar105.2.1) rfl Ar105.2.2 hin105 (Ah105.at hin105 rfl) (g := (mkF m 16 #[.val (.ref a1), .val (.int (0 : Int32))] [(.int (0 : Int32)), (.ref fr)])) rfl rfl (hb hby own_d8_16) _ ?_
    show Steps _ _ _ (T103.setTop (mkF m 17 #[.val (.ref a1), .val (.int (0 : Int32))] [.null])) _
    jvm_step X103.here [X103.here.top, hx, (hb hby own_d8_17), X103.method', Bd.returns, Value.isRef, FieldType.isReference]
    first | (intro acts; rw [hr _ acts rfl rfl rfl]) | rw [hr _ _ rfl rfl rfl]
    exact Steps.refl _
  · show Qown_get0 Z a1 fr kf h0 n0 _ T103.heap _
    rw [e103]
    exact ⟨rfl, N0, rfl⟩
def Qown_get1 (Z : State) (a1 fr : Addr) (kf : ClassId) (h0 : Heap) (n0 : Nat) (v : Option Value) (h : Heap) (L : List Loc) : Prop := v = some .null ∧ Fr n0 L ∧ h = h0
set_option maxRecDepth 65536 in
set_option maxHeartbeats 40000000 in
theorem own_get1 (l : Launch) (Z : State) (a0 : Array Value) (hw : ∀ d ∈ tables_1, d.before a0 Z = true) (ws : List Jvm.Cond) (a1 fr : Addr) (kf : ClassId) (h0 : Heap) (n0 : Nat) (Z0 : n0 ≤ h0.size) (Ff : Fld Z h0 a1 "com/example/don_valley/donvalley/broker/QueuedFrames" "frames" "[Ljava/nio/ByteBuffer;" (.ref fr)) (F1 : Fld Z h0 a1 "com/example/don_valley/donvalley/broker/QueuedFrames" "first" "I" (.int (0 : Int32))) (Vf : Arv Z h0 fr kf (.object "java/nio/ByteBuffer") (4 : Int32) [.null, .null, .null, .null] .null) :
    MetFree l own_m1 (head1 (Jvm.Cond.code own_m1 prog_10_method_6_code 2 (some (.object "java/nio/ByteBuffer")) :: ws) ({ frames := 0, cells := 0, slots := 0, locals := 0 } : Room)) (fun a U => a = #[(.ref a1), (.int (1 : Int32))] ∧ Z.Warmed39 U.vm ∧ U.heap = h0) (fun _ _ _ _ _ => True) (fun _ U o U' => ∃ v L, o = .returned v ∧ Qown_get1 Z a1 fr kf h0 n0 v U'.heap L ∧ FrameEnd U o U' L ({ frames := 0, cells := 0, slots := 0, locals := 0 } : Room).cells ({ frames := 0, cells := 0, slots := 0, locals := 0 } : Room).slots) := by
  refine MetFree.of_bodySF (plainFor_of_name own_pn0) hisR ?_
  intro p e s m args below meth c s₁ Bd hml0 hP hK
  obtain ⟨rfl, hZ, hh⟩ := hP
  have hx := Bd.exec
  have hby := Bd.bytes
  have hml : c.maxLocals = 2 := hml0
  have hown : s.vm.findClass "com/example/don_valley/donvalley/broker/QueuedFrames" = some m.cls := by have q := findClass_of_methodNamed Bd.named; exact q
  have hnm := (name_of_methodNamed Bd.named Bd.method).1
  have X0 : Stand p l e ({ frames := 0, cells := 0, slots := 0, locals := 0 } : Room) s m #[(.ref a1), (.int (1 : Int32))] below meth c s₁ [] 0 0 := Stand.of_body Bd
  have e0 : s₁.heap = h0 := by rw [← hh, Bd.state]; rfl
  have N0 := Fr.nil n0
  have pre0 : ∀ t, Steps p.tables e below (s₁.setTop (mkF m 0 #[.val (.ref a1), .val (.int (1 : Int32))] [])) t → Steps p.tables e below (s₁.setTop (entryFrame m #[(.ref a1), (.int (1 : Int32))] 2)) t := fun t k => castTop (by first | (simp [entryFrame, mkF, argsToLocals, Value.category, maxLocals]; done) | rfl) k
  obtain ⟨T101, X101, e101, st101⟩ := getF X0 hx hZ hown (host := "") (Or.inl (own_w11 hw)) Via.refl e0 Ff (g := (mkF m 1 #[.val (.ref a1), .val (.int (1 : Int32))] [(.ref a1)])) rfl rfl (hb hby own_d8_1)
  obtain ⟨T102, X102, e102, st102⟩ := getF X101 hx hZ hown (host := "") (Or.inl (own_w23 hw)) Via.refl e101 F1 (g := (mkF m 5 #[.val (.ref a1), .val (.int (1 : Int32))] [(.ref a1), (.ref fr)])) rfl rfl (hb hby own_d8_5)
  obtain ⟨T103, X103, e103, st103⟩ := getF X102 hx hZ hown (host := "") (Or.inl (own_w11 hw)) Via.refl e102 Ff (g := (mkF m 11 #[.val (.ref a1), .val (.int (1 : Int32))] [(.ref a1), (.int (1 : Int32)), (.ref fr)])) rfl rfl (hb hby own_d8_11)
  obtain ⟨cl104, Ar104, Aq104, As104, An104, Ah104, Ag104⟩ := id Vf
  obtain ⟨cl105, Ar105, Aq105, As105, An105, Ah105, Ag105⟩ := id Vf
  have hin105 : ¬ ((1 : Int32) < 0 ∨ cl105.slots.size ≤ ((1 : Int32)).toNatClampNeg) := inb_of As105 ⟨by decide, by decide⟩
  obtain ⟨fs, hr, hrun, hended, hW, hsame⟩ := X103.leave (v := some .null) (fun h => by rw [Bd.returns] at h; cases h)
  refine ⟨_, _, pre0 _ ?_, hrun, hended, _, _, rfl, ?_, ⟨_, rfl⟩, hW, hsame.mono (by decide) (by decide)⟩
  · show Steps _ _ _ (s₁.setTop (mkF m 0 #[.val (.ref a1), .val (.int (1 : Int32))] [])) _
    refine XS.aloadN X0.here hx rfl (hb hby own_d8_0) rfl rfl ?_
    refine st101 _ ?_
    refine XS.aloadN X101.here hx rfl (hb hby own_d8_4) rfl rfl ?_
    refine st102 _ ?_
    show Steps _ _ _ (T102.setTop (mkF m 8 #[.val (.ref a1), .val (.int (1 : Int32))] [(.int (0 : Int32)), (.ref fr)])) _
    refine XS.iloadN X102.here hx rfl (hb hby own_d8_8) rfl ?_
    refine XS.iadd X102.here hx rfl (hb hby own_d8_9) rfl ?_
    refine XS.aloadN X102.here hx rfl (hb hby own_d8_10) rfl rfl ?_
    refine st103 _ ?_
    show Steps _ _ _ (T103.setTop (mkF m 14 #[.val (.ref a1), .val (.int (1 : Int32))] [(.ref fr), (.int (1 : Int32)), (.ref fr)])) _
    refine X103.arraylength hx (by rw [e103]; exact Ar104.1) (State.isArrayOf_alike hZ.alike Ar104.2.1) (g := (mkF m 14 #[.val (.ref a1), .val (.int (1 : Int32))] [(.ref fr), (.int (1 : Int32)), (.ref fr)])) rfl rfl (hb hby own_d8_14) _ ?_
    rw [len_of As104 An104]
    refine iremM X103 hx rfl (hb hby own_d8_15) rfl (by decide) ?_
    refine X103.aaload hx (j := (1 : Int32)) (v := .null) (by rw [e103]; exact Ar105.1) (State.isArrayOf_alike hZ.alike Ar105.2.1) rfl Ar105.2.2 hin105 (Ah105.at hin105 rfl) (g := (mkF m 16 #[.val (.ref a1), .val (.int (1 : Int32))] [(.int (1 : Int32)), (.ref fr)])) rfl rfl (hb hby own_d8_16) _ ?_
    show Steps _ _ _ (T103.setTop (mkF m 17 #[.val (.ref a1), .val (.int (1 : Int32))] [.null])) _
    jvm_step X103.here [X103.here.top, hx, (hb hby own_d8_17), X103.method', Bd.returns, Value.isRef, FieldType.isReference]
    first | (intro acts; rw [hr _ acts rfl rfl rfl]) | rw [hr _ _ rfl rfl rfl]
    exact Steps.refl _
  · show Qown_get1 Z a1 fr kf h0 n0 _ T103.heap _
    rw [e103]
    exact ⟨rfl, N0, rfl⟩
def Qown_get2 (Z : State) (a1 fr : Addr) (kf : ClassId) (h0 : Heap) (n0 : Nat) (v : Option Value) (h : Heap) (L : List Loc) : Prop := v = some .null ∧ Fr n0 L ∧ h = h0
set_option maxRecDepth 65536 in
set_option maxHeartbeats 40000000 in
theorem own_get2 (l : Launch) (Z : State) (a0 : Array Value) (hw : ∀ d ∈ tables_1, d.before a0 Z = true) (ws : List Jvm.Cond) (a1 fr : Addr) (kf : ClassId) (h0 : Heap) (n0 : Nat) (Z0 : n0 ≤ h0.size) (Ff : Fld Z h0 a1 "com/example/don_valley/donvalley/broker/QueuedFrames" "frames" "[Ljava/nio/ByteBuffer;" (.ref fr)) (F1 : Fld Z h0 a1 "com/example/don_valley/donvalley/broker/QueuedFrames" "first" "I" (.int (0 : Int32))) (Vf : Arv Z h0 fr kf (.object "java/nio/ByteBuffer") (4 : Int32) [.null, .null, .null, .null] .null) :
    MetFree l own_m1 (head1 (Jvm.Cond.code own_m1 prog_10_method_6_code 2 (some (.object "java/nio/ByteBuffer")) :: ws) ({ frames := 0, cells := 0, slots := 0, locals := 0 } : Room)) (fun a U => a = #[(.ref a1), (.int (2 : Int32))] ∧ Z.Warmed39 U.vm ∧ U.heap = h0) (fun _ _ _ _ _ => True) (fun _ U o U' => ∃ v L, o = .returned v ∧ Qown_get2 Z a1 fr kf h0 n0 v U'.heap L ∧ FrameEnd U o U' L ({ frames := 0, cells := 0, slots := 0, locals := 0 } : Room).cells ({ frames := 0, cells := 0, slots := 0, locals := 0 } : Room).slots) := by
  refine MetFree.of_bodySF (plainFor_of_name own_pn0) hisR ?_
  intro p e s m args below meth c s₁ Bd hml0 hP hK
  obtain ⟨rfl, hZ, hh⟩ := hP
  have hx := Bd.exec
  have hby := Bd.bytes
  have hml : c.maxLocals = 2 := hml0
  have hown : s.vm.findClass "com/example/don_valley/donvalley/broker/QueuedFrames" = some m.cls := by have q := findClass_of_methodNamed Bd.named; exact q
  have hnm := (name_of_methodNamed Bd.named Bd.method).1
  have X0 : Stand p l e ({ frames := 0, cells := 0, slots := 0, locals := 0 } : Room) s m #[(.ref a1), (.int (2 : Int32))] below meth c s₁ [] 0 0 := Stand.of_body Bd
  have e0 : s₁.heap = h0 := by rw [← hh, Bd.state]; rfl
  have N0 := Fr.nil n0
  have pre0 : ∀ t, Steps p.tables e below (s₁.setTop (mkF m 0 #[.val (.ref a1), .val (.int (2 : Int32))] [])) t → Steps p.tables e below (s₁.setTop (entryFrame m #[(.ref a1), (.int (2 : Int32))] 2)) t := fun t k => castTop (by first | (simp [entryFrame, mkF, argsToLocals, Value.category, maxLocals]; done) | rfl) k
  obtain ⟨T101, X101, e101, st101⟩ := getF X0 hx hZ hown (host := "") (Or.inl (own_w11 hw)) Via.refl e0 Ff (g := (mkF m 1 #[.val (.ref a1), .val (.int (2 : Int32))] [(.ref a1)])) rfl rfl (hb hby own_d8_1)
  obtain ⟨T102, X102, e102, st102⟩ := getF X101 hx hZ hown (host := "") (Or.inl (own_w23 hw)) Via.refl e101 F1 (g := (mkF m 5 #[.val (.ref a1), .val (.int (2 : Int32))] [(.ref a1), (.ref fr)])) rfl rfl (hb hby own_d8_5)
  obtain ⟨T103, X103, e103, st103⟩ := getF X102 hx hZ hown (host := "") (Or.inl (own_w11 hw)) Via.refl e102 Ff (g := (mkF m 11 #[.val (.ref a1), .val (.int (2 : Int32))] [(.ref a1), (.int (2 : Int32)), (.ref fr)])) rfl rfl (hb hby own_d8_11)
  obtain ⟨cl104, Ar104, Aq104, As104, An104, Ah104, Ag104⟩ := id Vf
  obtain ⟨cl105, Ar105, Aq105, As105, An105, Ah105, Ag105⟩ := id Vf
  have hin105 : ¬ ((2 : Int32) < 0 ∨ cl105.slots.size ≤ ((2 : Int32)).toNatClampNeg) := inb_of As105 ⟨by decide, by decide⟩
  obtain ⟨fs, hr, hrun, hended, hW, hsame⟩ := X103.leave (v := some .null) (fun h => by rw [Bd.returns] at h; cases h)
  refine ⟨_, _, pre0 _ ?_, hrun, hended, _, _, rfl, ?_, ⟨_, rfl⟩, hW, hsame.mono (by decide) (by decide)⟩
  · show Steps _ _ _ (s₁.setTop (mkF m 0 #[.val (.ref a1), .val (.int (2 : Int32))] [])) _
    refine XS.aloadN X0.here hx rfl (hb hby own_d8_0) rfl rfl ?_
    refine st101 _ ?_
    refine XS.aloadN X101.here hx rfl (hb hby own_d8_4) rfl rfl ?_
    refine st102 _ ?_
    show Steps _ _ _ (T102.setTop (mkF m 8 #[.val (.ref a1), .val (.int (2 : Int32))] [(.int (0 : Int32)), (.ref fr)])) _
    refine XS.iloadN X102.here hx rfl (hb hby own_d8_8) rfl ?_
    refine XS.iadd X102.here hx rfl (hb hby own_d8_9) rfl ?_
    refine XS.aloadN X102.here hx rfl (hb hby own_d8_10) rfl rfl ?_
    refine st103 _ ?_
    show Steps _ _ _ (T103.setTop (mkF m 14 #[.val (.ref a1), .val (.int (2 : Int32))] [(.ref fr), (.int (2 : Int32)), (.ref fr)])) _
    refine X103.arraylength hx (by rw [e103]; exact Ar104.1) (State.isArrayOf_alike hZ.alike Ar104.2.1) (g := (mkF m 14 #[.val (.ref a1), .val (.int (2 : Int32))] [(.ref fr), (.int (2 : Int32)), (.ref fr)])) rfl rfl (hb hby own_d8_14) _ ?_
    rw [len_of As104 An104]
    refine iremM X103 hx rfl (hb hby own_d8_15) rfl (by decide) ?_
    refine X103.aaload hx (j := (2 : Int32)) (v := .null) (by rw [e103]; exact Ar105.1) (State.isArrayOf_alike hZ.alike Ar105.2.1) rfl Ar105.2.2 hin105 (Ah105.at hin105 rfl) (g := (mkF m 16 #[.val (.ref a1), .val (.int (2 : Int32))] [(.int (2 : Int32)), (.ref fr)])) rfl rfl (hb hby own_d8_16) _ ?_
    show Steps _ _ _ (T103.setTop (mkF m 17 #[.val (.ref a1), .val (.int (2 : Int32))] [.null])) _
    jvm_step X103.here [X103.here.top, hx, (hb hby own_d8_17), X103.method', Bd.returns, Value.isRef, FieldType.isReference]
    first | (intro acts; rw [hr _ acts rfl rfl rfl]) | rw [hr _ _ rfl rfl rfl]
    exact Steps.refl _
  · show Qown_get2 Z a1 fr kf h0 n0 _ T103.heap _
    rw [e103]
    exact ⟨rfl, N0, rfl⟩
def Qown_get3 (Z : State) (a1 fr : Addr) (kf : ClassId) (h0 : Heap) (n0 : Nat) (v : Option Value) (h : Heap) (L : List Loc) : Prop := v = some .null ∧ Fr n0 L ∧ h = h0
set_option maxRecDepth 65536 in
set_option maxHeartbeats 40000000 in
theorem own_get3 (l : Launch) (Z : State) (a0 : Array Value) (hw : ∀ d ∈ tables_1, d.before a0 Z = true) (ws : List Jvm.Cond) (a1 fr : Addr) (kf : ClassId) (h0 : Heap) (n0 : Nat) (Z0 : n0 ≤ h0.size) (Ff : Fld Z h0 a1 "com/example/don_valley/donvalley/broker/QueuedFrames" "frames" "[Ljava/nio/ByteBuffer;" (.ref fr)) (F1 : Fld Z h0 a1 "com/example/don_valley/donvalley/broker/QueuedFrames" "first" "I" (.int (0 : Int32))) (Vf : Arv Z h0 fr kf (.object "java/nio/ByteBuffer") (4 : Int32) [.null, .null, .null, .null] .null) :
    MetFree l own_m1 (head1 (Jvm.Cond.code own_m1 prog_10_method_6_code 2 (some (.object "java/nio/ByteBuffer")) :: ws) ({ frames := 0, cells := 0, slots := 0, locals := 0 } : Room)) (fun a U => a = #[(.ref a1), (.int (3 : Int32))] ∧ Z.Warmed39 U.vm ∧ U.heap = h0) (fun _ _ _ _ _ => True) (fun _ U o U' => ∃ v L, o = .returned v ∧ Qown_get3 Z a1 fr kf h0 n0 v U'.heap L ∧ FrameEnd U o U' L ({ frames := 0, cells := 0, slots := 0, locals := 0 } : Room).cells ({ frames := 0, cells := 0, slots := 0, locals := 0 } : Room).slots) := by
  refine MetFree.of_bodySF (plainFor_of_name own_pn0) hisR ?_
  intro p e s m args below meth c s₁ Bd hml0 hP hK
  obtain ⟨rfl, hZ, hh⟩ := hP
  have hx := Bd.exec
  have hby := Bd.bytes
  have hml : c.maxLocals = 2 := hml0
  have hown : s.vm.findClass "com/example/don_valley/donvalley/broker/QueuedFrames" = some m.cls := by have q := findClass_of_methodNamed Bd.named; exact q
  have hnm := (name_of_methodNamed Bd.named Bd.method).1
  have X0 : Stand p l e ({ frames := 0, cells := 0, slots := 0, locals := 0 } : Room) s m #[(.ref a1), (.int (3 : Int32))] below meth c s₁ [] 0 0 := Stand.of_body Bd
  have e0 : s₁.heap = h0 := by rw [← hh, Bd.state]; rfl
  have N0 := Fr.nil n0
  have pre0 : ∀ t, Steps p.tables e below (s₁.setTop (mkF m 0 #[.val (.ref a1), .val (.int (3 : Int32))] [])) t → Steps p.tables e below (s₁.setTop (entryFrame m #[(.ref a1), (.int (3 : Int32))] 2)) t := fun t k => castTop (by first | (simp [entryFrame, mkF, argsToLocals, Value.category, maxLocals]; done) | rfl) k
  obtain ⟨T101, X101, e101, st101⟩ := getF X0 hx hZ hown (host := "") (Or.inl (own_w11 hw)) Via.refl e0 Ff (g := (mkF m 1 #[.val (.ref a1), .val (.int (3 : Int32))] [(.ref a1)])) rfl rfl (hb hby own_d8_1)
  obtain ⟨T102, X102, e102, st102⟩ := getF X101 hx hZ hown (host := "") (Or.inl (own_w23 hw)) Via.refl e101 F1 (g := (mkF m 5 #[.val (.ref a1), .val (.int (3 : Int32))] [(.ref a1), (.ref fr)])) rfl rfl (hb hby own_d8_5)
  obtain ⟨T103, X103, e103, st103⟩ := getF X102 hx hZ hown (host := "") (Or.inl (own_w11 hw)) Via.refl e102 Ff (g := (mkF m 11 #[.val (.ref a1), .val (.int (3 : Int32))] [(.ref a1), (.int (3 : Int32)), (.ref fr)])) rfl rfl (hb hby own_d8_11)
  obtain ⟨cl104, Ar104, Aq104, As104, An104, Ah104, Ag104⟩ := id Vf
  obtain ⟨cl105, Ar105, Aq105, As105, An105, Ah105, Ag105⟩ := id Vf
  have hin105 : ¬ ((3 : Int32) < 0 ∨ cl105.slots.size ≤ ((3 : Int32)).toNatClampNeg) := inb_of As105 ⟨by decide, by decide⟩
  obtain ⟨fs, hr, hrun, hended, hW, hsame⟩ := X103.leave (v := some .null) (fun h => by rw [Bd.returns] at h; cases h)
  refine ⟨_, _, pre0 _ ?_, hrun, hended, _, _, rfl, ?_, ⟨_, rfl⟩, hW, hsame.mono (by decide) (by decide)⟩
  · show Steps _ _ _ (s₁.setTop (mkF m 0 #[.val (.ref a1), .val (.int (3 : Int32))] [])) _
    refine XS.aloadN X0.here hx rfl (hb hby own_d8_0) rfl rfl ?_
    refine st101 _ ?_
    refine XS.aloadN X101.here hx rfl (hb hby own_d8_4) rfl rfl ?_
    refine st102 _ ?_
    show Steps _ _ _ (T102.setTop (mkF m 8 #[.val (.ref a1), .val (.int (3 : Int32))] [(.int (0 : Int32)), (.ref fr)])) _
    refine XS.iloadN X102.here hx rfl (hb hby own_d8_8) rfl ?_
    refine XS.iadd X102.here hx rfl (hb hby own_d8_9) rfl ?_
    refine XS.aloadN X102.here hx rfl (hb hby own_d8_10) rfl rfl ?_
    refine st103 _ ?_
    show Steps _ _ _ (T103.setTop (mkF m 14 #[.val (.ref a1), .val (.int (3 : Int32))] [(.ref fr), (.int (3 : Int32)), (.ref fr)])) _
    refine X103.arraylength hx (by rw [e103]; exact Ar104.1) (State.isArrayOf_alike hZ.alike Ar104.2.1) (g := (mkF m 14 #[.val (.ref a1), .val (.int (3 : Int32))] [(.ref fr), (.int (3 : Int32)), (.ref fr)])) rfl rfl (hb hby own_d8_14) _ ?_
    rw [len_of As104 An104]
    refine iremM X103 hx rfl (hb hby own_d8_15) rfl (by decide) ?_
    refine X103.aaload hx (j := (3 : Int32)) (v := .null) (by rw [e103]; exact Ar105.1) (State.isArrayOf_alike hZ.alike Ar105.2.1) rfl Ar105.2.2 hin105 (Ah105.at hin105 rfl) (g := (mkF m 16 #[.val (.ref a1), .val (.int (3 : Int32))] [(.int (3 : Int32)), (.ref fr)])) rfl rfl (hb hby own_d8_16) _ ?_
    show Steps _ _ _ (T103.setTop (mkF m 17 #[.val (.ref a1), .val (.int (3 : Int32))] [.null])) _
    jvm_step X103.here [X103.here.top, hx, (hb hby own_d8_17), X103.method', Bd.returns, Value.isRef, FieldType.isReference]
    first | (intro acts; rw [hr _ acts rfl rfl rfl]) | rw [hr _ _ rfl rfl rfl]
    exact Steps.refl _
  · show Qown_get3 Z a1 fr kf h0 n0 _ T103.heap _
    rw [e103]
    exact ⟨rfl, N0, rfl⟩
def Qown_grow (Z : State) (a1 fr ti : Addr) (kf kt : ClassId) (t0 t1 t2 t3 : Int64) (h0 : Heap) (n0 : Nat) (v : Option Value) (h : Heap) (L : List Loc) : Prop := v = none ∧ Fr n0 L ∧ ∃ (fr ti : Addr) (kf kt : ClassId), own_St Z n0 h a1 fr ti kf kt (8 : Int32) [.null, .null, .null, .null, .null, .null, .null, .null] [(.long t0), (.long t1), (.long t2), (.long t3), (.long (0 : Int64)), (.long (0 : Int64)), (.long (0 : Int64)), (.long (0 : Int64))] (4 : Int32) (0 : Int32)
set_option maxRecDepth 65536 in
set_option maxHeartbeats 40000000 in
theorem own_grow (l : Launch) (Z : State) (a0 : Array Value) (hw : ∀ d ∈ tables_1, d.before a0 Z = true) (ws : List Jvm.Cond) (a1 fr ti : Addr) (kf kt : ClassId) (t0 t1 t2 t3 : Int64) (h0 : Heap) (n0 : Nat) (Z0 : n0 ≤ h0.size) (g1 : n0 ≤ a1) (H : own_St Z n0 h0 a1 fr ti kf kt (4 : Int32) [.null, .null, .null, .null] [(.long t0), (.long t1), (.long t2), (.long t3)] (4 : Int32) (0 : Int32)) :
    MetFree l own_m2 (head1 (Jvm.Cond.code own_m2 prog_10_method_9_code 4 none :: ws) ({ frames := 1, cells := 2, slots := 16, locals := 15 } : Room)) (fun a U => a = #[(.ref a1)] ∧ Z.Warmed39 U.vm ∧ U.heap = h0) (fun _ _ _ _ _ => True) (fun _ U o U' => ∃ v L, o = .returned v ∧ Qown_grow Z a1 fr ti kf kt t0 t1 t2 t3 h0 n0 v U'.heap L ∧ FrameEnd U o U' L ({ frames := 1, cells := 2, slots := 16, locals := 15 } : Room).cells ({ frames := 1, cells := 2, slots := 16, locals := 15 } : Room).slots) := by
  refine MetFree.of_bodySF (plainFor_of_name own_pn0) hisR ?_
  intro p e s m args below meth c s₁ Bd hml0 hP hK
  obtain ⟨rfl, hZ, hh⟩ := hP
  have hx := Bd.exec
  have hby := Bd.bytes
  have hml : c.maxLocals = 4 := hml0
  have hown : s.vm.findClass "com/example/don_valley/donvalley/broker/QueuedFrames" = some m.cls := by have q := findClass_of_methodNamed Bd.named; exact q
  have hnm := (name_of_methodNamed Bd.named Bd.method).1
  have X0 : Stand p l e ({ frames := 1, cells := 2, slots := 16, locals := 15 } : Room) s m #[(.ref a1)] below meth c s₁ [] 0 0 := Stand.of_body Bd
  have e0 : s₁.heap = h0 := by rw [← hh, Bd.state]; rfl
  have N0 := Fr.nil n0
  have pre0 : ∀ t, Steps p.tables e below (s₁.setTop (mkF m 0 #[.val (.ref a1), .unset, .unset, .unset] [])) t → Steps p.tables e below (s₁.setTop (entryFrame m #[(.ref a1)] 4)) t := fun t k => castTop (by first | (simp [entryFrame, mkF, argsToLocals, Value.category, maxLocals]; done) | rfl) k
  obtain ⟨hZ1, g2, g3, E1, Ff, Ft, Fs, F1, Vf, Vt, n1, n2, n3⟩ := H
  obtain ⟨T101, X101, e101, st101⟩ := getF X0 hx hZ hown (host := "") (Or.inl (own_w11 hw)) Via.refl e0 Ff (g := (mkF m 2 #[.val (.ref a1), .unset, .unset, .unset] [(.ref a1), (.int (2 : Int32))])) rfl rfl (hb hby own_d7_2)
  obtain ⟨cl102, Ar102, Aq102, As102, An102, Ah102, Ag102⟩ := id Vf
  obtain ⟨T103, h103, k103, X103, e103, E103, A103, O103, st103⟩ := newR X101 hx hZ hown (own_w9 hw) (own_w10 hw) e101 (g := (mkF m 7 #[.val (.ref a1), .unset, .unset, .unset] [(.int (8 : Int32))])) rfl (hb hby own_d7_7) rfl (by decide) (cap := 8) (by decide) (by decide) (by decide) (by decide)
  obtain ⟨b103, g103⟩ : ∃ z, z = h0.size := ⟨_, rfl⟩
  rw [← g103] at A103 st103
  have ne_a1_b103 : a1 ≠ b103 := Nat.ne_of_lt (Nat.lt_of_lt_of_le E1.lt (Nat.le_of_eq g103.symm))
  have ne_fr_b103 : fr ≠ b103 := Nat.ne_of_lt (Nat.lt_of_lt_of_le Vf.lt (Nat.le_of_eq g103.symm))
  have ne_ti_b103 : ti ≠ b103 := Nat.ne_of_lt (Nat.lt_of_lt_of_le Vt.lt (Nat.le_of_eq g103.symm))
  have g_b103 : n0 ≤ b103 := Nat.le_trans hZ1 (Nat.le_of_eq g103.symm)
  have Z103 : n0 ≤ h103.size := Nat.le_trans hZ1 E103.1
  have V103 : Arv Z h103 b103 k103 (.object "java/nio/ByteBuffer") (8 : Int32) [.null, .null, .null, .null, .null, .null, .null, .null] .null := (Arv.new A103 (by decide)).pad (pad_rep [] .null 8)
  have c104 := (Ff.ext E103)
  obtain ⟨T105, X105, e105, st105⟩ := getF X103 hx hZ hown (host := "") (Or.inl (own_w11 hw)) Via.refl e103 c104 (g := (mkF m 13 #[.val (.ref a1), .val (.ref b103), .unset, .unset] [(.ref a1), (.int (2 : Int32))])) rfl rfl (hb hby own_d7_13)
  have c106 := (Vf.ext E103)
  obtain ⟨cl107, Ar107, Aq107, As107, An107, Ah107, Ag107⟩ := id c106
  obtain ⟨T108, h108, k108, X108, e108, E108, A108, st108⟩ := newP (aty := .long) X105 hx hZ (own_w13 hw) e105 (g := (mkF m 18 #[.val (.ref a1), .val (.ref b103), .unset, .unset] [(.int (8 : Int32))])) rfl (hb hby own_d7_18) rfl (by decide) (cap := 8) (by decide) (by decide) (by decide) (by decide)
  obtain ⟨b108, g108⟩ : ∃ z, z = h103.size := ⟨_, rfl⟩
  rw [← g108] at A108 st108
  have c109 := (E1.ext E103)
  have ne_a1_b108 : a1 ≠ b108 := Nat.ne_of_lt (Nat.lt_of_lt_of_le c109.lt (Nat.le_of_eq g108.symm))
  have ne_fr_b108 : fr ≠ b108 := Nat.ne_of_lt (Nat.lt_of_lt_of_le c106.lt (Nat.le_of_eq g108.symm))
  have c110 := (Vt.ext E103)
  have ne_ti_b108 : ti ≠ b108 := Nat.ne_of_lt (Nat.lt_of_lt_of_le c110.lt (Nat.le_of_eq g108.symm))
  have ne_b103_b108 : b103 ≠ b108 := Nat.ne_of_lt (Nat.lt_of_lt_of_le V103.lt (Nat.le_of_eq g108.symm))
  have g_b108 : n0 ≤ b108 := Nat.le_trans Z103 (Nat.le_of_eq g108.symm)
  have Z108 : n0 ≤ h108.size := Nat.le_trans Z103 E108.1
  have V108 : Arv Z h108 b108 k108 .long (8 : Int32) [(.long (0 : Int64)), (.long (0 : Int64)), (.long (0 : Int64)), (.long (0 : Int64)), (.long (0 : Int64)), (.long (0 : Int64)), (.long (0 : Int64)), (.long (0 : Int64))] (.long (0 : Int64)) := (Arv.new A108 (by decide)).pad (pad_rep [] (.long (0 : Int64)) 8)
  have c111 := ((Fs.ext E103).ext E108)
  obtain ⟨T112, X112, e112, st112⟩ := getF X108 hx hZ hown (host := "") (Or.inl (own_w21 hw)) Via.refl e108 c111 (g := (mkF m 25 #[.val (.ref a1), .val (.ref b103), .val (.ref b108), .val (.int (0 : Int32))] [(.ref a1), (.int (0 : Int32))])) rfl rfl (hb hby own_d7_25)
  have c113 := (c104.ext E108)
  have c114 := ((F1.ext E103).ext E108)
  have c115 := (c106.ext E108)
  have c116 := (c109.ext E108)
  obtain ⟨cq117, kq117, q117a, q117b, q117c⟩ := isOf hZ e112 c116
  obtain ⟨_, _, ⟨T117, L117, k117, n117⟩, -, X117, ⟨Lc117, hQ117, l117, y117, z117⟩, st117⟩ := X112.virtualBack hx (y := own_m1) (z := own_m1) hown (mvT hZ (own_w44 hw)) (mvT hZ (own_w45 hw)) (notFace_of_selects (args := #[]) (mvT hZ (own_w47 hw))) (mvT hZ (own_w47 hw)) (mvT hZ (own_w46 hw)) (by decide) (backOf (W := 2) (own_get0 l Z a0 hw [] a1 fr kf h108 n0 Z108 c113 c114 c115) hZ (own_w48 hw) (own_w2 hw) (by decide) (by decide)) q117a q117c (g := (mkF m 35 #[.val (.ref a1), .val (.ref b103), .val (.ref b108), .val (.int (0 : Int32))] [(.int (0 : Int32)), (.ref a1), (.int (0 : Int32)), (.ref b103)])) rfl (by rw [hml]; rfl) (Steps.refl _) (argsL := [(.int (0 : Int32))]) (rest := [(.int (0 : Int32)), (.ref b103)]) (lenOf own_pd0 rfl) rfl (by show 2 * 0 + _ ≤ _; exact Nat.le_of_eq rfl) (hb hby own_d7_35) (fun _ _ => ⟨rfl, e112, (by decide : 2 + 0 ≤ _), (by decide : 16 + 0 ≤ _)⟩)
  dsimp only [Pt.U, Pt.locs, Pt.cells, Pt.slots] at X117 l117 y117 z117 st117 hQ117
  subst l117 y117 z117
  obtain ⟨rfl, N117q, e117⟩ := hQ117
  have N117 := Fr.app N0 N117q
  have c118 := (V103.ext E108)
  obtain ⟨cl119, Ar119, Aq119, As119, An119, Ah119, Ag119⟩ := id c118
  have hin119 : ¬ ((0 : Int32) < 0 ∨ cl119.slots.size ≤ ((0 : Int32)).toNatClampNeg) := inb_of As119 ⟨by decide, by decide⟩
  obtain ⟨T120, h120, X120, e120, W120, st120⟩ := stR X117 hx hZ e117 Ar119 (j := (0 : Int32)) hin119 rfl (Or.inl rfl) (g := (mkF m 38 #[.val (.ref a1), .val (.ref b103), .val (.ref b108), .val (.int (0 : Int32))] [.null, (.int (0 : Int32)), (.ref b103)])) rfl rfl (hb hby own_d7_38)
  have Z120 : n0 ≤ h120.size := Nat.le_trans Z108 (Nat.le_of_eq W120.size.symm)
  have N120 := Fr.snoc X120 N117 g_b103
  have V120 : Arv Z h120 b103 k103 (.object "java/nio/ByteBuffer") (8 : Int32) [.null, .null, .null, .null, .null, .null, .null, .null] .null := Arv.set Ar119 Aq119 As119 An119 Ah119 Ag119 rfl W120 0 rfl (Nat.le_of_ble_eq_true rfl)
  have c121 := (((Ft.ext E103).ext E108).other W120 (Or.inl ne_a1_b103))
  obtain ⟨T122, X122, e122, st122⟩ := getF X120 hx hZ hown (host := "") (Or.inl (own_w14 hw)) Via.refl e120 c121 (g := (mkF m 42 #[.val (.ref a1), .val (.ref b103), .val (.ref b108), .val (.int (0 : Int32))] [(.ref a1), (.int (0 : Int32)), (.ref b108)])) rfl rfl (hb hby own_d7_42)
  have c123 := (c114.other W120 (Or.inl ne_a1_b103))
  obtain ⟨T124, X124, e124, st124⟩ := getF X122 hx hZ hown (host := "") (Or.inl (own_w23 hw)) Via.refl e122 c123 (g := (mkF m 46 #[.val (.ref a1), .val (.ref b103), .val (.ref b108), .val (.int (0 : Int32))] [(.ref a1), (.ref ti), (.int (0 : Int32)), (.ref b108)])) rfl rfl (hb hby own_d7_46)
  have c125 := (c113.other W120 (Or.inl ne_a1_b103))
  obtain ⟨T126, X126, e126, st126⟩ := getF X124 hx hZ hown (host := "") (Or.inl (own_w11 hw)) Via.refl e124 c125 (g := (mkF m 52 #[.val (.ref a1), .val (.ref b103), .val (.ref b108), .val (.int (0 : Int32))] [(.ref a1), (.int (0 : Int32)), (.ref ti), (.int (0 : Int32)), (.ref b108)])) rfl rfl (hb hby own_d7_52)
  have c127 := (c115.other W120 ne_fr_b103)
  obtain ⟨cl128, Ar128, Aq128, As128, An128, Ah128, Ag128⟩ := id c127
  have c129 := ((c110.ext E108).other W120 ne_ti_b103)
  obtain ⟨cl130, Ar130, Aq130, As130, An130, Ah130, Ag130⟩ := id c129
  have hin130 : ¬ ((0 : Int32) < 0 ∨ cl130.slots.size ≤ ((0 : Int32)).toNatClampNeg) := inb_of As130 ⟨by decide, by decide⟩
  have c131 := (V108.other W120 (Ne.symm ne_b103_b108))
  obtain ⟨cl132, Ar132, Aq132, As132, An132, Ah132, Ag132⟩ := id c131
  have hin132 : ¬ ((0 : Int32) < 0 ∨ cl132.slots.size ≤ ((0 : Int32)).toNatClampNeg) := inb_of As132 ⟨by decide, by decide⟩
  obtain ⟨T133, h133, X133, e133, W133, st133⟩ := stJ X126 hx hZ e126 Ar132 (j := (0 : Int32)) hin132 (g := (mkF m 58 #[.val (.ref a1), .val (.ref b103), .val (.ref b108), .val (.int (0 : Int32))] [(.long t0), (.int (0 : Int32)), (.ref b108)])) rfl rfl (hb hby own_d7_58)
  have Z133 : n0 ≤ h133.size := Nat.le_trans Z120 (Nat.le_of_eq W133.size.symm)
  have N133 := Fr.snoc X133 N120 g_b108
  have V133 : Arv Z h133 b108 k108 .long (8 : Int32) [(.long t0), (.long (0 : Int64)), (.long (0 : Int64)), (.long (0 : Int64)), (.long (0 : Int64)), (.long (0 : Int64)), (.long (0 : Int64)), (.long (0 : Int64))] (.long (0 : Int64)) := Arv.set Ar132 Aq132 As132 An132 Ah132 Ag132 rfl W133 0 rfl (Nat.le_of_ble_eq_true rfl)
  have c134 := ((c111.other W120 (Or.inl ne_a1_b103)).other W133 (Or.inl ne_a1_b108))
  obtain ⟨T135, X135, e135, st135⟩ := getF X133 hx hZ hown (host := "") (Or.inl (own_w21 hw)) Via.refl e133 c134 (g := (mkF m 25 #[.val (.ref a1), .val (.ref b103), .val (.ref b108), .val (.int (1 : Int32))] [(.ref a1), (.int (1 : Int32))])) rfl rfl (hb hby own_d7_25)
  have c136 := (c125.other W133 (Or.inl ne_a1_b108))
  have c137 := (c123.other W133 (Or.inl ne_a1_b108))
  have c138 := (c127.other W133 ne_fr_b108)
  have c139 := ((c116.wr W120).wr W133)
  obtain ⟨cq140, kq140, q140a, q140b, q140c⟩ := isOf hZ e135 c139
  obtain ⟨_, _, ⟨T140, L140, k140, n140⟩, -, X140, ⟨Lc140, hQ140, l140, y140, z140⟩, st140⟩ := X135.virtualBack hx (y := own_m1) (z := own_m1) hown (mvT hZ (own_w44 hw)) (mvT hZ (own_w45 hw)) (notFace_of_selects (args := #[]) (mvT hZ (own_w47 hw))) (mvT hZ (own_w47 hw)) (mvT hZ (own_w46 hw)) (by decide) (backOf (W := 2) (own_get1 l Z a0 hw [] a1 fr kf h133 n0 Z133 c136 c137 c138) hZ (own_w48 hw) (own_w2 hw) (by decide) (by decide)) q140a q140c (g := (mkF m 35 #[.val (.ref a1), .val (.ref b103), .val (.ref b108), .val (.int (1 : Int32))] [(.int (1 : Int32)), (.ref a1), (.int (1 : Int32)), (.ref b103)])) rfl (by rw [hml]; rfl) (Steps.refl _) (argsL := [(.int (1 : Int32))]) (rest := [(.int (1 : Int32)), (.ref b103)]) (lenOf own_pd0 rfl) rfl (by show 2 * 0 + _ ≤ _; exact Nat.le_of_eq rfl) (hb hby own_d7_35) (fun _ _ => ⟨rfl, e135, (by decide : 2 + 0 ≤ _), (by decide : 16 + 0 ≤ _)⟩)
  dsimp only [Pt.U, Pt.locs, Pt.cells, Pt.slots] at X140 l140 y140 z140 st140 hQ140
  subst l140 y140 z140
  obtain ⟨rfl, N140q, e140⟩ := hQ140
  have N140 := Fr.app N133 N140q
  have c141 := (V120.other W133 ne_b103_b108)
  obtain ⟨cl142, Ar142, Aq142, As142, An142, Ah142, Ag142⟩ := id c141
  have hin142 : ¬ ((1 : Int32) < 0 ∨ cl142.slots.size ≤ ((1 : Int32)).toNatClampNeg) := inb_of As142 ⟨by decide, by decide⟩
  obtain ⟨T143, h143, X143, e143, W143, st143⟩ := stR X140 hx hZ e140 Ar142 (j := (1 : Int32)) hin142 rfl (Or.inl rfl) (g := (mkF m 38 #[.val (.ref a1), .val (.ref b103), .val (.ref b108), .val (.int (1 : Int32))] [.null, (.int (1 : Int32)), (.ref b103)])) rfl rfl (hb hby own_d7_38)
  have Z143 : n0 ≤ h143.size := Nat.le_trans Z133 (Nat.le_of_eq W143.size.symm)
  have N143 := Fr.snoc X143 N140 g_b103
  have V143 : Arv Z h143 b103 k103 (.object "java/nio/ByteBuffer") (8 : Int32) [.null, .null, .null, .null, .null, .null, .null, .null] .null := Arv.set Ar142 Aq142 As142 An142 Ah142 Ag142 rfl W143 1 rfl (Nat.le_of_ble_eq_true rfl)
  have c144 := ((c121.other W133 (Or.inl ne_a1_b108)).other W143 (Or.inl ne_a1_b103))
  obtain ⟨T145, X145, e145, st145⟩ := getF X143 hx hZ hown (host := "") (Or.inl (own_w14 hw)) Via.refl e143 c144 (g := (mkF m 42 #[.val (.ref a1), .val (.ref b103), .val (.ref b108), .val (.int (1 : Int32))] [(.ref a1), (.int (1 : Int32)), (.ref b108)])) rfl rfl (hb hby own_d7_42)
  have c146 := (c137.other W143 (Or.inl ne_a1_b103))
  obtain ⟨T147, X147, e147, st147⟩ := getF X145 hx hZ hown (host := "") (Or.inl (own_w23 hw)) Via.refl e145 c146 (g := (mkF m 46 #[.val (.ref a1), .val (.ref b103), .val (.ref b108), .val (.int (1 : Int32))] [(.ref a1), (.ref ti), (.int (1 : Int32)), (.ref b108)])) rfl rfl (hb hby own_d7_46)
  have c148 := (c136.other W143 (Or.inl ne_a1_b103))
  obtain ⟨T149, X149, e149, st149⟩ := getF X147 hx hZ hown (host := "") (Or.inl (own_w11 hw)) Via.refl e147 c148 (g := (mkF m 52 #[.val (.ref a1), .val (.ref b103), .val (.ref b108), .val (.int (1 : Int32))] [(.ref a1), (.int (1 : Int32)), (.ref ti), (.int (1 : Int32)), (.ref b108)])) rfl rfl (hb hby own_d7_52)
  have c150 := (c138.other W143 ne_fr_b103)
  obtain ⟨cl151, Ar151, Aq151, As151, An151, Ah151, Ag151⟩ := id c150
  have c152 := ((c129.other W133 ne_ti_b108).other W143 ne_ti_b103)
  obtain ⟨cl153, Ar153, Aq153, As153, An153, Ah153, Ag153⟩ := id c152
  have hin153 : ¬ ((1 : Int32) < 0 ∨ cl153.slots.size ≤ ((1 : Int32)).toNatClampNeg) := inb_of As153 ⟨by decide, by decide⟩
  have c154 := (V133.other W143 (Ne.symm ne_b103_b108))
  obtain ⟨cl155, Ar155, Aq155, As155, An155, Ah155, Ag155⟩ := id c154
  have hin155 : ¬ ((1 : Int32) < 0 ∨ cl155.slots.size ≤ ((1 : Int32)).toNatClampNeg) := inb_of As155 ⟨by decide, by decide⟩
  obtain ⟨T156, h156, X156, e156, W156, st156⟩ := stJ X149 hx hZ e149 Ar155 (j := (1 : Int32)) hin155 (g := (mkF m 58 #[.val (.ref a1), .val (.ref b103), .val (.ref b108), .val (.int (1 : Int32))] [(.long t1), (.int (1 : Int32)), (.ref b108)])) rfl rfl (hb hby own_d7_58)
  have Z156 : n0 ≤ h156.size := Nat.le_trans Z143 (Nat.le_of_eq W156.size.symm)
  have N156 := Fr.snoc X156 N143 g_b108
  have V156 : Arv Z h156 b108 k108 .long (8 : Int32) [(.long t0), (.long t1), (.long (0 : Int64)), (.long (0 : Int64)), (.long (0 : Int64)), (.long (0 : Int64)), (.long (0 : Int64)), (.long (0 : Int64))] (.long (0 : Int64)) := Arv.set Ar155 Aq155 As155 An155 Ah155 Ag155 rfl W156 1 rfl (Nat.le_of_ble_eq_true rfl)
  have c157 := ((c134.other W143 (Or.inl ne_a1_b103)).other W156 (Or.inl ne_a1_b108))
  obtain ⟨T158, X158, e158, st158⟩ := getF X156 hx hZ hown (host := "") (Or.inl (own_w21 hw)) Via.refl e156 c157 (g := (mkF m 25 #[.val (.ref a1), .val (.ref b103), .val (.ref b108), .val (.int (2 : Int32))] [(.ref a1), (.int (2 : Int32))])) rfl rfl (hb hby own_d7_25)
  have c159 := (c148.other W156 (Or.inl ne_a1_b108))
  have c160 := (c146.other W156 (Or.inl ne_a1_b108))
  have c161 := (c150.other W156 ne_fr_b108)
  have c162 := ((c139.wr W143).wr W156)
  obtain ⟨cq163, kq163, q163a, q163b, q163c⟩ := isOf hZ e158 c162
  obtain ⟨_, _, ⟨T163, L163, k163, n163⟩, -, X163, ⟨Lc163, hQ163, l163, y163, z163⟩, st163⟩ := X158.virtualBack hx (y := own_m1) (z := own_m1) hown (mvT hZ (own_w44 hw)) (mvT hZ (own_w45 hw)) (notFace_of_selects (args := #[]) (mvT hZ (own_w47 hw))) (mvT hZ (own_w47 hw)) (mvT hZ (own_w46 hw)) (by decide) (backOf (W := 2) (own_get2 l Z a0 hw [] a1 fr kf h156 n0 Z156 c159 c160 c161) hZ (own_w48 hw) (own_w2 hw) (by decide) (by decide)) q163a q163c (g := (mkF m 35 #[.val (.ref a1), .val (.ref b103), .val (.ref b108), .val (.int (2 : Int32))] [(.int (2 : Int32)), (.ref a1), (.int (2 : Int32)), (.ref b103)])) rfl (by rw [hml]; rfl) (Steps.refl _) (argsL := [(.int (2 : Int32))]) (rest := [(.int (2 : Int32)), (.ref b103)]) (lenOf own_pd0 rfl) rfl (by show 2 * 0 + _ ≤ _; exact Nat.le_of_eq rfl) (hb hby own_d7_35) (fun _ _ => ⟨rfl, e158, (by decide : 2 + 0 ≤ _), (by decide : 16 + 0 ≤ _)⟩)
  dsimp only [Pt.U, Pt.locs, Pt.cells, Pt.slots] at X163 l163 y163 z163 st163 hQ163
  subst l163 y163 z163
  obtain ⟨rfl, N163q, e163⟩ := hQ163
  have N163 := Fr.app N156 N163q
  have c164 := (V143.other W156 ne_b103_b108)
  obtain ⟨cl165, Ar165, Aq165, As165, An165, Ah165, Ag165⟩ := id c164
  have hin165 : ¬ ((2 : Int32) < 0 ∨ cl165.slots.size ≤ ((2 : Int32)).toNatClampNeg) := inb_of As165 ⟨by decide, by decide⟩
  obtain ⟨T166, h166, X166, e166, W166, st166⟩ := stR X163 hx hZ e163 Ar165 (j := (2 : Int32)) hin165 rfl (Or.inl rfl) (g := (mkF m 38 #[.val (.ref a1), .val (.ref b103), .val (.ref b108), .val (.int (2 : Int32))] [.null, (.int (2 : Int32)), (.ref b103)])) rfl rfl (hb hby own_d7_38)
  have Z166 : n0 ≤ h166.size := Nat.le_trans Z156 (Nat.le_of_eq W166.size.symm)
  have N166 := Fr.snoc X166 N163 g_b103
  have V166 : Arv Z h166 b103 k103 (.object "java/nio/ByteBuffer") (8 : Int32) [.null, .null, .null, .null, .null, .null, .null, .null] .null := Arv.set Ar165 Aq165 As165 An165 Ah165 Ag165 rfl W166 2 rfl (Nat.le_of_ble_eq_true rfl)
  have c167 := ((c144.other W156 (Or.inl ne_a1_b108)).other W166 (Or.inl ne_a1_b103))
  obtain ⟨T168, X168, e168, st168⟩ := getF X166 hx hZ hown (host := "") (Or.inl (own_w14 hw)) Via.refl e166 c167 (g := (mkF m 42 #[.val (.ref a1), .val (.ref b103), .val (.ref b108), .val (.int (2 : Int32))] [(.ref a1), (.int (2 : Int32)), (.ref b108)])) rfl rfl (hb hby own_d7_42)
  have c169 := (c160.other W166 (Or.inl ne_a1_b103))
  obtain ⟨T170, X170, e170, st170⟩ := getF X168 hx hZ hown (host := "") (Or.inl (own_w23 hw)) Via.refl e168 c169 (g := (mkF m 46 #[.val (.ref a1), .val (.ref b103), .val (.ref b108), .val (.int (2 : Int32))] [(.ref a1), (.ref ti), (.int (2 : Int32)), (.ref b108)])) rfl rfl (hb hby own_d7_46)
  have c171 := (c159.other W166 (Or.inl ne_a1_b103))
  obtain ⟨T172, X172, e172, st172⟩ := getF X170 hx hZ hown (host := "") (Or.inl (own_w11 hw)) Via.refl e170 c171 (g := (mkF m 52 #[.val (.ref a1), .val (.ref b103), .val (.ref b108), .val (.int (2 : Int32))] [(.ref a1), (.int (2 : Int32)), (.ref ti), (.int (2 : Int32)), (.ref b108)])) rfl rfl (hb hby own_d7_52)
  have c173 := (c161.other W166 ne_fr_b103)
  obtain ⟨cl174, Ar174, Aq174, As174, An174, Ah174, Ag174⟩ := id c173
  have c175 := ((c152.other W156 ne_ti_b108).other W166 ne_ti_b103)
  obtain ⟨cl176, Ar176, Aq176, As176, An176, Ah176, Ag176⟩ := id c175
  have hin176 : ¬ ((2 : Int32) < 0 ∨ cl176.slots.size ≤ ((2 : Int32)).toNatClampNeg) := inb_of As176 ⟨by decide, by decide⟩
  have c177 := (V156.other W166 (Ne.symm ne_b103_b108))
  obtain ⟨cl178, Ar178, Aq178, As178, An178, Ah178, Ag178⟩ := id c177
  have hin178 : ¬ ((2 : Int32) < 0 ∨ cl178.slots.size ≤ ((2 : Int32)).toNatClampNeg) := inb_of As178 ⟨by decide, by decide⟩
  obtain ⟨T179, h179, X179, e179, W179, st179⟩ := stJ X172 hx hZ e172 Ar178 (j := (2 : Int32)) hin178 (g := (mkF m 58 #[.val (.ref a1), .val (.ref b103), .val (.ref b108), .val (.int (2 : Int32))] [(.long t2), (.int (2 : Int32)), (.ref b108)])) rfl rfl (hb hby own_d7_58)
  have Z179 : n0 ≤ h179.size := Nat.le_trans Z166 (Nat.le_of_eq W179.size.symm)
  have N179 := Fr.snoc X179 N166 g_b108
  have V179 : Arv Z h179 b108 k108 .long (8 : Int32) [(.long t0), (.long t1), (.long t2), (.long (0 : Int64)), (.long (0 : Int64)), (.long (0 : Int64)), (.long (0 : Int64)), (.long (0 : Int64))] (.long (0 : Int64)) := Arv.set Ar178 Aq178 As178 An178 Ah178 Ag178 rfl W179 2 rfl (Nat.le_of_ble_eq_true rfl)
  have c180 := ((c157.other W166 (Or.inl ne_a1_b103)).other W179 (Or.inl ne_a1_b108))
  obtain ⟨T181, X181, e181, st181⟩ := getF X179 hx hZ hown (host := "") (Or.inl (own_w21 hw)) Via.refl e179 c180 (g := (mkF m 25 #[.val (.ref a1), .val (.ref b103), .val (.ref b108), .val (.int (3 : Int32))] [(.ref a1), (.int (3 : Int32))])) rfl rfl (hb hby own_d7_25)
  have c182 := (c171.other W179 (Or.inl ne_a1_b108))
  have c183 := (c169.other W179 (Or.inl ne_a1_b108))
  have c184 := (c173.other W179 ne_fr_b108)
  have c185 := ((c162.wr W166).wr W179)
  obtain ⟨cq186, kq186, q186a, q186b, q186c⟩ := isOf hZ e181 c185
  obtain ⟨_, _, ⟨T186, L186, k186, n186⟩, -, X186, ⟨Lc186, hQ186, l186, y186, z186⟩, st186⟩ := X181.virtualBack hx (y := own_m1) (z := own_m1) hown (mvT hZ (own_w44 hw)) (mvT hZ (own_w45 hw)) (notFace_of_selects (args := #[]) (mvT hZ (own_w47 hw))) (mvT hZ (own_w47 hw)) (mvT hZ (own_w46 hw)) (by decide) (backOf (W := 2) (own_get3 l Z a0 hw [] a1 fr kf h179 n0 Z179 c182 c183 c184) hZ (own_w48 hw) (own_w2 hw) (by decide) (by decide)) q186a q186c (g := (mkF m 35 #[.val (.ref a1), .val (.ref b103), .val (.ref b108), .val (.int (3 : Int32))] [(.int (3 : Int32)), (.ref a1), (.int (3 : Int32)), (.ref b103)])) rfl (by rw [hml]; rfl) (Steps.refl _) (argsL := [(.int (3 : Int32))]) (rest := [(.int (3 : Int32)), (.ref b103)]) (lenOf own_pd0 rfl) rfl (by show 2 * 0 + _ ≤ _; exact Nat.le_of_eq rfl) (hb hby own_d7_35) (fun _ _ => ⟨rfl, e181, (by decide : 2 + 0 ≤ _), (by decide : 16 + 0 ≤ _)⟩)
  dsimp only [Pt.U, Pt.locs, Pt.cells, Pt.slots] at X186 l186 y186 z186 st186 hQ186
  subst l186 y186 z186
  obtain ⟨rfl, N186q, e186⟩ := hQ186
  have N186 := Fr.app N179 N186q
  have c187 := (V166.other W179 ne_b103_b108)
  obtain ⟨cl188, Ar188, Aq188, As188, An188, Ah188, Ag188⟩ := id c187
  have hin188 : ¬ ((3 : Int32) < 0 ∨ cl188.slots.size ≤ ((3 : Int32)).toNatClampNeg) := inb_of As188 ⟨by decide, by decide⟩
  obtain ⟨T189, h189, X189, e189, W189, st189⟩ := stR X186 hx hZ e186 Ar188 (j := (3 : Int32)) hin188 rfl (Or.inl rfl) (g := (mkF m 38 #[.val (.ref a1), .val (.ref b103), .val (.ref b108), .val (.int (3 : Int32))] [.null, (.int (3 : Int32)), (.ref b103)])) rfl rfl (hb hby own_d7_38)
  have Z189 : n0 ≤ h189.size := Nat.le_trans Z179 (Nat.le_of_eq W189.size.symm)
  have N189 := Fr.snoc X189 N186 g_b103
  have V189 : Arv Z h189 b103 k103 (.object "java/nio/ByteBuffer") (8 : Int32) [.null, .null, .null, .null, .null, .null, .null, .null] .null := Arv.set Ar188 Aq188 As188 An188 Ah188 Ag188 rfl W189 3 rfl (Nat.le_of_ble_eq_true rfl)
  have c190 := ((c167.other W179 (Or.inl ne_a1_b108)).other W189 (Or.inl ne_a1_b103))
  obtain ⟨T191, X191, e191, st191⟩ := getF X189 hx hZ hown (host := "") (Or.inl (own_w14 hw)) Via.refl e189 c190 (g := (mkF m 42 #[.val (.ref a1), .val (.ref b103), .val (.ref b108), .val (.int (3 : Int32))] [(.ref a1), (.int (3 : Int32)), (.ref b108)])) rfl rfl (hb hby own_d7_42)
  have c192 := (c183.other W189 (Or.inl ne_a1_b103))
  obtain ⟨T193, X193, e193, st193⟩ := getF X191 hx hZ hown (host := "") (Or.inl (own_w23 hw)) Via.refl e191 c192 (g := (mkF m 46 #[.val (.ref a1), .val (.ref b103), .val (.ref b108), .val (.int (3 : Int32))] [(.ref a1), (.ref ti), (.int (3 : Int32)), (.ref b108)])) rfl rfl (hb hby own_d7_46)
  have c194 := (c182.other W189 (Or.inl ne_a1_b103))
  obtain ⟨T195, X195, e195, st195⟩ := getF X193 hx hZ hown (host := "") (Or.inl (own_w11 hw)) Via.refl e193 c194 (g := (mkF m 52 #[.val (.ref a1), .val (.ref b103), .val (.ref b108), .val (.int (3 : Int32))] [(.ref a1), (.int (3 : Int32)), (.ref ti), (.int (3 : Int32)), (.ref b108)])) rfl rfl (hb hby own_d7_52)
  have c196 := (c184.other W189 ne_fr_b103)
  obtain ⟨cl197, Ar197, Aq197, As197, An197, Ah197, Ag197⟩ := id c196
  have c198 := ((c175.other W179 ne_ti_b108).other W189 ne_ti_b103)
  obtain ⟨cl199, Ar199, Aq199, As199, An199, Ah199, Ag199⟩ := id c198
  have hin199 : ¬ ((3 : Int32) < 0 ∨ cl199.slots.size ≤ ((3 : Int32)).toNatClampNeg) := inb_of As199 ⟨by decide, by decide⟩
  have c200 := (V179.other W189 (Ne.symm ne_b103_b108))
  obtain ⟨cl201, Ar201, Aq201, As201, An201, Ah201, Ag201⟩ := id c200
  have hin201 : ¬ ((3 : Int32) < 0 ∨ cl201.slots.size ≤ ((3 : Int32)).toNatClampNeg) := inb_of As201 ⟨by decide, by decide⟩
  obtain ⟨T202, h202, X202, e202, W202, st202⟩ := stJ X195 hx hZ e195 Ar201 (j := (3 : Int32)) hin201 (g := (mkF m 58 #[.val (.ref a1), .val (.ref b103), .val (.ref b108), .val (.int (3 : Int32))] [(.long t3), (.int (3 : Int32)), (.ref b108)])) rfl rfl (hb hby own_d7_58)
  have Z202 : n0 ≤ h202.size := Nat.le_trans Z189 (Nat.le_of_eq W202.size.symm)
  have N202 := Fr.snoc X202 N189 g_b108
  have V202 : Arv Z h202 b108 k108 .long (8 : Int32) [(.long t0), (.long t1), (.long t2), (.long t3), (.long (0 : Int64)), (.long (0 : Int64)), (.long (0 : Int64)), (.long (0 : Int64))] (.long (0 : Int64)) := Arv.set Ar201 Aq201 As201 An201 Ah201 Ag201 rfl W202 3 rfl (Nat.le_of_ble_eq_true rfl)
  have c203 := ((c180.other W189 (Or.inl ne_a1_b103)).other W202 (Or.inl ne_a1_b108))
  obtain ⟨T204, X204, e204, st204⟩ := getF X202 hx hZ hown (host := "") (Or.inl (own_w21 hw)) Via.refl e202 c203 (g := (mkF m 25 #[.val (.ref a1), .val (.ref b103), .val (.ref b108), .val (.int (4 : Int32))] [(.ref a1), (.int (4 : Int32))])) rfl rfl (hb hby own_d7_25)
  have c205 := ((c185.wr W189).wr W202)
  have c206 := (c194.other W202 (Or.inl ne_a1_b108))
  obtain ⟨T207, h207, X207, e207, W207, st207⟩ := putF X204 hx hZ hown (host := "") (Or.inl (own_w11 hw)) Via.refl e204 c206 c205 (Or.inl (own_w12 hw)) (own_w1 hw) (ty := (.array (.object "java/nio/ByteBuffer"))) (by decide) rfl rfl (g := (mkF m 67 #[.val (.ref a1), .val (.ref b103), .val (.ref b108), .val (.int (4 : Int32))] [(.ref b103), (.ref a1)])) rfl rfl (hb hby own_d7_67)
  have Z207 : n0 ≤ h207.size := Nat.le_trans Z202 (Nat.le_of_eq W207.size.symm)
  have N207 := Fr.snoc X207 N202 g1
  have Fw207 := c206.same W207
  have c208 := (c205.wr W207)
  have c209 := ((c190.other W202 (Or.inl ne_a1_b108)).other W207 (Or.inr (slot_ne (Or.inl (own_w15 hw)) (Or.inl (own_w12 hw)) (by decide) (t := (.array .long)) (t' := (.array (.object "java/nio/ByteBuffer"))) (by decide) (by decide))))
  obtain ⟨T210, h210, X210, e210, W210, st210⟩ := putF X207 hx hZ hown (host := "") (Or.inl (own_w14 hw)) Via.refl e207 c209 c208 (Or.inl (own_w15 hw)) (own_w1 hw) (ty := (.array .long)) (by decide) rfl rfl (g := (mkF m 72 #[.val (.ref a1), .val (.ref b103), .val (.ref b108), .val (.int (4 : Int32))] [(.ref b108), (.ref a1)])) rfl rfl (hb hby own_d7_72)
  have Z210 : n0 ≤ h210.size := Nat.le_trans Z207 (Nat.le_of_eq W210.size.symm)
  have N210 := Fr.snoc X210 N207 g1
  have Fw210 := c209.same W210
  have c211 := (c208.wr W210)
  have c212 := (((c192.other W202 (Or.inl ne_a1_b108)).other W207 (Or.inr (slot_ne (Or.inl (own_w24 hw)) (Or.inl (own_w12 hw)) (by decide) (t := .int) (t' := (.array (.object "java/nio/ByteBuffer"))) (by decide) (by decide)))).other W210 (Or.inr (slot_ne (Or.inl (own_w24 hw)) (Or.inl (own_w15 hw)) (by decide) (t := .int) (t' := (.array .long)) (by decide) (by decide))))
  obtain ⟨T213, h213, X213, e213, W213, st213⟩ := putF X210 hx hZ hown (host := "") (Or.inl (own_w23 hw)) Via.refl e210 c212 c211 (Or.inl (own_w24 hw)) (own_w1 hw) (ty := .int) (by decide) rfl rfl (g := (mkF m 77 #[.val (.ref a1), .val (.ref b103), .val (.ref b108), .val (.int (4 : Int32))] [(.int (0 : Int32)), (.ref a1)])) rfl rfl (hb hby own_d7_77)
  have Z213 : n0 ≤ h213.size := Nat.le_trans Z210 (Nat.le_of_eq W213.size.symm)
  have N213 := Fr.snoc X213 N210 g1
  have Fw213 := c212.same W213
  have c214 := (c211.wr W213)
  have c215 := ((Fw207.other W210 (Or.inr (slot_ne (Or.inl (own_w12 hw)) (Or.inl (own_w15 hw)) (by decide) (t := (.array (.object "java/nio/ByteBuffer"))) (t' := (.array .long)) (by decide) (by decide)))).other W213 (Or.inr (slot_ne (Or.inl (own_w12 hw)) (Or.inl (own_w24 hw)) (by decide) (t := (.array (.object "java/nio/ByteBuffer"))) (t' := .int) (by decide) (by decide))))
  have c216 := (Fw210.other W213 (Or.inr (slot_ne (Or.inl (own_w15 hw)) (Or.inl (own_w24 hw)) (by decide) (t := (.array .long)) (t' := .int) (by decide) (by decide))))
  have c217 := (((c203.other W207 (Or.inr (slot_ne (Or.inl (own_w22 hw)) (Or.inl (own_w12 hw)) (by decide) (t := .int) (t' := (.array (.object "java/nio/ByteBuffer"))) (by decide) (by decide)))).other W210 (Or.inr (slot_ne (Or.inl (own_w22 hw)) (Or.inl (own_w15 hw)) (by decide) (t := .int) (t' := (.array .long)) (by decide) (by decide)))).other W213 (Or.inr (slot_ne (Or.inl (own_w22 hw)) (Or.inl (own_w24 hw)) (by decide) (t := .int) (t' := .int) (by decide) (by decide))))
  have c218 := ((((V189.other W202 ne_b103_b108).other W207 (Ne.symm ne_a1_b103)).other W210 (Ne.symm ne_a1_b103)).other W213 (Ne.symm ne_a1_b103))
  have c219 := (((V202.other W207 (Ne.symm ne_a1_b108)).other W210 (Ne.symm ne_a1_b108)).other W213 (Ne.symm ne_a1_b108))
  obtain ⟨fs, hr, hrun, hended, hW, hsame⟩ := X213.leave (v := none) (fun _ => rfl)
  refine ⟨_, _, pre0 _ ?_, hrun, hended, _, _, rfl, ?_, ⟨_, rfl⟩, hW, hsame.mono (by decide) (by decide)⟩
  · show Steps _ _ _ (s₁.setTop (mkF m 0 #[.val (.ref a1), .unset, .unset, .unset] [])) _
    refine XS.iconst X0.here hx rfl (hb hby own_d7_0) ?_
    refine XS.aloadN X0.here hx rfl (hb hby own_d7_1) rfl rfl ?_
    refine st101 _ ?_
    refine X101.arraylength hx (by rw [e101]; exact Ar102.1) (State.isArrayOf_alike hZ.alike Ar102.2.1) (g := (mkF m 5 #[.val (.ref a1), .unset, .unset, .unset] [(.ref fr), (.int (2 : Int32))])) rfl rfl (hb hby own_d7_5) _ ?_
    rw [len_of As102 An102]
    show Steps _ _ _ (T101.setTop (mkF m 6 #[.val (.ref a1), .unset, .unset, .unset] [(.int (4 : Int32)), (.int (2 : Int32))])) _
    refine XS.imul X101.here hx rfl (hb hby own_d7_6) rfl ?_
    refine st103 _ ?_
    refine XS.astoreN X103.here hx rfl (hb hby own_d7_10) rfl rfl (l' := #[.val (.ref a1), .val (.ref b103), .unset, .unset]) rfl ?_
    refine XS.iconst X103.here hx rfl (hb hby own_d7_11) ?_
    show Steps _ _ _ (T103.setTop (mkF m 12 #[.val (.ref a1), .val (.ref b103), .unset, .unset] [(.int (2 : Int32))])) _
    refine XS.aloadN X103.here hx rfl (hb hby own_d7_12) rfl rfl ?_
    refine st105 _ ?_
    refine X105.arraylength hx (by rw [e105]; exact Ar107.1) (State.isArrayOf_alike hZ.alike Ar107.2.1) (g := (mkF m 16 #[.val (.ref a1), .val (.ref b103), .unset, .unset] [(.ref fr), (.int (2 : Int32))])) rfl rfl (hb hby own_d7_16) _ ?_
    rw [len_of As107 An107]
    refine XS.imul X105.here hx rfl (hb hby own_d7_17) rfl ?_
    show Steps _ _ _ (T105.setTop (mkF m 18 #[.val (.ref a1), .val (.ref b103), .unset, .unset] [(.int (8 : Int32))])) _
    refine st108 _ ?_
    refine XS.astoreN X108.here hx rfl (hb hby own_d7_20) rfl rfl (l' := #[.val (.ref a1), .val (.ref b103), .val (.ref b108), .unset]) rfl ?_
    refine XS.iconst X108.here hx rfl (hb hby own_d7_21) ?_
    refine XS.istoreN X108.here hx rfl (hb hby own_d7_22) rfl (l' := #[.val (.ref a1), .val (.ref b103), .val (.ref b108), .val (.int (0 : Int32))]) rfl ?_
    show Steps _ _ _ (T108.setTop (mkF m 23 #[.val (.ref a1), .val (.ref b103), .val (.ref b108), .val (.int (0 : Int32))] [])) _
    refine XS.iloadN X108.here hx rfl (hb hby own_d7_23) rfl ?_
    refine XS.aloadN X108.here hx rfl (hb hby own_d7_24) rfl rfl ?_
    refine st112 _ ?_
    refine XS.icmpNo X112.here hx rfl (hb hby own_d7_28) rfl (tlt (by decide : (0 : Int32) < (4 : Int32))).2.1 ?_
    show Steps _ _ _ (T112.setTop (mkF m 31 #[.val (.ref a1), .val (.ref b103), .val (.ref b108), .val (.int (0 : Int32))] [])) _
    refine XS.aloadN X112.here hx rfl (hb hby own_d7_31) rfl rfl ?_
    refine XS.iloadN X112.here hx rfl (hb hby own_d7_32) rfl ?_
    refine XS.aloadN X112.here hx rfl (hb hby own_d7_33) rfl rfl ?_
    refine XS.iloadN X112.here hx rfl (hb hby own_d7_34) rfl ?_
    show Steps _ _ _ (T112.setTop (mkF m 35 #[.val (.ref a1), .val (.ref b103), .val (.ref b108), .val (.int (0 : Int32))] [(.int (0 : Int32)), (.ref a1), (.int (0 : Int32)), (.ref b103)])) _
    refine st117.trans ?_
    refine st120 _ ?_
    refine XS.aloadN X120.here hx rfl (hb hby own_d7_39) rfl rfl ?_
    refine XS.iloadN X120.here hx rfl (hb hby own_d7_40) rfl ?_
    show Steps _ _ _ (T120.setTop (mkF m 41 #[.val (.ref a1), .val (.ref b103), .val (.ref b108), .val (.int (0 : Int32))] [(.int (0 : Int32)), (.ref b108)])) _
    refine XS.aloadN X120.here hx rfl (hb hby own_d7_41) rfl rfl ?_
    refine st122 _ ?_
    refine XS.aloadN X122.here hx rfl (hb hby own_d7_45) rfl rfl ?_
    refine st124 _ ?_
    show Steps _ _ _ (T124.setTop (mkF m 49 #[.val (.ref a1), .val (.ref b103), .val (.ref b108), .val (.int (0 : Int32))] [(.int (0 : Int32)), (.ref ti), (.int (0 : Int32)), (.ref b108)])) _
    refine XS.iloadN X124.here hx rfl (hb hby own_d7_49) rfl ?_
    refine XS.iadd X124.here hx rfl (hb hby own_d7_50) rfl ?_
    refine XS.aloadN X124.here hx rfl (hb hby own_d7_51) rfl rfl ?_
    refine st126 _ ?_
    show Steps _ _ _ (T126.setTop (mkF m 55 #[.val (.ref a1), .val (.ref b103), .val (.ref b108), .val (.int (0 : Int32))] [(.ref fr), (.int (0 : Int32)), (.ref ti), (.int (0 : Int32)), (.ref b108)])) _
    refine X126.arraylength hx (by rw [e126]; exact Ar128.1) (State.isArrayOf_alike hZ.alike Ar128.2.1) (g := (mkF m 55 #[.val (.ref a1), .val (.ref b103), .val (.ref b108), .val (.int (0 : Int32))] [(.ref fr), (.int (0 : Int32)), (.ref ti), (.int (0 : Int32)), (.ref b108)])) rfl rfl (hb hby own_d7_55) _ ?_
    rw [len_of As128 An128]
    refine iremM X126 hx rfl (hb hby own_d7_56) rfl (by decide) ?_
    refine X126.laload hx (j := (0 : Int32)) (v := (.long t0)) (by rw [e126]; exact Ar130.1) (State.isArrayOf_alike hZ.alike Ar130.2.1) Ar130.2.2 hin130 (Ah130.at hin130 rfl) (g := (mkF m 57 #[.val (.ref a1), .val (.ref b103), .val (.ref b108), .val (.int (0 : Int32))] [(.int (0 : Int32)), (.ref ti), (.int (0 : Int32)), (.ref b108)])) rfl rfl (hb hby own_d7_57) _ ?_
    refine st133 _ ?_
    show Steps _ _ _ (T133.setTop (mkF m 59 #[.val (.ref a1), .val (.ref b103), .val (.ref b108), .val (.int (0 : Int32))] [])) _
    refine XS.iinc X133.here hx rfl (hb hby own_d7_59) rfl (l' := #[.val (.ref a1), .val (.ref b103), .val (.ref b108), .val (.int (1 : Int32))]) rfl ?_
    refine XS.goto X133.here hx rfl (pc0 := 62) (pc' := 23) rfl (hb hby own_d7_62) (by decide) (by decide) ?_
    refine XS.iloadN X133.here hx rfl (hb hby own_d7_23) rfl ?_
    refine XS.aloadN X133.here hx rfl (hb hby own_d7_24) rfl rfl ?_
    show Steps _ _ _ (T133.setTop (mkF m 25 #[.val (.ref a1), .val (.ref b103), .val (.ref b108), .val (.int (1 : Int32))] [(.ref a1), (.int (1 : Int32))])) _
    refine st135 _ ?_
    refine XS.icmpNo X135.here hx rfl (hb hby own_d7_28) rfl (tlt (by decide : (1 : Int32) < (4 : Int32))).2.1 ?_
    refine XS.aloadN X135.here hx rfl (hb hby own_d7_31) rfl rfl ?_
    refine XS.iloadN X135.here hx rfl (hb hby own_d7_32) rfl ?_
    show Steps _ _ _ (T135.setTop (mkF m 33 #[.val (.ref a1), .val (.ref b103), .val (.ref b108), .val (.int (1 : Int32))] [(.int (1 : Int32)), (.ref b103)])) _
    refine XS.aloadN X135.here hx rfl (hb hby own_d7_33) rfl rfl ?_
    refine XS.iloadN X135.here hx rfl (hb hby own_d7_34) rfl ?_
    refine st140.trans ?_
    refine st143 _ ?_
    show Steps _ _ _ (T143.setTop (mkF m 39 #[.val (.ref a1), .val (.ref b103), .val (.ref b108), .val (.int (1 : Int32))] [])) _
    refine XS.aloadN X143.here hx rfl (hb hby own_d7_39) rfl rfl ?_
    refine XS.iloadN X143.here hx rfl (hb hby own_d7_40) rfl ?_
    refine XS.aloadN X143.here hx rfl (hb hby own_d7_41) rfl rfl ?_
    refine st145 _ ?_
    show Steps _ _ _ (T145.setTop (mkF m 45 #[.val (.ref a1), .val (.ref b103), .val (.ref b108), .val (.int (1 : Int32))] [(.ref ti), (.int (1 : Int32)), (.ref b108)])) _
    refine XS.aloadN X145.here hx rfl (hb hby own_d7_45) rfl rfl ?_
    refine st147 _ ?_
    refine XS.iloadN X147.here hx rfl (hb hby own_d7_49) rfl ?_
    refine XS.iadd X147.here hx rfl (hb hby own_d7_50) rfl ?_
    show Steps _ _ _ (T147.setTop (mkF m 51 #[.val (.ref a1), .val (.ref b103), .val (.ref b108), .val (.int (1 : Int32))] [(.int (1 : Int32)), (.ref ti), (.int (1 : Int32)), (.ref b108)])) _
    refine XS.aloadN X147.here hx rfl (hb hby own_d7_51) rfl rfl ?_
    refine st149 _ ?_
    refine X149.arraylength hx (by rw [e149]; exact Ar151.1) (State.isArrayOf_alike hZ.alike Ar151.2.1) (g := (mkF m 55 #[.val (.ref a1), .val (.ref b103), .val (.ref b108), .val (.int (1 : Int32))] [(.ref fr), (.int (1 : Int32)), (.ref ti), (.int (1 : Int32)), (.ref b108)])) rfl rfl (hb hby own_d7_55) _ ?_
    rw [len_of As151 An151]
    refine iremM X149 hx rfl (hb hby own_d7_56) rfl (by decide) ?_
    show Steps _ _ _ (T149.setTop (mkF m 57 #[.val (.ref a1), .val (.ref b103), .val (.ref b108), .val (.int (1 : Int32))] [(.int (1 : Int32)), (.ref ti), (.int (1 : Int32)), (.ref b108)])) _
    refine X149.laload hx (j := (1 : Int32)) (v := (.long t1)) (by rw [e149]; exact Ar153.1) (State.isArrayOf_alike hZ.alike Ar153.2.1) Ar153.2.2 hin153 (Ah153.at hin153 rfl) (g := (mkF m 57 #[.val (.ref a1), .val (.ref b103), .val (.ref b108), .val (.int (1 : Int32))] [(.int (1 : Int32)), (.ref ti), (.int (1 : Int32)), (.ref b108)])) rfl rfl (hb hby own_d7_57) _ ?_
    refine st156 _ ?_
    refine XS.iinc X156.here hx rfl (hb hby own_d7_59) rfl (l' := #[.val (.ref a1), .val (.ref b103), .val (.ref b108), .val (.int (2 : Int32))]) rfl ?_
    refine XS.goto X156.here hx rfl (pc0 := 62) (pc' := 23) rfl (hb hby own_d7_62) (by decide) (by decide) ?_
    show Steps _ _ _ (T156.setTop (mkF m 23 #[.val (.ref a1), .val (.ref b103), .val (.ref b108), .val (.int (2 : Int32))] [])) _
    refine XS.iloadN X156.here hx rfl (hb hby own_d7_23) rfl ?_
    refine XS.aloadN X156.here hx rfl (hb hby own_d7_24) rfl rfl ?_
    refine st158 _ ?_
    refine XS.icmpNo X158.here hx rfl (hb hby own_d7_28) rfl (tlt (by decide : (2 : Int32) < (4 : Int32))).2.1 ?_
    show Steps _ _ _ (T158.setTop (mkF m 31 #[.val (.ref a1), .val (.ref b103), .val (.ref b108), .val (.int (2 : Int32))] [])) _
    refine XS.aloadN X158.here hx rfl (hb hby own_d7_31) rfl rfl ?_
    refine XS.iloadN X158.here hx rfl (hb hby own_d7_32) rfl ?_
    refine XS.aloadN X158.here hx rfl (hb hby own_d7_33) rfl rfl ?_
    refine XS.iloadN X158.here hx rfl (hb hby own_d7_34) rfl ?_
    show Steps _ _ _ (T158.setTop (mkF m 35 #[.val (.ref a1), .val (.ref b103), .val (.ref b108), .val (.int (2 : Int32))] [(.int (2 : Int32)), (.ref a1), (.int (2 : Int32)), (.ref b103)])) _
    refine st163.trans ?_
    refine st166 _ ?_
    refine XS.aloadN X166.here hx rfl (hb hby own_d7_39) rfl rfl ?_
    refine XS.iloadN X166.here hx rfl (hb hby own_d7_40) rfl ?_
    show Steps _ _ _ (T166.setTop (mkF m 41 #[.val (.ref a1), .val (.ref b103), .val (.ref b108), .val (.int (2 : Int32))] [(.int (2 : Int32)), (.ref b108)])) _
    refine XS.aloadN X166.here hx rfl (hb hby own_d7_41) rfl rfl ?_
    refine st168 _ ?_
    refine XS.aloadN X168.here hx rfl (hb hby own_d7_45) rfl rfl ?_
    refine st170 _ ?_
    show Steps _ _ _ (T170.setTop (mkF m 49 #[.val (.ref a1), .val (.ref b103), .val (.ref b108), .val (.int (2 : Int32))] [(.int (0 : Int32)), (.ref ti), (.int (2 : Int32)), (.ref b108)])) _
    refine XS.iloadN X170.here hx rfl (hb hby own_d7_49) rfl ?_
    refine XS.iadd X170.here hx rfl (hb hby own_d7_50) rfl ?_
    refine XS.aloadN X170.here hx rfl (hb hby own_d7_51) rfl rfl ?_
    refine st172 _ ?_
    show Steps _ _ _ (T172.setTop (mkF m 55 #[.val (.ref a1), .val (.ref b103), .val (.ref b108), .val (.int (2 : Int32))] [(.ref fr), (.int (2 : Int32)), (.ref ti), (.int (2 : Int32)), (.ref b108)])) _
    refine X172.arraylength hx (by rw [e172]; exact Ar174.1) (State.isArrayOf_alike hZ.alike Ar174.2.1) (g := (mkF m 55 #[.val (.ref a1), .val (.ref b103), .val (.ref b108), .val (.int (2 : Int32))] [(.ref fr), (.int (2 : Int32)), (.ref ti), (.int (2 : Int32)), (.ref b108)])) rfl rfl (hb hby own_d7_55) _ ?_
    rw [len_of As174 An174]
    refine iremM X172 hx rfl (hb hby own_d7_56) rfl (by decide) ?_
    refine X172.laload hx (j := (2 : Int32)) (v := (.long t2)) (by rw [e172]; exact Ar176.1) (State.isArrayOf_alike hZ.alike Ar176.2.1) Ar176.2.2 hin176 (Ah176.at hin176 rfl) (g := (mkF m 57 #[.val (.ref a1), .val (.ref b103), .val (.ref b108), .val (.int (2 : Int32))] [(.int (2 : Int32)), (.ref ti), (.int (2 : Int32)), (.ref b108)])) rfl rfl (hb hby own_d7_57) _ ?_
    refine st179 _ ?_
    show Steps _ _ _ (T179.setTop (mkF m 59 #[.val (.ref a1), .val (.ref b103), .val (.ref b108), .val (.int (2 : Int32))] [])) _
    refine XS.iinc X179.here hx rfl (hb hby own_d7_59) rfl (l' := #[.val (.ref a1), .val (.ref b103), .val (.ref b108), .val (.int (3 : Int32))]) rfl ?_
    refine XS.goto X179.here hx rfl (pc0 := 62) (pc' := 23) rfl (hb hby own_d7_62) (by decide) (by decide) ?_
    refine XS.iloadN X179.here hx rfl (hb hby own_d7_23) rfl ?_
    refine XS.aloadN X179.here hx rfl (hb hby own_d7_24) rfl rfl ?_
    show Steps _ _ _ (T179.setTop (mkF m 25 #[.val (.ref a1), .val (.ref b103), .val (.ref b108), .val (.int (3 : Int32))] [(.ref a1), (.int (3 : Int32))])) _
    refine st181 _ ?_
    refine XS.icmpNo X181.here hx rfl (hb hby own_d7_28) rfl (tlt (by decide : (3 : Int32) < (4 : Int32))).2.1 ?_
    refine XS.aloadN X181.here hx rfl (hb hby own_d7_31) rfl rfl ?_
    refine XS.iloadN X181.here hx rfl (hb hby own_d7_32) rfl ?_
    show Steps _ _ _ (T181.setTop (mkF m 33 #[.val (.ref a1), .val (.ref b103), .val (.ref b108), .val (.int (3 : Int32))] [(.int (3 : Int32)), (.ref b103)])) _
    refine XS.aloadN X181.here hx rfl (hb hby own_d7_33) rfl rfl ?_
    refine XS.iloadN X181.here hx rfl (hb hby own_d7_34) rfl ?_
    refine st186.trans ?_
    refine st189 _ ?_
    show Steps _ _ _ (T189.setTop (mkF m 39 #[.val (.ref a1), .val (.ref b103), .val (.ref b108), .val (.int (3 : Int32))] [])) _
    refine XS.aloadN X189.here hx rfl (hb hby own_d7_39) rfl rfl ?_
    refine XS.iloadN X189.here hx rfl (hb hby own_d7_40) rfl ?_
    refine XS.aloadN X189.here hx rfl (hb hby own_d7_41) rfl rfl ?_
    refine st191 _ ?_
    show Steps _ _ _ (T191.setTop (mkF m 45 #[.val (.ref a1), .val (.ref b103), .val (.ref b108), .val (.int (3 : Int32))] [(.ref ti), (.int (3 : Int32)), (.ref b108)])) _
    refine XS.aloadN X191.here hx rfl (hb hby own_d7_45) rfl rfl ?_
    refine st193 _ ?_
    refine XS.iloadN X193.here hx rfl (hb hby own_d7_49) rfl ?_
    refine XS.iadd X193.here hx rfl (hb hby own_d7_50) rfl ?_
    show Steps _ _ _ (T193.setTop (mkF m 51 #[.val (.ref a1), .val (.ref b103), .val (.ref b108), .val (.int (3 : Int32))] [(.int (3 : Int32)), (.ref ti), (.int (3 : Int32)), (.ref b108)])) _
    refine XS.aloadN X193.here hx rfl (hb hby own_d7_51) rfl rfl ?_
    refine st195 _ ?_
    refine X195.arraylength hx (by rw [e195]; exact Ar197.1) (State.isArrayOf_alike hZ.alike Ar197.2.1) (g := (mkF m 55 #[.val (.ref a1), .val (.ref b103), .val (.ref b108), .val (.int (3 : Int32))] [(.ref fr), (.int (3 : Int32)), (.ref ti), (.int (3 : Int32)), (.ref b108)])) rfl rfl (hb hby own_d7_55) _ ?_
    rw [len_of As197 An197]
    refine iremM X195 hx rfl (hb hby own_d7_56) rfl (by decide) ?_
    show Steps _ _ _ (T195.setTop (mkF m 57 #[.val (.ref a1), .val (.ref b103), .val (.ref b108), .val (.int (3 : Int32))] [(.int (3 : Int32)), (.ref ti), (.int (3 : Int32)), (.ref b108)])) _
    refine X195.laload hx (j := (3 : Int32)) (v := (.long t3)) (by rw [e195]; exact Ar199.1) (State.isArrayOf_alike hZ.alike Ar199.2.1) Ar199.2.2 hin199 (Ah199.at hin199 rfl) (g := (mkF m 57 #[.val (.ref a1), .val (.ref b103), .val (.ref b108), .val (.int (3 : Int32))] [(.int (3 : Int32)), (.ref ti), (.int (3 : Int32)), (.ref b108)])) rfl rfl (hb hby own_d7_57) _ ?_
    refine st202 _ ?_
    refine XS.iinc X202.here hx rfl (hb hby own_d7_59) rfl (l' := #[.val (.ref a1), .val (.ref b103), .val (.ref b108), .val (.int (4 : Int32))]) rfl ?_
    refine XS.goto X202.here hx rfl (pc0 := 62) (pc' := 23) rfl (hb hby own_d7_62) (by decide) (by decide) ?_
    show Steps _ _ _ (T202.setTop (mkF m 23 #[.val (.ref a1), .val (.ref b103), .val (.ref b108), .val (.int (4 : Int32))] [])) _
    refine XS.iloadN X202.here hx rfl (hb hby own_d7_23) rfl ?_
    refine XS.aloadN X202.here hx rfl (hb hby own_d7_24) rfl rfl ?_
    refine st204 _ ?_
    refine XS.icmpYes X204.here hx rfl (pc0 := 28) (pc' := 65) rfl (hb hby own_d7_28) rfl (flt (by decide : ¬ ((4 : Int32) < (4 : Int32)))).2.1 (by decide) (by decide) ?_
    show Steps _ _ _ (T204.setTop (mkF m 65 #[.val (.ref a1), .val (.ref b103), .val (.ref b108), .val (.int (4 : Int32))] [])) _
    refine XS.aloadN X204.here hx rfl (hb hby own_d7_65) rfl rfl ?_
    refine XS.aloadN X204.here hx rfl (hb hby own_d7_66) rfl rfl ?_
    refine st207 _ ?_
    refine XS.aloadN X207.here hx rfl (hb hby own_d7_70) rfl rfl ?_
    show Steps _ _ _ (T207.setTop (mkF m 71 #[.val (.ref a1), .val (.ref b103), .val (.ref b108), .val (.int (4 : Int32))] [(.ref a1)])) _
    refine XS.aloadN X207.here hx rfl (hb hby own_d7_71) rfl rfl ?_
    refine st210 _ ?_
    refine XS.aloadN X210.here hx rfl (hb hby own_d7_75) rfl rfl ?_
    refine XS.iconst X210.here hx rfl (hb hby own_d7_76) ?_
    show Steps _ _ _ (T210.setTop (mkF m 77 #[.val (.ref a1), .val (.ref b103), .val (.ref b108), .val (.int (4 : Int32))] [(.int (0 : Int32)), (.ref a1)])) _
    refine st213 _ ?_
    show Steps _ _ _ (T213.setTop (mkF m 80 #[.val (.ref a1), .val (.ref b103), .val (.ref b108), .val (.int (4 : Int32))] [])) _
    exact X213.returnOut hx Bd.returns (hb hby own_d7_80) hr
  · show Qown_grow Z a1 fr ti kf kt t0 t1 t2 t3 h0 n0 _ T213.heap _
    rw [e213]
    exact ⟨rfl, N213, b103, b108, k103, k108, ⟨Z213, g_b103, g_b108, c214, c215, c216, c217, Fw213, c218, c219, ne_a1_b103, ne_a1_b108, ne_b103_b108⟩⟩
def Qown_add00 (Z : State) (a1 fr ti : Addr) (kf kt : ClassId) (t0 t1 t2 t3 : Int64) (q1 : Int64) (h0 : Heap) (n0 : Nat) (v : Option Value) (h : Heap) (L : List Loc) : Prop := v = none ∧ Fr n0 L ∧ ∃ (fr ti : Addr) (kf kt : ClassId), own_St Z n0 h a1 fr ti kf kt (4 : Int32) [.null, .null, .null, .null] [(.long q1), (.long t1), (.long t2), (.long t3)] (1 : Int32) (0 : Int32)
set_option maxRecDepth 65536 in
set_option maxHeartbeats 40000000 in
theorem own_add00 (l : Launch) (Z : State) (a0 : Array Value) (hw : ∀ d ∈ tables_1, d.before a0 Z = true) (ws : List Jvm.Cond) (a1 fr ti : Addr) (kf kt : ClassId) (t0 t1 t2 t3 : Int64) (q1 : Int64) (h0 : Heap) (n0 : Nat) (Z0 : n0 ≤ h0.size) (g1 : n0 ≤ a1) (H : own_St Z n0 h0 a1 fr ti kf kt (4 : Int32) [.null, .null, .null, .null] [(.long t0), (.long t1), (.long t2), (.long t3)] (0 : Int32) (0 : Int32)) :
    MetFree l own_m3 (head1 (Jvm.Cond.code own_m3 prog_10_method_2_code 5 none :: ws) ({ frames := 0, cells := 0, slots := 0, locals := 0 } : Room)) (fun a U => a = #[(.ref a1), .null, (.long q1)] ∧ Z.Warmed39 U.vm ∧ U.heap = h0) (fun _ _ _ _ _ => True) (fun _ U o U' => ∃ v L, o = .returned v ∧ Qown_add00 Z a1 fr ti kf kt t0 t1 t2 t3 q1 h0 n0 v U'.heap L ∧ FrameEnd U o U' L ({ frames := 0, cells := 0, slots := 0, locals := 0 } : Room).cells ({ frames := 0, cells := 0, slots := 0, locals := 0 } : Room).slots) := by
  refine MetFree.of_bodySF (plainFor_of_name own_pn0) hisR ?_
  intro p e s m args below meth c s₁ Bd hml0 hP hK
  obtain ⟨rfl, hZ, hh⟩ := hP
  have hx := Bd.exec
  have hby := Bd.bytes
  have hml : c.maxLocals = 5 := hml0
  have hown : s.vm.findClass "com/example/don_valley/donvalley/broker/QueuedFrames" = some m.cls := by have q := findClass_of_methodNamed Bd.named; exact q
  have hnm := (name_of_methodNamed Bd.named Bd.method).1
  have X0 : Stand p l e ({ frames := 0, cells := 0, slots := 0, locals := 0 } : Room) s m #[(.ref a1), .null, (.long q1)] below meth c s₁ [] 0 0 := Stand.of_body Bd
  have e0 : s₁.heap = h0 := by rw [← hh, Bd.state]; rfl
  have N0 := Fr.nil n0
  have pre0 : ∀ t, Steps p.tables e below (s₁.setTop (mkF m 0 #[.val (.ref a1), .val .null, .val (.long q1), .second, .unset] [])) t → Steps p.tables e below (s₁.setTop (entryFrame m #[(.ref a1), .null, (.long q1)] 5)) t := fun t k => castTop (by first | (simp [entryFrame, mkF, argsToLocals, Value.category, maxLocals]; done) | rfl) k
  obtain ⟨hZ1, g2, g3, E1, Ff, Ft, Fs, F1, Vf, Vt, n1, n2, n3⟩ := H
  obtain ⟨T101, X101, e101, st101⟩ := getF X0 hx hZ hown (host := "") (Or.inl (own_w21 hw)) Via.refl e0 Fs (g := (mkF m 1 #[.val (.ref a1), .val .null, .val (.long q1), .second, .unset] [(.ref a1)])) rfl rfl (hb hby own_d3_1)
  obtain ⟨T102, X102, e102, st102⟩ := getF X101 hx hZ hown (host := "") (Or.inl (own_w11 hw)) Via.refl e101 Ff (g := (mkF m 5 #[.val (.ref a1), .val .null, .val (.long q1), .second, .unset] [(.ref a1), (.int (0 : Int32))])) rfl rfl (hb hby own_d3_5)
  obtain ⟨cl103, Ar103, Aq103, As103, An103, Ah103, Ag103⟩ := id Vf
  obtain ⟨T104, X104, e104, st104⟩ := getF X102 hx hZ hown (host := "") (Or.inl (own_w23 hw)) Via.refl e102 F1 (g := (mkF m 17 #[.val (.ref a1), .val .null, .val (.long q1), .second, .unset] [(.ref a1)])) rfl rfl (hb hby own_d3_17)
  obtain ⟨T105, X105, e105, st105⟩ := getF X104 hx hZ hown (host := "") (Or.inl (own_w21 hw)) Via.refl e104 Fs (g := (mkF m 22 #[.val (.ref a1), .val .null, .val (.long q1), .second, .unset] [(.ref a1), (.ref a1), (.int (0 : Int32))])) rfl rfl (hb hby own_d3_22)
  obtain ⟨T106, h106, X106, e106, W106, st106⟩ := putF X105 hx hZ hown (host := "") (Or.inl (own_w21 hw)) Via.refl e105 Fs E1 (Or.inl (own_w22 hw)) (own_w1 hw) (ty := .int) (by decide) rfl rfl (g := (mkF m 28 #[.val (.ref a1), .val .null, .val (.long q1), .second, .unset] [(.int (1 : Int32)), (.ref a1), (.int (0 : Int32)), (.int (0 : Int32))])) rfl rfl (hb hby own_d3_28)
  have Z106 : n0 ≤ h106.size := Nat.le_trans hZ1 (Nat.le_of_eq W106.size.symm)
  have N106 := Fr.snoc X106 N0 g1
  have Fw106 := Fs.same W106
  have c107 := (Ff.other W106 (Or.inr (slot_ne (Or.inl (own_w12 hw)) (Or.inl (own_w22 hw)) (by decide) (t := (.array (.object "java/nio/ByteBuffer"))) (t' := .int) (by decide) (by decide))))
  obtain ⟨T108, X108, e108, st108⟩ := getF X106 hx hZ hown (host := "") (Or.inl (own_w11 hw)) Via.refl e106 c107 (g := (mkF m 33 #[.val (.ref a1), .val .null, .val (.long q1), .second, .unset] [(.ref a1), (.int (0 : Int32))])) rfl rfl (hb hby own_d3_33)
  have c109 := (Vf.other W106 (Ne.symm n1))
  obtain ⟨cl110, Ar110, Aq110, As110, An110, Ah110, Ag110⟩ := id c109
  obtain ⟨T111, X111, e111, st111⟩ := getF X108 hx hZ hown (host := "") (Or.inl (own_w11 hw)) Via.refl e108 c107 (g := (mkF m 41 #[.val (.ref a1), .val .null, .val (.long q1), .second, .val (.int (0 : Int32))] [(.ref a1)])) rfl rfl (hb hby own_d3_41)
  obtain ⟨cl112, Ar112, Aq112, As112, An112, Ah112, Ag112⟩ := id c109
  have hin112 : ¬ ((0 : Int32) < 0 ∨ cl112.slots.size ≤ ((0 : Int32)).toNatClampNeg) := inb_of As112 ⟨by decide, by decide⟩
  obtain ⟨T113, h113, X113, e113, W113, st113⟩ := stR X111 hx hZ e111 Ar112 (j := (0 : Int32)) hin112 rfl (Or.inl rfl) (g := (mkF m 47 #[.val (.ref a1), .val .null, .val (.long q1), .second, .val (.int (0 : Int32))] [.null, (.int (0 : Int32)), (.ref fr)])) rfl rfl (hb hby own_d3_47)
  have Z113 : n0 ≤ h113.size := Nat.le_trans Z106 (Nat.le_of_eq W113.size.symm)
  have N113 := Fr.snoc X113 N106 g2
  have V113 : Arv Z h113 fr kf (.object "java/nio/ByteBuffer") (4 : Int32) [.null, .null, .null, .null] .null := Arv.set Ar112 Aq112 As112 An112 Ah112 Ag112 rfl W113 0 rfl (Nat.le_of_ble_eq_true rfl)
  have c114 := ((Ft.other W106 (Or.inr (slot_ne (Or.inl (own_w15 hw)) (Or.inl (own_w22 hw)) (by decide) (t := (.array .long)) (t' := .int) (by decide) (by decide)))).other W113 (Or.inl n1))
  obtain ⟨T115, X115, e115, st115⟩ := getF X113 hx hZ hown (host := "") (Or.inl (own_w14 hw)) Via.refl e113 c114 (g := (mkF m 49 #[.val (.ref a1), .val .null, .val (.long q1), .second, .val (.int (0 : Int32))] [(.ref a1)])) rfl rfl (hb hby own_d3_49)
  have c116 := ((Vt.other W106 (Ne.symm n2)).other W113 (Ne.symm n3))
  obtain ⟨cl117, Ar117, Aq117, As117, An117, Ah117, Ag117⟩ := id c116
  have hin117 : ¬ ((0 : Int32) < 0 ∨ cl117.slots.size ≤ ((0 : Int32)).toNatClampNeg) := inb_of As117 ⟨by decide, by decide⟩
  obtain ⟨T118, h118, X118, e118, W118, st118⟩ := stJ X115 hx hZ e115 Ar117 (j := (0 : Int32)) hin117 (g := (mkF m 55 #[.val (.ref a1), .val .null, .val (.long q1), .second, .val (.int (0 : Int32))] [(.long q1), (.int (0 : Int32)), (.ref ti)])) rfl rfl (hb hby own_d3_55)
  have Z118 : n0 ≤ h118.size := Nat.le_trans Z113 (Nat.le_of_eq W118.size.symm)
  have N118 := Fr.snoc X118 N113 g3
  have V118 : Arv Z h118 ti kt .long (4 : Int32) [(.long q1), (.long t1), (.long t2), (.long t3)] (.long (0 : Int64)) := Arv.set Ar117 Aq117 As117 An117 Ah117 Ag117 rfl W118 0 rfl (Nat.le_of_ble_eq_true rfl)
  have c119 := (((E1.wr W106).wr W113).wr W118)
  have c120 := ((c107.other W113 (Or.inl n1)).other W118 (Or.inl n2))
  have c121 := (c114.other W118 (Or.inl n2))
  have c122 := ((Fw106.other W113 (Or.inl n1)).other W118 (Or.inl n2))
  have c123 := (((F1.other W106 (Or.inr (slot_ne (Or.inl (own_w24 hw)) (Or.inl (own_w22 hw)) (by decide) (t := .int) (t' := .int) (by decide) (by decide)))).other W113 (Or.inl n1)).other W118 (Or.inl n2))
  have c124 := (V113.other W118 n3)
  obtain ⟨fs, hr, hrun, hended, hW, hsame⟩ := X118.leave (v := none) (fun _ => rfl)
  refine ⟨_, _, pre0 _ ?_, hrun, hended, _, _, rfl, ?_, ⟨_, rfl⟩, hW, hsame.mono (by decide) (by decide)⟩
  · show Steps _ _ _ (s₁.setTop (mkF m 0 #[.val (.ref a1), .val .null, .val (.long q1), .second, .unset] [])) _
    refine XS.aloadN X0.here hx rfl (hb hby own_d3_0) rfl rfl ?_
    refine st101 _ ?_
    refine XS.aloadN X101.here hx rfl (hb hby own_d3_4) rfl rfl ?_
    refine st102 _ ?_
    show Steps _ _ _ (T102.setTop (mkF m 8 #[.val (.ref a1), .val .null, .val (.long q1), .second, .unset] [(.ref fr), (.int (0 : Int32))])) _
    refine X102.arraylength hx (by rw [e102]; exact Ar103.1) (State.isArrayOf_alike hZ.alike Ar103.2.1) (g := (mkF m 8 #[.val (.ref a1), .val .null, .val (.long q1), .second, .unset] [(.ref fr), (.int (0 : Int32))])) rfl rfl (hb hby own_d3_8) _ ?_
    rw [len_of As103 An103]
    refine XS.icmpYes X102.here hx rfl (pc0 := 9) (pc' := 16) rfl (hb hby own_d3_9) rfl (feq (by decide : ¬ ((0 : Int32) = (4 : Int32)))).2 (by decide) (by decide) ?_
    refine XS.aloadN X102.here hx rfl (hb hby own_d3_16) rfl rfl ?_
    refine st104 _ ?_
    show Steps _ _ _ (T104.setTop (mkF m 20 #[.val (.ref a1), .val .null, .val (.long q1), .second, .unset] [(.int (0 : Int32))])) _
    refine XS.aloadN X104.here hx rfl (hb hby own_d3_20) rfl rfl ?_
    refine XS.dup X104.here hx rfl (hb hby own_d3_21) rfl rfl ?_
    refine st105 _ ?_
    refine XS.dupX1 X105.here hx rfl (hb hby own_d3_25) rfl rfl rfl ?_
    show Steps _ _ _ (T105.setTop (mkF m 26 #[.val (.ref a1), .val .null, .val (.long q1), .second, .unset] [(.int (0 : Int32)), (.ref a1), (.int (0 : Int32)), (.int (0 : Int32))])) _
    refine XS.iconst X105.here hx rfl (hb hby own_d3_26) ?_
    refine XS.iadd X105.here hx rfl (hb hby own_d3_27) rfl ?_
    refine st106 _ ?_
    refine XS.iadd X106.here hx rfl (hb hby own_d3_31) rfl ?_
    show Steps _ _ _ (T106.setTop (mkF m 32 #[.val (.ref a1), .val .null, .val (.long q1), .second, .unset] [(.int (0 : Int32))])) _
    refine XS.aloadN X106.here hx rfl (hb hby own_d3_32) rfl rfl ?_
    refine st108 _ ?_
    refine X108.arraylength hx (by rw [e108]; exact Ar110.1) (State.isArrayOf_alike hZ.alike Ar110.2.1) (g := (mkF m 36 #[.val (.ref a1), .val .null, .val (.long q1), .second, .unset] [(.ref fr), (.int (0 : Int32))])) rfl rfl (hb hby own_d3_36) _ ?_
    rw [len_of As110 An110]
    refine iremM X108 hx rfl (hb hby own_d3_37) rfl (by decide) ?_
    show Steps _ _ _ (T108.setTop (mkF m 38 #[.val (.ref a1), .val .null, .val (.long q1), .second, .unset] [(.int (0 : Int32))])) _
    refine XS.istore X108.here hx rfl (hb hby own_d3_38) rfl (l' := #[.val (.ref a1), .val .null, .val (.long q1), .second, .val (.int (0 : Int32))]) rfl ?_
    refine XS.aloadN X108.here hx rfl (hb hby own_d3_40) rfl rfl ?_
    refine st111 _ ?_
    refine XS.iload X111.here hx rfl (hb hby own_d3_44) rfl ?_
    show Steps _ _ _ (T111.setTop (mkF m 46 #[.val (.ref a1), .val .null, .val (.long q1), .second, .val (.int (0 : Int32))] [(.int (0 : Int32)), (.ref fr)])) _
    refine XS.aloadN X111.here hx rfl (hb hby own_d3_46) rfl rfl ?_
    refine st113 _ ?_
    refine XS.aloadN X113.here hx rfl (hb hby own_d3_48) rfl rfl ?_
    refine st115 _ ?_
    show Steps _ _ _ (T115.setTop (mkF m 52 #[.val (.ref a1), .val .null, .val (.long q1), .second, .val (.int (0 : Int32))] [(.ref ti)])) _
    refine XS.iload X115.here hx rfl (hb hby own_d3_52) rfl ?_
    refine XS.lloadN X115.here hx rfl (hb hby own_d3_54) rfl ?_
    refine st118 _ ?_
    show Steps _ _ _ (T118.setTop (mkF m 56 #[.val (.ref a1), .val .null, .val (.long q1), .second, .val (.int (0 : Int32))] [])) _
    exact X118.returnOut hx Bd.returns (hb hby own_d3_56) hr
  · show Qown_add00 Z a1 fr ti kf kt t0 t1 t2 t3 q1 h0 n0 _ T118.heap _
    rw [e118]
    exact ⟨rfl, N118, fr, ti, kf, kt, ⟨Z118, g2, g3, c119, c120, c121, c122, c123, c124, V118, n1, n2, n3⟩⟩
def Qown_add10 (Z : State) (a1 fr ti : Addr) (kf kt : ClassId) (t0 t1 t2 t3 : Int64) (q1 : Int64) (h0 : Heap) (n0 : Nat) (v : Option Value) (h : Heap) (L : List Loc) : Prop := v = none ∧ Fr n0 L ∧ ∃ (fr ti : Addr) (kf kt : ClassId), own_St Z n0 h a1 fr ti kf kt (4 : Int32) [.null, .null, .null, .null] [(.long t0), (.long q1), (.long t2), (.long t3)] (2 : Int32) (0 : Int32)
set_option maxRecDepth 65536 in
set_option maxHeartbeats 40000000 in
theorem own_add10 (l : Launch) (Z : State) (a0 : Array Value) (hw : ∀ d ∈ tables_1, d.before a0 Z = true) (ws : List Jvm.Cond) (a1 fr ti : Addr) (kf kt : ClassId) (t0 t1 t2 t3 : Int64) (q1 : Int64) (h0 : Heap) (n0 : Nat) (Z0 : n0 ≤ h0.size) (g1 : n0 ≤ a1) (H : own_St Z n0 h0 a1 fr ti kf kt (4 : Int32) [.null, .null, .null, .null] [(.long t0), (.long t1), (.long t2), (.long t3)] (1 : Int32) (0 : Int32)) :
    MetFree l own_m3 (head1 (Jvm.Cond.code own_m3 prog_10_method_2_code 5 none :: ws) ({ frames := 0, cells := 0, slots := 0, locals := 0 } : Room)) (fun a U => a = #[(.ref a1), .null, (.long q1)] ∧ Z.Warmed39 U.vm ∧ U.heap = h0) (fun _ _ _ _ _ => True) (fun _ U o U' => ∃ v L, o = .returned v ∧ Qown_add10 Z a1 fr ti kf kt t0 t1 t2 t3 q1 h0 n0 v U'.heap L ∧ FrameEnd U o U' L ({ frames := 0, cells := 0, slots := 0, locals := 0 } : Room).cells ({ frames := 0, cells := 0, slots := 0, locals := 0 } : Room).slots) := by
  refine MetFree.of_bodySF (plainFor_of_name own_pn0) hisR ?_
  intro p e s m args below meth c s₁ Bd hml0 hP hK
  obtain ⟨rfl, hZ, hh⟩ := hP
  have hx := Bd.exec
  have hby := Bd.bytes
  have hml : c.maxLocals = 5 := hml0
  have hown : s.vm.findClass "com/example/don_valley/donvalley/broker/QueuedFrames" = some m.cls := by have q := findClass_of_methodNamed Bd.named; exact q
  have hnm := (name_of_methodNamed Bd.named Bd.method).1
  have X0 : Stand p l e ({ frames := 0, cells := 0, slots := 0, locals := 0 } : Room) s m #[(.ref a1), .null, (.long q1)] below meth c s₁ [] 0 0 := Stand.of_body Bd
  have e0 : s₁.heap = h0 := by rw [← hh, Bd.state]; rfl
  have N0 := Fr.nil n0
  have pre0 : ∀ t, Steps p.tables e below (s₁.setTop (mkF m 0 #[.val (.ref a1), .val .null, .val (.long q1), .second, .unset] [])) t → Steps p.tables e below (s₁.setTop (entryFrame m #[(.ref a1), .null, (.long q1)] 5)) t := fun t k => castTop (by first | (simp [entryFrame, mkF, argsToLocals, Value.category, maxLocals]; done) | rfl) k
  obtain ⟨hZ1, g2, g3, E1, Ff, Ft, Fs, F1, Vf, Vt, n1, n2, n3⟩ := H
  obtain ⟨T101, X101, e101, st101⟩ := getF X0 hx hZ hown (host := "") (Or.inl (own_w21 hw)) Via.refl e0 Fs (g := (mkF m 1 #[.val (.ref a1), .val .null, .val (.long q1), .second, .unset] [(.ref a1)])) rfl rfl (hb hby own_d3_1)
  obtain ⟨T102, X102, e102, st102⟩ := getF X101 hx hZ hown (host := "") (Or.inl (own_w11 hw)) Via.refl e101 Ff (g := (mkF m 5 #[.val (.ref a1), .val .null, .val (.long q1), .second, .unset] [(.ref a1), (.int (1 : Int32))])) rfl rfl (hb hby own_d3_5)
  obtain ⟨cl103, Ar103, Aq103, As103, An103, Ah103, Ag103⟩ := id Vf
  obtain ⟨T104, X104, e104, st104⟩ := getF X102 hx hZ hown (host := "") (Or.inl (own_w23 hw)) Via.refl e102 F1 (g := (mkF m 17 #[.val (.ref a1), .val .null, .val (.long q1), .second, .unset] [(.ref a1)])) rfl rfl (hb hby own_d3_17)
  obtain ⟨T105, X105, e105, st105⟩ := getF X104 hx hZ hown (host := "") (Or.inl (own_w21 hw)) Via.refl e104 Fs (g := (mkF m 22 #[.val (.ref a1), .val .null, .val (.long q1), .second, .unset] [(.ref a1), (.ref a1), (.int (0 : Int32))])) rfl rfl (hb hby own_d3_22)
  obtain ⟨T106, h106, X106, e106, W106, st106⟩ := putF X105 hx hZ hown (host := "") (Or.inl (own_w21 hw)) Via.refl e105 Fs E1 (Or.inl (own_w22 hw)) (own_w1 hw) (ty := .int) (by decide) rfl rfl (g := (mkF m 28 #[.val (.ref a1), .val .null, .val (.long q1), .second, .unset] [(.int (2 : Int32)), (.ref a1), (.int (1 : Int32)), (.int (0 : Int32))])) rfl rfl (hb hby own_d3_28)
  have Z106 : n0 ≤ h106.size := Nat.le_trans hZ1 (Nat.le_of_eq W106.size.symm)
  have N106 := Fr.snoc X106 N0 g1
  have Fw106 := Fs.same W106
  have c107 := (Ff.other W106 (Or.inr (slot_ne (Or.inl (own_w12 hw)) (Or.inl (own_w22 hw)) (by decide) (t := (.array (.object "java/nio/ByteBuffer"))) (t' := .int) (by decide) (by decide))))
  obtain ⟨T108, X108, e108, st108⟩ := getF X106 hx hZ hown (host := "") (Or.inl (own_w11 hw)) Via.refl e106 c107 (g := (mkF m 33 #[.val (.ref a1), .val .null, .val (.long q1), .second, .unset] [(.ref a1), (.int (1 : Int32))])) rfl rfl (hb hby own_d3_33)
  have c109 := (Vf.other W106 (Ne.symm n1))
  obtain ⟨cl110, Ar110, Aq110, As110, An110, Ah110, Ag110⟩ := id c109
  obtain ⟨T111, X111, e111, st111⟩ := getF X108 hx hZ hown (host := "") (Or.inl (own_w11 hw)) Via.refl e108 c107 (g := (mkF m 41 #[.val (.ref a1), .val .null, .val (.long q1), .second, .val (.int (1 : Int32))] [(.ref a1)])) rfl rfl (hb hby own_d3_41)
  obtain ⟨cl112, Ar112, Aq112, As112, An112, Ah112, Ag112⟩ := id c109
  have hin112 : ¬ ((1 : Int32) < 0 ∨ cl112.slots.size ≤ ((1 : Int32)).toNatClampNeg) := inb_of As112 ⟨by decide, by decide⟩
  obtain ⟨T113, h113, X113, e113, W113, st113⟩ := stR X111 hx hZ e111 Ar112 (j := (1 : Int32)) hin112 rfl (Or.inl rfl) (g := (mkF m 47 #[.val (.ref a1), .val .null, .val (.long q1), .second, .val (.int (1 : Int32))] [.null, (.int (1 : Int32)), (.ref fr)])) rfl rfl (hb hby own_d3_47)
  have Z113 : n0 ≤ h113.size := Nat.le_trans Z106 (Nat.le_of_eq W113.size.symm)
  have N113 := Fr.snoc X113 N106 g2
  have V113 : Arv Z h113 fr kf (.object "java/nio/ByteBuffer") (4 : Int32) [.null, .null, .null, .null] .null := Arv.set Ar112 Aq112 As112 An112 Ah112 Ag112 rfl W113 1 rfl (Nat.le_of_ble_eq_true rfl)
  have c114 := ((Ft.other W106 (Or.inr (slot_ne (Or.inl (own_w15 hw)) (Or.inl (own_w22 hw)) (by decide) (t := (.array .long)) (t' := .int) (by decide) (by decide)))).other W113 (Or.inl n1))
  obtain ⟨T115, X115, e115, st115⟩ := getF X113 hx hZ hown (host := "") (Or.inl (own_w14 hw)) Via.refl e113 c114 (g := (mkF m 49 #[.val (.ref a1), .val .null, .val (.long q1), .second, .val (.int (1 : Int32))] [(.ref a1)])) rfl rfl (hb hby own_d3_49)
  have c116 := ((Vt.other W106 (Ne.symm n2)).other W113 (Ne.symm n3))
  obtain ⟨cl117, Ar117, Aq117, As117, An117, Ah117, Ag117⟩ := id c116
  have hin117 : ¬ ((1 : Int32) < 0 ∨ cl117.slots.size ≤ ((1 : Int32)).toNatClampNeg) := inb_of As117 ⟨by decide, by decide⟩
  obtain ⟨T118, h118, X118, e118, W118, st118⟩ := stJ X115 hx hZ e115 Ar117 (j := (1 : Int32)) hin117 (g := (mkF m 55 #[.val (.ref a1), .val .null, .val (.long q1), .second, .val (.int (1 : Int32))] [(.long q1), (.int (1 : Int32)), (.ref ti)])) rfl rfl (hb hby own_d3_55)
  have Z118 : n0 ≤ h118.size := Nat.le_trans Z113 (Nat.le_of_eq W118.size.symm)
  have N118 := Fr.snoc X118 N113 g3
  have V118 : Arv Z h118 ti kt .long (4 : Int32) [(.long t0), (.long q1), (.long t2), (.long t3)] (.long (0 : Int64)) := Arv.set Ar117 Aq117 As117 An117 Ah117 Ag117 rfl W118 1 rfl (Nat.le_of_ble_eq_true rfl)
  have c119 := (((E1.wr W106).wr W113).wr W118)
  have c120 := ((c107.other W113 (Or.inl n1)).other W118 (Or.inl n2))
  have c121 := (c114.other W118 (Or.inl n2))
  have c122 := ((Fw106.other W113 (Or.inl n1)).other W118 (Or.inl n2))
  have c123 := (((F1.other W106 (Or.inr (slot_ne (Or.inl (own_w24 hw)) (Or.inl (own_w22 hw)) (by decide) (t := .int) (t' := .int) (by decide) (by decide)))).other W113 (Or.inl n1)).other W118 (Or.inl n2))
  have c124 := (V113.other W118 n3)
  obtain ⟨fs, hr, hrun, hended, hW, hsame⟩ := X118.leave (v := none) (fun _ => rfl)
  refine ⟨_, _, pre0 _ ?_, hrun, hended, _, _, rfl, ?_, ⟨_, rfl⟩, hW, hsame.mono (by decide) (by decide)⟩
  · show Steps _ _ _ (s₁.setTop (mkF m 0 #[.val (.ref a1), .val .null, .val (.long q1), .second, .unset] [])) _
    refine XS.aloadN X0.here hx rfl (hb hby own_d3_0) rfl rfl ?_
    refine st101 _ ?_
    refine XS.aloadN X101.here hx rfl (hb hby own_d3_4) rfl rfl ?_
    refine st102 _ ?_
    show Steps _ _ _ (T102.setTop (mkF m 8 #[.val (.ref a1), .val .null, .val (.long q1), .second, .unset] [(.ref fr), (.int (1 : Int32))])) _
    refine X102.arraylength hx (by rw [e102]; exact Ar103.1) (State.isArrayOf_alike hZ.alike Ar103.2.1) (g := (mkF m 8 #[.val (.ref a1), .val .null, .val (.long q1), .second, .unset] [(.ref fr), (.int (1 : Int32))])) rfl rfl (hb hby own_d3_8) _ ?_
    rw [len_of As103 An103]
    refine XS.icmpYes X102.here hx rfl (pc0 := 9) (pc' := 16) rfl (hb hby own_d3_9) rfl (feq (by decide : ¬ ((1 : Int32) = (4 : Int32)))).2 (by decide) (by decide) ?_
    refine XS.aloadN X102.here hx rfl (hb hby own_d3_16) rfl rfl ?_
    refine st104 _ ?_
    show Steps _ _ _ (T104.setTop (mkF m 20 #[.val (.ref a1), .val .null, .val (.long q1), .second, .unset] [(.int (0 : Int32))])) _
    refine XS.aloadN X104.here hx rfl (hb hby own_d3_20) rfl rfl ?_
    refine XS.dup X104.here hx rfl (hb hby own_d3_21) rfl rfl ?_
    refine st105 _ ?_
    refine XS.dupX1 X105.here hx rfl (hb hby own_d3_25) rfl rfl rfl ?_
    show Steps _ _ _ (T105.setTop (mkF m 26 #[.val (.ref a1), .val .null, .val (.long q1), .second, .unset] [(.int (1 : Int32)), (.ref a1), (.int (1 : Int32)), (.int (0 : Int32))])) _
    refine XS.iconst X105.here hx rfl (hb hby own_d3_26) ?_
    refine XS.iadd X105.here hx rfl (hb hby own_d3_27) rfl ?_
    refine st106 _ ?_
    refine XS.iadd X106.here hx rfl (hb hby own_d3_31) rfl ?_
    show Steps _ _ _ (T106.setTop (mkF m 32 #[.val (.ref a1), .val .null, .val (.long q1), .second, .unset] [(.int (1 : Int32))])) _
    refine XS.aloadN X106.here hx rfl (hb hby own_d3_32) rfl rfl ?_
    refine st108 _ ?_
    refine X108.arraylength hx (by rw [e108]; exact Ar110.1) (State.isArrayOf_alike hZ.alike Ar110.2.1) (g := (mkF m 36 #[.val (.ref a1), .val .null, .val (.long q1), .second, .unset] [(.ref fr), (.int (1 : Int32))])) rfl rfl (hb hby own_d3_36) _ ?_
    rw [len_of As110 An110]
    refine iremM X108 hx rfl (hb hby own_d3_37) rfl (by decide) ?_
    show Steps _ _ _ (T108.setTop (mkF m 38 #[.val (.ref a1), .val .null, .val (.long q1), .second, .unset] [(.int (1 : Int32))])) _
    refine XS.istore X108.here hx rfl (hb hby own_d3_38) rfl (l' := #[.val (.ref a1), .val .null, .val (.long q1), .second, .val (.int (1 : Int32))]) rfl ?_
    refine XS.aloadN X108.here hx rfl (hb hby own_d3_40) rfl rfl ?_
    refine st111 _ ?_
    refine XS.iload X111.here hx rfl (hb hby own_d3_44) rfl ?_
    show Steps _ _ _ (T111.setTop (mkF m 46 #[.val (.ref a1), .val .null, .val (.long q1), .second, .val (.int (1 : Int32))] [(.int (1 : Int32)), (.ref fr)])) _
    refine XS.aloadN X111.here hx rfl (hb hby own_d3_46) rfl rfl ?_
    refine st113 _ ?_
    refine XS.aloadN X113.here hx rfl (hb hby own_d3_48) rfl rfl ?_
    refine st115 _ ?_
    show Steps _ _ _ (T115.setTop (mkF m 52 #[.val (.ref a1), .val .null, .val (.long q1), .second, .val (.int (1 : Int32))] [(.ref ti)])) _
    refine XS.iload X115.here hx rfl (hb hby own_d3_52) rfl ?_
    refine XS.lloadN X115.here hx rfl (hb hby own_d3_54) rfl ?_
    refine st118 _ ?_
    show Steps _ _ _ (T118.setTop (mkF m 56 #[.val (.ref a1), .val .null, .val (.long q1), .second, .val (.int (1 : Int32))] [])) _
    exact X118.returnOut hx Bd.returns (hb hby own_d3_56) hr
  · show Qown_add10 Z a1 fr ti kf kt t0 t1 t2 t3 q1 h0 n0 _ T118.heap _
    rw [e118]
    exact ⟨rfl, N118, fr, ti, kf, kt, ⟨Z118, g2, g3, c119, c120, c121, c122, c123, c124, V118, n1, n2, n3⟩⟩
def Qown_add20 (Z : State) (a1 fr ti : Addr) (kf kt : ClassId) (t0 t1 t2 t3 : Int64) (q1 : Int64) (h0 : Heap) (n0 : Nat) (v : Option Value) (h : Heap) (L : List Loc) : Prop := v = none ∧ Fr n0 L ∧ ∃ (fr ti : Addr) (kf kt : ClassId), own_St Z n0 h a1 fr ti kf kt (4 : Int32) [.null, .null, .null, .null] [(.long t0), (.long t1), (.long q1), (.long t3)] (3 : Int32) (0 : Int32)
set_option maxRecDepth 65536 in
set_option maxHeartbeats 40000000 in
theorem own_add20 (l : Launch) (Z : State) (a0 : Array Value) (hw : ∀ d ∈ tables_1, d.before a0 Z = true) (ws : List Jvm.Cond) (a1 fr ti : Addr) (kf kt : ClassId) (t0 t1 t2 t3 : Int64) (q1 : Int64) (h0 : Heap) (n0 : Nat) (Z0 : n0 ≤ h0.size) (g1 : n0 ≤ a1) (H : own_St Z n0 h0 a1 fr ti kf kt (4 : Int32) [.null, .null, .null, .null] [(.long t0), (.long t1), (.long t2), (.long t3)] (2 : Int32) (0 : Int32)) :
    MetFree l own_m3 (head1 (Jvm.Cond.code own_m3 prog_10_method_2_code 5 none :: ws) ({ frames := 0, cells := 0, slots := 0, locals := 0 } : Room)) (fun a U => a = #[(.ref a1), .null, (.long q1)] ∧ Z.Warmed39 U.vm ∧ U.heap = h0) (fun _ _ _ _ _ => True) (fun _ U o U' => ∃ v L, o = .returned v ∧ Qown_add20 Z a1 fr ti kf kt t0 t1 t2 t3 q1 h0 n0 v U'.heap L ∧ FrameEnd U o U' L ({ frames := 0, cells := 0, slots := 0, locals := 0 } : Room).cells ({ frames := 0, cells := 0, slots := 0, locals := 0 } : Room).slots) := by
  refine MetFree.of_bodySF (plainFor_of_name own_pn0) hisR ?_
  intro p e s m args below meth c s₁ Bd hml0 hP hK
  obtain ⟨rfl, hZ, hh⟩ := hP
  have hx := Bd.exec
  have hby := Bd.bytes
  have hml : c.maxLocals = 5 := hml0
  have hown : s.vm.findClass "com/example/don_valley/donvalley/broker/QueuedFrames" = some m.cls := by have q := findClass_of_methodNamed Bd.named; exact q
  have hnm := (name_of_methodNamed Bd.named Bd.method).1
  have X0 : Stand p l e ({ frames := 0, cells := 0, slots := 0, locals := 0 } : Room) s m #[(.ref a1), .null, (.long q1)] below meth c s₁ [] 0 0 := Stand.of_body Bd
  have e0 : s₁.heap = h0 := by rw [← hh, Bd.state]; rfl
  have N0 := Fr.nil n0
  have pre0 : ∀ t, Steps p.tables e below (s₁.setTop (mkF m 0 #[.val (.ref a1), .val .null, .val (.long q1), .second, .unset] [])) t → Steps p.tables e below (s₁.setTop (entryFrame m #[(.ref a1), .null, (.long q1)] 5)) t := fun t k => castTop (by first | (simp [entryFrame, mkF, argsToLocals, Value.category, maxLocals]; done) | rfl) k
  obtain ⟨hZ1, g2, g3, E1, Ff, Ft, Fs, F1, Vf, Vt, n1, n2, n3⟩ := H
  obtain ⟨T101, X101, e101, st101⟩ := getF X0 hx hZ hown (host := "") (Or.inl (own_w21 hw)) Via.refl e0 Fs (g := (mkF m 1 #[.val (.ref a1), .val .null, .val (.long q1), .second, .unset] [(.ref a1)])) rfl rfl (hb hby own_d3_1)
  obtain ⟨T102, X102, e102, st102⟩ := getF X101 hx hZ hown (host := "") (Or.inl (own_w11 hw)) Via.refl e101 Ff (g := (mkF m 5 #[.val (.ref a1), .val .null, .val (.long q1), .second, .unset] [(.ref a1), (.int (2 : Int32))])) rfl rfl (hb hby own_d3_5)
  obtain ⟨cl103, Ar103, Aq103, As103, An103, Ah103, Ag103⟩ := id Vf
  obtain ⟨T104, X104, e104, st104⟩ := getF X102 hx hZ hown (host := "") (Or.inl (own_w23 hw)) Via.refl e102 F1 (g := (mkF m 17 #[.val (.ref a1), .val .null, .val (.long q1), .second, .unset] [(.ref a1)])) rfl rfl (hb hby own_d3_17)
  obtain ⟨T105, X105, e105, st105⟩ := getF X104 hx hZ hown (host := "") (Or.inl (own_w21 hw)) Via.refl e104 Fs (g := (mkF m 22 #[.val (.ref a1), .val .null, .val (.long q1), .second, .unset] [(.ref a1), (.ref a1), (.int (0 : Int32))])) rfl rfl (hb hby own_d3_22)
  obtain ⟨T106, h106, X106, e106, W106, st106⟩ := putF X105 hx hZ hown (host := "") (Or.inl (own_w21 hw)) Via.refl e105 Fs E1 (Or.inl (own_w22 hw)) (own_w1 hw) (ty := .int) (by decide) rfl rfl (g := (mkF m 28 #[.val (.ref a1), .val .null, .val (.long q1), .second, .unset] [(.int (3 : Int32)), (.ref a1), (.int (2 : Int32)), (.int (0 : Int32))])) rfl rfl (hb hby own_d3_28)
  have Z106 : n0 ≤ h106.size := Nat.le_trans hZ1 (Nat.le_of_eq W106.size.symm)
  have N106 := Fr.snoc X106 N0 g1
  have Fw106 := Fs.same W106
  have c107 := (Ff.other W106 (Or.inr (slot_ne (Or.inl (own_w12 hw)) (Or.inl (own_w22 hw)) (by decide) (t := (.array (.object "java/nio/ByteBuffer"))) (t' := .int) (by decide) (by decide))))
  obtain ⟨T108, X108, e108, st108⟩ := getF X106 hx hZ hown (host := "") (Or.inl (own_w11 hw)) Via.refl e106 c107 (g := (mkF m 33 #[.val (.ref a1), .val .null, .val (.long q1), .second, .unset] [(.ref a1), (.int (2 : Int32))])) rfl rfl (hb hby own_d3_33)
  have c109 := (Vf.other W106 (Ne.symm n1))
  obtain ⟨cl110, Ar110, Aq110, As110, An110, Ah110, Ag110⟩ := id c109
  obtain ⟨T111, X111, e111, st111⟩ := getF X108 hx hZ hown (host := "") (Or.inl (own_w11 hw)) Via.refl e108 c107 (g := (mkF m 41 #[.val (.ref a1), .val .null, .val (.long q1), .second, .val (.int (2 : Int32))] [(.ref a1)])) rfl rfl (hb hby own_d3_41)
  obtain ⟨cl112, Ar112, Aq112, As112, An112, Ah112, Ag112⟩ := id c109
  have hin112 : ¬ ((2 : Int32) < 0 ∨ cl112.slots.size ≤ ((2 : Int32)).toNatClampNeg) := inb_of As112 ⟨by decide, by decide⟩
  obtain ⟨T113, h113, X113, e113, W113, st113⟩ := stR X111 hx hZ e111 Ar112 (j := (2 : Int32)) hin112 rfl (Or.inl rfl) (g := (mkF m 47 #[.val (.ref a1), .val .null, .val (.long q1), .second, .val (.int (2 : Int32))] [.null, (.int (2 : Int32)), (.ref fr)])) rfl rfl (hb hby own_d3_47)
  have Z113 : n0 ≤ h113.size := Nat.le_trans Z106 (Nat.le_of_eq W113.size.symm)
  have N113 := Fr.snoc X113 N106 g2
  have V113 : Arv Z h113 fr kf (.object "java/nio/ByteBuffer") (4 : Int32) [.null, .null, .null, .null] .null := Arv.set Ar112 Aq112 As112 An112 Ah112 Ag112 rfl W113 2 rfl (Nat.le_of_ble_eq_true rfl)
  have c114 := ((Ft.other W106 (Or.inr (slot_ne (Or.inl (own_w15 hw)) (Or.inl (own_w22 hw)) (by decide) (t := (.array .long)) (t' := .int) (by decide) (by decide)))).other W113 (Or.inl n1))
  obtain ⟨T115, X115, e115, st115⟩ := getF X113 hx hZ hown (host := "") (Or.inl (own_w14 hw)) Via.refl e113 c114 (g := (mkF m 49 #[.val (.ref a1), .val .null, .val (.long q1), .second, .val (.int (2 : Int32))] [(.ref a1)])) rfl rfl (hb hby own_d3_49)
  have c116 := ((Vt.other W106 (Ne.symm n2)).other W113 (Ne.symm n3))
  obtain ⟨cl117, Ar117, Aq117, As117, An117, Ah117, Ag117⟩ := id c116
  have hin117 : ¬ ((2 : Int32) < 0 ∨ cl117.slots.size ≤ ((2 : Int32)).toNatClampNeg) := inb_of As117 ⟨by decide, by decide⟩
  obtain ⟨T118, h118, X118, e118, W118, st118⟩ := stJ X115 hx hZ e115 Ar117 (j := (2 : Int32)) hin117 (g := (mkF m 55 #[.val (.ref a1), .val .null, .val (.long q1), .second, .val (.int (2 : Int32))] [(.long q1), (.int (2 : Int32)), (.ref ti)])) rfl rfl (hb hby own_d3_55)
  have Z118 : n0 ≤ h118.size := Nat.le_trans Z113 (Nat.le_of_eq W118.size.symm)
  have N118 := Fr.snoc X118 N113 g3
  have V118 : Arv Z h118 ti kt .long (4 : Int32) [(.long t0), (.long t1), (.long q1), (.long t3)] (.long (0 : Int64)) := Arv.set Ar117 Aq117 As117 An117 Ah117 Ag117 rfl W118 2 rfl (Nat.le_of_ble_eq_true rfl)
  have c119 := (((E1.wr W106).wr W113).wr W118)
  have c120 := ((c107.other W113 (Or.inl n1)).other W118 (Or.inl n2))
  have c121 := (c114.other W118 (Or.inl n2))
  have c122 := ((Fw106.other W113 (Or.inl n1)).other W118 (Or.inl n2))
  have c123 := (((F1.other W106 (Or.inr (slot_ne (Or.inl (own_w24 hw)) (Or.inl (own_w22 hw)) (by decide) (t := .int) (t' := .int) (by decide) (by decide)))).other W113 (Or.inl n1)).other W118 (Or.inl n2))
  have c124 := (V113.other W118 n3)
  obtain ⟨fs, hr, hrun, hended, hW, hsame⟩ := X118.leave (v := none) (fun _ => rfl)
  refine ⟨_, _, pre0 _ ?_, hrun, hended, _, _, rfl, ?_, ⟨_, rfl⟩, hW, hsame.mono (by decide) (by decide)⟩
  · show Steps _ _ _ (s₁.setTop (mkF m 0 #[.val (.ref a1), .val .null, .val (.long q1), .second, .unset] [])) _
    refine XS.aloadN X0.here hx rfl (hb hby own_d3_0) rfl rfl ?_
    refine st101 _ ?_
    refine XS.aloadN X101.here hx rfl (hb hby own_d3_4) rfl rfl ?_
    refine st102 _ ?_
    show Steps _ _ _ (T102.setTop (mkF m 8 #[.val (.ref a1), .val .null, .val (.long q1), .second, .unset] [(.ref fr), (.int (2 : Int32))])) _
    refine X102.arraylength hx (by rw [e102]; exact Ar103.1) (State.isArrayOf_alike hZ.alike Ar103.2.1) (g := (mkF m 8 #[.val (.ref a1), .val .null, .val (.long q1), .second, .unset] [(.ref fr), (.int (2 : Int32))])) rfl rfl (hb hby own_d3_8) _ ?_
    rw [len_of As103 An103]
    refine XS.icmpYes X102.here hx rfl (pc0 := 9) (pc' := 16) rfl (hb hby own_d3_9) rfl (feq (by decide : ¬ ((2 : Int32) = (4 : Int32)))).2 (by decide) (by decide) ?_
    refine XS.aloadN X102.here hx rfl (hb hby own_d3_16) rfl rfl ?_
    refine st104 _ ?_
    show Steps _ _ _ (T104.setTop (mkF m 20 #[.val (.ref a1), .val .null, .val (.long q1), .second, .unset] [(.int (0 : Int32))])) _
    refine XS.aloadN X104.here hx rfl (hb hby own_d3_20) rfl rfl ?_
    refine XS.dup X104.here hx rfl (hb hby own_d3_21) rfl rfl ?_
    refine st105 _ ?_
    refine XS.dupX1 X105.here hx rfl (hb hby own_d3_25) rfl rfl rfl ?_
    show Steps _ _ _ (T105.setTop (mkF m 26 #[.val (.ref a1), .val .null, .val (.long q1), .second, .unset] [(.int (2 : Int32)), (.ref a1), (.int (2 : Int32)), (.int (0 : Int32))])) _
    refine XS.iconst X105.here hx rfl (hb hby own_d3_26) ?_
    refine XS.iadd X105.here hx rfl (hb hby own_d3_27) rfl ?_
    refine st106 _ ?_
    refine XS.iadd X106.here hx rfl (hb hby own_d3_31) rfl ?_
    show Steps _ _ _ (T106.setTop (mkF m 32 #[.val (.ref a1), .val .null, .val (.long q1), .second, .unset] [(.int (2 : Int32))])) _
    refine XS.aloadN X106.here hx rfl (hb hby own_d3_32) rfl rfl ?_
    refine st108 _ ?_
    refine X108.arraylength hx (by rw [e108]; exact Ar110.1) (State.isArrayOf_alike hZ.alike Ar110.2.1) (g := (mkF m 36 #[.val (.ref a1), .val .null, .val (.long q1), .second, .unset] [(.ref fr), (.int (2 : Int32))])) rfl rfl (hb hby own_d3_36) _ ?_
    rw [len_of As110 An110]
    refine iremM X108 hx rfl (hb hby own_d3_37) rfl (by decide) ?_
    show Steps _ _ _ (T108.setTop (mkF m 38 #[.val (.ref a1), .val .null, .val (.long q1), .second, .unset] [(.int (2 : Int32))])) _
    refine XS.istore X108.here hx rfl (hb hby own_d3_38) rfl (l' := #[.val (.ref a1), .val .null, .val (.long q1), .second, .val (.int (2 : Int32))]) rfl ?_
    refine XS.aloadN X108.here hx rfl (hb hby own_d3_40) rfl rfl ?_
    refine st111 _ ?_
    refine XS.iload X111.here hx rfl (hb hby own_d3_44) rfl ?_
    show Steps _ _ _ (T111.setTop (mkF m 46 #[.val (.ref a1), .val .null, .val (.long q1), .second, .val (.int (2 : Int32))] [(.int (2 : Int32)), (.ref fr)])) _
    refine XS.aloadN X111.here hx rfl (hb hby own_d3_46) rfl rfl ?_
    refine st113 _ ?_
    refine XS.aloadN X113.here hx rfl (hb hby own_d3_48) rfl rfl ?_
    refine st115 _ ?_
    show Steps _ _ _ (T115.setTop (mkF m 52 #[.val (.ref a1), .val .null, .val (.long q1), .second, .val (.int (2 : Int32))] [(.ref ti)])) _
    refine XS.iload X115.here hx rfl (hb hby own_d3_52) rfl ?_
    refine XS.lloadN X115.here hx rfl (hb hby own_d3_54) rfl ?_
    refine st118 _ ?_
    show Steps _ _ _ (T118.setTop (mkF m 56 #[.val (.ref a1), .val .null, .val (.long q1), .second, .val (.int (2 : Int32))] [])) _
    exact X118.returnOut hx Bd.returns (hb hby own_d3_56) hr
  · show Qown_add20 Z a1 fr ti kf kt t0 t1 t2 t3 q1 h0 n0 _ T118.heap _
    rw [e118]
    exact ⟨rfl, N118, fr, ti, kf, kt, ⟨Z118, g2, g3, c119, c120, c121, c122, c123, c124, V118, n1, n2, n3⟩⟩
def Qown_add30 (Z : State) (a1 fr ti : Addr) (kf kt : ClassId) (t0 t1 t2 t3 : Int64) (q1 : Int64) (h0 : Heap) (n0 : Nat) (v : Option Value) (h : Heap) (L : List Loc) : Prop := v = none ∧ Fr n0 L ∧ ∃ (fr ti : Addr) (kf kt : ClassId), own_St Z n0 h a1 fr ti kf kt (4 : Int32) [.null, .null, .null, .null] [(.long t0), (.long t1), (.long t2), (.long q1)] (4 : Int32) (0 : Int32)
set_option maxRecDepth 65536 in
set_option maxHeartbeats 40000000 in
theorem own_add30 (l : Launch) (Z : State) (a0 : Array Value) (hw : ∀ d ∈ tables_1, d.before a0 Z = true) (ws : List Jvm.Cond) (a1 fr ti : Addr) (kf kt : ClassId) (t0 t1 t2 t3 : Int64) (q1 : Int64) (h0 : Heap) (n0 : Nat) (Z0 : n0 ≤ h0.size) (g1 : n0 ≤ a1) (H : own_St Z n0 h0 a1 fr ti kf kt (4 : Int32) [.null, .null, .null, .null] [(.long t0), (.long t1), (.long t2), (.long t3)] (3 : Int32) (0 : Int32)) :
    MetFree l own_m3 (head1 (Jvm.Cond.code own_m3 prog_10_method_2_code 5 none :: ws) ({ frames := 0, cells := 0, slots := 0, locals := 0 } : Room)) (fun a U => a = #[(.ref a1), .null, (.long q1)] ∧ Z.Warmed39 U.vm ∧ U.heap = h0) (fun _ _ _ _ _ => True) (fun _ U o U' => ∃ v L, o = .returned v ∧ Qown_add30 Z a1 fr ti kf kt t0 t1 t2 t3 q1 h0 n0 v U'.heap L ∧ FrameEnd U o U' L ({ frames := 0, cells := 0, slots := 0, locals := 0 } : Room).cells ({ frames := 0, cells := 0, slots := 0, locals := 0 } : Room).slots) := by
  refine MetFree.of_bodySF (plainFor_of_name own_pn0) hisR ?_
  intro p e s m args below meth c s₁ Bd hml0 hP hK
  obtain ⟨rfl, hZ, hh⟩ := hP
  have hx := Bd.exec
  have hby := Bd.bytes
  have hml : c.maxLocals = 5 := hml0
  have hown : s.vm.findClass "com/example/don_valley/donvalley/broker/QueuedFrames" = some m.cls := by have q := findClass_of_methodNamed Bd.named; exact q
  have hnm := (name_of_methodNamed Bd.named Bd.method).1
  have X0 : Stand p l e ({ frames := 0, cells := 0, slots := 0, locals := 0 } : Room) s m #[(.ref a1), .null, (.long q1)] below meth c s₁ [] 0 0 := Stand.of_body Bd
  have e0 : s₁.heap = h0 := by rw [← hh, Bd.state]; rfl
  have N0 := Fr.nil n0
  have pre0 : ∀ t, Steps p.tables e below (s₁.setTop (mkF m 0 #[.val (.ref a1), .val .null, .val (.long q1), .second, .unset] [])) t → Steps p.tables e below (s₁.setTop (entryFrame m #[(.ref a1), .null, (.long q1)] 5)) t := fun t k => castTop (by first | (simp [entryFrame, mkF, argsToLocals, Value.category, maxLocals]; done) | rfl) k
  obtain ⟨hZ1, g2, g3, E1, Ff, Ft, Fs, F1, Vf, Vt, n1, n2, n3⟩ := H
  obtain ⟨T101, X101, e101, st101⟩ := getF X0 hx hZ hown (host := "") (Or.inl (own_w21 hw)) Via.refl e0 Fs (g := (mkF m 1 #[.val (.ref a1), .val .null, .val (.long q1), .second, .unset] [(.ref a1)])) rfl rfl (hb hby own_d3_1)
  obtain ⟨T102, X102, e102, st102⟩ := getF X101 hx hZ hown (host := "") (Or.inl (own_w11 hw)) Via.refl e101 Ff (g := (mkF m 5 #[.val (.ref a1), .val .null, .val (.long q1), .second, .unset] [(.ref a1), (.int (3 : Int32))])) rfl rfl (hb hby own_d3_5)
  obtain ⟨cl103, Ar103, Aq103, As103, An103, Ah103, Ag103⟩ := id Vf
  obtain ⟨T104, X104, e104, st104⟩ := getF X102 hx hZ hown (host := "") (Or.inl (own_w23 hw)) Via.refl e102 F1 (g := (mkF m 17 #[.val (.ref a1), .val .null, .val (.long q1), .second, .unset] [(.ref a1)])) rfl rfl (hb hby own_d3_17)
  obtain ⟨T105, X105, e105, st105⟩ := getF X104 hx hZ hown (host := "") (Or.inl (own_w21 hw)) Via.refl e104 Fs (g := (mkF m 22 #[.val (.ref a1), .val .null, .val (.long q1), .second, .unset] [(.ref a1), (.ref a1), (.int (0 : Int32))])) rfl rfl (hb hby own_d3_22)
  obtain ⟨T106, h106, X106, e106, W106, st106⟩ := putF X105 hx hZ hown (host := "") (Or.inl (own_w21 hw)) Via.refl e105 Fs E1 (Or.inl (own_w22 hw)) (own_w1 hw) (ty := .int) (by decide) rfl rfl (g := (mkF m 28 #[.val (.ref a1), .val .null, .val (.long q1), .second, .unset] [(.int (4 : Int32)), (.ref a1), (.int (3 : Int32)), (.int (0 : Int32))])) rfl rfl (hb hby own_d3_28)
  have Z106 : n0 ≤ h106.size := Nat.le_trans hZ1 (Nat.le_of_eq W106.size.symm)
  have N106 := Fr.snoc X106 N0 g1
  have Fw106 := Fs.same W106
  have c107 := (Ff.other W106 (Or.inr (slot_ne (Or.inl (own_w12 hw)) (Or.inl (own_w22 hw)) (by decide) (t := (.array (.object "java/nio/ByteBuffer"))) (t' := .int) (by decide) (by decide))))
  obtain ⟨T108, X108, e108, st108⟩ := getF X106 hx hZ hown (host := "") (Or.inl (own_w11 hw)) Via.refl e106 c107 (g := (mkF m 33 #[.val (.ref a1), .val .null, .val (.long q1), .second, .unset] [(.ref a1), (.int (3 : Int32))])) rfl rfl (hb hby own_d3_33)
  have c109 := (Vf.other W106 (Ne.symm n1))
  obtain ⟨cl110, Ar110, Aq110, As110, An110, Ah110, Ag110⟩ := id c109
  obtain ⟨T111, X111, e111, st111⟩ := getF X108 hx hZ hown (host := "") (Or.inl (own_w11 hw)) Via.refl e108 c107 (g := (mkF m 41 #[.val (.ref a1), .val .null, .val (.long q1), .second, .val (.int (3 : Int32))] [(.ref a1)])) rfl rfl (hb hby own_d3_41)
  obtain ⟨cl112, Ar112, Aq112, As112, An112, Ah112, Ag112⟩ := id c109
  have hin112 : ¬ ((3 : Int32) < 0 ∨ cl112.slots.size ≤ ((3 : Int32)).toNatClampNeg) := inb_of As112 ⟨by decide, by decide⟩
  obtain ⟨T113, h113, X113, e113, W113, st113⟩ := stR X111 hx hZ e111 Ar112 (j := (3 : Int32)) hin112 rfl (Or.inl rfl) (g := (mkF m 47 #[.val (.ref a1), .val .null, .val (.long q1), .second, .val (.int (3 : Int32))] [.null, (.int (3 : Int32)), (.ref fr)])) rfl rfl (hb hby own_d3_47)
  have Z113 : n0 ≤ h113.size := Nat.le_trans Z106 (Nat.le_of_eq W113.size.symm)
  have N113 := Fr.snoc X113 N106 g2
  have V113 : Arv Z h113 fr kf (.object "java/nio/ByteBuffer") (4 : Int32) [.null, .null, .null, .null] .null := Arv.set Ar112 Aq112 As112 An112 Ah112 Ag112 rfl W113 3 rfl (Nat.le_of_ble_eq_true rfl)
  have c114 := ((Ft.other W106 (Or.inr (slot_ne (Or.inl (own_w15 hw)) (Or.inl (own_w22 hw)) (by decide) (t := (.array .long)) (t' := .int) (by decide) (by decide)))).other W113 (Or.inl n1))
  obtain ⟨T115, X115, e115, st115⟩ := getF X113 hx hZ hown (host := "") (Or.inl (own_w14 hw)) Via.refl e113 c114 (g := (mkF m 49 #[.val (.ref a1), .val .null, .val (.long q1), .second, .val (.int (3 : Int32))] [(.ref a1)])) rfl rfl (hb hby own_d3_49)
  have c116 := ((Vt.other W106 (Ne.symm n2)).other W113 (Ne.symm n3))
  obtain ⟨cl117, Ar117, Aq117, As117, An117, Ah117, Ag117⟩ := id c116
  have hin117 : ¬ ((3 : Int32) < 0 ∨ cl117.slots.size ≤ ((3 : Int32)).toNatClampNeg) := inb_of As117 ⟨by decide, by decide⟩
  obtain ⟨T118, h118, X118, e118, W118, st118⟩ := stJ X115 hx hZ e115 Ar117 (j := (3 : Int32)) hin117 (g := (mkF m 55 #[.val (.ref a1), .val .null, .val (.long q1), .second, .val (.int (3 : Int32))] [(.long q1), (.int (3 : Int32)), (.ref ti)])) rfl rfl (hb hby own_d3_55)
  have Z118 : n0 ≤ h118.size := Nat.le_trans Z113 (Nat.le_of_eq W118.size.symm)
  have N118 := Fr.snoc X118 N113 g3
  have V118 : Arv Z h118 ti kt .long (4 : Int32) [(.long t0), (.long t1), (.long t2), (.long q1)] (.long (0 : Int64)) := Arv.set Ar117 Aq117 As117 An117 Ah117 Ag117 rfl W118 3 rfl (Nat.le_of_ble_eq_true rfl)
  have c119 := (((E1.wr W106).wr W113).wr W118)
  have c120 := ((c107.other W113 (Or.inl n1)).other W118 (Or.inl n2))
  have c121 := (c114.other W118 (Or.inl n2))
  have c122 := ((Fw106.other W113 (Or.inl n1)).other W118 (Or.inl n2))
  have c123 := (((F1.other W106 (Or.inr (slot_ne (Or.inl (own_w24 hw)) (Or.inl (own_w22 hw)) (by decide) (t := .int) (t' := .int) (by decide) (by decide)))).other W113 (Or.inl n1)).other W118 (Or.inl n2))
  have c124 := (V113.other W118 n3)
  obtain ⟨fs, hr, hrun, hended, hW, hsame⟩ := X118.leave (v := none) (fun _ => rfl)
  refine ⟨_, _, pre0 _ ?_, hrun, hended, _, _, rfl, ?_, ⟨_, rfl⟩, hW, hsame.mono (by decide) (by decide)⟩
  · show Steps _ _ _ (s₁.setTop (mkF m 0 #[.val (.ref a1), .val .null, .val (.long q1), .second, .unset] [])) _
    refine XS.aloadN X0.here hx rfl (hb hby own_d3_0) rfl rfl ?_
    refine st101 _ ?_
    refine XS.aloadN X101.here hx rfl (hb hby own_d3_4) rfl rfl ?_
    refine st102 _ ?_
    show Steps _ _ _ (T102.setTop (mkF m 8 #[.val (.ref a1), .val .null, .val (.long q1), .second, .unset] [(.ref fr), (.int (3 : Int32))])) _
    refine X102.arraylength hx (by rw [e102]; exact Ar103.1) (State.isArrayOf_alike hZ.alike Ar103.2.1) (g := (mkF m 8 #[.val (.ref a1), .val .null, .val (.long q1), .second, .unset] [(.ref fr), (.int (3 : Int32))])) rfl rfl (hb hby own_d3_8) _ ?_
    rw [len_of As103 An103]
    refine XS.icmpYes X102.here hx rfl (pc0 := 9) (pc' := 16) rfl (hb hby own_d3_9) rfl (feq (by decide : ¬ ((3 : Int32) = (4 : Int32)))).2 (by decide) (by decide) ?_
    refine XS.aloadN X102.here hx rfl (hb hby own_d3_16) rfl rfl ?_
    refine st104 _ ?_
    show Steps _ _ _ (T104.setTop (mkF m 20 #[.val (.ref a1), .val .null, .val (.long q1), .second, .unset] [(.int (0 : Int32))])) _
    refine XS.aloadN X104.here hx rfl (hb hby own_d3_20) rfl rfl ?_
    refine XS.dup X104.here hx rfl (hb hby own_d3_21) rfl rfl ?_
    refine st105 _ ?_
    refine XS.dupX1 X105.here hx rfl (hb hby own_d3_25) rfl rfl rfl ?_
    show Steps _ _ _ (T105.setTop (mkF m 26 #[.val (.ref a1), .val .null, .val (.long q1), .second, .unset] [(.int (3 : Int32)), (.ref a1), (.int (3 : Int32)), (.int (0 : Int32))])) _
    refine XS.iconst X105.here hx rfl (hb hby own_d3_26) ?_
    refine XS.iadd X105.here hx rfl (hb hby own_d3_27) rfl ?_
    refine st106 _ ?_
    refine XS.iadd X106.here hx rfl (hb hby own_d3_31) rfl ?_
    show Steps _ _ _ (T106.setTop (mkF m 32 #[.val (.ref a1), .val .null, .val (.long q1), .second, .unset] [(.int (3 : Int32))])) _
    refine XS.aloadN X106.here hx rfl (hb hby own_d3_32) rfl rfl ?_
    refine st108 _ ?_
    refine X108.arraylength hx (by rw [e108]; exact Ar110.1) (State.isArrayOf_alike hZ.alike Ar110.2.1) (g := (mkF m 36 #[.val (.ref a1), .val .null, .val (.long q1), .second, .unset] [(.ref fr), (.int (3 : Int32))])) rfl rfl (hb hby own_d3_36) _ ?_
    rw [len_of As110 An110]
    refine iremM X108 hx rfl (hb hby own_d3_37) rfl (by decide) ?_
    show Steps _ _ _ (T108.setTop (mkF m 38 #[.val (.ref a1), .val .null, .val (.long q1), .second, .unset] [(.int (3 : Int32))])) _
    refine XS.istore X108.here hx rfl (hb hby own_d3_38) rfl (l' := #[.val (.ref a1), .val .null, .val (.long q1), .second, .val (.int (3 : Int32))]) rfl ?_
    refine XS.aloadN X108.here hx rfl (hb hby own_d3_40) rfl rfl ?_
    refine st111 _ ?_
    refine XS.iload X111.here hx rfl (hb hby own_d3_44) rfl ?_
    show Steps _ _ _ (T111.setTop (mkF m 46 #[.val (.ref a1), .val .null, .val (.long q1), .second, .val (.int (3 : Int32))] [(.int (3 : Int32)), (.ref fr)])) _
    refine XS.aloadN X111.here hx rfl (hb hby own_d3_46) rfl rfl ?_
    refine st113 _ ?_
    refine XS.aloadN X113.here hx rfl (hb hby own_d3_48) rfl rfl ?_
    refine st115 _ ?_
    show Steps _ _ _ (T115.setTop (mkF m 52 #[.val (.ref a1), .val .null, .val (.long q1), .second, .val (.int (3 : Int32))] [(.ref ti)])) _
    refine XS.iload X115.here hx rfl (hb hby own_d3_52) rfl ?_
    refine XS.lloadN X115.here hx rfl (hb hby own_d3_54) rfl ?_
    refine st118 _ ?_
    show Steps _ _ _ (T118.setTop (mkF m 56 #[.val (.ref a1), .val .null, .val (.long q1), .second, .val (.int (3 : Int32))] [])) _
    exact X118.returnOut hx Bd.returns (hb hby own_d3_56) hr
  · show Qown_add30 Z a1 fr ti kf kt t0 t1 t2 t3 q1 h0 n0 _ T118.heap _
    rw [e118]
    exact ⟨rfl, N118, fr, ti, kf, kt, ⟨Z118, g2, g3, c119, c120, c121, c122, c123, c124, V118, n1, n2, n3⟩⟩
def Qown_add40 (Z : State) (a1 fr ti : Addr) (kf kt : ClassId) (t0 t1 t2 t3 : Int64) (q1 : Int64) (h0 : Heap) (n0 : Nat) (v : Option Value) (h : Heap) (L : List Loc) : Prop := v = none ∧ Fr n0 L ∧ ∃ (fr ti : Addr) (kf kt : ClassId), own_St Z n0 h a1 fr ti kf kt (8 : Int32) [.null, .null, .null, .null, .null, .null, .null, .null] [(.long t0), (.long t1), (.long t2), (.long t3), (.long q1), (.long (0 : Int64)), (.long (0 : Int64)), (.long (0 : Int64))] (5 : Int32) (0 : Int32)
set_option maxRecDepth 65536 in
set_option maxHeartbeats 40000000 in
theorem own_add40 (l : Launch) (Z : State) (a0 : Array Value) (hw : ∀ d ∈ tables_1, d.before a0 Z = true) (ws : List Jvm.Cond) (a1 fr ti : Addr) (kf kt : ClassId) (t0 t1 t2 t3 : Int64) (q1 : Int64) (h0 : Heap) (n0 : Nat) (Z0 : n0 ≤ h0.size) (g1 : n0 ≤ a1) (H : own_St Z n0 h0 a1 fr ti kf kt (4 : Int32) [.null, .null, .null, .null] [(.long t0), (.long t1), (.long t2), (.long t3)] (4 : Int32) (0 : Int32)) :
    MetFree l own_m3 (head1 (Jvm.Cond.code own_m3 prog_10_method_2_code 5 none :: ws) ({ frames := 2, cells := 2, slots := 16, locals := 30 } : Room)) (fun a U => a = #[(.ref a1), .null, (.long q1)] ∧ Z.Warmed39 U.vm ∧ U.heap = h0) (fun _ _ _ _ _ => True) (fun _ U o U' => ∃ v L, o = .returned v ∧ Qown_add40 Z a1 fr ti kf kt t0 t1 t2 t3 q1 h0 n0 v U'.heap L ∧ FrameEnd U o U' L ({ frames := 2, cells := 2, slots := 16, locals := 30 } : Room).cells ({ frames := 2, cells := 2, slots := 16, locals := 30 } : Room).slots) := by
  refine MetFree.of_bodySF (plainFor_of_name own_pn0) hisR ?_
  intro p e s m args below meth c s₁ Bd hml0 hP hK
  obtain ⟨rfl, hZ, hh⟩ := hP
  have hx := Bd.exec
  have hby := Bd.bytes
  have hml : c.maxLocals = 5 := hml0
  have hown : s.vm.findClass "com/example/don_valley/donvalley/broker/QueuedFrames" = some m.cls := by have q := findClass_of_methodNamed Bd.named; exact q
  have hnm := (name_of_methodNamed Bd.named Bd.method).1
  have X0 : Stand p l e ({ frames := 2, cells := 2, slots := 16, locals := 30 } : Room) s m #[(.ref a1), .null, (.long q1)] below meth c s₁ [] 0 0 := Stand.of_body Bd
  have e0 : s₁.heap = h0 := by rw [← hh, Bd.state]; rfl
  have N0 := Fr.nil n0
  have pre0 : ∀ t, Steps p.tables e below (s₁.setTop (mkF m 0 #[.val (.ref a1), .val .null, .val (.long q1), .second, .unset] [])) t → Steps p.tables e below (s₁.setTop (entryFrame m #[(.ref a1), .null, (.long q1)] 5)) t := fun t k => castTop (by first | (simp [entryFrame, mkF, argsToLocals, Value.category, maxLocals]; done) | rfl) k
  obtain ⟨hZ1, g2, g3, E1, Ff, Ft, Fs, F1, Vf, Vt, n1, n2, n3⟩ := H
  obtain ⟨T101, X101, e101, st101⟩ := getF X0 hx hZ hown (host := "") (Or.inl (own_w21 hw)) Via.refl e0 Fs (g := (mkF m 1 #[.val (.ref a1), .val .null, .val (.long q1), .second, .unset] [(.ref a1)])) rfl rfl (hb hby own_d3_1)
  obtain ⟨T102, X102, e102, st102⟩ := getF X101 hx hZ hown (host := "") (Or.inl (own_w11 hw)) Via.refl e101 Ff (g := (mkF m 5 #[.val (.ref a1), .val .null, .val (.long q1), .second, .unset] [(.ref a1), (.int (4 : Int32))])) rfl rfl (hb hby own_d3_5)
  obtain ⟨cl103, Ar103, Aq103, As103, An103, Ah103, Ag103⟩ := id Vf
  obtain ⟨cq104, q104, q104'⟩ := E1.cell
  obtain ⟨_, _, ⟨T104, L104, k104, n104⟩, -, X104, ⟨Lc104, hQ104, l104, y104, z104⟩, st104⟩ := X102.privateBack hx (y := own_m2) hown (mvT hZ (own_w40 hw)) (mvT hZ (own_w41 hw)) (mvT hZ (own_selp (own_w1 hw) (own_w42 hw) (own_w41 hw) (by decide))) (Cond.privateMethod_at (mvP hZ (own_w42 hw) (args := #[]))) (mvT hZ (own_w43 hw)) (by decide) (backOf (W := 0) (own_grow l Z a0 hw [] a1 fr ti kf kt t0 t1 t2 t3 h0 n0 hZ1 g1 ⟨hZ1, g2, g3, E1, Ff, Ft, Fs, F1, Vf, Vt, n1, n2, n3⟩) hZ (own_w43 hw) (own_w2 hw) (by decide) (by decide)) (g := (mkF m 13 #[.val (.ref a1), .val .null, .val (.long q1), .second, .unset] [(.ref a1)])) rfl (by rw [hml]; rfl) (Steps.refl _) (a := a1) (by rw [e102]; exact q104) q104' (argsL := []) (rest := []) (lenOf own_pd1 rfl) rfl (by show 2 * 0 + _ ≤ _; exact Nat.le_of_eq rfl) (hb hby own_d3_13) (fun _ _ => ⟨rfl, e102, (by decide : 0 + 2 ≤ _), (by decide : 0 + 16 ≤ _)⟩)
  dsimp only [Pt.U, Pt.locs, Pt.cells, Pt.slots] at X104 l104 y104 z104 st104 hQ104
  subst l104 y104 z104
  obtain ⟨rfl, N104q, hG104⟩ := hQ104
  have N104 := Fr.app N0 N104q
  obtain ⟨fr2, ti2, kf2, kt2, hZ2, g22, g32, E12, Ff2, Ft2, Fs2, F12, Vf2, Vt2, n12, n22, n32⟩ := hG104
  obtain ⟨T105, X105, e105, st105⟩ := getF X104 hx hZ hown (host := "") (Or.inl (own_w23 hw)) Via.refl rfl F12 (g := (mkF m 17 #[.val (.ref a1), .val .null, .val (.long q1), .second, .unset] [(.ref a1)])) rfl rfl (hb hby own_d3_17)
  obtain ⟨T106, X106, e106, st106⟩ := getF X105 hx hZ hown (host := "") (Or.inl (own_w21 hw)) Via.refl e105 Fs2 (g := (mkF m 22 #[.val (.ref a1), .val .null, .val (.long q1), .second, .unset] [(.ref a1), (.ref a1), (.int (0 : Int32))])) rfl rfl (hb hby own_d3_22)
  obtain ⟨T107, h107, X107, e107, W107, st107⟩ := putF X106 hx hZ hown (host := "") (Or.inl (own_w21 hw)) Via.refl e106 Fs2 E12 (Or.inl (own_w22 hw)) (own_w1 hw) (ty := .int) (by decide) rfl rfl (g := (mkF m 28 #[.val (.ref a1), .val .null, .val (.long q1), .second, .unset] [(.int (5 : Int32)), (.ref a1), (.int (4 : Int32)), (.int (0 : Int32))])) rfl rfl (hb hby own_d3_28)
  have Z107 : n0 ≤ h107.size := Nat.le_trans hZ2 (Nat.le_of_eq W107.size.symm)
  have N107 := Fr.snoc X107 N104 g1
  have Fw107 := Fs2.same W107
  have c108 := (Ff2.other W107 (Or.inr (slot_ne (Or.inl (own_w12 hw)) (Or.inl (own_w22 hw)) (by decide) (t := (.array (.object "java/nio/ByteBuffer"))) (t' := .int) (by decide) (by decide))))
  obtain ⟨T109, X109, e109, st109⟩ := getF X107 hx hZ hown (host := "") (Or.inl (own_w11 hw)) Via.refl e107 c108 (g := (mkF m 33 #[.val (.ref a1), .val .null, .val (.long q1), .second, .unset] [(.ref a1), (.int (4 : Int32))])) rfl rfl (hb hby own_d3_33)
  have c110 := (Vf2.other W107 (Ne.symm n12))
  obtain ⟨cl111, Ar111, Aq111, As111, An111, Ah111, Ag111⟩ := id c110
  obtain ⟨T112, X112, e112, st112⟩ := getF X109 hx hZ hown (host := "") (Or.inl (own_w11 hw)) Via.refl e109 c108 (g := (mkF m 41 #[.val (.ref a1), .val .null, .val (.long q1), .second, .val (.int (4 : Int32))] [(.ref a1)])) rfl rfl (hb hby own_d3_41)
  obtain ⟨cl113, Ar113, Aq113, As113, An113, Ah113, Ag113⟩ := id c110
  have hin113 : ¬ ((4 : Int32) < 0 ∨ cl113.slots.size ≤ ((4 : Int32)).toNatClampNeg) := inb_of As113 ⟨by decide, by decide⟩
  obtain ⟨T114, h114, X114, e114, W114, st114⟩ := stR X112 hx hZ e112 Ar113 (j := (4 : Int32)) hin113 rfl (Or.inl rfl) (g := (mkF m 47 #[.val (.ref a1), .val .null, .val (.long q1), .second, .val (.int (4 : Int32))] [.null, (.int (4 : Int32)), (.ref fr2)])) rfl rfl (hb hby own_d3_47)
  have Z114 : n0 ≤ h114.size := Nat.le_trans Z107 (Nat.le_of_eq W114.size.symm)
  have N114 := Fr.snoc X114 N107 g22
  have V114 : Arv Z h114 fr2 kf2 (.object "java/nio/ByteBuffer") (8 : Int32) [.null, .null, .null, .null, .null, .null, .null, .null] .null := Arv.set Ar113 Aq113 As113 An113 Ah113 Ag113 rfl W114 4 rfl (Nat.le_of_ble_eq_true rfl)
  have c115 := ((Ft2.other W107 (Or.inr (slot_ne (Or.inl (own_w15 hw)) (Or.inl (own_w22 hw)) (by decide) (t := (.array .long)) (t' := .int) (by decide) (by decide)))).other W114 (Or.inl n12))
  obtain ⟨T116, X116, e116, st116⟩ := getF X114 hx hZ hown (host := "") (Or.inl (own_w14 hw)) Via.refl e114 c115 (g := (mkF m 49 #[.val (.ref a1), .val .null, .val (.long q1), .second, .val (.int (4 : Int32))] [(.ref a1)])) rfl rfl (hb hby own_d3_49)
  have c117 := ((Vt2.other W107 (Ne.symm n22)).other W114 (Ne.symm n32))
  obtain ⟨cl118, Ar118, Aq118, As118, An118, Ah118, Ag118⟩ := id c117
  have hin118 : ¬ ((4 : Int32) < 0 ∨ cl118.slots.size ≤ ((4 : Int32)).toNatClampNeg) := inb_of As118 ⟨by decide, by decide⟩
  obtain ⟨T119, h119, X119, e119, W119, st119⟩ := stJ X116 hx hZ e116 Ar118 (j := (4 : Int32)) hin118 (g := (mkF m 55 #[.val (.ref a1), .val .null, .val (.long q1), .second, .val (.int (4 : Int32))] [(.long q1), (.int (4 : Int32)), (.ref ti2)])) rfl rfl (hb hby own_d3_55)
  have Z119 : n0 ≤ h119.size := Nat.le_trans Z114 (Nat.le_of_eq W119.size.symm)
  have N119 := Fr.snoc X119 N114 g32
  have V119 : Arv Z h119 ti2 kt2 .long (8 : Int32) [(.long t0), (.long t1), (.long t2), (.long t3), (.long q1), (.long (0 : Int64)), (.long (0 : Int64)), (.long (0 : Int64))] (.long (0 : Int64)) := Arv.set Ar118 Aq118 As118 An118 Ah118 Ag118 rfl W119 4 rfl (Nat.le_of_ble_eq_true rfl)
  have c120 := (((E12.wr W107).wr W114).wr W119)
  have c121 := ((c108.other W114 (Or.inl n12)).other W119 (Or.inl n22))
  have c122 := (c115.other W119 (Or.inl n22))
  have c123 := ((Fw107.other W114 (Or.inl n12)).other W119 (Or.inl n22))
  have c124 := (((F12.other W107 (Or.inr (slot_ne (Or.inl (own_w24 hw)) (Or.inl (own_w22 hw)) (by decide) (t := .int) (t' := .int) (by decide) (by decide)))).other W114 (Or.inl n12)).other W119 (Or.inl n22))
  have c125 := (V114.other W119 n32)
  obtain ⟨fs, hr, hrun, hended, hW, hsame⟩ := X119.leave (v := none) (fun _ => rfl)
  refine ⟨_, _, pre0 _ ?_, hrun, hended, _, _, rfl, ?_, ⟨_, rfl⟩, hW, hsame.mono (by decide) (by decide)⟩
  · show Steps _ _ _ (s₁.setTop (mkF m 0 #[.val (.ref a1), .val .null, .val (.long q1), .second, .unset] [])) _
    refine XS.aloadN X0.here hx rfl (hb hby own_d3_0) rfl rfl ?_
    refine st101 _ ?_
    refine XS.aloadN X101.here hx rfl (hb hby own_d3_4) rfl rfl ?_
    refine st102 _ ?_
    show Steps _ _ _ (T102.setTop (mkF m 8 #[.val (.ref a1), .val .null, .val (.long q1), .second, .unset] [(.ref fr), (.int (4 : Int32))])) _
    refine X102.arraylength hx (by rw [e102]; exact Ar103.1) (State.isArrayOf_alike hZ.alike Ar103.2.1) (g := (mkF m 8 #[.val (.ref a1), .val .null, .val (.long q1), .second, .unset] [(.ref fr), (.int (4 : Int32))])) rfl rfl (hb hby own_d3_8) _ ?_
    rw [len_of As103 An103]
    refine XS.icmpNo X102.here hx rfl (hb hby own_d3_9) rfl (teq (by decide : (4 : Int32) = (4 : Int32))).2 ?_
    refine XS.aloadN X102.here hx rfl (hb hby own_d3_12) rfl rfl ?_
    refine st104.trans ?_
    show Steps _ _ _ (T104.setTop (mkF m 16 #[.val (.ref a1), .val .null, .val (.long q1), .second, .unset] [])) _
    refine XS.aloadN X104.here hx rfl (hb hby own_d3_16) rfl rfl ?_
    refine st105 _ ?_
    refine XS.aloadN X105.here hx rfl (hb hby own_d3_20) rfl rfl ?_
    refine XS.dup X105.here hx rfl (hb hby own_d3_21) rfl rfl ?_
    show Steps _ _ _ (T105.setTop (mkF m 22 #[.val (.ref a1), .val .null, .val (.long q1), .second, .unset] [(.ref a1), (.ref a1), (.int (0 : Int32))])) _
    refine st106 _ ?_
    refine XS.dupX1 X106.here hx rfl (hb hby own_d3_25) rfl rfl rfl ?_
    refine XS.iconst X106.here hx rfl (hb hby own_d3_26) ?_
    refine XS.iadd X106.here hx rfl (hb hby own_d3_27) rfl ?_
    show Steps _ _ _ (T106.setTop (mkF m 28 #[.val (.ref a1), .val .null, .val (.long q1), .second, .unset] [(.int (5 : Int32)), (.ref a1), (.int (4 : Int32)), (.int (0 : Int32))])) _
    refine st107 _ ?_
    refine XS.iadd X107.here hx rfl (hb hby own_d3_31) rfl ?_
    refine XS.aloadN X107.here hx rfl (hb hby own_d3_32) rfl rfl ?_
    refine st109 _ ?_
    show Steps _ _ _ (T109.setTop (mkF m 36 #[.val (.ref a1), .val .null, .val (.long q1), .second, .unset] [(.ref fr2), (.int (4 : Int32))])) _
    refine X109.arraylength hx (by rw [e109]; exact Ar111.1) (State.isArrayOf_alike hZ.alike Ar111.2.1) (g := (mkF m 36 #[.val (.ref a1), .val .null, .val (.long q1), .second, .unset] [(.ref fr2), (.int (4 : Int32))])) rfl rfl (hb hby own_d3_36) _ ?_
    rw [len_of As111 An111]
    refine iremM X109 hx rfl (hb hby own_d3_37) rfl (by decide) ?_
    refine XS.istore X109.here hx rfl (hb hby own_d3_38) rfl (l' := #[.val (.ref a1), .val .null, .val (.long q1), .second, .val (.int (4 : Int32))]) rfl ?_
    refine XS.aloadN X109.here hx rfl (hb hby own_d3_40) rfl rfl ?_
    show Steps _ _ _ (T109.setTop (mkF m 41 #[.val (.ref a1), .val .null, .val (.long q1), .second, .val (.int (4 : Int32))] [(.ref a1)])) _
    refine st112 _ ?_
    refine XS.iload X112.here hx rfl (hb hby own_d3_44) rfl ?_
    refine XS.aloadN X112.here hx rfl (hb hby own_d3_46) rfl rfl ?_
    refine st114 _ ?_
    show Steps _ _ _ (T114.setTop (mkF m 48 #[.val (.ref a1), .val .null, .val (.long q1), .second, .val (.int (4 : Int32))] [])) _
    refine XS.aloadN X114.here hx rfl (hb hby own_d3_48) rfl rfl ?_
    refine st116 _ ?_
    refine XS.iload X116.here hx rfl (hb hby own_d3_52) rfl ?_
    refine XS.lloadN X116.here hx rfl (hb hby own_d3_54) rfl ?_
    show Steps _ _ _ (T116.setTop (mkF m 55 #[.val (.ref a1), .val .null, .val (.long q1), .second, .val (.int (4 : Int32))] [(.long q1), (.int (4 : Int32)), (.ref ti2)])) _
    refine st119 _ ?_
    show Steps _ _ _ (T119.setTop (mkF m 56 #[.val (.ref a1), .val .null, .val (.long q1), .second, .val (.int (4 : Int32))] [])) _
    exact X119.returnOut hx Bd.returns (hb hby own_d3_56) hr
  · show Qown_add40 Z a1 fr ti kf kt t0 t1 t2 t3 q1 h0 n0 _ T119.heap _
    rw [e119]
    exact ⟨rfl, N119, fr2, ti2, kf2, kt2, ⟨Z119, g22, g32, c120, c121, c122, c123, c124, c125, V119, n12, n22, n32⟩⟩
def Qown_add31 (Z : State) (a1 fr ti : Addr) (kf kt : ClassId) (t0 t1 t2 t3 : Int64) (q1 : Int64) (h0 : Heap) (n0 : Nat) (v : Option Value) (h : Heap) (L : List Loc) : Prop := v = none ∧ Fr n0 L ∧ ∃ (fr ti : Addr) (kf kt : ClassId), own_St Z n0 h a1 fr ti kf kt (4 : Int32) [.null, .null, .null, .null] [(.long q1), (.long t1), (.long t2), (.long t3)] (4 : Int32) (1 : Int32)
set_option maxRecDepth 65536 in
set_option maxHeartbeats 40000000 in
theorem own_add31 (l : Launch) (Z : State) (a0 : Array Value) (hw : ∀ d ∈ tables_1, d.before a0 Z = true) (ws : List Jvm.Cond) (a1 fr ti : Addr) (kf kt : ClassId) (t0 t1 t2 t3 : Int64) (q1 : Int64) (h0 : Heap) (n0 : Nat) (Z0 : n0 ≤ h0.size) (g1 : n0 ≤ a1) (H : own_St Z n0 h0 a1 fr ti kf kt (4 : Int32) [.null, .null, .null, .null] [(.long t0), (.long t1), (.long t2), (.long t3)] (3 : Int32) (1 : Int32)) :
    MetFree l own_m3 (head1 (Jvm.Cond.code own_m3 prog_10_method_2_code 5 none :: ws) ({ frames := 0, cells := 0, slots := 0, locals := 0 } : Room)) (fun a U => a = #[(.ref a1), .null, (.long q1)] ∧ Z.Warmed39 U.vm ∧ U.heap = h0) (fun _ _ _ _ _ => True) (fun _ U o U' => ∃ v L, o = .returned v ∧ Qown_add31 Z a1 fr ti kf kt t0 t1 t2 t3 q1 h0 n0 v U'.heap L ∧ FrameEnd U o U' L ({ frames := 0, cells := 0, slots := 0, locals := 0 } : Room).cells ({ frames := 0, cells := 0, slots := 0, locals := 0 } : Room).slots) := by
  refine MetFree.of_bodySF (plainFor_of_name own_pn0) hisR ?_
  intro p e s m args below meth c s₁ Bd hml0 hP hK
  obtain ⟨rfl, hZ, hh⟩ := hP
  have hx := Bd.exec
  have hby := Bd.bytes
  have hml : c.maxLocals = 5 := hml0
  have hown : s.vm.findClass "com/example/don_valley/donvalley/broker/QueuedFrames" = some m.cls := by have q := findClass_of_methodNamed Bd.named; exact q
  have hnm := (name_of_methodNamed Bd.named Bd.method).1
  have X0 : Stand p l e ({ frames := 0, cells := 0, slots := 0, locals := 0 } : Room) s m #[(.ref a1), .null, (.long q1)] below meth c s₁ [] 0 0 := Stand.of_body Bd
  have e0 : s₁.heap = h0 := by rw [← hh, Bd.state]; rfl
  have N0 := Fr.nil n0
  have pre0 : ∀ t, Steps p.tables e below (s₁.setTop (mkF m 0 #[.val (.ref a1), .val .null, .val (.long q1), .second, .unset] [])) t → Steps p.tables e below (s₁.setTop (entryFrame m #[(.ref a1), .null, (.long q1)] 5)) t := fun t k => castTop (by first | (simp [entryFrame, mkF, argsToLocals, Value.category, maxLocals]; done) | rfl) k
  obtain ⟨hZ1, g2, g3, E1, Ff, Ft, Fs, F1, Vf, Vt, n1, n2, n3⟩ := H
  obtain ⟨T101, X101, e101, st101⟩ := getF X0 hx hZ hown (host := "") (Or.inl (own_w21 hw)) Via.refl e0 Fs (g := (mkF m 1 #[.val (.ref a1), .val .null, .val (.long q1), .second, .unset] [(.ref a1)])) rfl rfl (hb hby own_d3_1)
  obtain ⟨T102, X102, e102, st102⟩ := getF X101 hx hZ hown (host := "") (Or.inl (own_w11 hw)) Via.refl e101 Ff (g := (mkF m 5 #[.val (.ref a1), .val .null, .val (.long q1), .second, .unset] [(.ref a1), (.int (3 : Int32))])) rfl rfl (hb hby own_d3_5)
  obtain ⟨cl103, Ar103, Aq103, As103, An103, Ah103, Ag103⟩ := id Vf
  obtain ⟨T104, X104, e104, st104⟩ := getF X102 hx hZ hown (host := "") (Or.inl (own_w23 hw)) Via.refl e102 F1 (g := (mkF m 17 #[.val (.ref a1), .val .null, .val (.long q1), .second, .unset] [(.ref a1)])) rfl rfl (hb hby own_d3_17)
  obtain ⟨T105, X105, e105, st105⟩ := getF X104 hx hZ hown (host := "") (Or.inl (own_w21 hw)) Via.refl e104 Fs (g := (mkF m 22 #[.val (.ref a1), .val .null, .val (.long q1), .second, .unset] [(.ref a1), (.ref a1), (.int (1 : Int32))])) rfl rfl (hb hby own_d3_22)
  obtain ⟨T106, h106, X106, e106, W106, st106⟩ := putF X105 hx hZ hown (host := "") (Or.inl (own_w21 hw)) Via.refl e105 Fs E1 (Or.inl (own_w22 hw)) (own_w1 hw) (ty := .int) (by decide) rfl rfl (g := (mkF m 28 #[.val (.ref a1), .val .null, .val (.long q1), .second, .unset] [(.int (4 : Int32)), (.ref a1), (.int (3 : Int32)), (.int (1 : Int32))])) rfl rfl (hb hby own_d3_28)
  have Z106 : n0 ≤ h106.size := Nat.le_trans hZ1 (Nat.le_of_eq W106.size.symm)
  have N106 := Fr.snoc X106 N0 g1
  have Fw106 := Fs.same W106
  have c107 := (Ff.other W106 (Or.inr (slot_ne (Or.inl (own_w12 hw)) (Or.inl (own_w22 hw)) (by decide) (t := (.array (.object "java/nio/ByteBuffer"))) (t' := .int) (by decide) (by decide))))
  obtain ⟨T108, X108, e108, st108⟩ := getF X106 hx hZ hown (host := "") (Or.inl (own_w11 hw)) Via.refl e106 c107 (g := (mkF m 33 #[.val (.ref a1), .val .null, .val (.long q1), .second, .unset] [(.ref a1), (.int (4 : Int32))])) rfl rfl (hb hby own_d3_33)
  have c109 := (Vf.other W106 (Ne.symm n1))
  obtain ⟨cl110, Ar110, Aq110, As110, An110, Ah110, Ag110⟩ := id c109
  obtain ⟨T111, X111, e111, st111⟩ := getF X108 hx hZ hown (host := "") (Or.inl (own_w11 hw)) Via.refl e108 c107 (g := (mkF m 41 #[.val (.ref a1), .val .null, .val (.long q1), .second, .val (.int (0 : Int32))] [(.ref a1)])) rfl rfl (hb hby own_d3_41)
  obtain ⟨cl112, Ar112, Aq112, As112, An112, Ah112, Ag112⟩ := id c109
  have hin112 : ¬ ((0 : Int32) < 0 ∨ cl112.slots.size ≤ ((0 : Int32)).toNatClampNeg) := inb_of As112 ⟨by decide, by decide⟩
  obtain ⟨T113, h113, X113, e113, W113, st113⟩ := stR X111 hx hZ e111 Ar112 (j := (0 : Int32)) hin112 rfl (Or.inl rfl) (g := (mkF m 47 #[.val (.ref a1), .val .null, .val (.long q1), .second, .val (.int (0 : Int32))] [.null, (.int (0 : Int32)), (.ref fr)])) rfl rfl (hb hby own_d3_47)
  have Z113 : n0 ≤ h113.size := Nat.le_trans Z106 (Nat.le_of_eq W113.size.symm)
  have N113 := Fr.snoc X113 N106 g2
  have V113 : Arv Z h113 fr kf (.object "java/nio/ByteBuffer") (4 : Int32) [.null, .null, .null, .null] .null := Arv.set Ar112 Aq112 As112 An112 Ah112 Ag112 rfl W113 0 rfl (Nat.le_of_ble_eq_true rfl)
  have c114 := ((Ft.other W106 (Or.inr (slot_ne (Or.inl (own_w15 hw)) (Or.inl (own_w22 hw)) (by decide) (t := (.array .long)) (t' := .int) (by decide) (by decide)))).other W113 (Or.inl n1))
  obtain ⟨T115, X115, e115, st115⟩ := getF X113 hx hZ hown (host := "") (Or.inl (own_w14 hw)) Via.refl e113 c114 (g := (mkF m 49 #[.val (.ref a1), .val .null, .val (.long q1), .second, .val (.int (0 : Int32))] [(.ref a1)])) rfl rfl (hb hby own_d3_49)
  have c116 := ((Vt.other W106 (Ne.symm n2)).other W113 (Ne.symm n3))
  obtain ⟨cl117, Ar117, Aq117, As117, An117, Ah117, Ag117⟩ := id c116
  have hin117 : ¬ ((0 : Int32) < 0 ∨ cl117.slots.size ≤ ((0 : Int32)).toNatClampNeg) := inb_of As117 ⟨by decide, by decide⟩
  obtain ⟨T118, h118, X118, e118, W118, st118⟩ := stJ X115 hx hZ e115 Ar117 (j := (0 : Int32)) hin117 (g := (mkF m 55 #[.val (.ref a1), .val .null, .val (.long q1), .second, .val (.int (0 : Int32))] [(.long q1), (.int (0 : Int32)), (.ref ti)])) rfl rfl (hb hby own_d3_55)
  have Z118 : n0 ≤ h118.size := Nat.le_trans Z113 (Nat.le_of_eq W118.size.symm)
  have N118 := Fr.snoc X118 N113 g3
  have V118 : Arv Z h118 ti kt .long (4 : Int32) [(.long q1), (.long t1), (.long t2), (.long t3)] (.long (0 : Int64)) := Arv.set Ar117 Aq117 As117 An117 Ah117 Ag117 rfl W118 0 rfl (Nat.le_of_ble_eq_true rfl)
  have c119 := (((E1.wr W106).wr W113).wr W118)
  have c120 := ((c107.other W113 (Or.inl n1)).other W118 (Or.inl n2))
  have c121 := (c114.other W118 (Or.inl n2))
  have c122 := ((Fw106.other W113 (Or.inl n1)).other W118 (Or.inl n2))
  have c123 := (((F1.other W106 (Or.inr (slot_ne (Or.inl (own_w24 hw)) (Or.inl (own_w22 hw)) (by decide) (t := .int) (t' := .int) (by decide) (by decide)))).other W113 (Or.inl n1)).other W118 (Or.inl n2))
  have c124 := (V113.other W118 n3)
  obtain ⟨fs, hr, hrun, hended, hW, hsame⟩ := X118.leave (v := none) (fun _ => rfl)
  refine ⟨_, _, pre0 _ ?_, hrun, hended, _, _, rfl, ?_, ⟨_, rfl⟩, hW, hsame.mono (by decide) (by decide)⟩
  · show Steps _ _ _ (s₁.setTop (mkF m 0 #[.val (.ref a1), .val .null, .val (.long q1), .second, .unset] [])) _
    refine XS.aloadN X0.here hx rfl (hb hby own_d3_0) rfl rfl ?_
    refine st101 _ ?_
    refine XS.aloadN X101.here hx rfl (hb hby own_d3_4) rfl rfl ?_
    refine st102 _ ?_
    show Steps _ _ _ (T102.setTop (mkF m 8 #[.val (.ref a1), .val .null, .val (.long q1), .second, .unset] [(.ref fr), (.int (3 : Int32))])) _
    refine X102.arraylength hx (by rw [e102]; exact Ar103.1) (State.isArrayOf_alike hZ.alike Ar103.2.1) (g := (mkF m 8 #[.val (.ref a1), .val .null, .val (.long q1), .second, .unset] [(.ref fr), (.int (3 : Int32))])) rfl rfl (hb hby own_d3_8) _ ?_
    rw [len_of As103 An103]
    refine XS.icmpYes X102.here hx rfl (pc0 := 9) (pc' := 16) rfl (hb hby own_d3_9) rfl (feq (by decide : ¬ ((3 : Int32) = (4 : Int32)))).2 (by decide) (by decide) ?_
    refine XS.aloadN X102.here hx rfl (hb hby own_d3_16) rfl rfl ?_
    refine st104 _ ?_
    show Steps _ _ _ (T104.setTop (mkF m 20 #[.val (.ref a1), .val .null, .val (.long q1), .second, .unset] [(.int (1 : Int32))])) _
    refine XS.aloadN X104.here hx rfl (hb hby own_d3_20) rfl rfl ?_
    refine XS.dup X104.here hx rfl (hb hby own_d3_21) rfl rfl ?_
    refine st105 _ ?_
    refine XS.dupX1 X105.here hx rfl (hb hby own_d3_25) rfl rfl rfl ?_
    show Steps _ _ _ (T105.setTop (mkF m 26 #[.val (.ref a1), .val .null, .val (.long q1), .second, .unset] [(.int (3 : Int32)), (.ref a1), (.int (3 : Int32)), (.int (1 : Int32))])) _
    refine XS.iconst X105.here hx rfl (hb hby own_d3_26) ?_
    refine XS.iadd X105.here hx rfl (hb hby own_d3_27) rfl ?_
    refine st106 _ ?_
    refine XS.iadd X106.here hx rfl (hb hby own_d3_31) rfl ?_
    show Steps _ _ _ (T106.setTop (mkF m 32 #[.val (.ref a1), .val .null, .val (.long q1), .second, .unset] [(.int (4 : Int32))])) _
    refine XS.aloadN X106.here hx rfl (hb hby own_d3_32) rfl rfl ?_
    refine st108 _ ?_
    refine X108.arraylength hx (by rw [e108]; exact Ar110.1) (State.isArrayOf_alike hZ.alike Ar110.2.1) (g := (mkF m 36 #[.val (.ref a1), .val .null, .val (.long q1), .second, .unset] [(.ref fr), (.int (4 : Int32))])) rfl rfl (hb hby own_d3_36) _ ?_
    rw [len_of As110 An110]
    refine iremM X108 hx rfl (hb hby own_d3_37) rfl (by decide) ?_
    show Steps _ _ _ (T108.setTop (mkF m 38 #[.val (.ref a1), .val .null, .val (.long q1), .second, .unset] [(.int (0 : Int32))])) _
    refine XS.istore X108.here hx rfl (hb hby own_d3_38) rfl (l' := #[.val (.ref a1), .val .null, .val (.long q1), .second, .val (.int (0 : Int32))]) rfl ?_
    refine XS.aloadN X108.here hx rfl (hb hby own_d3_40) rfl rfl ?_
    refine st111 _ ?_
    refine XS.iload X111.here hx rfl (hb hby own_d3_44) rfl ?_
    show Steps _ _ _ (T111.setTop (mkF m 46 #[.val (.ref a1), .val .null, .val (.long q1), .second, .val (.int (0 : Int32))] [(.int (0 : Int32)), (.ref fr)])) _
    refine XS.aloadN X111.here hx rfl (hb hby own_d3_46) rfl rfl ?_
    refine st113 _ ?_
    refine XS.aloadN X113.here hx rfl (hb hby own_d3_48) rfl rfl ?_
    refine st115 _ ?_
    show Steps _ _ _ (T115.setTop (mkF m 52 #[.val (.ref a1), .val .null, .val (.long q1), .second, .val (.int (0 : Int32))] [(.ref ti)])) _
    refine XS.iload X115.here hx rfl (hb hby own_d3_52) rfl ?_
    refine XS.lloadN X115.here hx rfl (hb hby own_d3_54) rfl ?_
    refine st118 _ ?_
    show Steps _ _ _ (T118.setTop (mkF m 56 #[.val (.ref a1), .val .null, .val (.long q1), .second, .val (.int (0 : Int32))] [])) _
    exact X118.returnOut hx Bd.returns (hb hby own_d3_56) hr
  · show Qown_add31 Z a1 fr ti kf kt t0 t1 t2 t3 q1 h0 n0 _ T118.heap _
    rw [e118]
    exact ⟨rfl, N118, fr, ti, kf, kt, ⟨Z118, g2, g3, c119, c120, c121, c122, c123, c124, V118, n1, n2, n3⟩⟩
def Qown_add22 (Z : State) (a1 fr ti : Addr) (kf kt : ClassId) (t0 t1 t2 t3 : Int64) (q1 : Int64) (h0 : Heap) (n0 : Nat) (v : Option Value) (h : Heap) (L : List Loc) : Prop := v = none ∧ Fr n0 L ∧ ∃ (fr ti : Addr) (kf kt : ClassId), own_St Z n0 h a1 fr ti kf kt (4 : Int32) [.null, .null, .null, .null] [(.long q1), (.long t1), (.long t2), (.long t3)] (3 : Int32) (2 : Int32)
set_option maxRecDepth 65536 in
set_option maxHeartbeats 40000000 in
theorem own_add22 (l : Launch) (Z : State) (a0 : Array Value) (hw : ∀ d ∈ tables_1, d.before a0 Z = true) (ws : List Jvm.Cond) (a1 fr ti : Addr) (kf kt : ClassId) (t0 t1 t2 t3 : Int64) (q1 : Int64) (h0 : Heap) (n0 : Nat) (Z0 : n0 ≤ h0.size) (g1 : n0 ≤ a1) (H : own_St Z n0 h0 a1 fr ti kf kt (4 : Int32) [.null, .null, .null, .null] [(.long t0), (.long t1), (.long t2), (.long t3)] (2 : Int32) (2 : Int32)) :
    MetFree l own_m3 (head1 (Jvm.Cond.code own_m3 prog_10_method_2_code 5 none :: ws) ({ frames := 0, cells := 0, slots := 0, locals := 0 } : Room)) (fun a U => a = #[(.ref a1), .null, (.long q1)] ∧ Z.Warmed39 U.vm ∧ U.heap = h0) (fun _ _ _ _ _ => True) (fun _ U o U' => ∃ v L, o = .returned v ∧ Qown_add22 Z a1 fr ti kf kt t0 t1 t2 t3 q1 h0 n0 v U'.heap L ∧ FrameEnd U o U' L ({ frames := 0, cells := 0, slots := 0, locals := 0 } : Room).cells ({ frames := 0, cells := 0, slots := 0, locals := 0 } : Room).slots) := by
  refine MetFree.of_bodySF (plainFor_of_name own_pn0) hisR ?_
  intro p e s m args below meth c s₁ Bd hml0 hP hK
  obtain ⟨rfl, hZ, hh⟩ := hP
  have hx := Bd.exec
  have hby := Bd.bytes
  have hml : c.maxLocals = 5 := hml0
  have hown : s.vm.findClass "com/example/don_valley/donvalley/broker/QueuedFrames" = some m.cls := by have q := findClass_of_methodNamed Bd.named; exact q
  have hnm := (name_of_methodNamed Bd.named Bd.method).1
  have X0 : Stand p l e ({ frames := 0, cells := 0, slots := 0, locals := 0 } : Room) s m #[(.ref a1), .null, (.long q1)] below meth c s₁ [] 0 0 := Stand.of_body Bd
  have e0 : s₁.heap = h0 := by rw [← hh, Bd.state]; rfl
  have N0 := Fr.nil n0
  have pre0 : ∀ t, Steps p.tables e below (s₁.setTop (mkF m 0 #[.val (.ref a1), .val .null, .val (.long q1), .second, .unset] [])) t → Steps p.tables e below (s₁.setTop (entryFrame m #[(.ref a1), .null, (.long q1)] 5)) t := fun t k => castTop (by first | (simp [entryFrame, mkF, argsToLocals, Value.category, maxLocals]; done) | rfl) k
  obtain ⟨hZ1, g2, g3, E1, Ff, Ft, Fs, F1, Vf, Vt, n1, n2, n3⟩ := H
  obtain ⟨T101, X101, e101, st101⟩ := getF X0 hx hZ hown (host := "") (Or.inl (own_w21 hw)) Via.refl e0 Fs (g := (mkF m 1 #[.val (.ref a1), .val .null, .val (.long q1), .second, .unset] [(.ref a1)])) rfl rfl (hb hby own_d3_1)
  obtain ⟨T102, X102, e102, st102⟩ := getF X101 hx hZ hown (host := "") (Or.inl (own_w11 hw)) Via.refl e101 Ff (g := (mkF m 5 #[.val (.ref a1), .val .null, .val (.long q1), .second, .unset] [(.ref a1), (.int (2 : Int32))])) rfl rfl (hb hby own_d3_5)
  obtain ⟨cl103, Ar103, Aq103, As103, An103, Ah103, Ag103⟩ := id Vf
  obtain ⟨T104, X104, e104, st104⟩ := getF X102 hx hZ hown (host := "") (Or.inl (own_w23 hw)) Via.refl e102 F1 (g := (mkF m 17 #[.val (.ref a1), .val .null, .val (.long q1), .second, .unset] [(.ref a1)])) rfl rfl (hb hby own_d3_17)
  obtain ⟨T105, X105, e105, st105⟩ := getF X104 hx hZ hown (host := "") (Or.inl (own_w21 hw)) Via.refl e104 Fs (g := (mkF m 22 #[.val (.ref a1), .val .null, .val (.long q1), .second, .unset] [(.ref a1), (.ref a1), (.int (2 : Int32))])) rfl rfl (hb hby own_d3_22)
  obtain ⟨T106, h106, X106, e106, W106, st106⟩ := putF X105 hx hZ hown (host := "") (Or.inl (own_w21 hw)) Via.refl e105 Fs E1 (Or.inl (own_w22 hw)) (own_w1 hw) (ty := .int) (by decide) rfl rfl (g := (mkF m 28 #[.val (.ref a1), .val .null, .val (.long q1), .second, .unset] [(.int (3 : Int32)), (.ref a1), (.int (2 : Int32)), (.int (2 : Int32))])) rfl rfl (hb hby own_d3_28)
  have Z106 : n0 ≤ h106.size := Nat.le_trans hZ1 (Nat.le_of_eq W106.size.symm)
  have N106 := Fr.snoc X106 N0 g1
  have Fw106 := Fs.same W106
  have c107 := (Ff.other W106 (Or.inr (slot_ne (Or.inl (own_w12 hw)) (Or.inl (own_w22 hw)) (by decide) (t := (.array (.object "java/nio/ByteBuffer"))) (t' := .int) (by decide) (by decide))))
  obtain ⟨T108, X108, e108, st108⟩ := getF X106 hx hZ hown (host := "") (Or.inl (own_w11 hw)) Via.refl e106 c107 (g := (mkF m 33 #[.val (.ref a1), .val .null, .val (.long q1), .second, .unset] [(.ref a1), (.int (4 : Int32))])) rfl rfl (hb hby own_d3_33)
  have c109 := (Vf.other W106 (Ne.symm n1))
  obtain ⟨cl110, Ar110, Aq110, As110, An110, Ah110, Ag110⟩ := id c109
  obtain ⟨T111, X111, e111, st111⟩ := getF X108 hx hZ hown (host := "") (Or.inl (own_w11 hw)) Via.refl e108 c107 (g := (mkF m 41 #[.val (.ref a1), .val .null, .val (.long q1), .second, .val (.int (0 : Int32))] [(.ref a1)])) rfl rfl (hb hby own_d3_41)
  obtain ⟨cl112, Ar112, Aq112, As112, An112, Ah112, Ag112⟩ := id c109
  have hin112 : ¬ ((0 : Int32) < 0 ∨ cl112.slots.size ≤ ((0 : Int32)).toNatClampNeg) := inb_of As112 ⟨by decide, by decide⟩
  obtain ⟨T113, h113, X113, e113, W113, st113⟩ := stR X111 hx hZ e111 Ar112 (j := (0 : Int32)) hin112 rfl (Or.inl rfl) (g := (mkF m 47 #[.val (.ref a1), .val .null, .val (.long q1), .second, .val (.int (0 : Int32))] [.null, (.int (0 : Int32)), (.ref fr)])) rfl rfl (hb hby own_d3_47)
  have Z113 : n0 ≤ h113.size := Nat.le_trans Z106 (Nat.le_of_eq W113.size.symm)
  have N113 := Fr.snoc X113 N106 g2
  have V113 : Arv Z h113 fr kf (.object "java/nio/ByteBuffer") (4 : Int32) [.null, .null, .null, .null] .null := Arv.set Ar112 Aq112 As112 An112 Ah112 Ag112 rfl W113 0 rfl (Nat.le_of_ble_eq_true rfl)
  have c114 := ((Ft.other W106 (Or.inr (slot_ne (Or.inl (own_w15 hw)) (Or.inl (own_w22 hw)) (by decide) (t := (.array .long)) (t' := .int) (by decide) (by decide)))).other W113 (Or.inl n1))
  obtain ⟨T115, X115, e115, st115⟩ := getF X113 hx hZ hown (host := "") (Or.inl (own_w14 hw)) Via.refl e113 c114 (g := (mkF m 49 #[.val (.ref a1), .val .null, .val (.long q1), .second, .val (.int (0 : Int32))] [(.ref a1)])) rfl rfl (hb hby own_d3_49)
  have c116 := ((Vt.other W106 (Ne.symm n2)).other W113 (Ne.symm n3))
  obtain ⟨cl117, Ar117, Aq117, As117, An117, Ah117, Ag117⟩ := id c116
  have hin117 : ¬ ((0 : Int32) < 0 ∨ cl117.slots.size ≤ ((0 : Int32)).toNatClampNeg) := inb_of As117 ⟨by decide, by decide⟩
  obtain ⟨T118, h118, X118, e118, W118, st118⟩ := stJ X115 hx hZ e115 Ar117 (j := (0 : Int32)) hin117 (g := (mkF m 55 #[.val (.ref a1), .val .null, .val (.long q1), .second, .val (.int (0 : Int32))] [(.long q1), (.int (0 : Int32)), (.ref ti)])) rfl rfl (hb hby own_d3_55)
  have Z118 : n0 ≤ h118.size := Nat.le_trans Z113 (Nat.le_of_eq W118.size.symm)
  have N118 := Fr.snoc X118 N113 g3
  have V118 : Arv Z h118 ti kt .long (4 : Int32) [(.long q1), (.long t1), (.long t2), (.long t3)] (.long (0 : Int64)) := Arv.set Ar117 Aq117 As117 An117 Ah117 Ag117 rfl W118 0 rfl (Nat.le_of_ble_eq_true rfl)
  have c119 := (((E1.wr W106).wr W113).wr W118)
  have c120 := ((c107.other W113 (Or.inl n1)).other W118 (Or.inl n2))
  have c121 := (c114.other W118 (Or.inl n2))
  have c122 := ((Fw106.other W113 (Or.inl n1)).other W118 (Or.inl n2))
  have c123 := (((F1.other W106 (Or.inr (slot_ne (Or.inl (own_w24 hw)) (Or.inl (own_w22 hw)) (by decide) (t := .int) (t' := .int) (by decide) (by decide)))).other W113 (Or.inl n1)).other W118 (Or.inl n2))
  have c124 := (V113.other W118 n3)
  obtain ⟨fs, hr, hrun, hended, hW, hsame⟩ := X118.leave (v := none) (fun _ => rfl)
  refine ⟨_, _, pre0 _ ?_, hrun, hended, _, _, rfl, ?_, ⟨_, rfl⟩, hW, hsame.mono (by decide) (by decide)⟩
  · show Steps _ _ _ (s₁.setTop (mkF m 0 #[.val (.ref a1), .val .null, .val (.long q1), .second, .unset] [])) _
    refine XS.aloadN X0.here hx rfl (hb hby own_d3_0) rfl rfl ?_
    refine st101 _ ?_
    refine XS.aloadN X101.here hx rfl (hb hby own_d3_4) rfl rfl ?_
    refine st102 _ ?_
    show Steps _ _ _ (T102.setTop (mkF m 8 #[.val (.ref a1), .val .null, .val (.long q1), .second, .unset] [(.ref fr), (.int (2 : Int32))])) _
    refine X102.arraylength hx (by rw [e102]; exact Ar103.1) (State.isArrayOf_alike hZ.alike Ar103.2.1) (g := (mkF m 8 #[.val (.ref a1), .val .null, .val (.long q1), .second, .unset] [(.ref fr), (.int (2 : Int32))])) rfl rfl (hb hby own_d3_8) _ ?_
    rw [len_of As103 An103]
    refine XS.icmpYes X102.here hx rfl (pc0 := 9) (pc' := 16) rfl (hb hby own_d3_9) rfl (feq (by decide : ¬ ((2 : Int32) = (4 : Int32)))).2 (by decide) (by decide) ?_
    refine XS.aloadN X102.here hx rfl (hb hby own_d3_16) rfl rfl ?_
    refine st104 _ ?_
    show Steps _ _ _ (T104.setTop (mkF m 20 #[.val (.ref a1), .val .null, .val (.long q1), .second, .unset] [(.int (2 : Int32))])) _
    refine XS.aloadN X104.here hx rfl (hb hby own_d3_20) rfl rfl ?_
    refine XS.dup X104.here hx rfl (hb hby own_d3_21) rfl rfl ?_
    refine st105 _ ?_
    refine XS.dupX1 X105.here hx rfl (hb hby own_d3_25) rfl rfl rfl ?_
    show Steps _ _ _ (T105.setTop (mkF m 26 #[.val (.ref a1), .val .null, .val (.long q1), .second, .unset] [(.int (2 : Int32)), (.ref a1), (.int (2 : Int32)), (.int (2 : Int32))])) _
    refine XS.iconst X105.here hx rfl (hb hby own_d3_26) ?_
    refine XS.iadd X105.here hx rfl (hb hby own_d3_27) rfl ?_
    refine st106 _ ?_
    refine XS.iadd X106.here hx rfl (hb hby own_d3_31) rfl ?_
    show Steps _ _ _ (T106.setTop (mkF m 32 #[.val (.ref a1), .val .null, .val (.long q1), .second, .unset] [(.int (4 : Int32))])) _
    refine XS.aloadN X106.here hx rfl (hb hby own_d3_32) rfl rfl ?_
    refine st108 _ ?_
    refine X108.arraylength hx (by rw [e108]; exact Ar110.1) (State.isArrayOf_alike hZ.alike Ar110.2.1) (g := (mkF m 36 #[.val (.ref a1), .val .null, .val (.long q1), .second, .unset] [(.ref fr), (.int (4 : Int32))])) rfl rfl (hb hby own_d3_36) _ ?_
    rw [len_of As110 An110]
    refine iremM X108 hx rfl (hb hby own_d3_37) rfl (by decide) ?_
    show Steps _ _ _ (T108.setTop (mkF m 38 #[.val (.ref a1), .val .null, .val (.long q1), .second, .unset] [(.int (0 : Int32))])) _
    refine XS.istore X108.here hx rfl (hb hby own_d3_38) rfl (l' := #[.val (.ref a1), .val .null, .val (.long q1), .second, .val (.int (0 : Int32))]) rfl ?_
    refine XS.aloadN X108.here hx rfl (hb hby own_d3_40) rfl rfl ?_
    refine st111 _ ?_
    refine XS.iload X111.here hx rfl (hb hby own_d3_44) rfl ?_
    show Steps _ _ _ (T111.setTop (mkF m 46 #[.val (.ref a1), .val .null, .val (.long q1), .second, .val (.int (0 : Int32))] [(.int (0 : Int32)), (.ref fr)])) _
    refine XS.aloadN X111.here hx rfl (hb hby own_d3_46) rfl rfl ?_
    refine st113 _ ?_
    refine XS.aloadN X113.here hx rfl (hb hby own_d3_48) rfl rfl ?_
    refine st115 _ ?_
    show Steps _ _ _ (T115.setTop (mkF m 52 #[.val (.ref a1), .val .null, .val (.long q1), .second, .val (.int (0 : Int32))] [(.ref ti)])) _
    refine XS.iload X115.here hx rfl (hb hby own_d3_52) rfl ?_
    refine XS.lloadN X115.here hx rfl (hb hby own_d3_54) rfl ?_
    refine st118 _ ?_
    show Steps _ _ _ (T118.setTop (mkF m 56 #[.val (.ref a1), .val .null, .val (.long q1), .second, .val (.int (0 : Int32))] [])) _
    exact X118.returnOut hx Bd.returns (hb hby own_d3_56) hr
  · show Qown_add22 Z a1 fr ti kf kt t0 t1 t2 t3 q1 h0 n0 _ T118.heap _
    rw [e118]
    exact ⟨rfl, N118, fr, ti, kf, kt, ⟨Z118, g2, g3, c119, c120, c121, c122, c123, c124, V118, n1, n2, n3⟩⟩
def Qown_add13 (Z : State) (a1 fr ti : Addr) (kf kt : ClassId) (t0 t1 t2 t3 : Int64) (q1 : Int64) (h0 : Heap) (n0 : Nat) (v : Option Value) (h : Heap) (L : List Loc) : Prop := v = none ∧ Fr n0 L ∧ ∃ (fr ti : Addr) (kf kt : ClassId), own_St Z n0 h a1 fr ti kf kt (4 : Int32) [.null, .null, .null, .null] [(.long q1), (.long t1), (.long t2), (.long t3)] (2 : Int32) (3 : Int32)
set_option maxRecDepth 65536 in
set_option maxHeartbeats 40000000 in
theorem own_add13 (l : Launch) (Z : State) (a0 : Array Value) (hw : ∀ d ∈ tables_1, d.before a0 Z = true) (ws : List Jvm.Cond) (a1 fr ti : Addr) (kf kt : ClassId) (t0 t1 t2 t3 : Int64) (q1 : Int64) (h0 : Heap) (n0 : Nat) (Z0 : n0 ≤ h0.size) (g1 : n0 ≤ a1) (H : own_St Z n0 h0 a1 fr ti kf kt (4 : Int32) [.null, .null, .null, .null] [(.long t0), (.long t1), (.long t2), (.long t3)] (1 : Int32) (3 : Int32)) :
    MetFree l own_m3 (head1 (Jvm.Cond.code own_m3 prog_10_method_2_code 5 none :: ws) ({ frames := 0, cells := 0, slots := 0, locals := 0 } : Room)) (fun a U => a = #[(.ref a1), .null, (.long q1)] ∧ Z.Warmed39 U.vm ∧ U.heap = h0) (fun _ _ _ _ _ => True) (fun _ U o U' => ∃ v L, o = .returned v ∧ Qown_add13 Z a1 fr ti kf kt t0 t1 t2 t3 q1 h0 n0 v U'.heap L ∧ FrameEnd U o U' L ({ frames := 0, cells := 0, slots := 0, locals := 0 } : Room).cells ({ frames := 0, cells := 0, slots := 0, locals := 0 } : Room).slots) := by
  refine MetFree.of_bodySF (plainFor_of_name own_pn0) hisR ?_
  intro p e s m args below meth c s₁ Bd hml0 hP hK
  obtain ⟨rfl, hZ, hh⟩ := hP
  have hx := Bd.exec
  have hby := Bd.bytes
  have hml : c.maxLocals = 5 := hml0
  have hown : s.vm.findClass "com/example/don_valley/donvalley/broker/QueuedFrames" = some m.cls := by have q := findClass_of_methodNamed Bd.named; exact q
  have hnm := (name_of_methodNamed Bd.named Bd.method).1
  have X0 : Stand p l e ({ frames := 0, cells := 0, slots := 0, locals := 0 } : Room) s m #[(.ref a1), .null, (.long q1)] below meth c s₁ [] 0 0 := Stand.of_body Bd
  have e0 : s₁.heap = h0 := by rw [← hh, Bd.state]; rfl
  have N0 := Fr.nil n0
  have pre0 : ∀ t, Steps p.tables e below (s₁.setTop (mkF m 0 #[.val (.ref a1), .val .null, .val (.long q1), .second, .unset] [])) t → Steps p.tables e below (s₁.setTop (entryFrame m #[(.ref a1), .null, (.long q1)] 5)) t := fun t k => castTop (by first | (simp [entryFrame, mkF, argsToLocals, Value.category, maxLocals]; done) | rfl) k
  obtain ⟨hZ1, g2, g3, E1, Ff, Ft, Fs, F1, Vf, Vt, n1, n2, n3⟩ := H
  obtain ⟨T101, X101, e101, st101⟩ := getF X0 hx hZ hown (host := "") (Or.inl (own_w21 hw)) Via.refl e0 Fs (g := (mkF m 1 #[.val (.ref a1), .val .null, .val (.long q1), .second, .unset] [(.ref a1)])) rfl rfl (hb hby own_d3_1)
  obtain ⟨T102, X102, e102, st102⟩ := getF X101 hx hZ hown (host := "") (Or.inl (own_w11 hw)) Via.refl e101 Ff (g := (mkF m 5 #[.val (.ref a1), .val .null, .val (.long q1), .second, .unset] [(.ref a1), (.int (1 : Int32))])) rfl rfl (hb hby own_d3_5)
  obtain ⟨cl103, Ar103, Aq103, As103, An103, Ah103, Ag103⟩ := id Vf
  obtain ⟨T104, X104, e104, st104⟩ := getF X102 hx hZ hown (host := "") (Or.inl (own_w23 hw)) Via.refl e102 F1 (g := (mkF m 17 #[.val (.ref a1), .val .null, .val (.long q1), .second, .unset] [(.ref a1)])) rfl rfl (hb hby own_d3_17)
  obtain ⟨T105, X105, e105, st105⟩ := getF X104 hx hZ hown (host := "") (Or.inl (own_w21 hw)) Via.refl e104 Fs (g := (mkF m 22 #[.val (.ref a1), .val .null, .val (.long q1), .second, .unset] [(.ref a1), (.ref a1), (.int (3 : Int32))])) rfl rfl (hb hby own_d3_22)
  obtain ⟨T106, h106, X106, e106, W106, st106⟩ := putF X105 hx hZ hown (host := "") (Or.inl (own_w21 hw)) Via.refl e105 Fs E1 (Or.inl (own_w22 hw)) (own_w1 hw) (ty := .int) (by decide) rfl rfl (g := (mkF m 28 #[.val (.ref a1), .val .null, .val (.long q1), .second, .unset] [(.int (2 : Int32)), (.ref a1), (.int (1 : Int32)), (.int (3 : Int32))])) rfl rfl (hb hby own_d3_28)
  have Z106 : n0 ≤ h106.size := Nat.le_trans hZ1 (Nat.le_of_eq W106.size.symm)
  have N106 := Fr.snoc X106 N0 g1
  have Fw106 := Fs.same W106
  have c107 := (Ff.other W106 (Or.inr (slot_ne (Or.inl (own_w12 hw)) (Or.inl (own_w22 hw)) (by decide) (t := (.array (.object "java/nio/ByteBuffer"))) (t' := .int) (by decide) (by decide))))
  obtain ⟨T108, X108, e108, st108⟩ := getF X106 hx hZ hown (host := "") (Or.inl (own_w11 hw)) Via.refl e106 c107 (g := (mkF m 33 #[.val (.ref a1), .val .null, .val (.long q1), .second, .unset] [(.ref a1), (.int (4 : Int32))])) rfl rfl (hb hby own_d3_33)
  have c109 := (Vf.other W106 (Ne.symm n1))
  obtain ⟨cl110, Ar110, Aq110, As110, An110, Ah110, Ag110⟩ := id c109
  obtain ⟨T111, X111, e111, st111⟩ := getF X108 hx hZ hown (host := "") (Or.inl (own_w11 hw)) Via.refl e108 c107 (g := (mkF m 41 #[.val (.ref a1), .val .null, .val (.long q1), .second, .val (.int (0 : Int32))] [(.ref a1)])) rfl rfl (hb hby own_d3_41)
  obtain ⟨cl112, Ar112, Aq112, As112, An112, Ah112, Ag112⟩ := id c109
  have hin112 : ¬ ((0 : Int32) < 0 ∨ cl112.slots.size ≤ ((0 : Int32)).toNatClampNeg) := inb_of As112 ⟨by decide, by decide⟩
  obtain ⟨T113, h113, X113, e113, W113, st113⟩ := stR X111 hx hZ e111 Ar112 (j := (0 : Int32)) hin112 rfl (Or.inl rfl) (g := (mkF m 47 #[.val (.ref a1), .val .null, .val (.long q1), .second, .val (.int (0 : Int32))] [.null, (.int (0 : Int32)), (.ref fr)])) rfl rfl (hb hby own_d3_47)
  have Z113 : n0 ≤ h113.size := Nat.le_trans Z106 (Nat.le_of_eq W113.size.symm)
  have N113 := Fr.snoc X113 N106 g2
  have V113 : Arv Z h113 fr kf (.object "java/nio/ByteBuffer") (4 : Int32) [.null, .null, .null, .null] .null := Arv.set Ar112 Aq112 As112 An112 Ah112 Ag112 rfl W113 0 rfl (Nat.le_of_ble_eq_true rfl)
  have c114 := ((Ft.other W106 (Or.inr (slot_ne (Or.inl (own_w15 hw)) (Or.inl (own_w22 hw)) (by decide) (t := (.array .long)) (t' := .int) (by decide) (by decide)))).other W113 (Or.inl n1))
  obtain ⟨T115, X115, e115, st115⟩ := getF X113 hx hZ hown (host := "") (Or.inl (own_w14 hw)) Via.refl e113 c114 (g := (mkF m 49 #[.val (.ref a1), .val .null, .val (.long q1), .second, .val (.int (0 : Int32))] [(.ref a1)])) rfl rfl (hb hby own_d3_49)
  have c116 := ((Vt.other W106 (Ne.symm n2)).other W113 (Ne.symm n3))
  obtain ⟨cl117, Ar117, Aq117, As117, An117, Ah117, Ag117⟩ := id c116
  have hin117 : ¬ ((0 : Int32) < 0 ∨ cl117.slots.size ≤ ((0 : Int32)).toNatClampNeg) := inb_of As117 ⟨by decide, by decide⟩
  obtain ⟨T118, h118, X118, e118, W118, st118⟩ := stJ X115 hx hZ e115 Ar117 (j := (0 : Int32)) hin117 (g := (mkF m 55 #[.val (.ref a1), .val .null, .val (.long q1), .second, .val (.int (0 : Int32))] [(.long q1), (.int (0 : Int32)), (.ref ti)])) rfl rfl (hb hby own_d3_55)
  have Z118 : n0 ≤ h118.size := Nat.le_trans Z113 (Nat.le_of_eq W118.size.symm)
  have N118 := Fr.snoc X118 N113 g3
  have V118 : Arv Z h118 ti kt .long (4 : Int32) [(.long q1), (.long t1), (.long t2), (.long t3)] (.long (0 : Int64)) := Arv.set Ar117 Aq117 As117 An117 Ah117 Ag117 rfl W118 0 rfl (Nat.le_of_ble_eq_true rfl)
  have c119 := (((E1.wr W106).wr W113).wr W118)
  have c120 := ((c107.other W113 (Or.inl n1)).other W118 (Or.inl n2))
  have c121 := (c114.other W118 (Or.inl n2))
  have c122 := ((Fw106.other W113 (Or.inl n1)).other W118 (Or.inl n2))
  have c123 := (((F1.other W106 (Or.inr (slot_ne (Or.inl (own_w24 hw)) (Or.inl (own_w22 hw)) (by decide) (t := .int) (t' := .int) (by decide) (by decide)))).other W113 (Or.inl n1)).other W118 (Or.inl n2))
  have c124 := (V113.other W118 n3)
  obtain ⟨fs, hr, hrun, hended, hW, hsame⟩ := X118.leave (v := none) (fun _ => rfl)
  refine ⟨_, _, pre0 _ ?_, hrun, hended, _, _, rfl, ?_, ⟨_, rfl⟩, hW, hsame.mono (by decide) (by decide)⟩
  · show Steps _ _ _ (s₁.setTop (mkF m 0 #[.val (.ref a1), .val .null, .val (.long q1), .second, .unset] [])) _
    refine XS.aloadN X0.here hx rfl (hb hby own_d3_0) rfl rfl ?_
    refine st101 _ ?_
    refine XS.aloadN X101.here hx rfl (hb hby own_d3_4) rfl rfl ?_
    refine st102 _ ?_
    show Steps _ _ _ (T102.setTop (mkF m 8 #[.val (.ref a1), .val .null, .val (.long q1), .second, .unset] [(.ref fr), (.int (1 : Int32))])) _
    refine X102.arraylength hx (by rw [e102]; exact Ar103.1) (State.isArrayOf_alike hZ.alike Ar103.2.1) (g := (mkF m 8 #[.val (.ref a1), .val .null, .val (.long q1), .second, .unset] [(.ref fr), (.int (1 : Int32))])) rfl rfl (hb hby own_d3_8) _ ?_
    rw [len_of As103 An103]
    refine XS.icmpYes X102.here hx rfl (pc0 := 9) (pc' := 16) rfl (hb hby own_d3_9) rfl (feq (by decide : ¬ ((1 : Int32) = (4 : Int32)))).2 (by decide) (by decide) ?_
    refine XS.aloadN X102.here hx rfl (hb hby own_d3_16) rfl rfl ?_
    refine st104 _ ?_
    show Steps _ _ _ (T104.setTop (mkF m 20 #[.val (.ref a1), .val .null, .val (.long q1), .second, .unset] [(.int (3 : Int32))])) _
    refine XS.aloadN X104.here hx rfl (hb hby own_d3_20) rfl rfl ?_
    refine XS.dup X104.here hx rfl (hb hby own_d3_21) rfl rfl ?_
    refine st105 _ ?_
    refine XS.dupX1 X105.here hx rfl (hb hby own_d3_25) rfl rfl rfl ?_
    show Steps _ _ _ (T105.setTop (mkF m 26 #[.val (.ref a1), .val .null, .val (.long q1), .second, .unset] [(.int (1 : Int32)), (.ref a1), (.int (1 : Int32)), (.int (3 : Int32))])) _
    refine XS.iconst X105.here hx rfl (hb hby own_d3_26) ?_
    refine XS.iadd X105.here hx rfl (hb hby own_d3_27) rfl ?_
    refine st106 _ ?_
    refine XS.iadd X106.here hx rfl (hb hby own_d3_31) rfl ?_
    show Steps _ _ _ (T106.setTop (mkF m 32 #[.val (.ref a1), .val .null, .val (.long q1), .second, .unset] [(.int (4 : Int32))])) _
    refine XS.aloadN X106.here hx rfl (hb hby own_d3_32) rfl rfl ?_
    refine st108 _ ?_
    refine X108.arraylength hx (by rw [e108]; exact Ar110.1) (State.isArrayOf_alike hZ.alike Ar110.2.1) (g := (mkF m 36 #[.val (.ref a1), .val .null, .val (.long q1), .second, .unset] [(.ref fr), (.int (4 : Int32))])) rfl rfl (hb hby own_d3_36) _ ?_
    rw [len_of As110 An110]
    refine iremM X108 hx rfl (hb hby own_d3_37) rfl (by decide) ?_
    show Steps _ _ _ (T108.setTop (mkF m 38 #[.val (.ref a1), .val .null, .val (.long q1), .second, .unset] [(.int (0 : Int32))])) _
    refine XS.istore X108.here hx rfl (hb hby own_d3_38) rfl (l' := #[.val (.ref a1), .val .null, .val (.long q1), .second, .val (.int (0 : Int32))]) rfl ?_
    refine XS.aloadN X108.here hx rfl (hb hby own_d3_40) rfl rfl ?_
    refine st111 _ ?_
    refine XS.iload X111.here hx rfl (hb hby own_d3_44) rfl ?_
    show Steps _ _ _ (T111.setTop (mkF m 46 #[.val (.ref a1), .val .null, .val (.long q1), .second, .val (.int (0 : Int32))] [(.int (0 : Int32)), (.ref fr)])) _
    refine XS.aloadN X111.here hx rfl (hb hby own_d3_46) rfl rfl ?_
    refine st113 _ ?_
    refine XS.aloadN X113.here hx rfl (hb hby own_d3_48) rfl rfl ?_
    refine st115 _ ?_
    show Steps _ _ _ (T115.setTop (mkF m 52 #[.val (.ref a1), .val .null, .val (.long q1), .second, .val (.int (0 : Int32))] [(.ref ti)])) _
    refine XS.iload X115.here hx rfl (hb hby own_d3_52) rfl ?_
    refine XS.lloadN X115.here hx rfl (hb hby own_d3_54) rfl ?_
    refine st118 _ ?_
    show Steps _ _ _ (T118.setTop (mkF m 56 #[.val (.ref a1), .val .null, .val (.long q1), .second, .val (.int (0 : Int32))] [])) _
    exact X118.returnOut hx Bd.returns (hb hby own_d3_56) hr
  · show Qown_add13 Z a1 fr ti kf kt t0 t1 t2 t3 q1 h0 n0 _ T118.heap _
    rw [e118]
    exact ⟨rfl, N118, fr, ti, kf, kt, ⟨Z118, g2, g3, c119, c120, c121, c122, c123, c124, V118, n1, n2, n3⟩⟩
def Qown_rem440 (Z : State) (a1 fr ti : Addr) (kf kt : ClassId) (t0 t1 t2 t3 : Int64) (h0 : Heap) (n0 : Nat) (v : Option Value) (h : Heap) (L : List Loc) : Prop := v = none ∧ Fr n0 L ∧ ∃ (fr ti : Addr) (kf kt : ClassId), own_St Z n0 h a1 fr ti kf kt (4 : Int32) [.null, .null, .null, .null] [(.long t0), (.long t1), (.long t2), (.long t3)] (3 : Int32) (1 : Int32)
set_option maxRecDepth 65536 in
set_option maxHeartbeats 40000000 in
theorem own_rem440 (l : Launch) (Z : State) (a0 : Array Value) (hw : ∀ d ∈ tables_1, d.before a0 Z = true) (ws : List Jvm.Cond) (a1 fr ti : Addr) (kf kt : ClassId) (t0 t1 t2 t3 : Int64) (h0 : Heap) (n0 : Nat) (Z0 : n0 ≤ h0.size) (g1 : n0 ≤ a1) (H : own_St Z n0 h0 a1 fr ti kf kt (4 : Int32) [.null, .null, .null, .null] [(.long t0), (.long t1), (.long t2), (.long t3)] (4 : Int32) (0 : Int32)) :
    MetFree l own_m4 (head1 (Jvm.Cond.code own_m4 prog_10_method_8_code 1 none :: ws) ({ frames := 0, cells := 0, slots := 0, locals := 0 } : Room)) (fun a U => a = #[(.ref a1)] ∧ Z.Warmed39 U.vm ∧ U.heap = h0) (fun _ _ _ _ _ => True) (fun _ U o U' => ∃ v L, o = .returned v ∧ Qown_rem440 Z a1 fr ti kf kt t0 t1 t2 t3 h0 n0 v U'.heap L ∧ FrameEnd U o U' L ({ frames := 0, cells := 0, slots := 0, locals := 0 } : Room).cells ({ frames := 0, cells := 0, slots := 0, locals := 0 } : Room).slots) := by
  refine MetFree.of_bodySF (plainFor_of_name own_pn0) hisR ?_
  intro p e s m args below meth c s₁ Bd hml0 hP hK
  obtain ⟨rfl, hZ, hh⟩ := hP
  have hx := Bd.exec
  have hby := Bd.bytes
  have hml : c.maxLocals = 1 := hml0
  have hown : s.vm.findClass "com/example/don_valley/donvalley/broker/QueuedFrames" = some m.cls := by have q := findClass_of_methodNamed Bd.named; exact q
  have hnm := (name_of_methodNamed Bd.named Bd.method).1
  have X0 : Stand p l e ({ frames := 0, cells := 0, slots := 0, locals := 0 } : Room) s m #[(.ref a1)] below meth c s₁ [] 0 0 := Stand.of_body Bd
  have e0 : s₁.heap = h0 := by rw [← hh, Bd.state]; rfl
  have N0 := Fr.nil n0
  have pre0 : ∀ t, Steps p.tables e below (s₁.setTop (mkF m 0 #[.val (.ref a1)] [])) t → Steps p.tables e below (s₁.setTop (entryFrame m #[(.ref a1)] 1)) t := fun t k => castTop (by first | (simp [entryFrame, mkF, argsToLocals, Value.category, maxLocals]; done) | rfl) k
  obtain ⟨hZ1, g2, g3, E1, Ff, Ft, Fs, F1, Vf, Vt, n1, n2, n3⟩ := H
  obtain ⟨T101, X101, e101, st101⟩ := getF X0 hx hZ hown (host := "") (Or.inl (own_w11 hw)) Via.refl e0 Ff (g := (mkF m 1 #[.val (.ref a1)] [(.ref a1)])) rfl rfl (hb hby own_d4_1)
  obtain ⟨T102, X102, e102, st102⟩ := getF X101 hx hZ hown (host := "") (Or.inl (own_w23 hw)) Via.refl e101 F1 (g := (mkF m 5 #[.val (.ref a1)] [(.ref a1), (.ref fr)])) rfl rfl (hb hby own_d4_5)
  obtain ⟨cl103, Ar103, Aq103, As103, An103, Ah103, Ag103⟩ := id Vf
  have hin103 : ¬ ((0 : Int32) < 0 ∨ cl103.slots.size ≤ ((0 : Int32)).toNatClampNeg) := inb_of As103 ⟨by decide, by decide⟩
  obtain ⟨T104, h104, X104, e104, W104, st104⟩ := stR X102 hx hZ e102 Ar103 (j := (0 : Int32)) hin103 rfl (Or.inl rfl) (g := (mkF m 9 #[.val (.ref a1)] [.null, (.int (0 : Int32)), (.ref fr)])) rfl rfl (hb hby own_d4_9)
  have Z104 : n0 ≤ h104.size := Nat.le_trans hZ1 (Nat.le_of_eq W104.size.symm)
  have N104 := Fr.snoc X104 N0 g2
  have V104 : Arv Z h104 fr kf (.object "java/nio/ByteBuffer") (4 : Int32) [.null, .null, .null, .null] .null := Arv.set Ar103 Aq103 As103 An103 Ah103 Ag103 rfl W104 0 rfl (Nat.le_of_ble_eq_true rfl)
  have c105 := (F1.other W104 (Or.inl n1))
  obtain ⟨T106, X106, e106, st106⟩ := getF X104 hx hZ hown (host := "") (Or.inl (own_w23 hw)) Via.refl e104 c105 (g := (mkF m 12 #[.val (.ref a1)] [(.ref a1), (.ref a1)])) rfl rfl (hb hby own_d4_12)
  have c107 := (Ff.other W104 (Or.inl n1))
  obtain ⟨T108, X108, e108, st108⟩ := getF X106 hx hZ hown (host := "") (Or.inl (own_w11 hw)) Via.refl e106 c107 (g := (mkF m 18 #[.val (.ref a1)] [(.ref a1), (.int (1 : Int32)), (.ref a1)])) rfl rfl (hb hby own_d4_18)
  obtain ⟨cl109, Ar109, Aq109, As109, An109, Ah109, Ag109⟩ := id V104
  have c110 := (E1.wr W104)
  obtain ⟨T111, h111, X111, e111, W111, st111⟩ := putF X108 hx hZ hown (host := "") (Or.inl (own_w23 hw)) Via.refl e108 c105 c110 (Or.inl (own_w24 hw)) (own_w1 hw) (ty := .int) (by decide) rfl rfl (g := (mkF m 23 #[.val (.ref a1)] [(.int (1 : Int32)), (.ref a1)])) rfl rfl (hb hby own_d4_23)
  have Z111 : n0 ≤ h111.size := Nat.le_trans Z104 (Nat.le_of_eq W111.size.symm)
  have N111 := Fr.snoc X111 N104 g1
  have Fw111 := c105.same W111
  have c112 := ((Fs.other W104 (Or.inl n1)).other W111 (Or.inr (slot_ne (Or.inl (own_w22 hw)) (Or.inl (own_w24 hw)) (by decide) (t := .int) (t' := .int) (by decide) (by decide))))
  obtain ⟨T113, X113, e113, st113⟩ := getF X111 hx hZ hown (host := "") (Or.inl (own_w21 hw)) Via.refl e111 c112 (g := (mkF m 28 #[.val (.ref a1)] [(.ref a1), (.ref a1)])) rfl rfl (hb hby own_d4_28)
  have c114 := (c110.wr W111)
  obtain ⟨T115, h115, X115, e115, W115, st115⟩ := putF X113 hx hZ hown (host := "") (Or.inl (own_w21 hw)) Via.refl e113 c112 c114 (Or.inl (own_w22 hw)) (own_w1 hw) (ty := .int) (by decide) rfl rfl (g := (mkF m 33 #[.val (.ref a1)] [(.int (3 : Int32)), (.ref a1)])) rfl rfl (hb hby own_d4_33)
  have Z115 : n0 ≤ h115.size := Nat.le_trans Z111 (Nat.le_of_eq W115.size.symm)
  have N115 := Fr.snoc X115 N111 g1
  have Fw115 := c112.same W115
  have c116 := (c114.wr W115)
  have c117 := ((c107.other W111 (Or.inr (slot_ne (Or.inl (own_w12 hw)) (Or.inl (own_w24 hw)) (by decide) (t := (.array (.object "java/nio/ByteBuffer"))) (t' := .int) (by decide) (by decide)))).other W115 (Or.inr (slot_ne (Or.inl (own_w12 hw)) (Or.inl (own_w22 hw)) (by decide) (t := (.array (.object "java/nio/ByteBuffer"))) (t' := .int) (by decide) (by decide))))
  have c118 := (((Ft.other W104 (Or.inl n1)).other W111 (Or.inr (slot_ne (Or.inl (own_w15 hw)) (Or.inl (own_w24 hw)) (by decide) (t := (.array .long)) (t' := .int) (by decide) (by decide)))).other W115 (Or.inr (slot_ne (Or.inl (own_w15 hw)) (Or.inl (own_w22 hw)) (by decide) (t := (.array .long)) (t' := .int) (by decide) (by decide))))
  have c119 := (Fw111.other W115 (Or.inr (slot_ne (Or.inl (own_w24 hw)) (Or.inl (own_w22 hw)) (by decide) (t := .int) (t' := .int) (by decide) (by decide))))
  have c120 := ((V104.other W111 (Ne.symm n1)).other W115 (Ne.symm n1))
  have c121 := (((Vt.other W104 (Ne.symm n3)).other W111 (Ne.symm n2)).other W115 (Ne.symm n2))
  obtain ⟨fs, hr, hrun, hended, hW, hsame⟩ := X115.leave (v := none) (fun _ => rfl)
  refine ⟨_, _, pre0 _ ?_, hrun, hended, _, _, rfl, ?_, ⟨_, rfl⟩, hW, hsame.mono (by decide) (by decide)⟩
  · show Steps _ _ _ (s₁.setTop (mkF m 0 #[.val (.ref a1)] [])) _
    refine XS.aloadN X0.here hx rfl (hb hby own_d4_0) rfl rfl ?_
    refine st101 _ ?_
    refine XS.aloadN X101.here hx rfl (hb hby own_d4_4) rfl rfl ?_
    refine st102 _ ?_
    show Steps _ _ _ (T102.setTop (mkF m 8 #[.val (.ref a1)] [(.int (0 : Int32)), (.ref fr)])) _
    refine XS.aconstNull X102.here hx rfl (hb hby own_d4_8) ?_
    refine st104 _ ?_
    refine XS.aloadN X104.here hx rfl (hb hby own_d4_10) rfl rfl ?_
    refine XS.aloadN X104.here hx rfl (hb hby own_d4_11) rfl rfl ?_
    show Steps _ _ _ (T104.setTop (mkF m 12 #[.val (.ref a1)] [(.ref a1), (.ref a1)])) _
    refine st106 _ ?_
    refine XS.iconst X106.here hx rfl (hb hby own_d4_15) ?_
    refine XS.iadd X106.here hx rfl (hb hby own_d4_16) rfl ?_
    refine XS.aloadN X106.here hx rfl (hb hby own_d4_17) rfl rfl ?_
    show Steps _ _ _ (T106.setTop (mkF m 18 #[.val (.ref a1)] [(.ref a1), (.int (1 : Int32)), (.ref a1)])) _
    refine st108 _ ?_
    refine X108.arraylength hx (by rw [e108]; exact Ar109.1) (State.isArrayOf_alike hZ.alike Ar109.2.1) (g := (mkF m 21 #[.val (.ref a1)] [(.ref fr), (.int (1 : Int32)), (.ref a1)])) rfl rfl (hb hby own_d4_21) _ ?_
    rw [len_of As109 An109]
    refine iremM X108 hx rfl (hb hby own_d4_22) rfl (by decide) ?_
    refine st111 _ ?_
    show Steps _ _ _ (T111.setTop (mkF m 26 #[.val (.ref a1)] [])) _
    refine XS.aloadN X111.here hx rfl (hb hby own_d4_26) rfl rfl ?_
    refine XS.dup X111.here hx rfl (hb hby own_d4_27) rfl rfl ?_
    refine st113 _ ?_
    refine XS.iconst X113.here hx rfl (hb hby own_d4_31) ?_
    show Steps _ _ _ (T113.setTop (mkF m 32 #[.val (.ref a1)] [(.int (1 : Int32)), (.int (4 : Int32)), (.ref a1)])) _
    refine XS.isub X113.here hx rfl (hb hby own_d4_32) rfl ?_
    refine st115 _ ?_
    show Steps _ _ _ (T115.setTop (mkF m 36 #[.val (.ref a1)] [])) _
    exact X115.returnOut hx Bd.returns (hb hby own_d4_36) hr
  · show Qown_rem440 Z a1 fr ti kf kt t0 t1 t2 t3 h0 n0 _ T115.heap _
    rw [e115]
    exact ⟨rfl, N115, fr, ti, kf, kt, ⟨Z115, g2, g3, c116, c117, c118, Fw115, c119, c120, c121, n1, n2, n3⟩⟩
def Qown_rem431 (Z : State) (a1 fr ti : Addr) (kf kt : ClassId) (t0 t1 t2 t3 : Int64) (h0 : Heap) (n0 : Nat) (v : Option Value) (h : Heap) (L : List Loc) : Prop := v = none ∧ Fr n0 L ∧ ∃ (fr ti : Addr) (kf kt : ClassId), own_St Z n0 h a1 fr ti kf kt (4 : Int32) [.null, .null, .null, .null] [(.long t0), (.long t1), (.long t2), (.long t3)] (2 : Int32) (2 : Int32)
set_option maxRecDepth 65536 in
set_option maxHeartbeats 40000000 in
theorem own_rem431 (l : Launch) (Z : State) (a0 : Array Value) (hw : ∀ d ∈ tables_1, d.before a0 Z = true) (ws : List Jvm.Cond) (a1 fr ti : Addr) (kf kt : ClassId) (t0 t1 t2 t3 : Int64) (h0 : Heap) (n0 : Nat) (Z0 : n0 ≤ h0.size) (g1 : n0 ≤ a1) (H : own_St Z n0 h0 a1 fr ti kf kt (4 : Int32) [.null, .null, .null, .null] [(.long t0), (.long t1), (.long t2), (.long t3)] (3 : Int32) (1 : Int32)) :
    MetFree l own_m4 (head1 (Jvm.Cond.code own_m4 prog_10_method_8_code 1 none :: ws) ({ frames := 0, cells := 0, slots := 0, locals := 0 } : Room)) (fun a U => a = #[(.ref a1)] ∧ Z.Warmed39 U.vm ∧ U.heap = h0) (fun _ _ _ _ _ => True) (fun _ U o U' => ∃ v L, o = .returned v ∧ Qown_rem431 Z a1 fr ti kf kt t0 t1 t2 t3 h0 n0 v U'.heap L ∧ FrameEnd U o U' L ({ frames := 0, cells := 0, slots := 0, locals := 0 } : Room).cells ({ frames := 0, cells := 0, slots := 0, locals := 0 } : Room).slots) := by
  refine MetFree.of_bodySF (plainFor_of_name own_pn0) hisR ?_
  intro p e s m args below meth c s₁ Bd hml0 hP hK
  obtain ⟨rfl, hZ, hh⟩ := hP
  have hx := Bd.exec
  have hby := Bd.bytes
  have hml : c.maxLocals = 1 := hml0
  have hown : s.vm.findClass "com/example/don_valley/donvalley/broker/QueuedFrames" = some m.cls := by have q := findClass_of_methodNamed Bd.named; exact q
  have hnm := (name_of_methodNamed Bd.named Bd.method).1
  have X0 : Stand p l e ({ frames := 0, cells := 0, slots := 0, locals := 0 } : Room) s m #[(.ref a1)] below meth c s₁ [] 0 0 := Stand.of_body Bd
  have e0 : s₁.heap = h0 := by rw [← hh, Bd.state]; rfl
  have N0 := Fr.nil n0
  have pre0 : ∀ t, Steps p.tables e below (s₁.setTop (mkF m 0 #[.val (.ref a1)] [])) t → Steps p.tables e below (s₁.setTop (entryFrame m #[(.ref a1)] 1)) t := fun t k => castTop (by first | (simp [entryFrame, mkF, argsToLocals, Value.category, maxLocals]; done) | rfl) k
  obtain ⟨hZ1, g2, g3, E1, Ff, Ft, Fs, F1, Vf, Vt, n1, n2, n3⟩ := H
  obtain ⟨T101, X101, e101, st101⟩ := getF X0 hx hZ hown (host := "") (Or.inl (own_w11 hw)) Via.refl e0 Ff (g := (mkF m 1 #[.val (.ref a1)] [(.ref a1)])) rfl rfl (hb hby own_d4_1)
  obtain ⟨T102, X102, e102, st102⟩ := getF X101 hx hZ hown (host := "") (Or.inl (own_w23 hw)) Via.refl e101 F1 (g := (mkF m 5 #[.val (.ref a1)] [(.ref a1), (.ref fr)])) rfl rfl (hb hby own_d4_5)
  obtain ⟨cl103, Ar103, Aq103, As103, An103, Ah103, Ag103⟩ := id Vf
  have hin103 : ¬ ((1 : Int32) < 0 ∨ cl103.slots.size ≤ ((1 : Int32)).toNatClampNeg) := inb_of As103 ⟨by decide, by decide⟩
  obtain ⟨T104, h104, X104, e104, W104, st104⟩ := stR X102 hx hZ e102 Ar103 (j := (1 : Int32)) hin103 rfl (Or.inl rfl) (g := (mkF m 9 #[.val (.ref a1)] [.null, (.int (1 : Int32)), (.ref fr)])) rfl rfl (hb hby own_d4_9)
  have Z104 : n0 ≤ h104.size := Nat.le_trans hZ1 (Nat.le_of_eq W104.size.symm)
  have N104 := Fr.snoc X104 N0 g2
  have V104 : Arv Z h104 fr kf (.object "java/nio/ByteBuffer") (4 : Int32) [.null, .null, .null, .null] .null := Arv.set Ar103 Aq103 As103 An103 Ah103 Ag103 rfl W104 1 rfl (Nat.le_of_ble_eq_true rfl)
  have c105 := (F1.other W104 (Or.inl n1))
  obtain ⟨T106, X106, e106, st106⟩ := getF X104 hx hZ hown (host := "") (Or.inl (own_w23 hw)) Via.refl e104 c105 (g := (mkF m 12 #[.val (.ref a1)] [(.ref a1), (.ref a1)])) rfl rfl (hb hby own_d4_12)
  have c107 := (Ff.other W104 (Or.inl n1))
  obtain ⟨T108, X108, e108, st108⟩ := getF X106 hx hZ hown (host := "") (Or.inl (own_w11 hw)) Via.refl e106 c107 (g := (mkF m 18 #[.val (.ref a1)] [(.ref a1), (.int (2 : Int32)), (.ref a1)])) rfl rfl (hb hby own_d4_18)
  obtain ⟨cl109, Ar109, Aq109, As109, An109, Ah109, Ag109⟩ := id V104
  have c110 := (E1.wr W104)
  obtain ⟨T111, h111, X111, e111, W111, st111⟩ := putF X108 hx hZ hown (host := "") (Or.inl (own_w23 hw)) Via.refl e108 c105 c110 (Or.inl (own_w24 hw)) (own_w1 hw) (ty := .int) (by decide) rfl rfl (g := (mkF m 23 #[.val (.ref a1)] [(.int (2 : Int32)), (.ref a1)])) rfl rfl (hb hby own_d4_23)
  have Z111 : n0 ≤ h111.size := Nat.le_trans Z104 (Nat.le_of_eq W111.size.symm)
  have N111 := Fr.snoc X111 N104 g1
  have Fw111 := c105.same W111
  have c112 := ((Fs.other W104 (Or.inl n1)).other W111 (Or.inr (slot_ne (Or.inl (own_w22 hw)) (Or.inl (own_w24 hw)) (by decide) (t := .int) (t' := .int) (by decide) (by decide))))
  obtain ⟨T113, X113, e113, st113⟩ := getF X111 hx hZ hown (host := "") (Or.inl (own_w21 hw)) Via.refl e111 c112 (g := (mkF m 28 #[.val (.ref a1)] [(.ref a1), (.ref a1)])) rfl rfl (hb hby own_d4_28)
  have c114 := (c110.wr W111)
  obtain ⟨T115, h115, X115, e115, W115, st115⟩ := putF X113 hx hZ hown (host := "") (Or.inl (own_w21 hw)) Via.refl e113 c112 c114 (Or.inl (own_w22 hw)) (own_w1 hw) (ty := .int) (by decide) rfl rfl (g := (mkF m 33 #[.val (.ref a1)] [(.int (2 : Int32)), (.ref a1)])) rfl rfl (hb hby own_d4_33)
  have Z115 : n0 ≤ h115.size := Nat.le_trans Z111 (Nat.le_of_eq W115.size.symm)
  have N115 := Fr.snoc X115 N111 g1
  have Fw115 := c112.same W115
  have c116 := (c114.wr W115)
  have c117 := ((c107.other W111 (Or.inr (slot_ne (Or.inl (own_w12 hw)) (Or.inl (own_w24 hw)) (by decide) (t := (.array (.object "java/nio/ByteBuffer"))) (t' := .int) (by decide) (by decide)))).other W115 (Or.inr (slot_ne (Or.inl (own_w12 hw)) (Or.inl (own_w22 hw)) (by decide) (t := (.array (.object "java/nio/ByteBuffer"))) (t' := .int) (by decide) (by decide))))
  have c118 := (((Ft.other W104 (Or.inl n1)).other W111 (Or.inr (slot_ne (Or.inl (own_w15 hw)) (Or.inl (own_w24 hw)) (by decide) (t := (.array .long)) (t' := .int) (by decide) (by decide)))).other W115 (Or.inr (slot_ne (Or.inl (own_w15 hw)) (Or.inl (own_w22 hw)) (by decide) (t := (.array .long)) (t' := .int) (by decide) (by decide))))
  have c119 := (Fw111.other W115 (Or.inr (slot_ne (Or.inl (own_w24 hw)) (Or.inl (own_w22 hw)) (by decide) (t := .int) (t' := .int) (by decide) (by decide))))
  have c120 := ((V104.other W111 (Ne.symm n1)).other W115 (Ne.symm n1))
  have c121 := (((Vt.other W104 (Ne.symm n3)).other W111 (Ne.symm n2)).other W115 (Ne.symm n2))
  obtain ⟨fs, hr, hrun, hended, hW, hsame⟩ := X115.leave (v := none) (fun _ => rfl)
  refine ⟨_, _, pre0 _ ?_, hrun, hended, _, _, rfl, ?_, ⟨_, rfl⟩, hW, hsame.mono (by decide) (by decide)⟩
  · show Steps _ _ _ (s₁.setTop (mkF m 0 #[.val (.ref a1)] [])) _
    refine XS.aloadN X0.here hx rfl (hb hby own_d4_0) rfl rfl ?_
    refine st101 _ ?_
    refine XS.aloadN X101.here hx rfl (hb hby own_d4_4) rfl rfl ?_
    refine st102 _ ?_
    show Steps _ _ _ (T102.setTop (mkF m 8 #[.val (.ref a1)] [(.int (1 : Int32)), (.ref fr)])) _
    refine XS.aconstNull X102.here hx rfl (hb hby own_d4_8) ?_
    refine st104 _ ?_
    refine XS.aloadN X104.here hx rfl (hb hby own_d4_10) rfl rfl ?_
    refine XS.aloadN X104.here hx rfl (hb hby own_d4_11) rfl rfl ?_
    show Steps _ _ _ (T104.setTop (mkF m 12 #[.val (.ref a1)] [(.ref a1), (.ref a1)])) _
    refine st106 _ ?_
    refine XS.iconst X106.here hx rfl (hb hby own_d4_15) ?_
    refine XS.iadd X106.here hx rfl (hb hby own_d4_16) rfl ?_
    refine XS.aloadN X106.here hx rfl (hb hby own_d4_17) rfl rfl ?_
    show Steps _ _ _ (T106.setTop (mkF m 18 #[.val (.ref a1)] [(.ref a1), (.int (2 : Int32)), (.ref a1)])) _
    refine st108 _ ?_
    refine X108.arraylength hx (by rw [e108]; exact Ar109.1) (State.isArrayOf_alike hZ.alike Ar109.2.1) (g := (mkF m 21 #[.val (.ref a1)] [(.ref fr), (.int (2 : Int32)), (.ref a1)])) rfl rfl (hb hby own_d4_21) _ ?_
    rw [len_of As109 An109]
    refine iremM X108 hx rfl (hb hby own_d4_22) rfl (by decide) ?_
    refine st111 _ ?_
    show Steps _ _ _ (T111.setTop (mkF m 26 #[.val (.ref a1)] [])) _
    refine XS.aloadN X111.here hx rfl (hb hby own_d4_26) rfl rfl ?_
    refine XS.dup X111.here hx rfl (hb hby own_d4_27) rfl rfl ?_
    refine st113 _ ?_
    refine XS.iconst X113.here hx rfl (hb hby own_d4_31) ?_
    show Steps _ _ _ (T113.setTop (mkF m 32 #[.val (.ref a1)] [(.int (1 : Int32)), (.int (3 : Int32)), (.ref a1)])) _
    refine XS.isub X113.here hx rfl (hb hby own_d4_32) rfl ?_
    refine st115 _ ?_
    show Steps _ _ _ (T115.setTop (mkF m 36 #[.val (.ref a1)] [])) _
    exact X115.returnOut hx Bd.returns (hb hby own_d4_36) hr
  · show Qown_rem431 Z a1 fr ti kf kt t0 t1 t2 t3 h0 n0 _ T115.heap _
    rw [e115]
    exact ⟨rfl, N115, fr, ti, kf, kt, ⟨Z115, g2, g3, c116, c117, c118, Fw115, c119, c120, c121, n1, n2, n3⟩⟩
def Qown_rem422 (Z : State) (a1 fr ti : Addr) (kf kt : ClassId) (t0 t1 t2 t3 : Int64) (h0 : Heap) (n0 : Nat) (v : Option Value) (h : Heap) (L : List Loc) : Prop := v = none ∧ Fr n0 L ∧ ∃ (fr ti : Addr) (kf kt : ClassId), own_St Z n0 h a1 fr ti kf kt (4 : Int32) [.null, .null, .null, .null] [(.long t0), (.long t1), (.long t2), (.long t3)] (1 : Int32) (3 : Int32)
set_option maxRecDepth 65536 in
set_option maxHeartbeats 40000000 in
theorem own_rem422 (l : Launch) (Z : State) (a0 : Array Value) (hw : ∀ d ∈ tables_1, d.before a0 Z = true) (ws : List Jvm.Cond) (a1 fr ti : Addr) (kf kt : ClassId) (t0 t1 t2 t3 : Int64) (h0 : Heap) (n0 : Nat) (Z0 : n0 ≤ h0.size) (g1 : n0 ≤ a1) (H : own_St Z n0 h0 a1 fr ti kf kt (4 : Int32) [.null, .null, .null, .null] [(.long t0), (.long t1), (.long t2), (.long t3)] (2 : Int32) (2 : Int32)) :
    MetFree l own_m4 (head1 (Jvm.Cond.code own_m4 prog_10_method_8_code 1 none :: ws) ({ frames := 0, cells := 0, slots := 0, locals := 0 } : Room)) (fun a U => a = #[(.ref a1)] ∧ Z.Warmed39 U.vm ∧ U.heap = h0) (fun _ _ _ _ _ => True) (fun _ U o U' => ∃ v L, o = .returned v ∧ Qown_rem422 Z a1 fr ti kf kt t0 t1 t2 t3 h0 n0 v U'.heap L ∧ FrameEnd U o U' L ({ frames := 0, cells := 0, slots := 0, locals := 0 } : Room).cells ({ frames := 0, cells := 0, slots := 0, locals := 0 } : Room).slots) := by
  refine MetFree.of_bodySF (plainFor_of_name own_pn0) hisR ?_
  intro p e s m args below meth c s₁ Bd hml0 hP hK
  obtain ⟨rfl, hZ, hh⟩ := hP
  have hx := Bd.exec
  have hby := Bd.bytes
  have hml : c.maxLocals = 1 := hml0
  have hown : s.vm.findClass "com/example/don_valley/donvalley/broker/QueuedFrames" = some m.cls := by have q := findClass_of_methodNamed Bd.named; exact q
  have hnm := (name_of_methodNamed Bd.named Bd.method).1
  have X0 : Stand p l e ({ frames := 0, cells := 0, slots := 0, locals := 0 } : Room) s m #[(.ref a1)] below meth c s₁ [] 0 0 := Stand.of_body Bd
  have e0 : s₁.heap = h0 := by rw [← hh, Bd.state]; rfl
  have N0 := Fr.nil n0
  have pre0 : ∀ t, Steps p.tables e below (s₁.setTop (mkF m 0 #[.val (.ref a1)] [])) t → Steps p.tables e below (s₁.setTop (entryFrame m #[(.ref a1)] 1)) t := fun t k => castTop (by first | (simp [entryFrame, mkF, argsToLocals, Value.category, maxLocals]; done) | rfl) k
  obtain ⟨hZ1, g2, g3, E1, Ff, Ft, Fs, F1, Vf, Vt, n1, n2, n3⟩ := H
  obtain ⟨T101, X101, e101, st101⟩ := getF X0 hx hZ hown (host := "") (Or.inl (own_w11 hw)) Via.refl e0 Ff (g := (mkF m 1 #[.val (.ref a1)] [(.ref a1)])) rfl rfl (hb hby own_d4_1)
  obtain ⟨T102, X102, e102, st102⟩ := getF X101 hx hZ hown (host := "") (Or.inl (own_w23 hw)) Via.refl e101 F1 (g := (mkF m 5 #[.val (.ref a1)] [(.ref a1), (.ref fr)])) rfl rfl (hb hby own_d4_5)
  obtain ⟨cl103, Ar103, Aq103, As103, An103, Ah103, Ag103⟩ := id Vf
  have hin103 : ¬ ((2 : Int32) < 0 ∨ cl103.slots.size ≤ ((2 : Int32)).toNatClampNeg) := inb_of As103 ⟨by decide, by decide⟩
  obtain ⟨T104, h104, X104, e104, W104, st104⟩ := stR X102 hx hZ e102 Ar103 (j := (2 : Int32)) hin103 rfl (Or.inl rfl) (g := (mkF m 9 #[.val (.ref a1)] [.null, (.int (2 : Int32)), (.ref fr)])) rfl rfl (hb hby own_d4_9)
  have Z104 : n0 ≤ h104.size := Nat.le_trans hZ1 (Nat.le_of_eq W104.size.symm)
  have N104 := Fr.snoc X104 N0 g2
  have V104 : Arv Z h104 fr kf (.object "java/nio/ByteBuffer") (4 : Int32) [.null, .null, .null, .null] .null := Arv.set Ar103 Aq103 As103 An103 Ah103 Ag103 rfl W104 2 rfl (Nat.le_of_ble_eq_true rfl)
  have c105 := (F1.other W104 (Or.inl n1))
  obtain ⟨T106, X106, e106, st106⟩ := getF X104 hx hZ hown (host := "") (Or.inl (own_w23 hw)) Via.refl e104 c105 (g := (mkF m 12 #[.val (.ref a1)] [(.ref a1), (.ref a1)])) rfl rfl (hb hby own_d4_12)
  have c107 := (Ff.other W104 (Or.inl n1))
  obtain ⟨T108, X108, e108, st108⟩ := getF X106 hx hZ hown (host := "") (Or.inl (own_w11 hw)) Via.refl e106 c107 (g := (mkF m 18 #[.val (.ref a1)] [(.ref a1), (.int (3 : Int32)), (.ref a1)])) rfl rfl (hb hby own_d4_18)
  obtain ⟨cl109, Ar109, Aq109, As109, An109, Ah109, Ag109⟩ := id V104
  have c110 := (E1.wr W104)
  obtain ⟨T111, h111, X111, e111, W111, st111⟩ := putF X108 hx hZ hown (host := "") (Or.inl (own_w23 hw)) Via.refl e108 c105 c110 (Or.inl (own_w24 hw)) (own_w1 hw) (ty := .int) (by decide) rfl rfl (g := (mkF m 23 #[.val (.ref a1)] [(.int (3 : Int32)), (.ref a1)])) rfl rfl (hb hby own_d4_23)
  have Z111 : n0 ≤ h111.size := Nat.le_trans Z104 (Nat.le_of_eq W111.size.symm)
  have N111 := Fr.snoc X111 N104 g1
  have Fw111 := c105.same W111
  have c112 := ((Fs.other W104 (Or.inl n1)).other W111 (Or.inr (slot_ne (Or.inl (own_w22 hw)) (Or.inl (own_w24 hw)) (by decide) (t := .int) (t' := .int) (by decide) (by decide))))
  obtain ⟨T113, X113, e113, st113⟩ := getF X111 hx hZ hown (host := "") (Or.inl (own_w21 hw)) Via.refl e111 c112 (g := (mkF m 28 #[.val (.ref a1)] [(.ref a1), (.ref a1)])) rfl rfl (hb hby own_d4_28)
  have c114 := (c110.wr W111)
  obtain ⟨T115, h115, X115, e115, W115, st115⟩ := putF X113 hx hZ hown (host := "") (Or.inl (own_w21 hw)) Via.refl e113 c112 c114 (Or.inl (own_w22 hw)) (own_w1 hw) (ty := .int) (by decide) rfl rfl (g := (mkF m 33 #[.val (.ref a1)] [(.int (1 : Int32)), (.ref a1)])) rfl rfl (hb hby own_d4_33)
  have Z115 : n0 ≤ h115.size := Nat.le_trans Z111 (Nat.le_of_eq W115.size.symm)
  have N115 := Fr.snoc X115 N111 g1
  have Fw115 := c112.same W115
  have c116 := (c114.wr W115)
  have c117 := ((c107.other W111 (Or.inr (slot_ne (Or.inl (own_w12 hw)) (Or.inl (own_w24 hw)) (by decide) (t := (.array (.object "java/nio/ByteBuffer"))) (t' := .int) (by decide) (by decide)))).other W115 (Or.inr (slot_ne (Or.inl (own_w12 hw)) (Or.inl (own_w22 hw)) (by decide) (t := (.array (.object "java/nio/ByteBuffer"))) (t' := .int) (by decide) (by decide))))
  have c118 := (((Ft.other W104 (Or.inl n1)).other W111 (Or.inr (slot_ne (Or.inl (own_w15 hw)) (Or.inl (own_w24 hw)) (by decide) (t := (.array .long)) (t' := .int) (by decide) (by decide)))).other W115 (Or.inr (slot_ne (Or.inl (own_w15 hw)) (Or.inl (own_w22 hw)) (by decide) (t := (.array .long)) (t' := .int) (by decide) (by decide))))
  have c119 := (Fw111.other W115 (Or.inr (slot_ne (Or.inl (own_w24 hw)) (Or.inl (own_w22 hw)) (by decide) (t := .int) (t' := .int) (by decide) (by decide))))
  have c120 := ((V104.other W111 (Ne.symm n1)).other W115 (Ne.symm n1))
  have c121 := (((Vt.other W104 (Ne.symm n3)).other W111 (Ne.symm n2)).other W115 (Ne.symm n2))
  obtain ⟨fs, hr, hrun, hended, hW, hsame⟩ := X115.leave (v := none) (fun _ => rfl)
  refine ⟨_, _, pre0 _ ?_, hrun, hended, _, _, rfl, ?_, ⟨_, rfl⟩, hW, hsame.mono (by decide) (by decide)⟩
  · show Steps _ _ _ (s₁.setTop (mkF m 0 #[.val (.ref a1)] [])) _
    refine XS.aloadN X0.here hx rfl (hb hby own_d4_0) rfl rfl ?_
    refine st101 _ ?_
    refine XS.aloadN X101.here hx rfl (hb hby own_d4_4) rfl rfl ?_
    refine st102 _ ?_
    show Steps _ _ _ (T102.setTop (mkF m 8 #[.val (.ref a1)] [(.int (2 : Int32)), (.ref fr)])) _
    refine XS.aconstNull X102.here hx rfl (hb hby own_d4_8) ?_
    refine st104 _ ?_
    refine XS.aloadN X104.here hx rfl (hb hby own_d4_10) rfl rfl ?_
    refine XS.aloadN X104.here hx rfl (hb hby own_d4_11) rfl rfl ?_
    show Steps _ _ _ (T104.setTop (mkF m 12 #[.val (.ref a1)] [(.ref a1), (.ref a1)])) _
    refine st106 _ ?_
    refine XS.iconst X106.here hx rfl (hb hby own_d4_15) ?_
    refine XS.iadd X106.here hx rfl (hb hby own_d4_16) rfl ?_
    refine XS.aloadN X106.here hx rfl (hb hby own_d4_17) rfl rfl ?_
    show Steps _ _ _ (T106.setTop (mkF m 18 #[.val (.ref a1)] [(.ref a1), (.int (3 : Int32)), (.ref a1)])) _
    refine st108 _ ?_
    refine X108.arraylength hx (by rw [e108]; exact Ar109.1) (State.isArrayOf_alike hZ.alike Ar109.2.1) (g := (mkF m 21 #[.val (.ref a1)] [(.ref fr), (.int (3 : Int32)), (.ref a1)])) rfl rfl (hb hby own_d4_21) _ ?_
    rw [len_of As109 An109]
    refine iremM X108 hx rfl (hb hby own_d4_22) rfl (by decide) ?_
    refine st111 _ ?_
    show Steps _ _ _ (T111.setTop (mkF m 26 #[.val (.ref a1)] [])) _
    refine XS.aloadN X111.here hx rfl (hb hby own_d4_26) rfl rfl ?_
    refine XS.dup X111.here hx rfl (hb hby own_d4_27) rfl rfl ?_
    refine st113 _ ?_
    refine XS.iconst X113.here hx rfl (hb hby own_d4_31) ?_
    show Steps _ _ _ (T113.setTop (mkF m 32 #[.val (.ref a1)] [(.int (1 : Int32)), (.int (2 : Int32)), (.ref a1)])) _
    refine XS.isub X113.here hx rfl (hb hby own_d4_32) rfl ?_
    refine st115 _ ?_
    show Steps _ _ _ (T115.setTop (mkF m 36 #[.val (.ref a1)] [])) _
    exact X115.returnOut hx Bd.returns (hb hby own_d4_36) hr
  · show Qown_rem422 Z a1 fr ti kf kt t0 t1 t2 t3 h0 n0 _ T115.heap _
    rw [e115]
    exact ⟨rfl, N115, fr, ti, kf, kt, ⟨Z115, g2, g3, c116, c117, c118, Fw115, c119, c120, c121, n1, n2, n3⟩⟩
def Qown_rem413 (Z : State) (a1 fr ti : Addr) (kf kt : ClassId) (t0 t1 t2 t3 : Int64) (h0 : Heap) (n0 : Nat) (v : Option Value) (h : Heap) (L : List Loc) : Prop := v = none ∧ Fr n0 L ∧ ∃ (fr ti : Addr) (kf kt : ClassId), own_St Z n0 h a1 fr ti kf kt (4 : Int32) [.null, .null, .null, .null] [(.long t0), (.long t1), (.long t2), (.long t3)] (0 : Int32) (0 : Int32)
set_option maxRecDepth 65536 in
set_option maxHeartbeats 40000000 in
theorem own_rem413 (l : Launch) (Z : State) (a0 : Array Value) (hw : ∀ d ∈ tables_1, d.before a0 Z = true) (ws : List Jvm.Cond) (a1 fr ti : Addr) (kf kt : ClassId) (t0 t1 t2 t3 : Int64) (h0 : Heap) (n0 : Nat) (Z0 : n0 ≤ h0.size) (g1 : n0 ≤ a1) (H : own_St Z n0 h0 a1 fr ti kf kt (4 : Int32) [.null, .null, .null, .null] [(.long t0), (.long t1), (.long t2), (.long t3)] (1 : Int32) (3 : Int32)) :
    MetFree l own_m4 (head1 (Jvm.Cond.code own_m4 prog_10_method_8_code 1 none :: ws) ({ frames := 0, cells := 0, slots := 0, locals := 0 } : Room)) (fun a U => a = #[(.ref a1)] ∧ Z.Warmed39 U.vm ∧ U.heap = h0) (fun _ _ _ _ _ => True) (fun _ U o U' => ∃ v L, o = .returned v ∧ Qown_rem413 Z a1 fr ti kf kt t0 t1 t2 t3 h0 n0 v U'.heap L ∧ FrameEnd U o U' L ({ frames := 0, cells := 0, slots := 0, locals := 0 } : Room).cells ({ frames := 0, cells := 0, slots := 0, locals := 0 } : Room).slots) := by
  refine MetFree.of_bodySF (plainFor_of_name own_pn0) hisR ?_
  intro p e s m args below meth c s₁ Bd hml0 hP hK
  obtain ⟨rfl, hZ, hh⟩ := hP
  have hx := Bd.exec
  have hby := Bd.bytes
  have hml : c.maxLocals = 1 := hml0
  have hown : s.vm.findClass "com/example/don_valley/donvalley/broker/QueuedFrames" = some m.cls := by have q := findClass_of_methodNamed Bd.named; exact q
  have hnm := (name_of_methodNamed Bd.named Bd.method).1
  have X0 : Stand p l e ({ frames := 0, cells := 0, slots := 0, locals := 0 } : Room) s m #[(.ref a1)] below meth c s₁ [] 0 0 := Stand.of_body Bd
  have e0 : s₁.heap = h0 := by rw [← hh, Bd.state]; rfl
  have N0 := Fr.nil n0
  have pre0 : ∀ t, Steps p.tables e below (s₁.setTop (mkF m 0 #[.val (.ref a1)] [])) t → Steps p.tables e below (s₁.setTop (entryFrame m #[(.ref a1)] 1)) t := fun t k => castTop (by first | (simp [entryFrame, mkF, argsToLocals, Value.category, maxLocals]; done) | rfl) k
  obtain ⟨hZ1, g2, g3, E1, Ff, Ft, Fs, F1, Vf, Vt, n1, n2, n3⟩ := H
  obtain ⟨T101, X101, e101, st101⟩ := getF X0 hx hZ hown (host := "") (Or.inl (own_w11 hw)) Via.refl e0 Ff (g := (mkF m 1 #[.val (.ref a1)] [(.ref a1)])) rfl rfl (hb hby own_d4_1)
  obtain ⟨T102, X102, e102, st102⟩ := getF X101 hx hZ hown (host := "") (Or.inl (own_w23 hw)) Via.refl e101 F1 (g := (mkF m 5 #[.val (.ref a1)] [(.ref a1), (.ref fr)])) rfl rfl (hb hby own_d4_5)
  obtain ⟨cl103, Ar103, Aq103, As103, An103, Ah103, Ag103⟩ := id Vf
  have hin103 : ¬ ((3 : Int32) < 0 ∨ cl103.slots.size ≤ ((3 : Int32)).toNatClampNeg) := inb_of As103 ⟨by decide, by decide⟩
  obtain ⟨T104, h104, X104, e104, W104, st104⟩ := stR X102 hx hZ e102 Ar103 (j := (3 : Int32)) hin103 rfl (Or.inl rfl) (g := (mkF m 9 #[.val (.ref a1)] [.null, (.int (3 : Int32)), (.ref fr)])) rfl rfl (hb hby own_d4_9)
  have Z104 : n0 ≤ h104.size := Nat.le_trans hZ1 (Nat.le_of_eq W104.size.symm)
  have N104 := Fr.snoc X104 N0 g2
  have V104 : Arv Z h104 fr kf (.object "java/nio/ByteBuffer") (4 : Int32) [.null, .null, .null, .null] .null := Arv.set Ar103 Aq103 As103 An103 Ah103 Ag103 rfl W104 3 rfl (Nat.le_of_ble_eq_true rfl)
  have c105 := (F1.other W104 (Or.inl n1))
  obtain ⟨T106, X106, e106, st106⟩ := getF X104 hx hZ hown (host := "") (Or.inl (own_w23 hw)) Via.refl e104 c105 (g := (mkF m 12 #[.val (.ref a1)] [(.ref a1), (.ref a1)])) rfl rfl (hb hby own_d4_12)
  have c107 := (Ff.other W104 (Or.inl n1))
  obtain ⟨T108, X108, e108, st108⟩ := getF X106 hx hZ hown (host := "") (Or.inl (own_w11 hw)) Via.refl e106 c107 (g := (mkF m 18 #[.val (.ref a1)] [(.ref a1), (.int (4 : Int32)), (.ref a1)])) rfl rfl (hb hby own_d4_18)
  obtain ⟨cl109, Ar109, Aq109, As109, An109, Ah109, Ag109⟩ := id V104
  have c110 := (E1.wr W104)
  obtain ⟨T111, h111, X111, e111, W111, st111⟩ := putF X108 hx hZ hown (host := "") (Or.inl (own_w23 hw)) Via.refl e108 c105 c110 (Or.inl (own_w24 hw)) (own_w1 hw) (ty := .int) (by decide) rfl rfl (g := (mkF m 23 #[.val (.ref a1)] [(.int (0 : Int32)), (.ref a1)])) rfl rfl (hb hby own_d4_23)
  have Z111 : n0 ≤ h111.size := Nat.le_trans Z104 (Nat.le_of_eq W111.size.symm)
  have N111 := Fr.snoc X111 N104 g1
  have Fw111 := c105.same W111
  have c112 := ((Fs.other W104 (Or.inl n1)).other W111 (Or.inr (slot_ne (Or.inl (own_w22 hw)) (Or.inl (own_w24 hw)) (by decide) (t := .int) (t' := .int) (by decide) (by decide))))
  obtain ⟨T113, X113, e113, st113⟩ := getF X111 hx hZ hown (host := "") (Or.inl (own_w21 hw)) Via.refl e111 c112 (g := (mkF m 28 #[.val (.ref a1)] [(.ref a1), (.ref a1)])) rfl rfl (hb hby own_d4_28)
  have c114 := (c110.wr W111)
  obtain ⟨T115, h115, X115, e115, W115, st115⟩ := putF X113 hx hZ hown (host := "") (Or.inl (own_w21 hw)) Via.refl e113 c112 c114 (Or.inl (own_w22 hw)) (own_w1 hw) (ty := .int) (by decide) rfl rfl (g := (mkF m 33 #[.val (.ref a1)] [(.int (0 : Int32)), (.ref a1)])) rfl rfl (hb hby own_d4_33)
  have Z115 : n0 ≤ h115.size := Nat.le_trans Z111 (Nat.le_of_eq W115.size.symm)
  have N115 := Fr.snoc X115 N111 g1
  have Fw115 := c112.same W115
  have c116 := (c114.wr W115)
  have c117 := ((c107.other W111 (Or.inr (slot_ne (Or.inl (own_w12 hw)) (Or.inl (own_w24 hw)) (by decide) (t := (.array (.object "java/nio/ByteBuffer"))) (t' := .int) (by decide) (by decide)))).other W115 (Or.inr (slot_ne (Or.inl (own_w12 hw)) (Or.inl (own_w22 hw)) (by decide) (t := (.array (.object "java/nio/ByteBuffer"))) (t' := .int) (by decide) (by decide))))
  have c118 := (((Ft.other W104 (Or.inl n1)).other W111 (Or.inr (slot_ne (Or.inl (own_w15 hw)) (Or.inl (own_w24 hw)) (by decide) (t := (.array .long)) (t' := .int) (by decide) (by decide)))).other W115 (Or.inr (slot_ne (Or.inl (own_w15 hw)) (Or.inl (own_w22 hw)) (by decide) (t := (.array .long)) (t' := .int) (by decide) (by decide))))
  have c119 := (Fw111.other W115 (Or.inr (slot_ne (Or.inl (own_w24 hw)) (Or.inl (own_w22 hw)) (by decide) (t := .int) (t' := .int) (by decide) (by decide))))
  have c120 := ((V104.other W111 (Ne.symm n1)).other W115 (Ne.symm n1))
  have c121 := (((Vt.other W104 (Ne.symm n3)).other W111 (Ne.symm n2)).other W115 (Ne.symm n2))
  obtain ⟨fs, hr, hrun, hended, hW, hsame⟩ := X115.leave (v := none) (fun _ => rfl)
  refine ⟨_, _, pre0 _ ?_, hrun, hended, _, _, rfl, ?_, ⟨_, rfl⟩, hW, hsame.mono (by decide) (by decide)⟩
  · show Steps _ _ _ (s₁.setTop (mkF m 0 #[.val (.ref a1)] [])) _
    refine XS.aloadN X0.here hx rfl (hb hby own_d4_0) rfl rfl ?_
    refine st101 _ ?_
    refine XS.aloadN X101.here hx rfl (hb hby own_d4_4) rfl rfl ?_
    refine st102 _ ?_
    show Steps _ _ _ (T102.setTop (mkF m 8 #[.val (.ref a1)] [(.int (3 : Int32)), (.ref fr)])) _
    refine XS.aconstNull X102.here hx rfl (hb hby own_d4_8) ?_
    refine st104 _ ?_
    refine XS.aloadN X104.here hx rfl (hb hby own_d4_10) rfl rfl ?_
    refine XS.aloadN X104.here hx rfl (hb hby own_d4_11) rfl rfl ?_
    show Steps _ _ _ (T104.setTop (mkF m 12 #[.val (.ref a1)] [(.ref a1), (.ref a1)])) _
    refine st106 _ ?_
    refine XS.iconst X106.here hx rfl (hb hby own_d4_15) ?_
    refine XS.iadd X106.here hx rfl (hb hby own_d4_16) rfl ?_
    refine XS.aloadN X106.here hx rfl (hb hby own_d4_17) rfl rfl ?_
    show Steps _ _ _ (T106.setTop (mkF m 18 #[.val (.ref a1)] [(.ref a1), (.int (4 : Int32)), (.ref a1)])) _
    refine st108 _ ?_
    refine X108.arraylength hx (by rw [e108]; exact Ar109.1) (State.isArrayOf_alike hZ.alike Ar109.2.1) (g := (mkF m 21 #[.val (.ref a1)] [(.ref fr), (.int (4 : Int32)), (.ref a1)])) rfl rfl (hb hby own_d4_21) _ ?_
    rw [len_of As109 An109]
    refine iremM X108 hx rfl (hb hby own_d4_22) rfl (by decide) ?_
    refine st111 _ ?_
    show Steps _ _ _ (T111.setTop (mkF m 26 #[.val (.ref a1)] [])) _
    refine XS.aloadN X111.here hx rfl (hb hby own_d4_26) rfl rfl ?_
    refine XS.dup X111.here hx rfl (hb hby own_d4_27) rfl rfl ?_
    refine st113 _ ?_
    refine XS.iconst X113.here hx rfl (hb hby own_d4_31) ?_
    show Steps _ _ _ (T113.setTop (mkF m 32 #[.val (.ref a1)] [(.int (1 : Int32)), (.int (1 : Int32)), (.ref a1)])) _
    refine XS.isub X113.here hx rfl (hb hby own_d4_32) rfl ?_
    refine st115 _ ?_
    show Steps _ _ _ (T115.setTop (mkF m 36 #[.val (.ref a1)] [])) _
    exact X115.returnOut hx Bd.returns (hb hby own_d4_36) hr
  · show Qown_rem413 Z a1 fr ti kf kt t0 t1 t2 t3 h0 n0 _ T115.heap _
    rw [e115]
    exact ⟨rfl, N115, fr, ti, kf, kt, ⟨Z115, g2, g3, c116, c117, c118, Fw115, c119, c120, c121, n1, n2, n3⟩⟩
def Qown_rem441 (Z : State) (a1 fr ti : Addr) (kf kt : ClassId) (t0 t1 t2 t3 : Int64) (h0 : Heap) (n0 : Nat) (v : Option Value) (h : Heap) (L : List Loc) : Prop := v = none ∧ Fr n0 L ∧ ∃ (fr ti : Addr) (kf kt : ClassId), own_St Z n0 h a1 fr ti kf kt (4 : Int32) [.null, .null, .null, .null] [(.long t0), (.long t1), (.long t2), (.long t3)] (3 : Int32) (2 : Int32)
set_option maxRecDepth 65536 in
set_option maxHeartbeats 40000000 in
theorem own_rem441 (l : Launch) (Z : State) (a0 : Array Value) (hw : ∀ d ∈ tables_1, d.before a0 Z = true) (ws : List Jvm.Cond) (a1 fr ti : Addr) (kf kt : ClassId) (t0 t1 t2 t3 : Int64) (h0 : Heap) (n0 : Nat) (Z0 : n0 ≤ h0.size) (g1 : n0 ≤ a1) (H : own_St Z n0 h0 a1 fr ti kf kt (4 : Int32) [.null, .null, .null, .null] [(.long t0), (.long t1), (.long t2), (.long t3)] (4 : Int32) (1 : Int32)) :
    MetFree l own_m4 (head1 (Jvm.Cond.code own_m4 prog_10_method_8_code 1 none :: ws) ({ frames := 0, cells := 0, slots := 0, locals := 0 } : Room)) (fun a U => a = #[(.ref a1)] ∧ Z.Warmed39 U.vm ∧ U.heap = h0) (fun _ _ _ _ _ => True) (fun _ U o U' => ∃ v L, o = .returned v ∧ Qown_rem441 Z a1 fr ti kf kt t0 t1 t2 t3 h0 n0 v U'.heap L ∧ FrameEnd U o U' L ({ frames := 0, cells := 0, slots := 0, locals := 0 } : Room).cells ({ frames := 0, cells := 0, slots := 0, locals := 0 } : Room).slots) := by
  refine MetFree.of_bodySF (plainFor_of_name own_pn0) hisR ?_
  intro p e s m args below meth c s₁ Bd hml0 hP hK
  obtain ⟨rfl, hZ, hh⟩ := hP
  have hx := Bd.exec
  have hby := Bd.bytes
  have hml : c.maxLocals = 1 := hml0
  have hown : s.vm.findClass "com/example/don_valley/donvalley/broker/QueuedFrames" = some m.cls := by have q := findClass_of_methodNamed Bd.named; exact q
  have hnm := (name_of_methodNamed Bd.named Bd.method).1
  have X0 : Stand p l e ({ frames := 0, cells := 0, slots := 0, locals := 0 } : Room) s m #[(.ref a1)] below meth c s₁ [] 0 0 := Stand.of_body Bd
  have e0 : s₁.heap = h0 := by rw [← hh, Bd.state]; rfl
  have N0 := Fr.nil n0
  have pre0 : ∀ t, Steps p.tables e below (s₁.setTop (mkF m 0 #[.val (.ref a1)] [])) t → Steps p.tables e below (s₁.setTop (entryFrame m #[(.ref a1)] 1)) t := fun t k => castTop (by first | (simp [entryFrame, mkF, argsToLocals, Value.category, maxLocals]; done) | rfl) k
  obtain ⟨hZ1, g2, g3, E1, Ff, Ft, Fs, F1, Vf, Vt, n1, n2, n3⟩ := H
  obtain ⟨T101, X101, e101, st101⟩ := getF X0 hx hZ hown (host := "") (Or.inl (own_w11 hw)) Via.refl e0 Ff (g := (mkF m 1 #[.val (.ref a1)] [(.ref a1)])) rfl rfl (hb hby own_d4_1)
  obtain ⟨T102, X102, e102, st102⟩ := getF X101 hx hZ hown (host := "") (Or.inl (own_w23 hw)) Via.refl e101 F1 (g := (mkF m 5 #[.val (.ref a1)] [(.ref a1), (.ref fr)])) rfl rfl (hb hby own_d4_5)
  obtain ⟨cl103, Ar103, Aq103, As103, An103, Ah103, Ag103⟩ := id Vf
  have hin103 : ¬ ((1 : Int32) < 0 ∨ cl103.slots.size ≤ ((1 : Int32)).toNatClampNeg) := inb_of As103 ⟨by decide, by decide⟩
  obtain ⟨T104, h104, X104, e104, W104, st104⟩ := stR X102 hx hZ e102 Ar103 (j := (1 : Int32)) hin103 rfl (Or.inl rfl) (g := (mkF m 9 #[.val (.ref a1)] [.null, (.int (1 : Int32)), (.ref fr)])) rfl rfl (hb hby own_d4_9)
  have Z104 : n0 ≤ h104.size := Nat.le_trans hZ1 (Nat.le_of_eq W104.size.symm)
  have N104 := Fr.snoc X104 N0 g2
  have V104 : Arv Z h104 fr kf (.object "java/nio/ByteBuffer") (4 : Int32) [.null, .null, .null, .null] .null := Arv.set Ar103 Aq103 As103 An103 Ah103 Ag103 rfl W104 1 rfl (Nat.le_of_ble_eq_true rfl)
  have c105 := (F1.other W104 (Or.inl n1))
  obtain ⟨T106, X106, e106, st106⟩ := getF X104 hx hZ hown (host := "") (Or.inl (own_w23 hw)) Via.refl e104 c105 (g := (mkF m 12 #[.val (.ref a1)] [(.ref a1), (.ref a1)])) rfl rfl (hb hby own_d4_12)
  have c107 := (Ff.other W104 (Or.inl n1))
  obtain ⟨T108, X108, e108, st108⟩ := getF X106 hx hZ hown (host := "") (Or.inl (own_w11 hw)) Via.refl e106 c107 (g := (mkF m 18 #[.val (.ref a1)] [(.ref a1), (.int (2 : Int32)), (.ref a1)])) rfl rfl (hb hby own_d4_18)
  obtain ⟨cl109, Ar109, Aq109, As109, An109, Ah109, Ag109⟩ := id V104
  have c110 := (E1.wr W104)
  obtain ⟨T111, h111, X111, e111, W111, st111⟩ := putF X108 hx hZ hown (host := "") (Or.inl (own_w23 hw)) Via.refl e108 c105 c110 (Or.inl (own_w24 hw)) (own_w1 hw) (ty := .int) (by decide) rfl rfl (g := (mkF m 23 #[.val (.ref a1)] [(.int (2 : Int32)), (.ref a1)])) rfl rfl (hb hby own_d4_23)
  have Z111 : n0 ≤ h111.size := Nat.le_trans Z104 (Nat.le_of_eq W111.size.symm)
  have N111 := Fr.snoc X111 N104 g1
  have Fw111 := c105.same W111
  have c112 := ((Fs.other W104 (Or.inl n1)).other W111 (Or.inr (slot_ne (Or.inl (own_w22 hw)) (Or.inl (own_w24 hw)) (by decide) (t := .int) (t' := .int) (by decide) (by decide))))
  obtain ⟨T113, X113, e113, st113⟩ := getF X111 hx hZ hown (host := "") (Or.inl (own_w21 hw)) Via.refl e111 c112 (g := (mkF m 28 #[.val (.ref a1)] [(.ref a1), (.ref a1)])) rfl rfl (hb hby own_d4_28)
  have c114 := (c110.wr W111)
  obtain ⟨T115, h115, X115, e115, W115, st115⟩ := putF X113 hx hZ hown (host := "") (Or.inl (own_w21 hw)) Via.refl e113 c112 c114 (Or.inl (own_w22 hw)) (own_w1 hw) (ty := .int) (by decide) rfl rfl (g := (mkF m 33 #[.val (.ref a1)] [(.int (3 : Int32)), (.ref a1)])) rfl rfl (hb hby own_d4_33)
  have Z115 : n0 ≤ h115.size := Nat.le_trans Z111 (Nat.le_of_eq W115.size.symm)
  have N115 := Fr.snoc X115 N111 g1
  have Fw115 := c112.same W115
  have c116 := (c114.wr W115)
  have c117 := ((c107.other W111 (Or.inr (slot_ne (Or.inl (own_w12 hw)) (Or.inl (own_w24 hw)) (by decide) (t := (.array (.object "java/nio/ByteBuffer"))) (t' := .int) (by decide) (by decide)))).other W115 (Or.inr (slot_ne (Or.inl (own_w12 hw)) (Or.inl (own_w22 hw)) (by decide) (t := (.array (.object "java/nio/ByteBuffer"))) (t' := .int) (by decide) (by decide))))
  have c118 := (((Ft.other W104 (Or.inl n1)).other W111 (Or.inr (slot_ne (Or.inl (own_w15 hw)) (Or.inl (own_w24 hw)) (by decide) (t := (.array .long)) (t' := .int) (by decide) (by decide)))).other W115 (Or.inr (slot_ne (Or.inl (own_w15 hw)) (Or.inl (own_w22 hw)) (by decide) (t := (.array .long)) (t' := .int) (by decide) (by decide))))
  have c119 := (Fw111.other W115 (Or.inr (slot_ne (Or.inl (own_w24 hw)) (Or.inl (own_w22 hw)) (by decide) (t := .int) (t' := .int) (by decide) (by decide))))
  have c120 := ((V104.other W111 (Ne.symm n1)).other W115 (Ne.symm n1))
  have c121 := (((Vt.other W104 (Ne.symm n3)).other W111 (Ne.symm n2)).other W115 (Ne.symm n2))
  obtain ⟨fs, hr, hrun, hended, hW, hsame⟩ := X115.leave (v := none) (fun _ => rfl)
  refine ⟨_, _, pre0 _ ?_, hrun, hended, _, _, rfl, ?_, ⟨_, rfl⟩, hW, hsame.mono (by decide) (by decide)⟩
  · show Steps _ _ _ (s₁.setTop (mkF m 0 #[.val (.ref a1)] [])) _
    refine XS.aloadN X0.here hx rfl (hb hby own_d4_0) rfl rfl ?_
    refine st101 _ ?_
    refine XS.aloadN X101.here hx rfl (hb hby own_d4_4) rfl rfl ?_
    refine st102 _ ?_
    show Steps _ _ _ (T102.setTop (mkF m 8 #[.val (.ref a1)] [(.int (1 : Int32)), (.ref fr)])) _
    refine XS.aconstNull X102.here hx rfl (hb hby own_d4_8) ?_
    refine st104 _ ?_
    refine XS.aloadN X104.here hx rfl (hb hby own_d4_10) rfl rfl ?_
    refine XS.aloadN X104.here hx rfl (hb hby own_d4_11) rfl rfl ?_
    show Steps _ _ _ (T104.setTop (mkF m 12 #[.val (.ref a1)] [(.ref a1), (.ref a1)])) _
    refine st106 _ ?_
    refine XS.iconst X106.here hx rfl (hb hby own_d4_15) ?_
    refine XS.iadd X106.here hx rfl (hb hby own_d4_16) rfl ?_
    refine XS.aloadN X106.here hx rfl (hb hby own_d4_17) rfl rfl ?_
    show Steps _ _ _ (T106.setTop (mkF m 18 #[.val (.ref a1)] [(.ref a1), (.int (2 : Int32)), (.ref a1)])) _
    refine st108 _ ?_
    refine X108.arraylength hx (by rw [e108]; exact Ar109.1) (State.isArrayOf_alike hZ.alike Ar109.2.1) (g := (mkF m 21 #[.val (.ref a1)] [(.ref fr), (.int (2 : Int32)), (.ref a1)])) rfl rfl (hb hby own_d4_21) _ ?_
    rw [len_of As109 An109]
    refine iremM X108 hx rfl (hb hby own_d4_22) rfl (by decide) ?_
    refine st111 _ ?_
    show Steps _ _ _ (T111.setTop (mkF m 26 #[.val (.ref a1)] [])) _
    refine XS.aloadN X111.here hx rfl (hb hby own_d4_26) rfl rfl ?_
    refine XS.dup X111.here hx rfl (hb hby own_d4_27) rfl rfl ?_
    refine st113 _ ?_
    refine XS.iconst X113.here hx rfl (hb hby own_d4_31) ?_
    show Steps _ _ _ (T113.setTop (mkF m 32 #[.val (.ref a1)] [(.int (1 : Int32)), (.int (4 : Int32)), (.ref a1)])) _
    refine XS.isub X113.here hx rfl (hb hby own_d4_32) rfl ?_
    refine st115 _ ?_
    show Steps _ _ _ (T115.setTop (mkF m 36 #[.val (.ref a1)] [])) _
    exact X115.returnOut hx Bd.returns (hb hby own_d4_36) hr
  · show Qown_rem441 Z a1 fr ti kf kt t0 t1 t2 t3 h0 n0 _ T115.heap _
    rw [e115]
    exact ⟨rfl, N115, fr, ti, kf, kt, ⟨Z115, g2, g3, c116, c117, c118, Fw115, c119, c120, c121, n1, n2, n3⟩⟩
def Qown_rem432 (Z : State) (a1 fr ti : Addr) (kf kt : ClassId) (t0 t1 t2 t3 : Int64) (h0 : Heap) (n0 : Nat) (v : Option Value) (h : Heap) (L : List Loc) : Prop := v = none ∧ Fr n0 L ∧ ∃ (fr ti : Addr) (kf kt : ClassId), own_St Z n0 h a1 fr ti kf kt (4 : Int32) [.null, .null, .null, .null] [(.long t0), (.long t1), (.long t2), (.long t3)] (2 : Int32) (3 : Int32)
set_option maxRecDepth 65536 in
set_option maxHeartbeats 40000000 in
theorem own_rem432 (l : Launch) (Z : State) (a0 : Array Value) (hw : ∀ d ∈ tables_1, d.before a0 Z = true) (ws : List Jvm.Cond) (a1 fr ti : Addr) (kf kt : ClassId) (t0 t1 t2 t3 : Int64) (h0 : Heap) (n0 : Nat) (Z0 : n0 ≤ h0.size) (g1 : n0 ≤ a1) (H : own_St Z n0 h0 a1 fr ti kf kt (4 : Int32) [.null, .null, .null, .null] [(.long t0), (.long t1), (.long t2), (.long t3)] (3 : Int32) (2 : Int32)) :
    MetFree l own_m4 (head1 (Jvm.Cond.code own_m4 prog_10_method_8_code 1 none :: ws) ({ frames := 0, cells := 0, slots := 0, locals := 0 } : Room)) (fun a U => a = #[(.ref a1)] ∧ Z.Warmed39 U.vm ∧ U.heap = h0) (fun _ _ _ _ _ => True) (fun _ U o U' => ∃ v L, o = .returned v ∧ Qown_rem432 Z a1 fr ti kf kt t0 t1 t2 t3 h0 n0 v U'.heap L ∧ FrameEnd U o U' L ({ frames := 0, cells := 0, slots := 0, locals := 0 } : Room).cells ({ frames := 0, cells := 0, slots := 0, locals := 0 } : Room).slots) := by
  refine MetFree.of_bodySF (plainFor_of_name own_pn0) hisR ?_
  intro p e s m args below meth c s₁ Bd hml0 hP hK
  obtain ⟨rfl, hZ, hh⟩ := hP
  have hx := Bd.exec
  have hby := Bd.bytes
  have hml : c.maxLocals = 1 := hml0
  have hown : s.vm.findClass "com/example/don_valley/donvalley/broker/QueuedFrames" = some m.cls := by have q := findClass_of_methodNamed Bd.named; exact q
  have hnm := (name_of_methodNamed Bd.named Bd.method).1
  have X0 : Stand p l e ({ frames := 0, cells := 0, slots := 0, locals := 0 } : Room) s m #[(.ref a1)] below meth c s₁ [] 0 0 := Stand.of_body Bd
  have e0 : s₁.heap = h0 := by rw [← hh, Bd.state]; rfl
  have N0 := Fr.nil n0
  have pre0 : ∀ t, Steps p.tables e below (s₁.setTop (mkF m 0 #[.val (.ref a1)] [])) t → Steps p.tables e below (s₁.setTop (entryFrame m #[(.ref a1)] 1)) t := fun t k => castTop (by first | (simp [entryFrame, mkF, argsToLocals, Value.category, maxLocals]; done) | rfl) k
  obtain ⟨hZ1, g2, g3, E1, Ff, Ft, Fs, F1, Vf, Vt, n1, n2, n3⟩ := H
  obtain ⟨T101, X101, e101, st101⟩ := getF X0 hx hZ hown (host := "") (Or.inl (own_w11 hw)) Via.refl e0 Ff (g := (mkF m 1 #[.val (.ref a1)] [(.ref a1)])) rfl rfl (hb hby own_d4_1)
  obtain ⟨T102, X102, e102, st102⟩ := getF X101 hx hZ hown (host := "") (Or.inl (own_w23 hw)) Via.refl e101 F1 (g := (mkF m 5 #[.val (.ref a1)] [(.ref a1), (.ref fr)])) rfl rfl (hb hby own_d4_5)
  obtain ⟨cl103, Ar103, Aq103, As103, An103, Ah103, Ag103⟩ := id Vf
  have hin103 : ¬ ((2 : Int32) < 0 ∨ cl103.slots.size ≤ ((2 : Int32)).toNatClampNeg) := inb_of As103 ⟨by decide, by decide⟩
  obtain ⟨T104, h104, X104, e104, W104, st104⟩ := stR X102 hx hZ e102 Ar103 (j := (2 : Int32)) hin103 rfl (Or.inl rfl) (g := (mkF m 9 #[.val (.ref a1)] [.null, (.int (2 : Int32)), (.ref fr)])) rfl rfl (hb hby own_d4_9)
  have Z104 : n0 ≤ h104.size := Nat.le_trans hZ1 (Nat.le_of_eq W104.size.symm)
  have N104 := Fr.snoc X104 N0 g2
  have V104 : Arv Z h104 fr kf (.object "java/nio/ByteBuffer") (4 : Int32) [.null, .null, .null, .null] .null := Arv.set Ar103 Aq103 As103 An103 Ah103 Ag103 rfl W104 2 rfl (Nat.le_of_ble_eq_true rfl)
  have c105 := (F1.other W104 (Or.inl n1))
  obtain ⟨T106, X106, e106, st106⟩ := getF X104 hx hZ hown (host := "") (Or.inl (own_w23 hw)) Via.refl e104 c105 (g := (mkF m 12 #[.val (.ref a1)] [(.ref a1), (.ref a1)])) rfl rfl (hb hby own_d4_12)
  have c107 := (Ff.other W104 (Or.inl n1))
  obtain ⟨T108, X108, e108, st108⟩ := getF X106 hx hZ hown (host := "") (Or.inl (own_w11 hw)) Via.refl e106 c107 (g := (mkF m 18 #[.val (.ref a1)] [(.ref a1), (.int (3 : Int32)), (.ref a1)])) rfl rfl (hb hby own_d4_18)
  obtain ⟨cl109, Ar109, Aq109, As109, An109, Ah109, Ag109⟩ := id V104
  have c110 := (E1.wr W104)
  obtain ⟨T111, h111, X111, e111, W111, st111⟩ := putF X108 hx hZ hown (host := "") (Or.inl (own_w23 hw)) Via.refl e108 c105 c110 (Or.inl (own_w24 hw)) (own_w1 hw) (ty := .int) (by decide) rfl rfl (g := (mkF m 23 #[.val (.ref a1)] [(.int (3 : Int32)), (.ref a1)])) rfl rfl (hb hby own_d4_23)
  have Z111 : n0 ≤ h111.size := Nat.le_trans Z104 (Nat.le_of_eq W111.size.symm)
  have N111 := Fr.snoc X111 N104 g1
  have Fw111 := c105.same W111
  have c112 := ((Fs.other W104 (Or.inl n1)).other W111 (Or.inr (slot_ne (Or.inl (own_w22 hw)) (Or.inl (own_w24 hw)) (by decide) (t := .int) (t' := .int) (by decide) (by decide))))
  obtain ⟨T113, X113, e113, st113⟩ := getF X111 hx hZ hown (host := "") (Or.inl (own_w21 hw)) Via.refl e111 c112 (g := (mkF m 28 #[.val (.ref a1)] [(.ref a1), (.ref a1)])) rfl rfl (hb hby own_d4_28)
  have c114 := (c110.wr W111)
  obtain ⟨T115, h115, X115, e115, W115, st115⟩ := putF X113 hx hZ hown (host := "") (Or.inl (own_w21 hw)) Via.refl e113 c112 c114 (Or.inl (own_w22 hw)) (own_w1 hw) (ty := .int) (by decide) rfl rfl (g := (mkF m 33 #[.val (.ref a1)] [(.int (2 : Int32)), (.ref a1)])) rfl rfl (hb hby own_d4_33)
  have Z115 : n0 ≤ h115.size := Nat.le_trans Z111 (Nat.le_of_eq W115.size.symm)
  have N115 := Fr.snoc X115 N111 g1
  have Fw115 := c112.same W115
  have c116 := (c114.wr W115)
  have c117 := ((c107.other W111 (Or.inr (slot_ne (Or.inl (own_w12 hw)) (Or.inl (own_w24 hw)) (by decide) (t := (.array (.object "java/nio/ByteBuffer"))) (t' := .int) (by decide) (by decide)))).other W115 (Or.inr (slot_ne (Or.inl (own_w12 hw)) (Or.inl (own_w22 hw)) (by decide) (t := (.array (.object "java/nio/ByteBuffer"))) (t' := .int) (by decide) (by decide))))
  have c118 := (((Ft.other W104 (Or.inl n1)).other W111 (Or.inr (slot_ne (Or.inl (own_w15 hw)) (Or.inl (own_w24 hw)) (by decide) (t := (.array .long)) (t' := .int) (by decide) (by decide)))).other W115 (Or.inr (slot_ne (Or.inl (own_w15 hw)) (Or.inl (own_w22 hw)) (by decide) (t := (.array .long)) (t' := .int) (by decide) (by decide))))
  have c119 := (Fw111.other W115 (Or.inr (slot_ne (Or.inl (own_w24 hw)) (Or.inl (own_w22 hw)) (by decide) (t := .int) (t' := .int) (by decide) (by decide))))
  have c120 := ((V104.other W111 (Ne.symm n1)).other W115 (Ne.symm n1))
  have c121 := (((Vt.other W104 (Ne.symm n3)).other W111 (Ne.symm n2)).other W115 (Ne.symm n2))
  obtain ⟨fs, hr, hrun, hended, hW, hsame⟩ := X115.leave (v := none) (fun _ => rfl)
  refine ⟨_, _, pre0 _ ?_, hrun, hended, _, _, rfl, ?_, ⟨_, rfl⟩, hW, hsame.mono (by decide) (by decide)⟩
  · show Steps _ _ _ (s₁.setTop (mkF m 0 #[.val (.ref a1)] [])) _
    refine XS.aloadN X0.here hx rfl (hb hby own_d4_0) rfl rfl ?_
    refine st101 _ ?_
    refine XS.aloadN X101.here hx rfl (hb hby own_d4_4) rfl rfl ?_
    refine st102 _ ?_
    show Steps _ _ _ (T102.setTop (mkF m 8 #[.val (.ref a1)] [(.int (2 : Int32)), (.ref fr)])) _
    refine XS.aconstNull X102.here hx rfl (hb hby own_d4_8) ?_
    refine st104 _ ?_
    refine XS.aloadN X104.here hx rfl (hb hby own_d4_10) rfl rfl ?_
    refine XS.aloadN X104.here hx rfl (hb hby own_d4_11) rfl rfl ?_
    show Steps _ _ _ (T104.setTop (mkF m 12 #[.val (.ref a1)] [(.ref a1), (.ref a1)])) _
    refine st106 _ ?_
    refine XS.iconst X106.here hx rfl (hb hby own_d4_15) ?_
    refine XS.iadd X106.here hx rfl (hb hby own_d4_16) rfl ?_
    refine XS.aloadN X106.here hx rfl (hb hby own_d4_17) rfl rfl ?_
    show Steps _ _ _ (T106.setTop (mkF m 18 #[.val (.ref a1)] [(.ref a1), (.int (3 : Int32)), (.ref a1)])) _
    refine st108 _ ?_
    refine X108.arraylength hx (by rw [e108]; exact Ar109.1) (State.isArrayOf_alike hZ.alike Ar109.2.1) (g := (mkF m 21 #[.val (.ref a1)] [(.ref fr), (.int (3 : Int32)), (.ref a1)])) rfl rfl (hb hby own_d4_21) _ ?_
    rw [len_of As109 An109]
    refine iremM X108 hx rfl (hb hby own_d4_22) rfl (by decide) ?_
    refine st111 _ ?_
    show Steps _ _ _ (T111.setTop (mkF m 26 #[.val (.ref a1)] [])) _
    refine XS.aloadN X111.here hx rfl (hb hby own_d4_26) rfl rfl ?_
    refine XS.dup X111.here hx rfl (hb hby own_d4_27) rfl rfl ?_
    refine st113 _ ?_
    refine XS.iconst X113.here hx rfl (hb hby own_d4_31) ?_
    show Steps _ _ _ (T113.setTop (mkF m 32 #[.val (.ref a1)] [(.int (1 : Int32)), (.int (3 : Int32)), (.ref a1)])) _
    refine XS.isub X113.here hx rfl (hb hby own_d4_32) rfl ?_
    refine st115 _ ?_
    show Steps _ _ _ (T115.setTop (mkF m 36 #[.val (.ref a1)] [])) _
    exact X115.returnOut hx Bd.returns (hb hby own_d4_36) hr
  · show Qown_rem432 Z a1 fr ti kf kt t0 t1 t2 t3 h0 n0 _ T115.heap _
    rw [e115]
    exact ⟨rfl, N115, fr, ti, kf, kt, ⟨Z115, g2, g3, c116, c117, c118, Fw115, c119, c120, c121, n1, n2, n3⟩⟩
def Qown_rem423 (Z : State) (a1 fr ti : Addr) (kf kt : ClassId) (t0 t1 t2 t3 : Int64) (h0 : Heap) (n0 : Nat) (v : Option Value) (h : Heap) (L : List Loc) : Prop := v = none ∧ Fr n0 L ∧ ∃ (fr ti : Addr) (kf kt : ClassId), own_St Z n0 h a1 fr ti kf kt (4 : Int32) [.null, .null, .null, .null] [(.long t0), (.long t1), (.long t2), (.long t3)] (1 : Int32) (0 : Int32)
set_option maxRecDepth 65536 in
set_option maxHeartbeats 40000000 in
theorem own_rem423 (l : Launch) (Z : State) (a0 : Array Value) (hw : ∀ d ∈ tables_1, d.before a0 Z = true) (ws : List Jvm.Cond) (a1 fr ti : Addr) (kf kt : ClassId) (t0 t1 t2 t3 : Int64) (h0 : Heap) (n0 : Nat) (Z0 : n0 ≤ h0.size) (g1 : n0 ≤ a1) (H : own_St Z n0 h0 a1 fr ti kf kt (4 : Int32) [.null, .null, .null, .null] [(.long t0), (.long t1), (.long t2), (.long t3)] (2 : Int32) (3 : Int32)) :
    MetFree l own_m4 (head1 (Jvm.Cond.code own_m4 prog_10_method_8_code 1 none :: ws) ({ frames := 0, cells := 0, slots := 0, locals := 0 } : Room)) (fun a U => a = #[(.ref a1)] ∧ Z.Warmed39 U.vm ∧ U.heap = h0) (fun _ _ _ _ _ => True) (fun _ U o U' => ∃ v L, o = .returned v ∧ Qown_rem423 Z a1 fr ti kf kt t0 t1 t2 t3 h0 n0 v U'.heap L ∧ FrameEnd U o U' L ({ frames := 0, cells := 0, slots := 0, locals := 0 } : Room).cells ({ frames := 0, cells := 0, slots := 0, locals := 0 } : Room).slots) := by
  refine MetFree.of_bodySF (plainFor_of_name own_pn0) hisR ?_
  intro p e s m args below meth c s₁ Bd hml0 hP hK
  obtain ⟨rfl, hZ, hh⟩ := hP
  have hx := Bd.exec
  have hby := Bd.bytes
  have hml : c.maxLocals = 1 := hml0
  have hown : s.vm.findClass "com/example/don_valley/donvalley/broker/QueuedFrames" = some m.cls := by have q := findClass_of_methodNamed Bd.named; exact q
  have hnm := (name_of_methodNamed Bd.named Bd.method).1
  have X0 : Stand p l e ({ frames := 0, cells := 0, slots := 0, locals := 0 } : Room) s m #[(.ref a1)] below meth c s₁ [] 0 0 := Stand.of_body Bd
  have e0 : s₁.heap = h0 := by rw [← hh, Bd.state]; rfl
  have N0 := Fr.nil n0
  have pre0 : ∀ t, Steps p.tables e below (s₁.setTop (mkF m 0 #[.val (.ref a1)] [])) t → Steps p.tables e below (s₁.setTop (entryFrame m #[(.ref a1)] 1)) t := fun t k => castTop (by first | (simp [entryFrame, mkF, argsToLocals, Value.category, maxLocals]; done) | rfl) k
  obtain ⟨hZ1, g2, g3, E1, Ff, Ft, Fs, F1, Vf, Vt, n1, n2, n3⟩ := H
  obtain ⟨T101, X101, e101, st101⟩ := getF X0 hx hZ hown (host := "") (Or.inl (own_w11 hw)) Via.refl e0 Ff (g := (mkF m 1 #[.val (.ref a1)] [(.ref a1)])) rfl rfl (hb hby own_d4_1)
  obtain ⟨T102, X102, e102, st102⟩ := getF X101 hx hZ hown (host := "") (Or.inl (own_w23 hw)) Via.refl e101 F1 (g := (mkF m 5 #[.val (.ref a1)] [(.ref a1), (.ref fr)])) rfl rfl (hb hby own_d4_5)
  obtain ⟨cl103, Ar103, Aq103, As103, An103, Ah103, Ag103⟩ := id Vf
  have hin103 : ¬ ((3 : Int32) < 0 ∨ cl103.slots.size ≤ ((3 : Int32)).toNatClampNeg) := inb_of As103 ⟨by decide, by decide⟩
  obtain ⟨T104, h104, X104, e104, W104, st104⟩ := stR X102 hx hZ e102 Ar103 (j := (3 : Int32)) hin103 rfl (Or.inl rfl) (g := (mkF m 9 #[.val (.ref a1)] [.null, (.int (3 : Int32)), (.ref fr)])) rfl rfl (hb hby own_d4_9)
  have Z104 : n0 ≤ h104.size := Nat.le_trans hZ1 (Nat.le_of_eq W104.size.symm)
  have N104 := Fr.snoc X104 N0 g2
  have V104 : Arv Z h104 fr kf (.object "java/nio/ByteBuffer") (4 : Int32) [.null, .null, .null, .null] .null := Arv.set Ar103 Aq103 As103 An103 Ah103 Ag103 rfl W104 3 rfl (Nat.le_of_ble_eq_true rfl)
  have c105 := (F1.other W104 (Or.inl n1))
  obtain ⟨T106, X106, e106, st106⟩ := getF X104 hx hZ hown (host := "") (Or.inl (own_w23 hw)) Via.refl e104 c105 (g := (mkF m 12 #[.val (.ref a1)] [(.ref a1), (.ref a1)])) rfl rfl (hb hby own_d4_12)
  have c107 := (Ff.other W104 (Or.inl n1))
  obtain ⟨T108, X108, e108, st108⟩ := getF X106 hx hZ hown (host := "") (Or.inl (own_w11 hw)) Via.refl e106 c107 (g := (mkF m 18 #[.val (.ref a1)] [(.ref a1), (.int (4 : Int32)), (.ref a1)])) rfl rfl (hb hby own_d4_18)
  obtain ⟨cl109, Ar109, Aq109, As109, An109, Ah109, Ag109⟩ := id V104
  have c110 := (E1.wr W104)
  obtain ⟨T111, h111, X111, e111, W111, st111⟩ := putF X108 hx hZ hown (host := "") (Or.inl (own_w23 hw)) Via.refl e108 c105 c110 (Or.inl (own_w24 hw)) (own_w1 hw) (ty := .int) (by decide) rfl rfl (g := (mkF m 23 #[.val (.ref a1)] [(.int (0 : Int32)), (.ref a1)])) rfl rfl (hb hby own_d4_23)
  have Z111 : n0 ≤ h111.size := Nat.le_trans Z104 (Nat.le_of_eq W111.size.symm)
  have N111 := Fr.snoc X111 N104 g1
  have Fw111 := c105.same W111
  have c112 := ((Fs.other W104 (Or.inl n1)).other W111 (Or.inr (slot_ne (Or.inl (own_w22 hw)) (Or.inl (own_w24 hw)) (by decide) (t := .int) (t' := .int) (by decide) (by decide))))
  obtain ⟨T113, X113, e113, st113⟩ := getF X111 hx hZ hown (host := "") (Or.inl (own_w21 hw)) Via.refl e111 c112 (g := (mkF m 28 #[.val (.ref a1)] [(.ref a1), (.ref a1)])) rfl rfl (hb hby own_d4_28)
  have c114 := (c110.wr W111)
  obtain ⟨T115, h115, X115, e115, W115, st115⟩ := putF X113 hx hZ hown (host := "") (Or.inl (own_w21 hw)) Via.refl e113 c112 c114 (Or.inl (own_w22 hw)) (own_w1 hw) (ty := .int) (by decide) rfl rfl (g := (mkF m 33 #[.val (.ref a1)] [(.int (1 : Int32)), (.ref a1)])) rfl rfl (hb hby own_d4_33)
  have Z115 : n0 ≤ h115.size := Nat.le_trans Z111 (Nat.le_of_eq W115.size.symm)
  have N115 := Fr.snoc X115 N111 g1
  have Fw115 := c112.same W115
  have c116 := (c114.wr W115)
  have c117 := ((c107.other W111 (Or.inr (slot_ne (Or.inl (own_w12 hw)) (Or.inl (own_w24 hw)) (by decide) (t := (.array (.object "java/nio/ByteBuffer"))) (t' := .int) (by decide) (by decide)))).other W115 (Or.inr (slot_ne (Or.inl (own_w12 hw)) (Or.inl (own_w22 hw)) (by decide) (t := (.array (.object "java/nio/ByteBuffer"))) (t' := .int) (by decide) (by decide))))
  have c118 := (((Ft.other W104 (Or.inl n1)).other W111 (Or.inr (slot_ne (Or.inl (own_w15 hw)) (Or.inl (own_w24 hw)) (by decide) (t := (.array .long)) (t' := .int) (by decide) (by decide)))).other W115 (Or.inr (slot_ne (Or.inl (own_w15 hw)) (Or.inl (own_w22 hw)) (by decide) (t := (.array .long)) (t' := .int) (by decide) (by decide))))
  have c119 := (Fw111.other W115 (Or.inr (slot_ne (Or.inl (own_w24 hw)) (Or.inl (own_w22 hw)) (by decide) (t := .int) (t' := .int) (by decide) (by decide))))
  have c120 := ((V104.other W111 (Ne.symm n1)).other W115 (Ne.symm n1))
  have c121 := (((Vt.other W104 (Ne.symm n3)).other W111 (Ne.symm n2)).other W115 (Ne.symm n2))
  obtain ⟨fs, hr, hrun, hended, hW, hsame⟩ := X115.leave (v := none) (fun _ => rfl)
  refine ⟨_, _, pre0 _ ?_, hrun, hended, _, _, rfl, ?_, ⟨_, rfl⟩, hW, hsame.mono (by decide) (by decide)⟩
  · show Steps _ _ _ (s₁.setTop (mkF m 0 #[.val (.ref a1)] [])) _
    refine XS.aloadN X0.here hx rfl (hb hby own_d4_0) rfl rfl ?_
    refine st101 _ ?_
    refine XS.aloadN X101.here hx rfl (hb hby own_d4_4) rfl rfl ?_
    refine st102 _ ?_
    show Steps _ _ _ (T102.setTop (mkF m 8 #[.val (.ref a1)] [(.int (3 : Int32)), (.ref fr)])) _
    refine XS.aconstNull X102.here hx rfl (hb hby own_d4_8) ?_
    refine st104 _ ?_
    refine XS.aloadN X104.here hx rfl (hb hby own_d4_10) rfl rfl ?_
    refine XS.aloadN X104.here hx rfl (hb hby own_d4_11) rfl rfl ?_
    show Steps _ _ _ (T104.setTop (mkF m 12 #[.val (.ref a1)] [(.ref a1), (.ref a1)])) _
    refine st106 _ ?_
    refine XS.iconst X106.here hx rfl (hb hby own_d4_15) ?_
    refine XS.iadd X106.here hx rfl (hb hby own_d4_16) rfl ?_
    refine XS.aloadN X106.here hx rfl (hb hby own_d4_17) rfl rfl ?_
    show Steps _ _ _ (T106.setTop (mkF m 18 #[.val (.ref a1)] [(.ref a1), (.int (4 : Int32)), (.ref a1)])) _
    refine st108 _ ?_
    refine X108.arraylength hx (by rw [e108]; exact Ar109.1) (State.isArrayOf_alike hZ.alike Ar109.2.1) (g := (mkF m 21 #[.val (.ref a1)] [(.ref fr), (.int (4 : Int32)), (.ref a1)])) rfl rfl (hb hby own_d4_21) _ ?_
    rw [len_of As109 An109]
    refine iremM X108 hx rfl (hb hby own_d4_22) rfl (by decide) ?_
    refine st111 _ ?_
    show Steps _ _ _ (T111.setTop (mkF m 26 #[.val (.ref a1)] [])) _
    refine XS.aloadN X111.here hx rfl (hb hby own_d4_26) rfl rfl ?_
    refine XS.dup X111.here hx rfl (hb hby own_d4_27) rfl rfl ?_
    refine st113 _ ?_
    refine XS.iconst X113.here hx rfl (hb hby own_d4_31) ?_
    show Steps _ _ _ (T113.setTop (mkF m 32 #[.val (.ref a1)] [(.int (1 : Int32)), (.int (2 : Int32)), (.ref a1)])) _
    refine XS.isub X113.here hx rfl (hb hby own_d4_32) rfl ?_
    refine st115 _ ?_
    show Steps _ _ _ (T115.setTop (mkF m 36 #[.val (.ref a1)] [])) _
    exact X115.returnOut hx Bd.returns (hb hby own_d4_36) hr
  · show Qown_rem423 Z a1 fr ti kf kt t0 t1 t2 t3 h0 n0 _ T115.heap _
    rw [e115]
    exact ⟨rfl, N115, fr, ti, kf, kt, ⟨Z115, g2, g3, c116, c117, c118, Fw115, c119, c120, c121, n1, n2, n3⟩⟩
def Qown_rem850 (Z : State) (a1 fr ti : Addr) (kf kt : ClassId) (t0 t1 t2 t3 t4 t5 t6 t7 : Int64) (h0 : Heap) (n0 : Nat) (v : Option Value) (h : Heap) (L : List Loc) : Prop := v = none ∧ Fr n0 L ∧ ∃ (fr ti : Addr) (kf kt : ClassId), own_St Z n0 h a1 fr ti kf kt (8 : Int32) [.null, .null, .null, .null, .null, .null, .null, .null] [(.long t0), (.long t1), (.long t2), (.long t3), (.long t4), (.long t5), (.long t6), (.long t7)] (4 : Int32) (1 : Int32)
set_option maxRecDepth 65536 in
set_option maxHeartbeats 40000000 in
theorem own_rem850 (l : Launch) (Z : State) (a0 : Array Value) (hw : ∀ d ∈ tables_1, d.before a0 Z = true) (ws : List Jvm.Cond) (a1 fr ti : Addr) (kf kt : ClassId) (t0 t1 t2 t3 t4 t5 t6 t7 : Int64) (h0 : Heap) (n0 : Nat) (Z0 : n0 ≤ h0.size) (g1 : n0 ≤ a1) (H : own_St Z n0 h0 a1 fr ti kf kt (8 : Int32) [.null, .null, .null, .null, .null, .null, .null, .null] [(.long t0), (.long t1), (.long t2), (.long t3), (.long t4), (.long t5), (.long t6), (.long t7)] (5 : Int32) (0 : Int32)) :
    MetFree l own_m4 (head1 (Jvm.Cond.code own_m4 prog_10_method_8_code 1 none :: ws) ({ frames := 0, cells := 0, slots := 0, locals := 0 } : Room)) (fun a U => a = #[(.ref a1)] ∧ Z.Warmed39 U.vm ∧ U.heap = h0) (fun _ _ _ _ _ => True) (fun _ U o U' => ∃ v L, o = .returned v ∧ Qown_rem850 Z a1 fr ti kf kt t0 t1 t2 t3 t4 t5 t6 t7 h0 n0 v U'.heap L ∧ FrameEnd U o U' L ({ frames := 0, cells := 0, slots := 0, locals := 0 } : Room).cells ({ frames := 0, cells := 0, slots := 0, locals := 0 } : Room).slots) := by
  refine MetFree.of_bodySF (plainFor_of_name own_pn0) hisR ?_
  intro p e s m args below meth c s₁ Bd hml0 hP hK
  obtain ⟨rfl, hZ, hh⟩ := hP
  have hx := Bd.exec
  have hby := Bd.bytes
  have hml : c.maxLocals = 1 := hml0
  have hown : s.vm.findClass "com/example/don_valley/donvalley/broker/QueuedFrames" = some m.cls := by have q := findClass_of_methodNamed Bd.named; exact q
  have hnm := (name_of_methodNamed Bd.named Bd.method).1
  have X0 : Stand p l e ({ frames := 0, cells := 0, slots := 0, locals := 0 } : Room) s m #[(.ref a1)] below meth c s₁ [] 0 0 := Stand.of_body Bd
  have e0 : s₁.heap = h0 := by rw [← hh, Bd.state]; rfl
  have N0 := Fr.nil n0
  have pre0 : ∀ t, Steps p.tables e below (s₁.setTop (mkF m 0 #[.val (.ref a1)] [])) t → Steps p.tables e below (s₁.setTop (entryFrame m #[(.ref a1)] 1)) t := fun t k => castTop (by first | (simp [entryFrame, mkF, argsToLocals, Value.category, maxLocals]; done) | rfl) k
  obtain ⟨hZ1, g2, g3, E1, Ff, Ft, Fs, F1, Vf, Vt, n1, n2, n3⟩ := H
  obtain ⟨T101, X101, e101, st101⟩ := getF X0 hx hZ hown (host := "") (Or.inl (own_w11 hw)) Via.refl e0 Ff (g := (mkF m 1 #[.val (.ref a1)] [(.ref a1)])) rfl rfl (hb hby own_d4_1)
  obtain ⟨T102, X102, e102, st102⟩ := getF X101 hx hZ hown (host := "") (Or.inl (own_w23 hw)) Via.refl e101 F1 (g := (mkF m 5 #[.val (.ref a1)] [(.ref a1), (.ref fr)])) rfl rfl (hb hby own_d4_5)
  obtain ⟨cl103, Ar103, Aq103, As103, An103, Ah103, Ag103⟩ := id Vf
  have hin103 : ¬ ((0 : Int32) < 0 ∨ cl103.slots.size ≤ ((0 : Int32)).toNatClampNeg) := inb_of As103 ⟨by decide, by decide⟩
  obtain ⟨T104, h104, X104, e104, W104, st104⟩ := stR X102 hx hZ e102 Ar103 (j := (0 : Int32)) hin103 rfl (Or.inl rfl) (g := (mkF m 9 #[.val (.ref a1)] [.null, (.int (0 : Int32)), (.ref fr)])) rfl rfl (hb hby own_d4_9)
  have Z104 : n0 ≤ h104.size := Nat.le_trans hZ1 (Nat.le_of_eq W104.size.symm)
  have N104 := Fr.snoc X104 N0 g2
  have V104 : Arv Z h104 fr kf (.object "java/nio/ByteBuffer") (8 : Int32) [.null, .null, .null, .null, .null, .null, .null, .null] .null := Arv.set Ar103 Aq103 As103 An103 Ah103 Ag103 rfl W104 0 rfl (Nat.le_of_ble_eq_true rfl)
  have c105 := (F1.other W104 (Or.inl n1))
  obtain ⟨T106, X106, e106, st106⟩ := getF X104 hx hZ hown (host := "") (Or.inl (own_w23 hw)) Via.refl e104 c105 (g := (mkF m 12 #[.val (.ref a1)] [(.ref a1), (.ref a1)])) rfl rfl (hb hby own_d4_12)
  have c107 := (Ff.other W104 (Or.inl n1))
  obtain ⟨T108, X108, e108, st108⟩ := getF X106 hx hZ hown (host := "") (Or.inl (own_w11 hw)) Via.refl e106 c107 (g := (mkF m 18 #[.val (.ref a1)] [(.ref a1), (.int (1 : Int32)), (.ref a1)])) rfl rfl (hb hby own_d4_18)
  obtain ⟨cl109, Ar109, Aq109, As109, An109, Ah109, Ag109⟩ := id V104
  have c110 := (E1.wr W104)
  obtain ⟨T111, h111, X111, e111, W111, st111⟩ := putF X108 hx hZ hown (host := "") (Or.inl (own_w23 hw)) Via.refl e108 c105 c110 (Or.inl (own_w24 hw)) (own_w1 hw) (ty := .int) (by decide) rfl rfl (g := (mkF m 23 #[.val (.ref a1)] [(.int (1 : Int32)), (.ref a1)])) rfl rfl (hb hby own_d4_23)
  have Z111 : n0 ≤ h111.size := Nat.le_trans Z104 (Nat.le_of_eq W111.size.symm)
  have N111 := Fr.snoc X111 N104 g1
  have Fw111 := c105.same W111
  have c112 := ((Fs.other W104 (Or.inl n1)).other W111 (Or.inr (slot_ne (Or.inl (own_w22 hw)) (Or.inl (own_w24 hw)) (by decide) (t := .int) (t' := .int) (by decide) (by decide))))
  obtain ⟨T113, X113, e113, st113⟩ := getF X111 hx hZ hown (host := "") (Or.inl (own_w21 hw)) Via.refl e111 c112 (g := (mkF m 28 #[.val (.ref a1)] [(.ref a1), (.ref a1)])) rfl rfl (hb hby own_d4_28)
  have c114 := (c110.wr W111)
  obtain ⟨T115, h115, X115, e115, W115, st115⟩ := putF X113 hx hZ hown (host := "") (Or.inl (own_w21 hw)) Via.refl e113 c112 c114 (Or.inl (own_w22 hw)) (own_w1 hw) (ty := .int) (by decide) rfl rfl (g := (mkF m 33 #[.val (.ref a1)] [(.int (4 : Int32)), (.ref a1)])) rfl rfl (hb hby own_d4_33)
  have Z115 : n0 ≤ h115.size := Nat.le_trans Z111 (Nat.le_of_eq W115.size.symm)
  have N115 := Fr.snoc X115 N111 g1
  have Fw115 := c112.same W115
  have c116 := (c114.wr W115)
  have c117 := ((c107.other W111 (Or.inr (slot_ne (Or.inl (own_w12 hw)) (Or.inl (own_w24 hw)) (by decide) (t := (.array (.object "java/nio/ByteBuffer"))) (t' := .int) (by decide) (by decide)))).other W115 (Or.inr (slot_ne (Or.inl (own_w12 hw)) (Or.inl (own_w22 hw)) (by decide) (t := (.array (.object "java/nio/ByteBuffer"))) (t' := .int) (by decide) (by decide))))
  have c118 := (((Ft.other W104 (Or.inl n1)).other W111 (Or.inr (slot_ne (Or.inl (own_w15 hw)) (Or.inl (own_w24 hw)) (by decide) (t := (.array .long)) (t' := .int) (by decide) (by decide)))).other W115 (Or.inr (slot_ne (Or.inl (own_w15 hw)) (Or.inl (own_w22 hw)) (by decide) (t := (.array .long)) (t' := .int) (by decide) (by decide))))
  have c119 := (Fw111.other W115 (Or.inr (slot_ne (Or.inl (own_w24 hw)) (Or.inl (own_w22 hw)) (by decide) (t := .int) (t' := .int) (by decide) (by decide))))
  have c120 := ((V104.other W111 (Ne.symm n1)).other W115 (Ne.symm n1))
  have c121 := (((Vt.other W104 (Ne.symm n3)).other W111 (Ne.symm n2)).other W115 (Ne.symm n2))
  obtain ⟨fs, hr, hrun, hended, hW, hsame⟩ := X115.leave (v := none) (fun _ => rfl)
  refine ⟨_, _, pre0 _ ?_, hrun, hended, _, _, rfl, ?_, ⟨_, rfl⟩, hW, hsame.mono (by decide) (by decide)⟩
  · show Steps _ _ _ (s₁.setTop (mkF m 0 #[.val (.ref a1)] [])) _
    refine XS.aloadN X0.here hx rfl (hb hby own_d4_0) rfl rfl ?_
    refine st101 _ ?_
    refine XS.aloadN X101.here hx rfl (hb hby own_d4_4) rfl rfl ?_
    refine st102 _ ?_
    show Steps _ _ _ (T102.setTop (mkF m 8 #[.val (.ref a1)] [(.int (0 : Int32)), (.ref fr)])) _
    refine XS.aconstNull X102.here hx rfl (hb hby own_d4_8) ?_
    refine st104 _ ?_
    refine XS.aloadN X104.here hx rfl (hb hby own_d4_10) rfl rfl ?_
    refine XS.aloadN X104.here hx rfl (hb hby own_d4_11) rfl rfl ?_
    show Steps _ _ _ (T104.setTop (mkF m 12 #[.val (.ref a1)] [(.ref a1), (.ref a1)])) _
    refine st106 _ ?_
    refine XS.iconst X106.here hx rfl (hb hby own_d4_15) ?_
    refine XS.iadd X106.here hx rfl (hb hby own_d4_16) rfl ?_
    refine XS.aloadN X106.here hx rfl (hb hby own_d4_17) rfl rfl ?_
    show Steps _ _ _ (T106.setTop (mkF m 18 #[.val (.ref a1)] [(.ref a1), (.int (1 : Int32)), (.ref a1)])) _
    refine st108 _ ?_
    refine X108.arraylength hx (by rw [e108]; exact Ar109.1) (State.isArrayOf_alike hZ.alike Ar109.2.1) (g := (mkF m 21 #[.val (.ref a1)] [(.ref fr), (.int (1 : Int32)), (.ref a1)])) rfl rfl (hb hby own_d4_21) _ ?_
    rw [len_of As109 An109]
    refine iremM X108 hx rfl (hb hby own_d4_22) rfl (by decide) ?_
    refine st111 _ ?_
    show Steps _ _ _ (T111.setTop (mkF m 26 #[.val (.ref a1)] [])) _
    refine XS.aloadN X111.here hx rfl (hb hby own_d4_26) rfl rfl ?_
    refine XS.dup X111.here hx rfl (hb hby own_d4_27) rfl rfl ?_
    refine st113 _ ?_
    refine XS.iconst X113.here hx rfl (hb hby own_d4_31) ?_
    show Steps _ _ _ (T113.setTop (mkF m 32 #[.val (.ref a1)] [(.int (1 : Int32)), (.int (5 : Int32)), (.ref a1)])) _
    refine XS.isub X113.here hx rfl (hb hby own_d4_32) rfl ?_
    refine st115 _ ?_
    show Steps _ _ _ (T115.setTop (mkF m 36 #[.val (.ref a1)] [])) _
    exact X115.returnOut hx Bd.returns (hb hby own_d4_36) hr
  · show Qown_rem850 Z a1 fr ti kf kt t0 t1 t2 t3 t4 t5 t6 t7 h0 n0 _ T115.heap _
    rw [e115]
    exact ⟨rfl, N115, fr, ti, kf, kt, ⟨Z115, g2, g3, c116, c117, c118, Fw115, c119, c120, c121, n1, n2, n3⟩⟩
def Qown_size0 (Z : State) (a1 : Addr) (h0 : Heap) (n0 : Nat) (v : Option Value) (h : Heap) (L : List Loc) : Prop := v = some (.int (0 : Int32)) ∧ Fr n0 L ∧ h = h0
set_option maxRecDepth 65536 in
set_option maxHeartbeats 40000000 in
theorem own_size0 (l : Launch) (Z : State) (a0 : Array Value) (hw : ∀ d ∈ tables_1, d.before a0 Z = true) (ws : List Jvm.Cond) (a1 : Addr) (h0 : Heap) (n0 : Nat) (Z0 : n0 ≤ h0.size) (Fs : Fld Z h0 a1 "com/example/don_valley/donvalley/broker/QueuedFrames" "size" "I" (.int (0 : Int32))) :
    MetFree l own_m5 (head1 (Jvm.Cond.code own_m5 prog_10_method_5_code 1 (some .int) :: ws) ({ frames := 0, cells := 0, slots := 0, locals := 0 } : Room)) (fun a U => a = #[(.ref a1)] ∧ Z.Warmed39 U.vm ∧ U.heap = h0) (fun _ _ _ _ _ => True) (fun _ U o U' => ∃ v L, o = .returned v ∧ Qown_size0 Z a1 h0 n0 v U'.heap L ∧ FrameEnd U o U' L ({ frames := 0, cells := 0, slots := 0, locals := 0 } : Room).cells ({ frames := 0, cells := 0, slots := 0, locals := 0 } : Room).slots) := by
  refine MetFree.of_bodySF (plainFor_of_name own_pn0) hisR ?_
  intro p e s m args below meth c s₁ Bd hml0 hP hK
  obtain ⟨rfl, hZ, hh⟩ := hP
  have hx := Bd.exec
  have hby := Bd.bytes
  have hml : c.maxLocals = 1 := hml0
  have hown : s.vm.findClass "com/example/don_valley/donvalley/broker/QueuedFrames" = some m.cls := by have q := findClass_of_methodNamed Bd.named; exact q
  have hnm := (name_of_methodNamed Bd.named Bd.method).1
  have X0 : Stand p l e ({ frames := 0, cells := 0, slots := 0, locals := 0 } : Room) s m #[(.ref a1)] below meth c s₁ [] 0 0 := Stand.of_body Bd
  have e0 : s₁.heap = h0 := by rw [← hh, Bd.state]; rfl
  have N0 := Fr.nil n0
  have pre0 : ∀ t, Steps p.tables e below (s₁.setTop (mkF m 0 #[.val (.ref a1)] [])) t → Steps p.tables e below (s₁.setTop (entryFrame m #[(.ref a1)] 1)) t := fun t k => castTop (by first | (simp [entryFrame, mkF, argsToLocals, Value.category, maxLocals]; done) | rfl) k
  obtain ⟨T101, X101, e101, st101⟩ := getF X0 hx hZ hown (host := "") (Or.inl (own_w21 hw)) Via.refl e0 Fs (g := (mkF m 1 #[.val (.ref a1)] [(.ref a1)])) rfl rfl (hb hby own_d5_1)
  obtain ⟨fs, hr, hrun, hended, hW, hsame⟩ := X101.leave (v := some (.int (0 : Int32))) (fun h => by rw [Bd.returns] at h; cases h)
  refine ⟨_, _, pre0 _ ?_, hrun, hended, _, _, rfl, ?_, ⟨_, rfl⟩, hW, hsame.mono (by decide) (by decide)⟩
  · show Steps _ _ _ (s₁.setTop (mkF m 0 #[.val (.ref a1)] [])) _
    refine XS.aloadN X0.here hx rfl (hb hby own_d5_0) rfl rfl ?_
    refine st101 _ ?_
    show Steps _ _ _ (T101.setTop (mkF m 4 #[.val (.ref a1)] [(.int (0 : Int32))])) _
    exact retI X101 hx Bd.returns (hb hby own_d5_4) hr
  · show Qown_size0 Z a1 h0 n0 _ T101.heap _
    rw [e101]
    exact ⟨rfl, N0, rfl⟩
def Qown_size1 (Z : State) (a1 : Addr) (h0 : Heap) (n0 : Nat) (v : Option Value) (h : Heap) (L : List Loc) : Prop := v = some (.int (1 : Int32)) ∧ Fr n0 L ∧ h = h0
set_option maxRecDepth 65536 in
set_option maxHeartbeats 40000000 in
theorem own_size1 (l : Launch) (Z : State) (a0 : Array Value) (hw : ∀ d ∈ tables_1, d.before a0 Z = true) (ws : List Jvm.Cond) (a1 : Addr) (h0 : Heap) (n0 : Nat) (Z0 : n0 ≤ h0.size) (Fs : Fld Z h0 a1 "com/example/don_valley/donvalley/broker/QueuedFrames" "size" "I" (.int (1 : Int32))) :
    MetFree l own_m5 (head1 (Jvm.Cond.code own_m5 prog_10_method_5_code 1 (some .int) :: ws) ({ frames := 0, cells := 0, slots := 0, locals := 0 } : Room)) (fun a U => a = #[(.ref a1)] ∧ Z.Warmed39 U.vm ∧ U.heap = h0) (fun _ _ _ _ _ => True) (fun _ U o U' => ∃ v L, o = .returned v ∧ Qown_size1 Z a1 h0 n0 v U'.heap L ∧ FrameEnd U o U' L ({ frames := 0, cells := 0, slots := 0, locals := 0 } : Room).cells ({ frames := 0, cells := 0, slots := 0, locals := 0 } : Room).slots) := by
  refine MetFree.of_bodySF (plainFor_of_name own_pn0) hisR ?_
  intro p e s m args below meth c s₁ Bd hml0 hP hK
  obtain ⟨rfl, hZ, hh⟩ := hP
  have hx := Bd.exec
  have hby := Bd.bytes
  have hml : c.maxLocals = 1 := hml0
  have hown : s.vm.findClass "com/example/don_valley/donvalley/broker/QueuedFrames" = some m.cls := by have q := findClass_of_methodNamed Bd.named; exact q
  have hnm := (name_of_methodNamed Bd.named Bd.method).1
  have X0 : Stand p l e ({ frames := 0, cells := 0, slots := 0, locals := 0 } : Room) s m #[(.ref a1)] below meth c s₁ [] 0 0 := Stand.of_body Bd
  have e0 : s₁.heap = h0 := by rw [← hh, Bd.state]; rfl
  have N0 := Fr.nil n0
  have pre0 : ∀ t, Steps p.tables e below (s₁.setTop (mkF m 0 #[.val (.ref a1)] [])) t → Steps p.tables e below (s₁.setTop (entryFrame m #[(.ref a1)] 1)) t := fun t k => castTop (by first | (simp [entryFrame, mkF, argsToLocals, Value.category, maxLocals]; done) | rfl) k
  obtain ⟨T101, X101, e101, st101⟩ := getF X0 hx hZ hown (host := "") (Or.inl (own_w21 hw)) Via.refl e0 Fs (g := (mkF m 1 #[.val (.ref a1)] [(.ref a1)])) rfl rfl (hb hby own_d5_1)
  obtain ⟨fs, hr, hrun, hended, hW, hsame⟩ := X101.leave (v := some (.int (1 : Int32))) (fun h => by rw [Bd.returns] at h; cases h)
  refine ⟨_, _, pre0 _ ?_, hrun, hended, _, _, rfl, ?_, ⟨_, rfl⟩, hW, hsame.mono (by decide) (by decide)⟩
  · show Steps _ _ _ (s₁.setTop (mkF m 0 #[.val (.ref a1)] [])) _
    refine XS.aloadN X0.here hx rfl (hb hby own_d5_0) rfl rfl ?_
    refine st101 _ ?_
    show Steps _ _ _ (T101.setTop (mkF m 4 #[.val (.ref a1)] [(.int (1 : Int32))])) _
    exact retI X101 hx Bd.returns (hb hby own_d5_4) hr
  · show Qown_size1 Z a1 h0 n0 _ T101.heap _
    rw [e101]
    exact ⟨rfl, N0, rfl⟩
def Qown_size2 (Z : State) (a1 : Addr) (h0 : Heap) (n0 : Nat) (v : Option Value) (h : Heap) (L : List Loc) : Prop := v = some (.int (2 : Int32)) ∧ Fr n0 L ∧ h = h0
set_option maxRecDepth 65536 in
set_option maxHeartbeats 40000000 in
theorem own_size2 (l : Launch) (Z : State) (a0 : Array Value) (hw : ∀ d ∈ tables_1, d.before a0 Z = true) (ws : List Jvm.Cond) (a1 : Addr) (h0 : Heap) (n0 : Nat) (Z0 : n0 ≤ h0.size) (Fs : Fld Z h0 a1 "com/example/don_valley/donvalley/broker/QueuedFrames" "size" "I" (.int (2 : Int32))) :
    MetFree l own_m5 (head1 (Jvm.Cond.code own_m5 prog_10_method_5_code 1 (some .int) :: ws) ({ frames := 0, cells := 0, slots := 0, locals := 0 } : Room)) (fun a U => a = #[(.ref a1)] ∧ Z.Warmed39 U.vm ∧ U.heap = h0) (fun _ _ _ _ _ => True) (fun _ U o U' => ∃ v L, o = .returned v ∧ Qown_size2 Z a1 h0 n0 v U'.heap L ∧ FrameEnd U o U' L ({ frames := 0, cells := 0, slots := 0, locals := 0 } : Room).cells ({ frames := 0, cells := 0, slots := 0, locals := 0 } : Room).slots) := by
  refine MetFree.of_bodySF (plainFor_of_name own_pn0) hisR ?_
  intro p e s m args below meth c s₁ Bd hml0 hP hK
  obtain ⟨rfl, hZ, hh⟩ := hP
  have hx := Bd.exec
  have hby := Bd.bytes
  have hml : c.maxLocals = 1 := hml0
  have hown : s.vm.findClass "com/example/don_valley/donvalley/broker/QueuedFrames" = some m.cls := by have q := findClass_of_methodNamed Bd.named; exact q
  have hnm := (name_of_methodNamed Bd.named Bd.method).1
  have X0 : Stand p l e ({ frames := 0, cells := 0, slots := 0, locals := 0 } : Room) s m #[(.ref a1)] below meth c s₁ [] 0 0 := Stand.of_body Bd
  have e0 : s₁.heap = h0 := by rw [← hh, Bd.state]; rfl
  have N0 := Fr.nil n0
  have pre0 : ∀ t, Steps p.tables e below (s₁.setTop (mkF m 0 #[.val (.ref a1)] [])) t → Steps p.tables e below (s₁.setTop (entryFrame m #[(.ref a1)] 1)) t := fun t k => castTop (by first | (simp [entryFrame, mkF, argsToLocals, Value.category, maxLocals]; done) | rfl) k
  obtain ⟨T101, X101, e101, st101⟩ := getF X0 hx hZ hown (host := "") (Or.inl (own_w21 hw)) Via.refl e0 Fs (g := (mkF m 1 #[.val (.ref a1)] [(.ref a1)])) rfl rfl (hb hby own_d5_1)
  obtain ⟨fs, hr, hrun, hended, hW, hsame⟩ := X101.leave (v := some (.int (2 : Int32))) (fun h => by rw [Bd.returns] at h; cases h)
  refine ⟨_, _, pre0 _ ?_, hrun, hended, _, _, rfl, ?_, ⟨_, rfl⟩, hW, hsame.mono (by decide) (by decide)⟩
  · show Steps _ _ _ (s₁.setTop (mkF m 0 #[.val (.ref a1)] [])) _
    refine XS.aloadN X0.here hx rfl (hb hby own_d5_0) rfl rfl ?_
    refine st101 _ ?_
    show Steps _ _ _ (T101.setTop (mkF m 4 #[.val (.ref a1)] [(.int (2 : Int32))])) _
    exact retI X101 hx Bd.returns (hb hby own_d5_4) hr
  · show Qown_size2 Z a1 h0 n0 _ T101.heap _
    rw [e101]
    exact ⟨rfl, N0, rfl⟩
def Qown_size3 (Z : State) (a1 : Addr) (h0 : Heap) (n0 : Nat) (v : Option Value) (h : Heap) (L : List Loc) : Prop := v = some (.int (3 : Int32)) ∧ Fr n0 L ∧ h = h0
set_option maxRecDepth 65536 in
set_option maxHeartbeats 40000000 in
theorem own_size3 (l : Launch) (Z : State) (a0 : Array Value) (hw : ∀ d ∈ tables_1, d.before a0 Z = true) (ws : List Jvm.Cond) (a1 : Addr) (h0 : Heap) (n0 : Nat) (Z0 : n0 ≤ h0.size) (Fs : Fld Z h0 a1 "com/example/don_valley/donvalley/broker/QueuedFrames" "size" "I" (.int (3 : Int32))) :
    MetFree l own_m5 (head1 (Jvm.Cond.code own_m5 prog_10_method_5_code 1 (some .int) :: ws) ({ frames := 0, cells := 0, slots := 0, locals := 0 } : Room)) (fun a U => a = #[(.ref a1)] ∧ Z.Warmed39 U.vm ∧ U.heap = h0) (fun _ _ _ _ _ => True) (fun _ U o U' => ∃ v L, o = .returned v ∧ Qown_size3 Z a1 h0 n0 v U'.heap L ∧ FrameEnd U o U' L ({ frames := 0, cells := 0, slots := 0, locals := 0 } : Room).cells ({ frames := 0, cells := 0, slots := 0, locals := 0 } : Room).slots) := by
  refine MetFree.of_bodySF (plainFor_of_name own_pn0) hisR ?_
  intro p e s m args below meth c s₁ Bd hml0 hP hK
  obtain ⟨rfl, hZ, hh⟩ := hP
  have hx := Bd.exec
  have hby := Bd.bytes
  have hml : c.maxLocals = 1 := hml0
  have hown : s.vm.findClass "com/example/don_valley/donvalley/broker/QueuedFrames" = some m.cls := by have q := findClass_of_methodNamed Bd.named; exact q
  have hnm := (name_of_methodNamed Bd.named Bd.method).1
  have X0 : Stand p l e ({ frames := 0, cells := 0, slots := 0, locals := 0 } : Room) s m #[(.ref a1)] below meth c s₁ [] 0 0 := Stand.of_body Bd
  have e0 : s₁.heap = h0 := by rw [← hh, Bd.state]; rfl
  have N0 := Fr.nil n0
  have pre0 : ∀ t, Steps p.tables e below (s₁.setTop (mkF m 0 #[.val (.ref a1)] [])) t → Steps p.tables e below (s₁.setTop (entryFrame m #[(.ref a1)] 1)) t := fun t k => castTop (by first | (simp [entryFrame, mkF, argsToLocals, Value.category, maxLocals]; done) | rfl) k
  obtain ⟨T101, X101, e101, st101⟩ := getF X0 hx hZ hown (host := "") (Or.inl (own_w21 hw)) Via.refl e0 Fs (g := (mkF m 1 #[.val (.ref a1)] [(.ref a1)])) rfl rfl (hb hby own_d5_1)
  obtain ⟨fs, hr, hrun, hended, hW, hsame⟩ := X101.leave (v := some (.int (3 : Int32))) (fun h => by rw [Bd.returns] at h; cases h)
  refine ⟨_, _, pre0 _ ?_, hrun, hended, _, _, rfl, ?_, ⟨_, rfl⟩, hW, hsame.mono (by decide) (by decide)⟩
  · show Steps _ _ _ (s₁.setTop (mkF m 0 #[.val (.ref a1)] [])) _
    refine XS.aloadN X0.here hx rfl (hb hby own_d5_0) rfl rfl ?_
    refine st101 _ ?_
    show Steps _ _ _ (T101.setTop (mkF m 4 #[.val (.ref a1)] [(.int (3 : Int32))])) _
    exact retI X101 hx Bd.returns (hb hby own_d5_4) hr
  · show Qown_size3 Z a1 h0 n0 _ T101.heap _
    rw [e101]
    exact ⟨rfl, N0, rfl⟩
def Qown_size4 (Z : State) (a1 : Addr) (h0 : Heap) (n0 : Nat) (v : Option Value) (h : Heap) (L : List Loc) : Prop := v = some (.int (4 : Int32)) ∧ Fr n0 L ∧ h = h0
set_option maxRecDepth 65536 in
set_option maxHeartbeats 40000000 in
theorem own_size4 (l : Launch) (Z : State) (a0 : Array Value) (hw : ∀ d ∈ tables_1, d.before a0 Z = true) (ws : List Jvm.Cond) (a1 : Addr) (h0 : Heap) (n0 : Nat) (Z0 : n0 ≤ h0.size) (Fs : Fld Z h0 a1 "com/example/don_valley/donvalley/broker/QueuedFrames" "size" "I" (.int (4 : Int32))) :
    MetFree l own_m5 (head1 (Jvm.Cond.code own_m5 prog_10_method_5_code 1 (some .int) :: ws) ({ frames := 0, cells := 0, slots := 0, locals := 0 } : Room)) (fun a U => a = #[(.ref a1)] ∧ Z.Warmed39 U.vm ∧ U.heap = h0) (fun _ _ _ _ _ => True) (fun _ U o U' => ∃ v L, o = .returned v ∧ Qown_size4 Z a1 h0 n0 v U'.heap L ∧ FrameEnd U o U' L ({ frames := 0, cells := 0, slots := 0, locals := 0 } : Room).cells ({ frames := 0, cells := 0, slots := 0, locals := 0 } : Room).slots) := by
  refine MetFree.of_bodySF (plainFor_of_name own_pn0) hisR ?_
  intro p e s m args below meth c s₁ Bd hml0 hP hK
  obtain ⟨rfl, hZ, hh⟩ := hP
  have hx := Bd.exec
  have hby := Bd.bytes
  have hml : c.maxLocals = 1 := hml0
  have hown : s.vm.findClass "com/example/don_valley/donvalley/broker/QueuedFrames" = some m.cls := by have q := findClass_of_methodNamed Bd.named; exact q
  have hnm := (name_of_methodNamed Bd.named Bd.method).1
  have X0 : Stand p l e ({ frames := 0, cells := 0, slots := 0, locals := 0 } : Room) s m #[(.ref a1)] below meth c s₁ [] 0 0 := Stand.of_body Bd
  have e0 : s₁.heap = h0 := by rw [← hh, Bd.state]; rfl
  have N0 := Fr.nil n0
  have pre0 : ∀ t, Steps p.tables e below (s₁.setTop (mkF m 0 #[.val (.ref a1)] [])) t → Steps p.tables e below (s₁.setTop (entryFrame m #[(.ref a1)] 1)) t := fun t k => castTop (by first | (simp [entryFrame, mkF, argsToLocals, Value.category, maxLocals]; done) | rfl) k
  obtain ⟨T101, X101, e101, st101⟩ := getF X0 hx hZ hown (host := "") (Or.inl (own_w21 hw)) Via.refl e0 Fs (g := (mkF m 1 #[.val (.ref a1)] [(.ref a1)])) rfl rfl (hb hby own_d5_1)
  obtain ⟨fs, hr, hrun, hended, hW, hsame⟩ := X101.leave (v := some (.int (4 : Int32))) (fun h => by rw [Bd.returns] at h; cases h)
  refine ⟨_, _, pre0 _ ?_, hrun, hended, _, _, rfl, ?_, ⟨_, rfl⟩, hW, hsame.mono (by decide) (by decide)⟩
  · show Steps _ _ _ (s₁.setTop (mkF m 0 #[.val (.ref a1)] [])) _
    refine XS.aloadN X0.here hx rfl (hb hby own_d5_0) rfl rfl ?_
    refine st101 _ ?_
    show Steps _ _ _ (T101.setTop (mkF m 4 #[.val (.ref a1)] [(.int (4 : Int32))])) _
    exact retI X101 hx Bd.returns (hb hby own_d5_4) hr
  · show Qown_size4 Z a1 h0 n0 _ T101.heap _
    rw [e101]
    exact ⟨rfl, N0, rfl⟩
def Qown_fq40 (Z : State) (a1 ti : Addr) (kt : ClassId) (t0 t1 t2 t3 : Int64) (h0 : Heap) (n0 : Nat) (v : Option Value) (h : Heap) (L : List Loc) : Prop := v = some (.long t0) ∧ Fr n0 L ∧ h = h0
set_option maxRecDepth 65536 in
set_option maxHeartbeats 40000000 in
theorem own_fq40 (l : Launch) (Z : State) (a0 : Array Value) (hw : ∀ d ∈ tables_1, d.before a0 Z = true) (ws : List Jvm.Cond) (a1 ti : Addr) (kt : ClassId) (t0 t1 t2 t3 : Int64) (h0 : Heap) (n0 : Nat) (Z0 : n0 ≤ h0.size) (Ft : Fld Z h0 a1 "com/example/don_valley/donvalley/broker/QueuedFrames" "times" "[J" (.ref ti)) (F1 : Fld Z h0 a1 "com/example/don_valley/donvalley/broker/QueuedFrames" "first" "I" (.int (0 : Int32))) (Vt : Arv Z h0 ti kt .long (4 : Int32) [(.long t0), (.long t1), (.long t2), (.long t3)] (.long (0 : Int64))) :
    MetFree l own_m6 (head1 (Jvm.Cond.code own_m6 prog_10_method_7_code 1 (some .long) :: ws) ({ frames := 0, cells := 0, slots := 0, locals := 0 } : Room)) (fun a U => a = #[(.ref a1)] ∧ Z.Warmed39 U.vm ∧ U.heap = h0) (fun _ _ _ _ _ => True) (fun _ U o U' => ∃ v L, o = .returned v ∧ Qown_fq40 Z a1 ti kt t0 t1 t2 t3 h0 n0 v U'.heap L ∧ FrameEnd U o U' L ({ frames := 0, cells := 0, slots := 0, locals := 0 } : Room).cells ({ frames := 0, cells := 0, slots := 0, locals := 0 } : Room).slots) := by
  refine MetFree.of_bodySF (plainFor_of_name own_pn0) hisR ?_
  intro p e s m args below meth c s₁ Bd hml0 hP hK
  obtain ⟨rfl, hZ, hh⟩ := hP
  have hx := Bd.exec
  have hby := Bd.bytes
  have hml : c.maxLocals = 1 := hml0
  have hown : s.vm.findClass "com/example/don_valley/donvalley/broker/QueuedFrames" = some m.cls := by have q := findClass_of_methodNamed Bd.named; exact q
  have hnm := (name_of_methodNamed Bd.named Bd.method).1
  have X0 : Stand p l e ({ frames := 0, cells := 0, slots := 0, locals := 0 } : Room) s m #[(.ref a1)] below meth c s₁ [] 0 0 := Stand.of_body Bd
  have e0 : s₁.heap = h0 := by rw [← hh, Bd.state]; rfl
  have N0 := Fr.nil n0
  have pre0 : ∀ t, Steps p.tables e below (s₁.setTop (mkF m 0 #[.val (.ref a1)] [])) t → Steps p.tables e below (s₁.setTop (entryFrame m #[(.ref a1)] 1)) t := fun t k => castTop (by first | (simp [entryFrame, mkF, argsToLocals, Value.category, maxLocals]; done) | rfl) k
  obtain ⟨T101, X101, e101, st101⟩ := getF X0 hx hZ hown (host := "") (Or.inl (own_w14 hw)) Via.refl e0 Ft (g := (mkF m 1 #[.val (.ref a1)] [(.ref a1)])) rfl rfl (hb hby own_d6_1)
  obtain ⟨T102, X102, e102, st102⟩ := getF X101 hx hZ hown (host := "") (Or.inl (own_w23 hw)) Via.refl e101 F1 (g := (mkF m 5 #[.val (.ref a1)] [(.ref a1), (.ref ti)])) rfl rfl (hb hby own_d6_5)
  obtain ⟨cl103, Ar103, Aq103, As103, An103, Ah103, Ag103⟩ := id Vt
  have hin103 : ¬ ((0 : Int32) < 0 ∨ cl103.slots.size ≤ ((0 : Int32)).toNatClampNeg) := inb_of As103 ⟨by decide, by decide⟩
  obtain ⟨fs, hr, hrun, hended, hW, hsame⟩ := X102.leave (v := some (.long t0)) (fun h => by rw [Bd.returns] at h; cases h)
  refine ⟨_, _, pre0 _ ?_, hrun, hended, _, _, rfl, ?_, ⟨_, rfl⟩, hW, hsame.mono (by decide) (by decide)⟩
  · show Steps _ _ _ (s₁.setTop (mkF m 0 #[.val (.ref a1)] [])) _
    refine XS.aloadN X0.here hx rfl (hb hby own_d6_0) rfl rfl ?_
    refine st101 _ ?_
    refine XS.aloadN X101.here hx rfl (hb hby own_d6_4) rfl rfl ?_
    refine st102 _ ?_
    show Steps _ _ _ (T102.setTop (mkF m 8 #[.val (.ref a1)] [(.int (0 : Int32)), (.ref ti)])) _
    refine X102.laload hx (j := (0 : Int32)) (v := (.long t0)) (by rw [e102]; exact Ar103.1) (State.isArrayOf_alike hZ.alike Ar103.2.1) Ar103.2.2 hin103 (Ah103.at hin103 rfl) (g := (mkF m 8 #[.val (.ref a1)] [(.int (0 : Int32)), (.ref ti)])) rfl rfl (hb hby own_d6_8) _ ?_
    show Steps _ _ _ (T102.setTop (mkF m 9 #[.val (.ref a1)] [(.long t0)])) _
    jvm_step X102.here [X102.here.top, hx, (hb hby own_d6_9), X102.method', Bd.returns, narrow]
    first | (intro acts; rw [hr _ acts rfl rfl rfl]) | rw [hr _ _ rfl rfl rfl]
    exact Steps.refl _
  · show Qown_fq40 Z a1 ti kt t0 t1 t2 t3 h0 n0 _ T102.heap _
    rw [e102]
    exact ⟨rfl, N0, rfl⟩
def Qown_fq41 (Z : State) (a1 ti : Addr) (kt : ClassId) (t0 t1 t2 t3 : Int64) (h0 : Heap) (n0 : Nat) (v : Option Value) (h : Heap) (L : List Loc) : Prop := v = some (.long t1) ∧ Fr n0 L ∧ h = h0
set_option maxRecDepth 65536 in
set_option maxHeartbeats 40000000 in
theorem own_fq41 (l : Launch) (Z : State) (a0 : Array Value) (hw : ∀ d ∈ tables_1, d.before a0 Z = true) (ws : List Jvm.Cond) (a1 ti : Addr) (kt : ClassId) (t0 t1 t2 t3 : Int64) (h0 : Heap) (n0 : Nat) (Z0 : n0 ≤ h0.size) (Ft : Fld Z h0 a1 "com/example/don_valley/donvalley/broker/QueuedFrames" "times" "[J" (.ref ti)) (F1 : Fld Z h0 a1 "com/example/don_valley/donvalley/broker/QueuedFrames" "first" "I" (.int (1 : Int32))) (Vt : Arv Z h0 ti kt .long (4 : Int32) [(.long t0), (.long t1), (.long t2), (.long t3)] (.long (0 : Int64))) :
    MetFree l own_m6 (head1 (Jvm.Cond.code own_m6 prog_10_method_7_code 1 (some .long) :: ws) ({ frames := 0, cells := 0, slots := 0, locals := 0 } : Room)) (fun a U => a = #[(.ref a1)] ∧ Z.Warmed39 U.vm ∧ U.heap = h0) (fun _ _ _ _ _ => True) (fun _ U o U' => ∃ v L, o = .returned v ∧ Qown_fq41 Z a1 ti kt t0 t1 t2 t3 h0 n0 v U'.heap L ∧ FrameEnd U o U' L ({ frames := 0, cells := 0, slots := 0, locals := 0 } : Room).cells ({ frames := 0, cells := 0, slots := 0, locals := 0 } : Room).slots) := by
  refine MetFree.of_bodySF (plainFor_of_name own_pn0) hisR ?_
  intro p e s m args below meth c s₁ Bd hml0 hP hK
  obtain ⟨rfl, hZ, hh⟩ := hP
  have hx := Bd.exec
  have hby := Bd.bytes
  have hml : c.maxLocals = 1 := hml0
  have hown : s.vm.findClass "com/example/don_valley/donvalley/broker/QueuedFrames" = some m.cls := by have q := findClass_of_methodNamed Bd.named; exact q
  have hnm := (name_of_methodNamed Bd.named Bd.method).1
  have X0 : Stand p l e ({ frames := 0, cells := 0, slots := 0, locals := 0 } : Room) s m #[(.ref a1)] below meth c s₁ [] 0 0 := Stand.of_body Bd
  have e0 : s₁.heap = h0 := by rw [← hh, Bd.state]; rfl
  have N0 := Fr.nil n0
  have pre0 : ∀ t, Steps p.tables e below (s₁.setTop (mkF m 0 #[.val (.ref a1)] [])) t → Steps p.tables e below (s₁.setTop (entryFrame m #[(.ref a1)] 1)) t := fun t k => castTop (by first | (simp [entryFrame, mkF, argsToLocals, Value.category, maxLocals]; done) | rfl) k
  obtain ⟨T101, X101, e101, st101⟩ := getF X0 hx hZ hown (host := "") (Or.inl (own_w14 hw)) Via.refl e0 Ft (g := (mkF m 1 #[.val (.ref a1)] [(.ref a1)])) rfl rfl (hb hby own_d6_1)
  obtain ⟨T102, X102, e102, st102⟩ := getF X101 hx hZ hown (host := "") (Or.inl (own_w23 hw)) Via.refl e101 F1 (g := (mkF m 5 #[.val (.ref a1)] [(.ref a1), (.ref ti)])) rfl rfl (hb hby own_d6_5)
  obtain ⟨cl103, Ar103, Aq103, As103, An103, Ah103, Ag103⟩ := id Vt
  have hin103 : ¬ ((1 : Int32) < 0 ∨ cl103.slots.size ≤ ((1 : Int32)).toNatClampNeg) := inb_of As103 ⟨by decide, by decide⟩
  obtain ⟨fs, hr, hrun, hended, hW, hsame⟩ := X102.leave (v := some (.long t1)) (fun h => by rw [Bd.returns] at h; cases h)
  refine ⟨_, _, pre0 _ ?_, hrun, hended, _, _, rfl, ?_, ⟨_, rfl⟩, hW, hsame.mono (by decide) (by decide)⟩
  · show Steps _ _ _ (s₁.setTop (mkF m 0 #[.val (.ref a1)] [])) _
    refine XS.aloadN X0.here hx rfl (hb hby own_d6_0) rfl rfl ?_
    refine st101 _ ?_
    refine XS.aloadN X101.here hx rfl (hb hby own_d6_4) rfl rfl ?_
    refine st102 _ ?_
    show Steps _ _ _ (T102.setTop (mkF m 8 #[.val (.ref a1)] [(.int (1 : Int32)), (.ref ti)])) _
    refine X102.laload hx (j := (1 : Int32)) (v := (.long t1)) (by rw [e102]; exact Ar103.1) (State.isArrayOf_alike hZ.alike Ar103.2.1) Ar103.2.2 hin103 (Ah103.at hin103 rfl) (g := (mkF m 8 #[.val (.ref a1)] [(.int (1 : Int32)), (.ref ti)])) rfl rfl (hb hby own_d6_8) _ ?_
    show Steps _ _ _ (T102.setTop (mkF m 9 #[.val (.ref a1)] [(.long t1)])) _
    jvm_step X102.here [X102.here.top, hx, (hb hby own_d6_9), X102.method', Bd.returns, narrow]
    first | (intro acts; rw [hr _ acts rfl rfl rfl]) | rw [hr _ _ rfl rfl rfl]
    exact Steps.refl _
  · show Qown_fq41 Z a1 ti kt t0 t1 t2 t3 h0 n0 _ T102.heap _
    rw [e102]
    exact ⟨rfl, N0, rfl⟩
def Qown_fq42 (Z : State) (a1 ti : Addr) (kt : ClassId) (t0 t1 t2 t3 : Int64) (h0 : Heap) (n0 : Nat) (v : Option Value) (h : Heap) (L : List Loc) : Prop := v = some (.long t2) ∧ Fr n0 L ∧ h = h0
set_option maxRecDepth 65536 in
set_option maxHeartbeats 40000000 in
theorem own_fq42 (l : Launch) (Z : State) (a0 : Array Value) (hw : ∀ d ∈ tables_1, d.before a0 Z = true) (ws : List Jvm.Cond) (a1 ti : Addr) (kt : ClassId) (t0 t1 t2 t3 : Int64) (h0 : Heap) (n0 : Nat) (Z0 : n0 ≤ h0.size) (Ft : Fld Z h0 a1 "com/example/don_valley/donvalley/broker/QueuedFrames" "times" "[J" (.ref ti)) (F1 : Fld Z h0 a1 "com/example/don_valley/donvalley/broker/QueuedFrames" "first" "I" (.int (2 : Int32))) (Vt : Arv Z h0 ti kt .long (4 : Int32) [(.long t0), (.long t1), (.long t2), (.long t3)] (.long (0 : Int64))) :
    MetFree l own_m6 (head1 (Jvm.Cond.code own_m6 prog_10_method_7_code 1 (some .long) :: ws) ({ frames := 0, cells := 0, slots := 0, locals := 0 } : Room)) (fun a U => a = #[(.ref a1)] ∧ Z.Warmed39 U.vm ∧ U.heap = h0) (fun _ _ _ _ _ => True) (fun _ U o U' => ∃ v L, o = .returned v ∧ Qown_fq42 Z a1 ti kt t0 t1 t2 t3 h0 n0 v U'.heap L ∧ FrameEnd U o U' L ({ frames := 0, cells := 0, slots := 0, locals := 0 } : Room).cells ({ frames := 0, cells := 0, slots := 0, locals := 0 } : Room).slots) := by
  refine MetFree.of_bodySF (plainFor_of_name own_pn0) hisR ?_
  intro p e s m args below meth c s₁ Bd hml0 hP hK
  obtain ⟨rfl, hZ, hh⟩ := hP
  have hx := Bd.exec
  have hby := Bd.bytes
  have hml : c.maxLocals = 1 := hml0
  have hown : s.vm.findClass "com/example/don_valley/donvalley/broker/QueuedFrames" = some m.cls := by have q := findClass_of_methodNamed Bd.named; exact q
  have hnm := (name_of_methodNamed Bd.named Bd.method).1
  have X0 : Stand p l e ({ frames := 0, cells := 0, slots := 0, locals := 0 } : Room) s m #[(.ref a1)] below meth c s₁ [] 0 0 := Stand.of_body Bd
  have e0 : s₁.heap = h0 := by rw [← hh, Bd.state]; rfl
  have N0 := Fr.nil n0
  have pre0 : ∀ t, Steps p.tables e below (s₁.setTop (mkF m 0 #[.val (.ref a1)] [])) t → Steps p.tables e below (s₁.setTop (entryFrame m #[(.ref a1)] 1)) t := fun t k => castTop (by first | (simp [entryFrame, mkF, argsToLocals, Value.category, maxLocals]; done) | rfl) k
  obtain ⟨T101, X101, e101, st101⟩ := getF X0 hx hZ hown (host := "") (Or.inl (own_w14 hw)) Via.refl e0 Ft (g := (mkF m 1 #[.val (.ref a1)] [(.ref a1)])) rfl rfl (hb hby own_d6_1)
  obtain ⟨T102, X102, e102, st102⟩ := getF X101 hx hZ hown (host := "") (Or.inl (own_w23 hw)) Via.refl e101 F1 (g := (mkF m 5 #[.val (.ref a1)] [(.ref a1), (.ref ti)])) rfl rfl (hb hby own_d6_5)
  obtain ⟨cl103, Ar103, Aq103, As103, An103, Ah103, Ag103⟩ := id Vt
  have hin103 : ¬ ((2 : Int32) < 0 ∨ cl103.slots.size ≤ ((2 : Int32)).toNatClampNeg) := inb_of As103 ⟨by decide, by decide⟩
  obtain ⟨fs, hr, hrun, hended, hW, hsame⟩ := X102.leave (v := some (.long t2)) (fun h => by rw [Bd.returns] at h; cases h)
  refine ⟨_, _, pre0 _ ?_, hrun, hended, _, _, rfl, ?_, ⟨_, rfl⟩, hW, hsame.mono (by decide) (by decide)⟩
  · show Steps _ _ _ (s₁.setTop (mkF m 0 #[.val (.ref a1)] [])) _
    refine XS.aloadN X0.here hx rfl (hb hby own_d6_0) rfl rfl ?_
    refine st101 _ ?_
    refine XS.aloadN X101.here hx rfl (hb hby own_d6_4) rfl rfl ?_
    refine st102 _ ?_
    show Steps _ _ _ (T102.setTop (mkF m 8 #[.val (.ref a1)] [(.int (2 : Int32)), (.ref ti)])) _
    refine X102.laload hx (j := (2 : Int32)) (v := (.long t2)) (by rw [e102]; exact Ar103.1) (State.isArrayOf_alike hZ.alike Ar103.2.1) Ar103.2.2 hin103 (Ah103.at hin103 rfl) (g := (mkF m 8 #[.val (.ref a1)] [(.int (2 : Int32)), (.ref ti)])) rfl rfl (hb hby own_d6_8) _ ?_
    show Steps _ _ _ (T102.setTop (mkF m 9 #[.val (.ref a1)] [(.long t2)])) _
    jvm_step X102.here [X102.here.top, hx, (hb hby own_d6_9), X102.method', Bd.returns, narrow]
    first | (intro acts; rw [hr _ acts rfl rfl rfl]) | rw [hr _ _ rfl rfl rfl]
    exact Steps.refl _
  · show Qown_fq42 Z a1 ti kt t0 t1 t2 t3 h0 n0 _ T102.heap _
    rw [e102]
    exact ⟨rfl, N0, rfl⟩
def Qown_fq43 (Z : State) (a1 ti : Addr) (kt : ClassId) (t0 t1 t2 t3 : Int64) (h0 : Heap) (n0 : Nat) (v : Option Value) (h : Heap) (L : List Loc) : Prop := v = some (.long t3) ∧ Fr n0 L ∧ h = h0
set_option maxRecDepth 65536 in
set_option maxHeartbeats 40000000 in
theorem own_fq43 (l : Launch) (Z : State) (a0 : Array Value) (hw : ∀ d ∈ tables_1, d.before a0 Z = true) (ws : List Jvm.Cond) (a1 ti : Addr) (kt : ClassId) (t0 t1 t2 t3 : Int64) (h0 : Heap) (n0 : Nat) (Z0 : n0 ≤ h0.size) (Ft : Fld Z h0 a1 "com/example/don_valley/donvalley/broker/QueuedFrames" "times" "[J" (.ref ti)) (F1 : Fld Z h0 a1 "com/example/don_valley/donvalley/broker/QueuedFrames" "first" "I" (.int (3 : Int32))) (Vt : Arv Z h0 ti kt .long (4 : Int32) [(.long t0), (.long t1), (.long t2), (.long t3)] (.long (0 : Int64))) :
    MetFree l own_m6 (head1 (Jvm.Cond.code own_m6 prog_10_method_7_code 1 (some .long) :: ws) ({ frames := 0, cells := 0, slots := 0, locals := 0 } : Room)) (fun a U => a = #[(.ref a1)] ∧ Z.Warmed39 U.vm ∧ U.heap = h0) (fun _ _ _ _ _ => True) (fun _ U o U' => ∃ v L, o = .returned v ∧ Qown_fq43 Z a1 ti kt t0 t1 t2 t3 h0 n0 v U'.heap L ∧ FrameEnd U o U' L ({ frames := 0, cells := 0, slots := 0, locals := 0 } : Room).cells ({ frames := 0, cells := 0, slots := 0, locals := 0 } : Room).slots) := by
  refine MetFree.of_bodySF (plainFor_of_name own_pn0) hisR ?_
  intro p e s m args below meth c s₁ Bd hml0 hP hK
  obtain ⟨rfl, hZ, hh⟩ := hP
  have hx := Bd.exec
  have hby := Bd.bytes
  have hml : c.maxLocals = 1 := hml0
  have hown : s.vm.findClass "com/example/don_valley/donvalley/broker/QueuedFrames" = some m.cls := by have q := findClass_of_methodNamed Bd.named; exact q
  have hnm := (name_of_methodNamed Bd.named Bd.method).1
  have X0 : Stand p l e ({ frames := 0, cells := 0, slots := 0, locals := 0 } : Room) s m #[(.ref a1)] below meth c s₁ [] 0 0 := Stand.of_body Bd
  have e0 : s₁.heap = h0 := by rw [← hh, Bd.state]; rfl
  have N0 := Fr.nil n0
  have pre0 : ∀ t, Steps p.tables e below (s₁.setTop (mkF m 0 #[.val (.ref a1)] [])) t → Steps p.tables e below (s₁.setTop (entryFrame m #[(.ref a1)] 1)) t := fun t k => castTop (by first | (simp [entryFrame, mkF, argsToLocals, Value.category, maxLocals]; done) | rfl) k
  obtain ⟨T101, X101, e101, st101⟩ := getF X0 hx hZ hown (host := "") (Or.inl (own_w14 hw)) Via.refl e0 Ft (g := (mkF m 1 #[.val (.ref a1)] [(.ref a1)])) rfl rfl (hb hby own_d6_1)
  obtain ⟨T102, X102, e102, st102⟩ := getF X101 hx hZ hown (host := "") (Or.inl (own_w23 hw)) Via.refl e101 F1 (g := (mkF m 5 #[.val (.ref a1)] [(.ref a1), (.ref ti)])) rfl rfl (hb hby own_d6_5)
  obtain ⟨cl103, Ar103, Aq103, As103, An103, Ah103, Ag103⟩ := id Vt
  have hin103 : ¬ ((3 : Int32) < 0 ∨ cl103.slots.size ≤ ((3 : Int32)).toNatClampNeg) := inb_of As103 ⟨by decide, by decide⟩
  obtain ⟨fs, hr, hrun, hended, hW, hsame⟩ := X102.leave (v := some (.long t3)) (fun h => by rw [Bd.returns] at h; cases h)
  refine ⟨_, _, pre0 _ ?_, hrun, hended, _, _, rfl, ?_, ⟨_, rfl⟩, hW, hsame.mono (by decide) (by decide)⟩
  · show Steps _ _ _ (s₁.setTop (mkF m 0 #[.val (.ref a1)] [])) _
    refine XS.aloadN X0.here hx rfl (hb hby own_d6_0) rfl rfl ?_
    refine st101 _ ?_
    refine XS.aloadN X101.here hx rfl (hb hby own_d6_4) rfl rfl ?_
    refine st102 _ ?_
    show Steps _ _ _ (T102.setTop (mkF m 8 #[.val (.ref a1)] [(.int (3 : Int32)), (.ref ti)])) _
    refine X102.laload hx (j := (3 : Int32)) (v := (.long t3)) (by rw [e102]; exact Ar103.1) (State.isArrayOf_alike hZ.alike Ar103.2.1) Ar103.2.2 hin103 (Ah103.at hin103 rfl) (g := (mkF m 8 #[.val (.ref a1)] [(.int (3 : Int32)), (.ref ti)])) rfl rfl (hb hby own_d6_8) _ ?_
    show Steps _ _ _ (T102.setTop (mkF m 9 #[.val (.ref a1)] [(.long t3)])) _
    jvm_step X102.here [X102.here.top, hx, (hb hby own_d6_9), X102.method', Bd.returns, narrow]
    first | (intro acts; rw [hr _ acts rfl rfl rfl]) | rw [hr _ _ rfl rfl rfl]
    exact Steps.refl _
  · show Qown_fq43 Z a1 ti kt t0 t1 t2 t3 h0 n0 _ T102.heap _
    rw [e102]
    exact ⟨rfl, N0, rfl⟩
def Qown_fq81 (Z : State) (a1 ti : Addr) (kt : ClassId) (t0 t1 t2 t3 t4 t5 t6 t7 : Int64) (h0 : Heap) (n0 : Nat) (v : Option Value) (h : Heap) (L : List Loc) : Prop := v = some (.long t1) ∧ Fr n0 L ∧ h = h0
set_option maxRecDepth 65536 in
set_option maxHeartbeats 40000000 in
theorem own_fq81 (l : Launch) (Z : State) (a0 : Array Value) (hw : ∀ d ∈ tables_1, d.before a0 Z = true) (ws : List Jvm.Cond) (a1 ti : Addr) (kt : ClassId) (t0 t1 t2 t3 t4 t5 t6 t7 : Int64) (h0 : Heap) (n0 : Nat) (Z0 : n0 ≤ h0.size) (Ft : Fld Z h0 a1 "com/example/don_valley/donvalley/broker/QueuedFrames" "times" "[J" (.ref ti)) (F1 : Fld Z h0 a1 "com/example/don_valley/donvalley/broker/QueuedFrames" "first" "I" (.int (1 : Int32))) (Vt : Arv Z h0 ti kt .long (8 : Int32) [(.long t0), (.long t1), (.long t2), (.long t3), (.long t4), (.long t5), (.long t6), (.long t7)] (.long (0 : Int64))) :
    MetFree l own_m6 (head1 (Jvm.Cond.code own_m6 prog_10_method_7_code 1 (some .long) :: ws) ({ frames := 0, cells := 0, slots := 0, locals := 0 } : Room)) (fun a U => a = #[(.ref a1)] ∧ Z.Warmed39 U.vm ∧ U.heap = h0) (fun _ _ _ _ _ => True) (fun _ U o U' => ∃ v L, o = .returned v ∧ Qown_fq81 Z a1 ti kt t0 t1 t2 t3 t4 t5 t6 t7 h0 n0 v U'.heap L ∧ FrameEnd U o U' L ({ frames := 0, cells := 0, slots := 0, locals := 0 } : Room).cells ({ frames := 0, cells := 0, slots := 0, locals := 0 } : Room).slots) := by
  refine MetFree.of_bodySF (plainFor_of_name own_pn0) hisR ?_
  intro p e s m args below meth c s₁ Bd hml0 hP hK
  obtain ⟨rfl, hZ, hh⟩ := hP
  have hx := Bd.exec
  have hby := Bd.bytes
  have hml : c.maxLocals = 1 := hml0
  have hown : s.vm.findClass "com/example/don_valley/donvalley/broker/QueuedFrames" = some m.cls := by have q := findClass_of_methodNamed Bd.named; exact q
  have hnm := (name_of_methodNamed Bd.named Bd.method).1
  have X0 : Stand p l e ({ frames := 0, cells := 0, slots := 0, locals := 0 } : Room) s m #[(.ref a1)] below meth c s₁ [] 0 0 := Stand.of_body Bd
  have e0 : s₁.heap = h0 := by rw [← hh, Bd.state]; rfl
  have N0 := Fr.nil n0
  have pre0 : ∀ t, Steps p.tables e below (s₁.setTop (mkF m 0 #[.val (.ref a1)] [])) t → Steps p.tables e below (s₁.setTop (entryFrame m #[(.ref a1)] 1)) t := fun t k => castTop (by first | (simp [entryFrame, mkF, argsToLocals, Value.category, maxLocals]; done) | rfl) k
  obtain ⟨T101, X101, e101, st101⟩ := getF X0 hx hZ hown (host := "") (Or.inl (own_w14 hw)) Via.refl e0 Ft (g := (mkF m 1 #[.val (.ref a1)] [(.ref a1)])) rfl rfl (hb hby own_d6_1)
  obtain ⟨T102, X102, e102, st102⟩ := getF X101 hx hZ hown (host := "") (Or.inl (own_w23 hw)) Via.refl e101 F1 (g := (mkF m 5 #[.val (.ref a1)] [(.ref a1), (.ref ti)])) rfl rfl (hb hby own_d6_5)
  obtain ⟨cl103, Ar103, Aq103, As103, An103, Ah103, Ag103⟩ := id Vt
  have hin103 : ¬ ((1 : Int32) < 0 ∨ cl103.slots.size ≤ ((1 : Int32)).toNatClampNeg) := inb_of As103 ⟨by decide, by decide⟩
  obtain ⟨fs, hr, hrun, hended, hW, hsame⟩ := X102.leave (v := some (.long t1)) (fun h => by rw [Bd.returns] at h; cases h)
  refine ⟨_, _, pre0 _ ?_, hrun, hended, _, _, rfl, ?_, ⟨_, rfl⟩, hW, hsame.mono (by decide) (by decide)⟩
  · show Steps _ _ _ (s₁.setTop (mkF m 0 #[.val (.ref a1)] [])) _
    refine XS.aloadN X0.here hx rfl (hb hby own_d6_0) rfl rfl ?_
    refine st101 _ ?_
    refine XS.aloadN X101.here hx rfl (hb hby own_d6_4) rfl rfl ?_
    refine st102 _ ?_
    show Steps _ _ _ (T102.setTop (mkF m 8 #[.val (.ref a1)] [(.int (1 : Int32)), (.ref ti)])) _
    refine X102.laload hx (j := (1 : Int32)) (v := (.long t1)) (by rw [e102]; exact Ar103.1) (State.isArrayOf_alike hZ.alike Ar103.2.1) Ar103.2.2 hin103 (Ah103.at hin103 rfl) (g := (mkF m 8 #[.val (.ref a1)] [(.int (1 : Int32)), (.ref ti)])) rfl rfl (hb hby own_d6_8) _ ?_
    show Steps _ _ _ (T102.setTop (mkF m 9 #[.val (.ref a1)] [(.long t1)])) _
    jvm_step X102.here [X102.here.top, hx, (hb hby own_d6_9), X102.method', Bd.returns, narrow]
    first | (intro acts; rw [hr _ acts rfl rfl rfl]) | rw [hr _ _ rfl rfl rfl]
    exact Steps.refl _
  · show Qown_fq81 Z a1 ti kt t0 t1 t2 t3 t4 t5 t6 t7 h0 n0 _ T102.heap _
    rw [e102]
    exact ⟨rfl, N0, rfl⟩
def Qown_law (Z : State) (p1 p2 p3 p4 p5 : Int64) (p6 : Int32) (h0 : Heap) (n0 : Nat) (v : Option Value) (h : Heap) (L : List Loc) : Prop := v = some (.int (1 : Int32)) ∧ Fr n0 L
set_option maxRecDepth 65536 in
set_option maxHeartbeats 40000000 in
theorem own_law (l : Launch) (Z : State) (a0 : Array Value) (hw : ∀ d ∈ tables_1, d.before a0 Z = true) (ws : List Jvm.Cond) (p1 p2 p3 p4 p5 : Int64) (p6 : Int32) (h0 : Heap) (n0 : Nat) (Z0 : n0 ≤ h0.size)  :
    MetFree l x (head1 (Jvm.Cond.code x code maxLocals ret :: ws) room_1) (fun a U => a = #[(.long p1), (.long p2), (.long p3), (.long p4), (.long p5), (.int p6)] ∧ Z.Warmed39 U.vm ∧ U.heap = h0) (fun _ _ _ _ _ => True) (fun _ U o U' => ∃ v L, o = .returned v ∧ Qown_law Z p1 p2 p3 p4 p5 p6 h0 n0 v U'.heap L ∧ FrameEnd U o U' L room_1.cells room_1.slots) := by
  refine MetFree.of_bodySF (plainFor_of_name own_pn1) hisR ?_
  intro p e s m args below meth c s₁ Bd hml0 hP hK
  obtain ⟨rfl, hZ, hh⟩ := hP
  have hx := Bd.exec
  have hby := Bd.bytes
  have hml : c.maxLocals = 17 := hml0
  have hown : s.vm.findClass "com/example/don_valley/donvalley/broker/QueuedFramesRemoveFirstPinLaw" = some m.cls := by have q := findClass_of_methodNamed Bd.named; exact q
  have hnm := (name_of_methodNamed Bd.named Bd.method).1
  have X0 : Stand p l e room_1 s m #[(.long p1), (.long p2), (.long p3), (.long p4), (.long p5), (.int p6)] below meth c s₁ [] 0 0 := Stand.of_body Bd
  have e0 : s₁.heap = h0 := by rw [← hh, Bd.state]; rfl
  have N0 := Fr.nil n0
  have pre0 : ∀ t, Steps p.tables e below (s₁.setTop (mkF m 0 #[.val (.long p1), .second, .val (.long p2), .second, .val (.long p3), .second, .val (.long p4), .second, .val (.long p5), .second, .val (.int p6), .unset, .unset, .unset, .unset, .unset, .unset] [])) t → Steps p.tables e below (s₁.setTop (entryFrame m #[(.long p1), (.long p2), (.long p3), (.long p4), (.long p5), (.int p6)] maxLocals)) t := fun t k => castTop (by first | (simp [entryFrame, mkF, argsToLocals, Value.category, maxLocals]; done) | rfl) k
  have pre101 : ∀ t, Steps p.tables e below (s₁.setTop (mkF m 10 #[.val (.long p1), .second, .val (.long p2), .second, .val (.long p3), .second, .val (.long p4), .second, .val (.long p5), .second, .val (.int p6), .val (.int (p6 &&& (3 : Int32))), .unset, .unset, .unset, .unset, .unset] [(.int (p6 &&& (4 : Int32)))])) t → Steps p.tables e below (s₁.setTop (entryFrame m #[(.long p1), (.long p2), (.long p3), (.long p4), (.long p5), (.int p6)] maxLocals)) t := fun t kt => pre0 t (by
    show Steps _ _ _ (s₁.setTop (mkF m 0 #[.val (.long p1), .second, .val (.long p2), .second, .val (.long p3), .second, .val (.long p4), .second, .val (.long p5), .second, .val (.int p6), .unset, .unset, .unset, .unset, .unset, .unset] [])) _
    refine XS.iload X0.here hx rfl (hb hby at_0) rfl ?_
    refine XS.iconst X0.here hx rfl (hb hby at_2) ?_
    refine XS.iand X0.here hx rfl (hb hby at_3) rfl ?_
    refine XS.istore X0.here hx rfl (hb hby at_4) rfl (l' := #[.val (.long p1), .second, .val (.long p2), .second, .val (.long p3), .second, .val (.long p4), .second, .val (.long p5), .second, .val (.int p6), .val (.int (p6 &&& (3 : Int32))), .unset, .unset, .unset, .unset, .unset]) rfl ?_
    show Steps _ _ _ (s₁.setTop (mkF m 6 #[.val (.long p1), .second, .val (.long p2), .second, .val (.long p3), .second, .val (.long p4), .second, .val (.long p5), .second, .val (.int p6), .val (.int (p6 &&& (3 : Int32))), .unset, .unset, .unset, .unset, .unset] [])) _
    refine XS.iload X0.here hx rfl (hb hby at_6) rfl ?_
    refine XS.iconst X0.here hx rfl (hb hby at_8) ?_
    refine XS.iand X0.here hx rfl (hb hby at_9) rfl ?_
    exact kt)
  by_cases hc10_102 : (p6 &&& (4 : Int32)) = (0 : Int32)
  · skip
    have ihc10_102 := (own_eq (b := (0 : Int32)) (k := 0) rfl).mp hc10_102
    obtain ⟨T103, h103, X103, e103, E103, A103, D103, -, st103⟩ := newO X0 hx hZ hown (own_w0 hw) (own_w1 hw) (own_w2 hw) e0 (g := (mkF m 20 #[.val (.long p1), .second, .val (.long p2), .second, .val (.long p3), .second, .val (.long p4), .second, .val (.long p5), .second, .val (.int p6), .val (.int (p6 &&& (3 : Int32))), .val (.int (0 : Int32)), .unset, .unset, .unset, .unset] [])) rfl (hb hby at_20) (by decide) (by decide)
    obtain ⟨b103, g103⟩ : ∃ z, z = h0.size := ⟨_, rfl⟩
    rw [← g103] at A103 D103 st103
    have g_b103 : n0 ≤ b103 := Nat.le_trans Z0 (Nat.le_of_eq g103.symm)
    have Z103 : n0 ≤ h103.size := Nat.le_trans Z0 E103.1
    have F103_12 : Fld Z h103 b103 "com/example/don_valley/donvalley/broker/QueuedFrames" "frames" "[Ljava/nio/ByteBuffer;" .null := D103 (Or.inl (own_w12 hw)) (ty := (.array (.object "java/nio/ByteBuffer"))) (by decide)
    have F103_15 : Fld Z h103 b103 "com/example/don_valley/donvalley/broker/QueuedFrames" "times" "[J" .null := D103 (Or.inl (own_w15 hw)) (ty := (.array .long)) (by decide)
    have F103_22 : Fld Z h103 b103 "com/example/don_valley/donvalley/broker/QueuedFrames" "size" "I" (.int (0 : Int32)) := D103 (Or.inl (own_w22 hw)) (ty := .int) (by decide)
    have F103_24 : Fld Z h103 b103 "com/example/don_valley/donvalley/broker/QueuedFrames" "first" "I" (.int (0 : Int32)) := D103 (Or.inl (own_w24 hw)) (ty := .int) (by decide)
    have gx : n0 ≤ b103 := g_b103
    obtain ⟨_, _, ⟨T104, L104, k104, n104⟩, -, X104, ⟨Lc104, hQ104, l104, y104, z104⟩, st104⟩ := X103.specialBack hx (y := own_m0) rfl hown (mvT hZ (own_w3 hw)) (mvT hZ (own_w4 hw)) (mvT hZ (own_w5 hw)) (by decide) (backOf (W := 1) (own_init l Z a0 hw [] b103 h103 n0 Z103 gx A103 F103_12 F103_15 F103_22 F103_24) hZ (own_w5 hw) (own_w2 hw) (by decide) (by decide)) (g := (mkF m 24 #[.val (.long p1), .second, .val (.long p2), .second, .val (.long p3), .second, .val (.long p4), .second, .val (.long p5), .second, .val (.int p6), .val (.int (p6 &&& (3 : Int32))), .val (.int (0 : Int32)), .unset, .unset, .unset, .unset] [(.ref b103), (.ref b103)])) rfl (by rw [hml]; rfl) (Steps.refl _) (a := b103) (argsL := []) (rest := [(.ref b103)]) (lenOf own_pd1 rfl) rfl (by show 2 * 0 + _ ≤ _; exact Nat.le_of_eq rfl) (hb hby at_24) (fun _ _ => ⟨rfl, e103, (by decide : 1 + 2 ≤ _), (by decide : 4 + 8 ≤ _)⟩)
    dsimp only [Pt.U, Pt.locs, Pt.cells, Pt.slots] at X104 l104 y104 z104 st104 hQ104
    subst l104 y104 z104
    obtain ⟨rfl, N104q, hG104⟩ := hQ104
    have N104 := Fr.app N0 N104q
    obtain ⟨fr104, ti104, kf104, kt104, hS104⟩ := hG104
    obtain ⟨cq105, kq105, q105a, q105b, q105c⟩ := isOf hZ rfl hS104.2.2.2.1
    obtain ⟨_, _, ⟨T105, L105, k105, n105⟩, -, X105, ⟨Lc105, hQ105, l105, y105, z105⟩, st105⟩ := X104.virtualBack hx (y := own_m3) (z := own_m3) hown (mvT hZ (own_w16 hw)) (mvT hZ (own_w17 hw)) (notFace_of_selects (args := #[]) (mvT hZ (own_w19 hw))) (mvT hZ (own_w19 hw)) (mvT hZ (own_w18 hw)) (by decide) (backOf (W := 0) (own_add00 l Z a0 hw [] b103 fr104 ti104 kf104 kt104 (0 : Int64) (0 : Int64) (0 : Int64) (0 : Int64) p1 T104.heap n0 hS104.1 gx hS104) hZ (own_w20 hw) (own_w2 hw) (by decide) (by decide)) q105a q105c (g := (mkF m 33 #[.val (.long p1), .second, .val (.long p2), .second, .val (.long p3), .second, .val (.long p4), .second, .val (.long p5), .second, .val (.int p6), .val (.int (p6 &&& (3 : Int32))), .val (.int (0 : Int32)), .val (.ref b103), .unset, .unset, .unset] [(.long p1), .null, (.ref b103)])) rfl (by rw [hml]; rfl) (Steps.refl _) (argsL := [.null, (.long p1)]) (rest := []) (lenOf own_pd2 rfl) rfl (by show 2 * 0 + _ ≤ _; exact Nat.le_of_eq rfl) (hb hby at_33) (fun _ _ => ⟨rfl, rfl, (by decide : 3 + 0 ≤ _), (by decide : 12 + 0 ≤ _)⟩)
    dsimp only [Pt.U, Pt.locs, Pt.cells, Pt.slots] at X105 l105 y105 z105 st105 hQ105
    subst l105 y105 z105
    obtain ⟨rfl, N105q, hG105⟩ := hQ105
    have N105 := Fr.app N104 N105q
    obtain ⟨fr105, ti105, kf105, kt105, hS105⟩ := hG105
    obtain ⟨cq106, kq106, q106a, q106b, q106c⟩ := isOf hZ rfl hS105.2.2.2.1
    obtain ⟨_, _, ⟨T106, L106, k106, n106⟩, -, X106, ⟨Lc106, hQ106, l106, y106, z106⟩, st106⟩ := X105.virtualBack hx (y := own_m3) (z := own_m3) hown (mvT hZ (own_w16 hw)) (mvT hZ (own_w17 hw)) (notFace_of_selects (args := #[]) (mvT hZ (own_w19 hw))) (mvT hZ (own_w19 hw)) (mvT hZ (own_w18 hw)) (by decide) (backOf (W := 0) (own_add10 l Z a0 hw [] b103 fr105 ti105 kf105 kt105 p1 (0 : Int64) (0 : Int64) (0 : Int64) p2 T105.heap n0 hS105.1 gx hS105) hZ (own_w20 hw) (own_w2 hw) (by decide) (by decide)) q106a q106c (g := (mkF m 40 #[.val (.long p1), .second, .val (.long p2), .second, .val (.long p3), .second, .val (.long p4), .second, .val (.long p5), .second, .val (.int p6), .val (.int (p6 &&& (3 : Int32))), .val (.int (0 : Int32)), .val (.ref b103), .unset, .unset, .unset] [(.long p2), .null, (.ref b103)])) rfl (by rw [hml]; rfl) (Steps.refl _) (argsL := [.null, (.long p2)]) (rest := []) (lenOf own_pd2 rfl) rfl (by show 2 * 0 + _ ≤ _; exact Nat.le_of_eq rfl) (hb hby at_40) (fun _ _ => ⟨rfl, rfl, (by decide : 3 + 0 ≤ _), (by decide : 12 + 0 ≤ _)⟩)
    dsimp only [Pt.U, Pt.locs, Pt.cells, Pt.slots] at X106 l106 y106 z106 st106 hQ106
    subst l106 y106 z106
    obtain ⟨rfl, N106q, hG106⟩ := hQ106
    have N106 := Fr.app N105 N106q
    obtain ⟨fr106, ti106, kf106, kt106, hS106⟩ := hG106
    obtain ⟨cq107, kq107, q107a, q107b, q107c⟩ := isOf hZ rfl hS106.2.2.2.1
    obtain ⟨_, _, ⟨T107, L107, k107, n107⟩, -, X107, ⟨Lc107, hQ107, l107, y107, z107⟩, st107⟩ := X106.virtualBack hx (y := own_m3) (z := own_m3) hown (mvT hZ (own_w16 hw)) (mvT hZ (own_w17 hw)) (notFace_of_selects (args := #[]) (mvT hZ (own_w19 hw))) (mvT hZ (own_w19 hw)) (mvT hZ (own_w18 hw)) (by decide) (backOf (W := 0) (own_add20 l Z a0 hw [] b103 fr106 ti106 kf106 kt106 p1 p2 (0 : Int64) (0 : Int64) p3 T106.heap n0 hS106.1 gx hS106) hZ (own_w20 hw) (own_w2 hw) (by decide) (by decide)) q107a q107c (g := (mkF m 48 #[.val (.long p1), .second, .val (.long p2), .second, .val (.long p3), .second, .val (.long p4), .second, .val (.long p5), .second, .val (.int p6), .val (.int (p6 &&& (3 : Int32))), .val (.int (0 : Int32)), .val (.ref b103), .unset, .unset, .unset] [(.long p3), .null, (.ref b103)])) rfl (by rw [hml]; rfl) (Steps.refl _) (argsL := [.null, (.long p3)]) (rest := []) (lenOf own_pd2 rfl) rfl (by show 2 * 0 + _ ≤ _; exact Nat.le_of_eq rfl) (hb hby at_48) (fun _ _ => ⟨rfl, rfl, (by decide : 3 + 0 ≤ _), (by decide : 12 + 0 ≤ _)⟩)
    dsimp only [Pt.U, Pt.locs, Pt.cells, Pt.slots] at X107 l107 y107 z107 st107 hQ107
    subst l107 y107 z107
    obtain ⟨rfl, N107q, hG107⟩ := hQ107
    have N107 := Fr.app N106 N107q
    obtain ⟨fr107, ti107, kf107, kt107, hS107⟩ := hG107
    obtain ⟨cq108, kq108, q108a, q108b, q108c⟩ := isOf hZ rfl hS107.2.2.2.1
    obtain ⟨_, _, ⟨T108, L108, k108, n108⟩, -, X108, ⟨Lc108, hQ108, l108, y108, z108⟩, st108⟩ := X107.virtualBack hx (y := own_m3) (z := own_m3) hown (mvT hZ (own_w16 hw)) (mvT hZ (own_w17 hw)) (notFace_of_selects (args := #[]) (mvT hZ (own_w19 hw))) (mvT hZ (own_w19 hw)) (mvT hZ (own_w18 hw)) (by decide) (backOf (W := 0) (own_add30 l Z a0 hw [] b103 fr107 ti107 kf107 kt107 p1 p2 p3 (0 : Int64) p4 T107.heap n0 hS107.1 gx hS107) hZ (own_w20 hw) (own_w2 hw) (by decide) (by decide)) q108a q108c (g := (mkF m 56 #[.val (.long p1), .second, .val (.long p2), .second, .val (.long p3), .second, .val (.long p4), .second, .val (.long p5), .second, .val (.int p6), .val (.int (p6 &&& (3 : Int32))), .val (.int (0 : Int32)), .val (.ref b103), .unset, .unset, .unset] [(.long p4), .null, (.ref b103)])) rfl (by rw [hml]; rfl) (Steps.refl _) (argsL := [.null, (.long p4)]) (rest := []) (lenOf own_pd2 rfl) rfl (by show 2 * 0 + _ ≤ _; exact Nat.le_of_eq rfl) (hb hby at_56) (fun _ _ => ⟨rfl, rfl, (by decide : 3 + 0 ≤ _), (by decide : 12 + 0 ≤ _)⟩)
    dsimp only [Pt.U, Pt.locs, Pt.cells, Pt.slots] at X108 l108 y108 z108 st108 hQ108
    subst l108 y108 z108
    obtain ⟨rfl, N108q, hG108⟩ := hQ108
    have N108 := Fr.app N107 N108q
    obtain ⟨fr108, ti108, kf108, kt108, hS108⟩ := hG108
    have pre109 : ∀ t, Steps p.tables e below (T108.setTop (mkF m 59 #[.val (.long p1), .second, .val (.long p2), .second, .val (.long p3), .second, .val (.long p4), .second, .val (.long p5), .second, .val (.int p6), .val (.int (p6 &&& (3 : Int32))), .val (.int (0 : Int32)), .val (.ref b103), .unset, .unset, .unset] [])) t → Steps p.tables e below (s₁.setTop (entryFrame m #[(.long p1), (.long p2), (.long p3), (.long p4), (.long p5), (.int p6)] maxLocals)) t := fun t kt => pre101 t (by
      show Steps _ _ _ (s₁.setTop (mkF m 10 #[.val (.long p1), .second, .val (.long p2), .second, .val (.long p3), .second, .val (.long p4), .second, .val (.long p5), .second, .val (.int p6), .val (.int (p6 &&& (3 : Int32))), .unset, .unset, .unset, .unset, .unset] [(.int (p6 &&& (4 : Int32)))])) _
      refine XS.ifYes X0.here hx rfl (pc0 := 10) (pc' := 17) rfl (hb hby at_10) rfl ((if0 _ _).trans (teq hc10_102).1) (by decide) (by decide) ?_
      refine XS.iconst X0.here hx rfl (hb hby at_17) ?_
      refine XS.istore X0.here hx rfl (hb hby at_18) rfl (l' := #[.val (.long p1), .second, .val (.long p2), .second, .val (.long p3), .second, .val (.long p4), .second, .val (.long p5), .second, .val (.int p6), .val (.int (p6 &&& (3 : Int32))), .val (.int (0 : Int32)), .unset, .unset, .unset, .unset]) rfl ?_
      refine st103 _ ?_
      show Steps _ _ _ (T103.setTop (mkF m 23 #[.val (.long p1), .second, .val (.long p2), .second, .val (.long p3), .second, .val (.long p4), .second, .val (.long p5), .second, .val (.int p6), .val (.int (p6 &&& (3 : Int32))), .val (.int (0 : Int32)), .unset, .unset, .unset, .unset] [(.ref b103)])) _
      refine XS.dup X103.here hx rfl (hb hby at_23) rfl rfl ?_
      refine st104.trans ?_
      refine XS.astore X104.here hx rfl (hb hby at_27) rfl rfl (l' := #[.val (.long p1), .second, .val (.long p2), .second, .val (.long p3), .second, .val (.long p4), .second, .val (.long p5), .second, .val (.int p6), .val (.int (p6 &&& (3 : Int32))), .val (.int (0 : Int32)), .val (.ref b103), .unset, .unset, .unset]) rfl ?_
      refine XS.aload X104.here hx rfl (hb hby at_29) rfl rfl ?_
      show Steps _ _ _ (T104.setTop (mkF m 31 #[.val (.long p1), .second, .val (.long p2), .second, .val (.long p3), .second, .val (.long p4), .second, .val (.long p5), .second, .val (.int p6), .val (.int (p6 &&& (3 : Int32))), .val (.int (0 : Int32)), .val (.ref b103), .unset, .unset, .unset] [(.ref b103)])) _
      refine XS.aconstNull X104.here hx rfl (hb hby at_31) ?_
      refine XS.lloadN X104.here hx rfl (hb hby at_32) rfl ?_
      refine st105.trans ?_
      refine XS.aload X105.here hx rfl (hb hby at_36) rfl rfl ?_
      show Steps _ _ _ (T105.setTop (mkF m 38 #[.val (.long p1), .second, .val (.long p2), .second, .val (.long p3), .second, .val (.long p4), .second, .val (.long p5), .second, .val (.int p6), .val (.int (p6 &&& (3 : Int32))), .val (.int (0 : Int32)), .val (.ref b103), .unset, .unset, .unset] [(.ref b103)])) _
      refine XS.aconstNull X105.here hx rfl (hb hby at_38) ?_
      refine XS.lloadN X105.here hx rfl (hb hby at_39) rfl ?_
      refine st106.trans ?_
      refine XS.aload X106.here hx rfl (hb hby at_43) rfl rfl ?_
      show Steps _ _ _ (T106.setTop (mkF m 45 #[.val (.long p1), .second, .val (.long p2), .second, .val (.long p3), .second, .val (.long p4), .second, .val (.long p5), .second, .val (.int p6), .val (.int (p6 &&& (3 : Int32))), .val (.int (0 : Int32)), .val (.ref b103), .unset, .unset, .unset] [(.ref b103)])) _
      refine XS.aconstNull X106.here hx rfl (hb hby at_45) ?_
      refine XS.lload X106.here hx rfl (hb hby at_46) rfl ?_
      refine st107.trans ?_
      refine XS.aload X107.here hx rfl (hb hby at_51) rfl rfl ?_
      show Steps _ _ _ (T107.setTop (mkF m 53 #[.val (.long p1), .second, .val (.long p2), .second, .val (.long p3), .second, .val (.long p4), .second, .val (.long p5), .second, .val (.int p6), .val (.int (p6 &&& (3 : Int32))), .val (.int (0 : Int32)), .val (.ref b103), .unset, .unset, .unset] [(.ref b103)])) _
      refine XS.aconstNull X107.here hx rfl (hb hby at_53) ?_
      refine XS.lload X107.here hx rfl (hb hby at_54) rfl ?_
      refine st108.trans ?_
      exact kt)
    rcases own_and3 p6 with hs110 | hs110 | hs110 | hs110
    · skip
      rw [hs110] at pre109
      obtain ⟨cq111, kq111, q111a, q111b, q111c⟩ := isOf hZ rfl hS108.2.2.2.1
      obtain ⟨_, _, ⟨T111, L111, k111, n111⟩, -, X111, ⟨Lc111, hQ111, l111, y111, z111⟩, st111⟩ := X108.virtualBack hx (y := own_m4) (z := own_m4) hown (mvT hZ (own_w25 hw)) (mvT hZ (own_w26 hw)) (notFace_of_selects (args := #[]) (mvT hZ (own_w28 hw))) (mvT hZ (own_w28 hw)) (mvT hZ (own_w27 hw)) (by decide) (backOf (W := 0) (own_rem440 l Z a0 hw [] b103 fr108 ti108 kf108 kt108 p1 p2 p3 p4 T108.heap n0 hS108.1 gx hS108) hZ (own_w29 hw) (own_w2 hw) (by decide) (by decide)) q111a q111c (g := (mkF m 107 #[.val (.long p1), .second, .val (.long p2), .second, .val (.long p3), .second, .val (.long p4), .second, .val (.long p5), .second, .val (.int p6), .val (.int (0 : Int32)), .val (.int (0 : Int32)), .val (.ref b103), .unset, .unset, .unset] [(.ref b103)])) rfl (by rw [hml]; rfl) (Steps.refl _) (argsL := []) (rest := []) (lenOf own_pd1 rfl) rfl (by show 2 * 0 + _ ≤ _; exact Nat.le_of_eq rfl) (hb hby at_107) (fun _ _ => ⟨rfl, rfl, (by decide : 3 + 0 ≤ _), (by decide : 12 + 0 ≤ _)⟩)
      dsimp only [Pt.U, Pt.locs, Pt.cells, Pt.slots] at X111 l111 y111 z111 st111 hQ111
      subst l111 y111 z111
      obtain ⟨rfl, N111q, hG111⟩ := hQ111
      have N111 := Fr.app N108 N111q
      obtain ⟨fr111, ti111, kf111, kt111, hS111⟩ := hG111
      obtain ⟨cq112, kq112, q112a, q112b, q112c⟩ := isOf hZ rfl hS111.2.2.2.1
      obtain ⟨_, _, ⟨T112, L112, k112, n112⟩, -, X112, ⟨Lc112, hQ112, l112, y112, z112⟩, st112⟩ := X111.virtualBack hx (y := own_m5) (z := own_m5) hown (mvT hZ (own_w30 hw)) (mvT hZ (own_w31 hw)) (notFace_of_selects (args := #[]) (mvT hZ (own_w33 hw))) (mvT hZ (own_w33 hw)) (mvT hZ (own_w32 hw)) (by decide) (backOf (W := 0) (own_size3 l Z a0 hw [] b103 T111.heap n0 hS111.1 hS111.2.2.2.2.2.2.1) hZ (own_w34 hw) (own_w2 hw) (by decide) (by decide)) q112a q112c (g := (mkF m 129 #[.val (.long p1), .second, .val (.long p2), .second, .val (.long p3), .second, .val (.long p4), .second, .val (.long p5), .second, .val (.int p6), .val (.int (0 : Int32)), .val (.int (0 : Int32)), .val (.ref b103), .val (.int (3 : Int32)), .unset, .unset] [(.ref b103)])) rfl (by rw [hml]; rfl) (Steps.refl _) (argsL := []) (rest := []) (lenOf own_pd3 rfl) rfl (by show 2 * 0 + _ ≤ _; exact Nat.le_of_eq rfl) (hb hby at_129) (fun _ _ => ⟨rfl, rfl, (by decide : 3 + 0 ≤ _), (by decide : 12 + 0 ≤ _)⟩)
      dsimp only [Pt.U, Pt.locs, Pt.cells, Pt.slots] at X112 l112 y112 z112 st112 hQ112
      subst l112 y112 z112
      obtain ⟨rfl, N112q, e112⟩ := hQ112
      have N112 := Fr.app N111 N112q
      obtain ⟨cq113, kq113, q113a, q113b, q113c⟩ := isOf hZ e112 hS111.2.2.2.1
      obtain ⟨_, _, ⟨T113, L113, k113, n113⟩, -, X113, ⟨Lc113, hQ113, l113, y113, z113⟩, st113⟩ := X112.virtualBack hx (y := own_m6) (z := own_m6) hown (mvT hZ (own_w35 hw)) (mvT hZ (own_w36 hw)) (notFace_of_selects (args := #[]) (mvT hZ (own_w38 hw))) (mvT hZ (own_w38 hw)) (mvT hZ (own_w37 hw)) (by decide) (backOf (W := 0) (own_fq41 l Z a0 hw [] b103 ti111 kt111 p1 p2 p3 p4 T111.heap n0 hS111.1 hS111.2.2.2.2.2.1 hS111.2.2.2.2.2.2.2.1 hS111.2.2.2.2.2.2.2.2.2.1) hZ (own_w39 hw) (own_w2 hw) (by decide) (by decide)) q113a q113c (g := (mkF m 189 #[.val (.long p1), .second, .val (.long p2), .second, .val (.long p3), .second, .val (.long p4), .second, .val (.long p5), .second, .val (.int p6), .val (.int (0 : Int32)), .val (.int (0 : Int32)), .val (.ref b103), .val (.int (3 : Int32)), .val (.long p2), .second] [(.ref b103)])) rfl (by rw [hml]; rfl) (Steps.refl _) (argsL := []) (rest := []) (lenOf own_pd4 rfl) rfl (by show 2 * 0 + _ ≤ _; exact Nat.le_of_eq rfl) (hb hby at_189) (fun _ _ => ⟨rfl, e112, (by decide : 3 + 0 ≤ _), (by decide : 12 + 0 ≤ _)⟩)
      dsimp only [Pt.U, Pt.locs, Pt.cells, Pt.slots] at X113 l113 y113 z113 st113 hQ113
      subst l113 y113 z113
      obtain ⟨rfl, N113q, e113⟩ := hQ113
      have N113 := Fr.app N112 N113q
      obtain ⟨fs, hr, hrun, hended, hW, hsame⟩ := X113.leave (v := some (.int (1 : Int32))) (fun h => by rw [Bd.returns] at h; cases h)
      refine ⟨_, _, pre109 _ ?_, hrun, hended, _, _, rfl, ?_, ⟨_, rfl⟩, hW, hsame.mono (by decide) (by decide)⟩
      · show Steps _ _ _ (T108.setTop (mkF m 59 #[.val (.long p1), .second, .val (.long p2), .second, .val (.long p3), .second, .val (.long p4), .second, .val (.long p5), .second, .val (.int p6), .val (.int (0 : Int32)), .val (.int (0 : Int32)), .val (.ref b103), .unset, .unset, .unset] [])) _
        refine XS.iload X108.here hx rfl (hb hby at_59) rfl ?_
        refine XS.iconst X108.here hx rfl (hb hby at_61) ?_
        refine XS.icmpYes X108.here hx rfl (pc0 := 62) (pc' := 70) rfl (hb hby at_62) rfl (tlt (by decide : (0 : Int32) < (1 : Int32))).1 (by decide) (by decide) ?_
        refine XS.iload X108.here hx rfl (hb hby at_70) rfl ?_
        show Steps _ _ _ (T108.setTop (mkF m 72 #[.val (.long p1), .second, .val (.long p2), .second, .val (.long p3), .second, .val (.long p4), .second, .val (.long p5), .second, .val (.int p6), .val (.int (0 : Int32)), .val (.int (0 : Int32)), .val (.ref b103), .unset, .unset, .unset] [(.int (0 : Int32))])) _
        refine XS.iconst X108.here hx rfl (hb hby at_72) ?_
        refine XS.icmpYes X108.here hx rfl (pc0 := 73) (pc' := 81) rfl (hb hby at_73) rfl (tlt (by decide : (0 : Int32) < (2 : Int32))).1 (by decide) (by decide) ?_
        refine XS.iload X108.here hx rfl (hb hby at_81) rfl ?_
        refine XS.iconst X108.here hx rfl (hb hby at_83) ?_
        show Steps _ _ _ (T108.setTop (mkF m 84 #[.val (.long p1), .second, .val (.long p2), .second, .val (.long p3), .second, .val (.long p4), .second, .val (.long p5), .second, .val (.int p6), .val (.int (0 : Int32)), .val (.int (0 : Int32)), .val (.ref b103), .unset, .unset, .unset] [(.int (3 : Int32)), (.int (0 : Int32))])) _
        refine XS.icmpYes X108.here hx rfl (pc0 := 84) (pc' := 92) rfl (hb hby at_84) rfl (tlt (by decide : (0 : Int32) < (3 : Int32))).1 (by decide) (by decide) ?_
        refine XS.iload X108.here hx rfl (hb hby at_92) rfl ?_
        refine XS.ifYes X108.here hx rfl (pc0 := 94) (pc' := 105) rfl (hb hby at_94) rfl ((if0 _ _).trans (teq (by decide : (0 : Int32) = (0 : Int32))).1) (by decide) (by decide) ?_
        refine XS.aload X108.here hx rfl (hb hby at_105) rfl rfl ?_
        show Steps _ _ _ (T108.setTop (mkF m 107 #[.val (.long p1), .second, .val (.long p2), .second, .val (.long p3), .second, .val (.long p4), .second, .val (.long p5), .second, .val (.int p6), .val (.int (0 : Int32)), .val (.int (0 : Int32)), .val (.ref b103), .unset, .unset, .unset] [(.ref b103)])) _
        refine st111.trans ?_
        refine XS.iconst X111.here hx rfl (hb hby at_110) ?_
        refine XS.iload X111.here hx rfl (hb hby at_111) rfl ?_
        refine XS.isub X111.here hx rfl (hb hby at_113) rfl ?_
        show Steps _ _ _ (T111.setTop (mkF m 114 #[.val (.long p1), .second, .val (.long p2), .second, .val (.long p3), .second, .val (.long p4), .second, .val (.long p5), .second, .val (.int p6), .val (.int (0 : Int32)), .val (.int (0 : Int32)), .val (.ref b103), .unset, .unset, .unset] [(.int (3 : Int32))])) _
        refine XS.iload X111.here hx rfl (hb hby at_114) rfl ?_
        refine XS.ifYes X111.here hx rfl (pc0 := 116) (pc' := 123) rfl (hb hby at_116) rfl ((if0 _ _).trans (teq (by decide : (0 : Int32) = (0 : Int32))).1) (by decide) (by decide) ?_
        refine XS.iconst X111.here hx rfl (hb hby at_123) ?_
        refine XS.iadd X111.here hx rfl (hb hby at_124) rfl ?_
        show Steps _ _ _ (T111.setTop (mkF m 125 #[.val (.long p1), .second, .val (.long p2), .second, .val (.long p3), .second, .val (.long p4), .second, .val (.long p5), .second, .val (.int p6), .val (.int (0 : Int32)), .val (.int (0 : Int32)), .val (.ref b103), .unset, .unset, .unset] [(.int (3 : Int32))])) _
        refine XS.istore X111.here hx rfl (hb hby at_125) rfl (l' := #[.val (.long p1), .second, .val (.long p2), .second, .val (.long p3), .second, .val (.long p4), .second, .val (.long p5), .second, .val (.int p6), .val (.int (0 : Int32)), .val (.int (0 : Int32)), .val (.ref b103), .val (.int (3 : Int32)), .unset, .unset]) rfl ?_
        refine XS.aload X111.here hx rfl (hb hby at_127) rfl rfl ?_
        refine st112.trans ?_
        refine XS.iload X112.here hx rfl (hb hby at_132) rfl ?_
        show Steps _ _ _ (T112.setTop (mkF m 134 #[.val (.long p1), .second, .val (.long p2), .second, .val (.long p3), .second, .val (.long p4), .second, .val (.long p5), .second, .val (.int p6), .val (.int (0 : Int32)), .val (.int (0 : Int32)), .val (.ref b103), .val (.int (3 : Int32)), .unset, .unset] [(.int (3 : Int32)), (.int (3 : Int32))])) _
        refine XS.icmpYes X112.here hx rfl (pc0 := 134) (pc' := 139) rfl (hb hby at_134) rfl (teq (by decide : (3 : Int32) = (3 : Int32))).1 (by decide) (by decide) ?_
        refine XS.iload X112.here hx rfl (hb hby at_139) rfl ?_
        refine XS.ifYes X112.here hx rfl (pc0 := 141) (pc' := 146) rfl (hb hby at_141) rfl ((if0 _ _).trans (feq (by decide : ¬ ((3 : Int32) = (0 : Int32)))).2) (by decide) (by decide) ?_
        refine XS.iload X112.here hx rfl (hb hby at_146) rfl ?_
        show Steps _ _ _ (T112.setTop (mkF m 148 #[.val (.long p1), .second, .val (.long p2), .second, .val (.long p3), .second, .val (.long p4), .second, .val (.long p5), .second, .val (.int p6), .val (.int (0 : Int32)), .val (.int (0 : Int32)), .val (.ref b103), .val (.int (3 : Int32)), .unset, .unset] [(.int (0 : Int32))])) _
        refine XS.ifNo X112.here hx rfl (hb hby at_148) rfl ((if0 _ _).trans (teq (by decide : (0 : Int32) = (0 : Int32))).2) ?_
        refine XS.lloadN X112.here hx rfl (hb hby at_151) rfl ?_
        refine XS.lstore X112.here hx rfl (hb hby at_152) rfl (l' := #[.val (.long p1), .second, .val (.long p2), .second, .val (.long p3), .second, .val (.long p4), .second, .val (.long p5), .second, .val (.int p6), .val (.int (0 : Int32)), .val (.int (0 : Int32)), .val (.ref b103), .val (.int (3 : Int32)), .val (.long p2), .second]) rfl ?_
        refine XS.goto X112.here hx rfl (pc0 := 154) (pc' := 187) rfl (hb hby at_154) (by decide) (by decide) ?_
        show Steps _ _ _ (T112.setTop (mkF m 187 #[.val (.long p1), .second, .val (.long p2), .second, .val (.long p3), .second, .val (.long p4), .second, .val (.long p5), .second, .val (.int p6), .val (.int (0 : Int32)), .val (.int (0 : Int32)), .val (.ref b103), .val (.int (3 : Int32)), .val (.long p2), .second] [])) _
        refine XS.aload X112.here hx rfl (hb hby at_187) rfl rfl ?_
        refine st113.trans ?_
        refine XS.lload X113.here hx rfl (hb hby at_192) rfl ?_
        refine XS.lcmp X113.here hx rfl (hb hby at_194) rfl ?_
        show Steps _ _ _ (T113.setTop (mkF m 195 #[.val (.long p1), .second, .val (.long p2), .second, .val (.long p3), .second, .val (.long p4), .second, .val (.long p5), .second, .val (.int p6), .val (.int (0 : Int32)), .val (.int (0 : Int32)), .val (.ref b103), .val (.int (3 : Int32)), .val (.long p2), .second] [(.int (lcmpW p2 p2))])) _
        refine XS.ifNo X113.here hx rfl (hb hby at_195) rfl ((if0 _ _).trans (teq ((lw_eq _ _).mpr rfl)).2) ?_
        refine XS.iconst X113.here hx rfl (hb hby at_198) ?_
        refine XS.goto X113.here hx rfl (pc0 := 199) (pc' := 203) rfl (hb hby at_199) (by decide) (by decide) ?_
        show Steps _ _ _ (T113.setTop (mkF m 203 #[.val (.long p1), .second, .val (.long p2), .second, .val (.long p3), .second, .val (.long p4), .second, .val (.long p5), .second, .val (.int p6), .val (.int (0 : Int32)), .val (.int (0 : Int32)), .val (.ref b103), .val (.int (3 : Int32)), .val (.long p2), .second] [(.int (1 : Int32))])) _
        exact retN X113 hx (t := .boolean) Bd.returns (by simp) (hb hby at_203) hr
      · show Qown_law Z p1 p2 p3 p4 p5 p6 h0 n0 _ T113.heap _
        rw [e113]
        exact ⟨rfl, N113⟩
    · skip
      rw [hs110] at pre109
      obtain ⟨cq114, kq114, q114a, q114b, q114c⟩ := isOf hZ rfl hS108.2.2.2.1
      obtain ⟨_, _, ⟨T114, L114, k114, n114⟩, -, X114, ⟨Lc114, hQ114, l114, y114, z114⟩, st114⟩ := X108.virtualBack hx (y := own_m4) (z := own_m4) hown (mvT hZ (own_w25 hw)) (mvT hZ (own_w26 hw)) (notFace_of_selects (args := #[]) (mvT hZ (own_w28 hw))) (mvT hZ (own_w28 hw)) (mvT hZ (own_w27 hw)) (by decide) (backOf (W := 0) (own_rem440 l Z a0 hw [] b103 fr108 ti108 kf108 kt108 p1 p2 p3 p4 T108.heap n0 hS108.1 gx hS108) hZ (own_w29 hw) (own_w2 hw) (by decide) (by decide)) q114a q114c (g := (mkF m 67 #[.val (.long p1), .second, .val (.long p2), .second, .val (.long p3), .second, .val (.long p4), .second, .val (.long p5), .second, .val (.int p6), .val (.int (1 : Int32)), .val (.int (0 : Int32)), .val (.ref b103), .unset, .unset, .unset] [(.ref b103)])) rfl (by rw [hml]; rfl) (Steps.refl _) (argsL := []) (rest := []) (lenOf own_pd1 rfl) rfl (by show 2 * 0 + _ ≤ _; exact Nat.le_of_eq rfl) (hb hby at_67) (fun _ _ => ⟨rfl, rfl, (by decide : 3 + 0 ≤ _), (by decide : 12 + 0 ≤ _)⟩)
      dsimp only [Pt.U, Pt.locs, Pt.cells, Pt.slots] at X114 l114 y114 z114 st114 hQ114
      subst l114 y114 z114
      obtain ⟨rfl, N114q, hG114⟩ := hQ114
      have N114 := Fr.app N108 N114q
      obtain ⟨fr114, ti114, kf114, kt114, hS114⟩ := hG114
      obtain ⟨cq115, kq115, q115a, q115b, q115c⟩ := isOf hZ rfl hS114.2.2.2.1
      obtain ⟨_, _, ⟨T115, L115, k115, n115⟩, -, X115, ⟨Lc115, hQ115, l115, y115, z115⟩, st115⟩ := X114.virtualBack hx (y := own_m4) (z := own_m4) hown (mvT hZ (own_w25 hw)) (mvT hZ (own_w26 hw)) (notFace_of_selects (args := #[]) (mvT hZ (own_w28 hw))) (mvT hZ (own_w28 hw)) (mvT hZ (own_w27 hw)) (by decide) (backOf (W := 0) (own_rem431 l Z a0 hw [] b103 fr114 ti114 kf114 kt114 p1 p2 p3 p4 T114.heap n0 hS114.1 gx hS114) hZ (own_w29 hw) (own_w2 hw) (by decide) (by decide)) q115a q115c (g := (mkF m 107 #[.val (.long p1), .second, .val (.long p2), .second, .val (.long p3), .second, .val (.long p4), .second, .val (.long p5), .second, .val (.int p6), .val (.int (1 : Int32)), .val (.int (0 : Int32)), .val (.ref b103), .unset, .unset, .unset] [(.ref b103)])) rfl (by rw [hml]; rfl) (Steps.refl _) (argsL := []) (rest := []) (lenOf own_pd1 rfl) rfl (by show 2 * 0 + _ ≤ _; exact Nat.le_of_eq rfl) (hb hby at_107) (fun _ _ => ⟨rfl, rfl, (by decide : 3 + 0 ≤ _), (by decide : 12 + 0 ≤ _)⟩)
      dsimp only [Pt.U, Pt.locs, Pt.cells, Pt.slots] at X115 l115 y115 z115 st115 hQ115
      subst l115 y115 z115
      obtain ⟨rfl, N115q, hG115⟩ := hQ115
      have N115 := Fr.app N114 N115q
      obtain ⟨fr115, ti115, kf115, kt115, hS115⟩ := hG115
      obtain ⟨cq116, kq116, q116a, q116b, q116c⟩ := isOf hZ rfl hS115.2.2.2.1
      obtain ⟨_, _, ⟨T116, L116, k116, n116⟩, -, X116, ⟨Lc116, hQ116, l116, y116, z116⟩, st116⟩ := X115.virtualBack hx (y := own_m5) (z := own_m5) hown (mvT hZ (own_w30 hw)) (mvT hZ (own_w31 hw)) (notFace_of_selects (args := #[]) (mvT hZ (own_w33 hw))) (mvT hZ (own_w33 hw)) (mvT hZ (own_w32 hw)) (by decide) (backOf (W := 0) (own_size2 l Z a0 hw [] b103 T115.heap n0 hS115.1 hS115.2.2.2.2.2.2.1) hZ (own_w34 hw) (own_w2 hw) (by decide) (by decide)) q116a q116c (g := (mkF m 129 #[.val (.long p1), .second, .val (.long p2), .second, .val (.long p3), .second, .val (.long p4), .second, .val (.long p5), .second, .val (.int p6), .val (.int (1 : Int32)), .val (.int (0 : Int32)), .val (.ref b103), .val (.int (2 : Int32)), .unset, .unset] [(.ref b103)])) rfl (by rw [hml]; rfl) (Steps.refl _) (argsL := []) (rest := []) (lenOf own_pd3 rfl) rfl (by show 2 * 0 + _ ≤ _; exact Nat.le_of_eq rfl) (hb hby at_129) (fun _ _ => ⟨rfl, rfl, (by decide : 3 + 0 ≤ _), (by decide : 12 + 0 ≤ _)⟩)
      dsimp only [Pt.U, Pt.locs, Pt.cells, Pt.slots] at X116 l116 y116 z116 st116 hQ116
      subst l116 y116 z116
      obtain ⟨rfl, N116q, e116⟩ := hQ116
      have N116 := Fr.app N115 N116q
      obtain ⟨cq117, kq117, q117a, q117b, q117c⟩ := isOf hZ e116 hS115.2.2.2.1
      obtain ⟨_, _, ⟨T117, L117, k117, n117⟩, -, X117, ⟨Lc117, hQ117, l117, y117, z117⟩, st117⟩ := X116.virtualBack hx (y := own_m6) (z := own_m6) hown (mvT hZ (own_w35 hw)) (mvT hZ (own_w36 hw)) (notFace_of_selects (args := #[]) (mvT hZ (own_w38 hw))) (mvT hZ (own_w38 hw)) (mvT hZ (own_w37 hw)) (by decide) (backOf (W := 0) (own_fq42 l Z a0 hw [] b103 ti115 kt115 p1 p2 p3 p4 T115.heap n0 hS115.1 hS115.2.2.2.2.2.1 hS115.2.2.2.2.2.2.2.1 hS115.2.2.2.2.2.2.2.2.2.1) hZ (own_w39 hw) (own_w2 hw) (by decide) (by decide)) q117a q117c (g := (mkF m 189 #[.val (.long p1), .second, .val (.long p2), .second, .val (.long p3), .second, .val (.long p4), .second, .val (.long p5), .second, .val (.int p6), .val (.int (1 : Int32)), .val (.int (0 : Int32)), .val (.ref b103), .val (.int (2 : Int32)), .val (.long p3), .second] [(.ref b103)])) rfl (by rw [hml]; rfl) (Steps.refl _) (argsL := []) (rest := []) (lenOf own_pd4 rfl) rfl (by show 2 * 0 + _ ≤ _; exact Nat.le_of_eq rfl) (hb hby at_189) (fun _ _ => ⟨rfl, e116, (by decide : 3 + 0 ≤ _), (by decide : 12 + 0 ≤ _)⟩)
      dsimp only [Pt.U, Pt.locs, Pt.cells, Pt.slots] at X117 l117 y117 z117 st117 hQ117
      subst l117 y117 z117
      obtain ⟨rfl, N117q, e117⟩ := hQ117
      have N117 := Fr.app N116 N117q
      obtain ⟨fs, hr, hrun, hended, hW, hsame⟩ := X117.leave (v := some (.int (1 : Int32))) (fun h => by rw [Bd.returns] at h; cases h)
      refine ⟨_, _, pre109 _ ?_, hrun, hended, _, _, rfl, ?_, ⟨_, rfl⟩, hW, hsame.mono (by decide) (by decide)⟩
      · show Steps _ _ _ (T108.setTop (mkF m 59 #[.val (.long p1), .second, .val (.long p2), .second, .val (.long p3), .second, .val (.long p4), .second, .val (.long p5), .second, .val (.int p6), .val (.int (1 : Int32)), .val (.int (0 : Int32)), .val (.ref b103), .unset, .unset, .unset] [])) _
        refine XS.iload X108.here hx rfl (hb hby at_59) rfl ?_
        refine XS.iconst X108.here hx rfl (hb hby at_61) ?_
        refine XS.icmpNo X108.here hx rfl (hb hby at_62) rfl (flt (by decide : ¬ ((1 : Int32) < (1 : Int32)))).1 ?_
        refine XS.aload X108.here hx rfl (hb hby at_65) rfl rfl ?_
        show Steps _ _ _ (T108.setTop (mkF m 67 #[.val (.long p1), .second, .val (.long p2), .second, .val (.long p3), .second, .val (.long p4), .second, .val (.long p5), .second, .val (.int p6), .val (.int (1 : Int32)), .val (.int (0 : Int32)), .val (.ref b103), .unset, .unset, .unset] [(.ref b103)])) _
        refine st114.trans ?_
        refine XS.iload X114.here hx rfl (hb hby at_70) rfl ?_
        refine XS.iconst X114.here hx rfl (hb hby at_72) ?_
        refine XS.icmpYes X114.here hx rfl (pc0 := 73) (pc' := 81) rfl (hb hby at_73) rfl (tlt (by decide : (1 : Int32) < (2 : Int32))).1 (by decide) (by decide) ?_
        show Steps _ _ _ (T114.setTop (mkF m 81 #[.val (.long p1), .second, .val (.long p2), .second, .val (.long p3), .second, .val (.long p4), .second, .val (.long p5), .second, .val (.int p6), .val (.int (1 : Int32)), .val (.int (0 : Int32)), .val (.ref b103), .unset, .unset, .unset] [])) _
        refine XS.iload X114.here hx rfl (hb hby at_81) rfl ?_
        refine XS.iconst X114.here hx rfl (hb hby at_83) ?_
        refine XS.icmpYes X114.here hx rfl (pc0 := 84) (pc' := 92) rfl (hb hby at_84) rfl (tlt (by decide : (1 : Int32) < (3 : Int32))).1 (by decide) (by decide) ?_
        refine XS.iload X114.here hx rfl (hb hby at_92) rfl ?_
        show Steps _ _ _ (T114.setTop (mkF m 94 #[.val (.long p1), .second, .val (.long p2), .second, .val (.long p3), .second, .val (.long p4), .second, .val (.long p5), .second, .val (.int p6), .val (.int (1 : Int32)), .val (.int (0 : Int32)), .val (.ref b103), .unset, .unset, .unset] [(.int (0 : Int32))])) _
        refine XS.ifYes X114.here hx rfl (pc0 := 94) (pc' := 105) rfl (hb hby at_94) rfl ((if0 _ _).trans (teq (by decide : (0 : Int32) = (0 : Int32))).1) (by decide) (by decide) ?_
        refine XS.aload X114.here hx rfl (hb hby at_105) rfl rfl ?_
        refine st115.trans ?_
        refine XS.iconst X115.here hx rfl (hb hby at_110) ?_
        show Steps _ _ _ (T115.setTop (mkF m 111 #[.val (.long p1), .second, .val (.long p2), .second, .val (.long p3), .second, .val (.long p4), .second, .val (.long p5), .second, .val (.int p6), .val (.int (1 : Int32)), .val (.int (0 : Int32)), .val (.ref b103), .unset, .unset, .unset] [(.int (3 : Int32))])) _
        refine XS.iload X115.here hx rfl (hb hby at_111) rfl ?_
        refine XS.isub X115.here hx rfl (hb hby at_113) rfl ?_
        refine XS.iload X115.here hx rfl (hb hby at_114) rfl ?_
        refine XS.ifYes X115.here hx rfl (pc0 := 116) (pc' := 123) rfl (hb hby at_116) rfl ((if0 _ _).trans (teq (by decide : (0 : Int32) = (0 : Int32))).1) (by decide) (by decide) ?_
        show Steps _ _ _ (T115.setTop (mkF m 123 #[.val (.long p1), .second, .val (.long p2), .second, .val (.long p3), .second, .val (.long p4), .second, .val (.long p5), .second, .val (.int p6), .val (.int (1 : Int32)), .val (.int (0 : Int32)), .val (.ref b103), .unset, .unset, .unset] [(.int (2 : Int32))])) _
        refine XS.iconst X115.here hx rfl (hb hby at_123) ?_
        refine XS.iadd X115.here hx rfl (hb hby at_124) rfl ?_
        refine XS.istore X115.here hx rfl (hb hby at_125) rfl (l' := #[.val (.long p1), .second, .val (.long p2), .second, .val (.long p3), .second, .val (.long p4), .second, .val (.long p5), .second, .val (.int p6), .val (.int (1 : Int32)), .val (.int (0 : Int32)), .val (.ref b103), .val (.int (2 : Int32)), .unset, .unset]) rfl ?_
        refine XS.aload X115.here hx rfl (hb hby at_127) rfl rfl ?_
        show Steps _ _ _ (T115.setTop (mkF m 129 #[.val (.long p1), .second, .val (.long p2), .second, .val (.long p3), .second, .val (.long p4), .second, .val (.long p5), .second, .val (.int p6), .val (.int (1 : Int32)), .val (.int (0 : Int32)), .val (.ref b103), .val (.int (2 : Int32)), .unset, .unset] [(.ref b103)])) _
        refine st116.trans ?_
        refine XS.iload X116.here hx rfl (hb hby at_132) rfl ?_
        refine XS.icmpYes X116.here hx rfl (pc0 := 134) (pc' := 139) rfl (hb hby at_134) rfl (teq (by decide : (2 : Int32) = (2 : Int32))).1 (by decide) (by decide) ?_
        refine XS.iload X116.here hx rfl (hb hby at_139) rfl ?_
        show Steps _ _ _ (T116.setTop (mkF m 141 #[.val (.long p1), .second, .val (.long p2), .second, .val (.long p3), .second, .val (.long p4), .second, .val (.long p5), .second, .val (.int p6), .val (.int (1 : Int32)), .val (.int (0 : Int32)), .val (.ref b103), .val (.int (2 : Int32)), .unset, .unset] [(.int (2 : Int32))])) _
        refine XS.ifYes X116.here hx rfl (pc0 := 141) (pc' := 146) rfl (hb hby at_141) rfl ((if0 _ _).trans (feq (by decide : ¬ ((2 : Int32) = (0 : Int32)))).2) (by decide) (by decide) ?_
        refine XS.iload X116.here hx rfl (hb hby at_146) rfl ?_
        refine XS.ifYes X116.here hx rfl (pc0 := 148) (pc' := 157) rfl (hb hby at_148) rfl ((if0 _ _).trans (feq (by decide : ¬ ((1 : Int32) = (0 : Int32)))).2) (by decide) (by decide) ?_
        refine XS.iload X116.here hx rfl (hb hby at_157) rfl ?_
        show Steps _ _ _ (T116.setTop (mkF m 159 #[.val (.long p1), .second, .val (.long p2), .second, .val (.long p3), .second, .val (.long p4), .second, .val (.long p5), .second, .val (.int p6), .val (.int (1 : Int32)), .val (.int (0 : Int32)), .val (.ref b103), .val (.int (2 : Int32)), .unset, .unset] [(.int (1 : Int32))])) _
        refine XS.iconst X116.here hx rfl (hb hby at_159) ?_
        refine XS.icmpNo X116.here hx rfl (hb hby at_160) rfl (teq (by decide : (1 : Int32) = (1 : Int32))).2 ?_
        refine XS.lload X116.here hx rfl (hb hby at_163) rfl ?_
        refine XS.lstore X116.here hx rfl (hb hby at_165) rfl (l' := #[.val (.long p1), .second, .val (.long p2), .second, .val (.long p3), .second, .val (.long p4), .second, .val (.long p5), .second, .val (.int p6), .val (.int (1 : Int32)), .val (.int (0 : Int32)), .val (.ref b103), .val (.int (2 : Int32)), .val (.long p3), .second]) rfl ?_
        show Steps _ _ _ (T116.setTop (mkF m 167 #[.val (.long p1), .second, .val (.long p2), .second, .val (.long p3), .second, .val (.long p4), .second, .val (.long p5), .second, .val (.int p6), .val (.int (1 : Int32)), .val (.int (0 : Int32)), .val (.ref b103), .val (.int (2 : Int32)), .val (.long p3), .second] [])) _
        refine XS.goto X116.here hx rfl (pc0 := 167) (pc' := 187) rfl (hb hby at_167) (by decide) (by decide) ?_
        refine XS.aload X116.here hx rfl (hb hby at_187) rfl rfl ?_
        refine st117.trans ?_
        refine XS.lload X117.here hx rfl (hb hby at_192) rfl ?_
        show Steps _ _ _ (T117.setTop (mkF m 194 #[.val (.long p1), .second, .val (.long p2), .second, .val (.long p3), .second, .val (.long p4), .second, .val (.long p5), .second, .val (.int p6), .val (.int (1 : Int32)), .val (.int (0 : Int32)), .val (.ref b103), .val (.int (2 : Int32)), .val (.long p3), .second] [(.long p3), (.long p3)])) _
        refine XS.lcmp X117.here hx rfl (hb hby at_194) rfl ?_
        refine XS.ifNo X117.here hx rfl (hb hby at_195) rfl ((if0 _ _).trans (teq ((lw_eq _ _).mpr rfl)).2) ?_
        refine XS.iconst X117.here hx rfl (hb hby at_198) ?_
        refine XS.goto X117.here hx rfl (pc0 := 199) (pc' := 203) rfl (hb hby at_199) (by decide) (by decide) ?_
        show Steps _ _ _ (T117.setTop (mkF m 203 #[.val (.long p1), .second, .val (.long p2), .second, .val (.long p3), .second, .val (.long p4), .second, .val (.long p5), .second, .val (.int p6), .val (.int (1 : Int32)), .val (.int (0 : Int32)), .val (.ref b103), .val (.int (2 : Int32)), .val (.long p3), .second] [(.int (1 : Int32))])) _
        exact retN X117 hx (t := .boolean) Bd.returns (by simp) (hb hby at_203) hr
      · show Qown_law Z p1 p2 p3 p4 p5 p6 h0 n0 _ T117.heap _
        rw [e117]
        exact ⟨rfl, N117⟩
    · skip
      rw [hs110] at pre109
      obtain ⟨cq118, kq118, q118a, q118b, q118c⟩ := isOf hZ rfl hS108.2.2.2.1
      obtain ⟨_, _, ⟨T118, L118, k118, n118⟩, -, X118, ⟨Lc118, hQ118, l118, y118, z118⟩, st118⟩ := X108.virtualBack hx (y := own_m4) (z := own_m4) hown (mvT hZ (own_w25 hw)) (mvT hZ (own_w26 hw)) (notFace_of_selects (args := #[]) (mvT hZ (own_w28 hw))) (mvT hZ (own_w28 hw)) (mvT hZ (own_w27 hw)) (by decide) (backOf (W := 0) (own_rem440 l Z a0 hw [] b103 fr108 ti108 kf108 kt108 p1 p2 p3 p4 T108.heap n0 hS108.1 gx hS108) hZ (own_w29 hw) (own_w2 hw) (by decide) (by decide)) q118a q118c (g := (mkF m 67 #[.val (.long p1), .second, .val (.long p2), .second, .val (.long p3), .second, .val (.long p4), .second, .val (.long p5), .second, .val (.int p6), .val (.int (2 : Int32)), .val (.int (0 : Int32)), .val (.ref b103), .unset, .unset, .unset] [(.ref b103)])) rfl (by rw [hml]; rfl) (Steps.refl _) (argsL := []) (rest := []) (lenOf own_pd1 rfl) rfl (by show 2 * 0 + _ ≤ _; exact Nat.le_of_eq rfl) (hb hby at_67) (fun _ _ => ⟨rfl, rfl, (by decide : 3 + 0 ≤ _), (by decide : 12 + 0 ≤ _)⟩)
      dsimp only [Pt.U, Pt.locs, Pt.cells, Pt.slots] at X118 l118 y118 z118 st118 hQ118
      subst l118 y118 z118
      obtain ⟨rfl, N118q, hG118⟩ := hQ118
      have N118 := Fr.app N108 N118q
      obtain ⟨fr118, ti118, kf118, kt118, hS118⟩ := hG118
      obtain ⟨cq119, kq119, q119a, q119b, q119c⟩ := isOf hZ rfl hS118.2.2.2.1
      obtain ⟨_, _, ⟨T119, L119, k119, n119⟩, -, X119, ⟨Lc119, hQ119, l119, y119, z119⟩, st119⟩ := X118.virtualBack hx (y := own_m4) (z := own_m4) hown (mvT hZ (own_w25 hw)) (mvT hZ (own_w26 hw)) (notFace_of_selects (args := #[]) (mvT hZ (own_w28 hw))) (mvT hZ (own_w28 hw)) (mvT hZ (own_w27 hw)) (by decide) (backOf (W := 0) (own_rem431 l Z a0 hw [] b103 fr118 ti118 kf118 kt118 p1 p2 p3 p4 T118.heap n0 hS118.1 gx hS118) hZ (own_w29 hw) (own_w2 hw) (by decide) (by decide)) q119a q119c (g := (mkF m 78 #[.val (.long p1), .second, .val (.long p2), .second, .val (.long p3), .second, .val (.long p4), .second, .val (.long p5), .second, .val (.int p6), .val (.int (2 : Int32)), .val (.int (0 : Int32)), .val (.ref b103), .unset, .unset, .unset] [(.ref b103)])) rfl (by rw [hml]; rfl) (Steps.refl _) (argsL := []) (rest := []) (lenOf own_pd1 rfl) rfl (by show 2 * 0 + _ ≤ _; exact Nat.le_of_eq rfl) (hb hby at_78) (fun _ _ => ⟨rfl, rfl, (by decide : 3 + 0 ≤ _), (by decide : 12 + 0 ≤ _)⟩)
      dsimp only [Pt.U, Pt.locs, Pt.cells, Pt.slots] at X119 l119 y119 z119 st119 hQ119
      subst l119 y119 z119
      obtain ⟨rfl, N119q, hG119⟩ := hQ119
      have N119 := Fr.app N118 N119q
      obtain ⟨fr119, ti119, kf119, kt119, hS119⟩ := hG119
      obtain ⟨cq120, kq120, q120a, q120b, q120c⟩ := isOf hZ rfl hS119.2.2.2.1
      obtain ⟨_, _, ⟨T120, L120, k120, n120⟩, -, X120, ⟨Lc120, hQ120, l120, y120, z120⟩, st120⟩ := X119.virtualBack hx (y := own_m4) (z := own_m4) hown (mvT hZ (own_w25 hw)) (mvT hZ (own_w26 hw)) (notFace_of_selects (args := #[]) (mvT hZ (own_w28 hw))) (mvT hZ (own_w28 hw)) (mvT hZ (own_w27 hw)) (by decide) (backOf (W := 0) (own_rem422 l Z a0 hw [] b103 fr119 ti119 kf119 kt119 p1 p2 p3 p4 T119.heap n0 hS119.1 gx hS119) hZ (own_w29 hw) (own_w2 hw) (by decide) (by decide)) q120a q120c (g := (mkF m 107 #[.val (.long p1), .second, .val (.long p2), .second, .val (.long p3), .second, .val (.long p4), .second, .val (.long p5), .second, .val (.int p6), .val (.int (2 : Int32)), .val (.int (0 : Int32)), .val (.ref b103), .unset, .unset, .unset] [(.ref b103)])) rfl (by rw [hml]; rfl) (Steps.refl _) (argsL := []) (rest := []) (lenOf own_pd1 rfl) rfl (by show 2 * 0 + _ ≤ _; exact Nat.le_of_eq rfl) (hb hby at_107) (fun _ _ => ⟨rfl, rfl, (by decide : 3 + 0 ≤ _), (by decide : 12 + 0 ≤ _)⟩)
      dsimp only [Pt.U, Pt.locs, Pt.cells, Pt.slots] at X120 l120 y120 z120 st120 hQ120
      subst l120 y120 z120
      obtain ⟨rfl, N120q, hG120⟩ := hQ120
      have N120 := Fr.app N119 N120q
      obtain ⟨fr120, ti120, kf120, kt120, hS120⟩ := hG120
      obtain ⟨cq121, kq121, q121a, q121b, q121c⟩ := isOf hZ rfl hS120.2.2.2.1
      obtain ⟨_, _, ⟨T121, L121, k121, n121⟩, -, X121, ⟨Lc121, hQ121, l121, y121, z121⟩, st121⟩ := X120.virtualBack hx (y := own_m5) (z := own_m5) hown (mvT hZ (own_w30 hw)) (mvT hZ (own_w31 hw)) (notFace_of_selects (args := #[]) (mvT hZ (own_w33 hw))) (mvT hZ (own_w33 hw)) (mvT hZ (own_w32 hw)) (by decide) (backOf (W := 0) (own_size1 l Z a0 hw [] b103 T120.heap n0 hS120.1 hS120.2.2.2.2.2.2.1) hZ (own_w34 hw) (own_w2 hw) (by decide) (by decide)) q121a q121c (g := (mkF m 129 #[.val (.long p1), .second, .val (.long p2), .second, .val (.long p3), .second, .val (.long p4), .second, .val (.long p5), .second, .val (.int p6), .val (.int (2 : Int32)), .val (.int (0 : Int32)), .val (.ref b103), .val (.int (1 : Int32)), .unset, .unset] [(.ref b103)])) rfl (by rw [hml]; rfl) (Steps.refl _) (argsL := []) (rest := []) (lenOf own_pd3 rfl) rfl (by show 2 * 0 + _ ≤ _; exact Nat.le_of_eq rfl) (hb hby at_129) (fun _ _ => ⟨rfl, rfl, (by decide : 3 + 0 ≤ _), (by decide : 12 + 0 ≤ _)⟩)
      dsimp only [Pt.U, Pt.locs, Pt.cells, Pt.slots] at X121 l121 y121 z121 st121 hQ121
      subst l121 y121 z121
      obtain ⟨rfl, N121q, e121⟩ := hQ121
      have N121 := Fr.app N120 N121q
      obtain ⟨cq122, kq122, q122a, q122b, q122c⟩ := isOf hZ e121 hS120.2.2.2.1
      obtain ⟨_, _, ⟨T122, L122, k122, n122⟩, -, X122, ⟨Lc122, hQ122, l122, y122, z122⟩, st122⟩ := X121.virtualBack hx (y := own_m6) (z := own_m6) hown (mvT hZ (own_w35 hw)) (mvT hZ (own_w36 hw)) (notFace_of_selects (args := #[]) (mvT hZ (own_w38 hw))) (mvT hZ (own_w38 hw)) (mvT hZ (own_w37 hw)) (by decide) (backOf (W := 0) (own_fq43 l Z a0 hw [] b103 ti120 kt120 p1 p2 p3 p4 T120.heap n0 hS120.1 hS120.2.2.2.2.2.1 hS120.2.2.2.2.2.2.2.1 hS120.2.2.2.2.2.2.2.2.2.1) hZ (own_w39 hw) (own_w2 hw) (by decide) (by decide)) q122a q122c (g := (mkF m 189 #[.val (.long p1), .second, .val (.long p2), .second, .val (.long p3), .second, .val (.long p4), .second, .val (.long p5), .second, .val (.int p6), .val (.int (2 : Int32)), .val (.int (0 : Int32)), .val (.ref b103), .val (.int (1 : Int32)), .val (.long p4), .second] [(.ref b103)])) rfl (by rw [hml]; rfl) (Steps.refl _) (argsL := []) (rest := []) (lenOf own_pd4 rfl) rfl (by show 2 * 0 + _ ≤ _; exact Nat.le_of_eq rfl) (hb hby at_189) (fun _ _ => ⟨rfl, e121, (by decide : 3 + 0 ≤ _), (by decide : 12 + 0 ≤ _)⟩)
      dsimp only [Pt.U, Pt.locs, Pt.cells, Pt.slots] at X122 l122 y122 z122 st122 hQ122
      subst l122 y122 z122
      obtain ⟨rfl, N122q, e122⟩ := hQ122
      have N122 := Fr.app N121 N122q
      obtain ⟨fs, hr, hrun, hended, hW, hsame⟩ := X122.leave (v := some (.int (1 : Int32))) (fun h => by rw [Bd.returns] at h; cases h)
      refine ⟨_, _, pre109 _ ?_, hrun, hended, _, _, rfl, ?_, ⟨_, rfl⟩, hW, hsame.mono (by decide) (by decide)⟩
      · show Steps _ _ _ (T108.setTop (mkF m 59 #[.val (.long p1), .second, .val (.long p2), .second, .val (.long p3), .second, .val (.long p4), .second, .val (.long p5), .second, .val (.int p6), .val (.int (2 : Int32)), .val (.int (0 : Int32)), .val (.ref b103), .unset, .unset, .unset] [])) _
        refine XS.iload X108.here hx rfl (hb hby at_59) rfl ?_
        refine XS.iconst X108.here hx rfl (hb hby at_61) ?_
        refine XS.icmpNo X108.here hx rfl (hb hby at_62) rfl (flt (by decide : ¬ ((2 : Int32) < (1 : Int32)))).1 ?_
        refine XS.aload X108.here hx rfl (hb hby at_65) rfl rfl ?_
        show Steps _ _ _ (T108.setTop (mkF m 67 #[.val (.long p1), .second, .val (.long p2), .second, .val (.long p3), .second, .val (.long p4), .second, .val (.long p5), .second, .val (.int p6), .val (.int (2 : Int32)), .val (.int (0 : Int32)), .val (.ref b103), .unset, .unset, .unset] [(.ref b103)])) _
        refine st118.trans ?_
        refine XS.iload X118.here hx rfl (hb hby at_70) rfl ?_
        refine XS.iconst X118.here hx rfl (hb hby at_72) ?_
        refine XS.icmpNo X118.here hx rfl (hb hby at_73) rfl (flt (by decide : ¬ ((2 : Int32) < (2 : Int32)))).1 ?_
        show Steps _ _ _ (T118.setTop (mkF m 76 #[.val (.long p1), .second, .val (.long p2), .second, .val (.long p3), .second, .val (.long p4), .second, .val (.long p5), .second, .val (.int p6), .val (.int (2 : Int32)), .val (.int (0 : Int32)), .val (.ref b103), .unset, .unset, .unset] [])) _
        refine XS.aload X118.here hx rfl (hb hby at_76) rfl rfl ?_
        refine st119.trans ?_
        refine XS.iload X119.here hx rfl (hb hby at_81) rfl ?_
        refine XS.iconst X119.here hx rfl (hb hby at_83) ?_
        show Steps _ _ _ (T119.setTop (mkF m 84 #[.val (.long p1), .second, .val (.long p2), .second, .val (.long p3), .second, .val (.long p4), .second, .val (.long p5), .second, .val (.int p6), .val (.int (2 : Int32)), .val (.int (0 : Int32)), .val (.ref b103), .unset, .unset, .unset] [(.int (3 : Int32)), (.int (2 : Int32))])) _
        refine XS.icmpYes X119.here hx rfl (pc0 := 84) (pc' := 92) rfl (hb hby at_84) rfl (tlt (by decide : (2 : Int32) < (3 : Int32))).1 (by decide) (by decide) ?_
        refine XS.iload X119.here hx rfl (hb hby at_92) rfl ?_
        refine XS.ifYes X119.here hx rfl (pc0 := 94) (pc' := 105) rfl (hb hby at_94) rfl ((if0 _ _).trans (teq (by decide : (0 : Int32) = (0 : Int32))).1) (by decide) (by decide) ?_
        refine XS.aload X119.here hx rfl (hb hby at_105) rfl rfl ?_
        show Steps _ _ _ (T119.setTop (mkF m 107 #[.val (.long p1), .second, .val (.long p2), .second, .val (.long p3), .second, .val (.long p4), .second, .val (.long p5), .second, .val (.int p6), .val (.int (2 : Int32)), .val (.int (0 : Int32)), .val (.ref b103), .unset, .unset, .unset] [(.ref b103)])) _
        refine st120.trans ?_
        refine XS.iconst X120.here hx rfl (hb hby at_110) ?_
        refine XS.iload X120.here hx rfl (hb hby at_111) rfl ?_
        refine XS.isub X120.here hx rfl (hb hby at_113) rfl ?_
        show Steps _ _ _ (T120.setTop (mkF m 114 #[.val (.long p1), .second, .val (.long p2), .second, .val (.long p3), .second, .val (.long p4), .second, .val (.long p5), .second, .val (.int p6), .val (.int (2 : Int32)), .val (.int (0 : Int32)), .val (.ref b103), .unset, .unset, .unset] [(.int (1 : Int32))])) _
        refine XS.iload X120.here hx rfl (hb hby at_114) rfl ?_
        refine XS.ifYes X120.here hx rfl (pc0 := 116) (pc' := 123) rfl (hb hby at_116) rfl ((if0 _ _).trans (teq (by decide : (0 : Int32) = (0 : Int32))).1) (by decide) (by decide) ?_
        refine XS.iconst X120.here hx rfl (hb hby at_123) ?_
        refine XS.iadd X120.here hx rfl (hb hby at_124) rfl ?_
        show Steps _ _ _ (T120.setTop (mkF m 125 #[.val (.long p1), .second, .val (.long p2), .second, .val (.long p3), .second, .val (.long p4), .second, .val (.long p5), .second, .val (.int p6), .val (.int (2 : Int32)), .val (.int (0 : Int32)), .val (.ref b103), .unset, .unset, .unset] [(.int (1 : Int32))])) _
        refine XS.istore X120.here hx rfl (hb hby at_125) rfl (l' := #[.val (.long p1), .second, .val (.long p2), .second, .val (.long p3), .second, .val (.long p4), .second, .val (.long p5), .second, .val (.int p6), .val (.int (2 : Int32)), .val (.int (0 : Int32)), .val (.ref b103), .val (.int (1 : Int32)), .unset, .unset]) rfl ?_
        refine XS.aload X120.here hx rfl (hb hby at_127) rfl rfl ?_
        refine st121.trans ?_
        refine XS.iload X121.here hx rfl (hb hby at_132) rfl ?_
        show Steps _ _ _ (T121.setTop (mkF m 134 #[.val (.long p1), .second, .val (.long p2), .second, .val (.long p3), .second, .val (.long p4), .second, .val (.long p5), .second, .val (.int p6), .val (.int (2 : Int32)), .val (.int (0 : Int32)), .val (.ref b103), .val (.int (1 : Int32)), .unset, .unset] [(.int (1 : Int32)), (.int (1 : Int32))])) _
        refine XS.icmpYes X121.here hx rfl (pc0 := 134) (pc' := 139) rfl (hb hby at_134) rfl (teq (by decide : (1 : Int32) = (1 : Int32))).1 (by decide) (by decide) ?_
        refine XS.iload X121.here hx rfl (hb hby at_139) rfl ?_
        refine XS.ifYes X121.here hx rfl (pc0 := 141) (pc' := 146) rfl (hb hby at_141) rfl ((if0 _ _).trans (feq (by decide : ¬ ((1 : Int32) = (0 : Int32)))).2) (by decide) (by decide) ?_
        refine XS.iload X121.here hx rfl (hb hby at_146) rfl ?_
        show Steps _ _ _ (T121.setTop (mkF m 148 #[.val (.long p1), .second, .val (.long p2), .second, .val (.long p3), .second, .val (.long p4), .second, .val (.long p5), .second, .val (.int p6), .val (.int (2 : Int32)), .val (.int (0 : Int32)), .val (.ref b103), .val (.int (1 : Int32)), .unset, .unset] [(.int (2 : Int32))])) _
        refine XS.ifYes X121.here hx rfl (pc0 := 148) (pc' := 157) rfl (hb hby at_148) rfl ((if0 _ _).trans (feq (by decide : ¬ ((2 : Int32) = (0 : Int32)))).2) (by decide) (by decide) ?_
        refine XS.iload X121.here hx rfl (hb hby at_157) rfl ?_
        refine XS.iconst X121.here hx rfl (hb hby at_159) ?_
        refine XS.icmpYes X121.here hx rfl (pc0 := 160) (pc' := 170) rfl (hb hby at_160) rfl (feq (by decide : ¬ ((2 : Int32) = (1 : Int32)))).2 (by decide) (by decide) ?_
        show Steps _ _ _ (T121.setTop (mkF m 170 #[.val (.long p1), .second, .val (.long p2), .second, .val (.long p3), .second, .val (.long p4), .second, .val (.long p5), .second, .val (.int p6), .val (.int (2 : Int32)), .val (.int (0 : Int32)), .val (.ref b103), .val (.int (1 : Int32)), .unset, .unset] [])) _
        refine XS.iload X121.here hx rfl (hb hby at_170) rfl ?_
        refine XS.iconst X121.here hx rfl (hb hby at_172) ?_
        refine XS.icmpNo X121.here hx rfl (hb hby at_173) rfl (teq (by decide : (2 : Int32) = (2 : Int32))).2 ?_
        refine XS.lload X121.here hx rfl (hb hby at_176) rfl ?_
        show Steps _ _ _ (T121.setTop (mkF m 178 #[.val (.long p1), .second, .val (.long p2), .second, .val (.long p3), .second, .val (.long p4), .second, .val (.long p5), .second, .val (.int p6), .val (.int (2 : Int32)), .val (.int (0 : Int32)), .val (.ref b103), .val (.int (1 : Int32)), .unset, .unset] [(.long p4)])) _
        refine XS.lstore X121.here hx rfl (hb hby at_178) rfl (l' := #[.val (.long p1), .second, .val (.long p2), .second, .val (.long p3), .second, .val (.long p4), .second, .val (.long p5), .second, .val (.int p6), .val (.int (2 : Int32)), .val (.int (0 : Int32)), .val (.ref b103), .val (.int (1 : Int32)), .val (.long p4), .second]) rfl ?_
        refine XS.goto X121.here hx rfl (pc0 := 180) (pc' := 187) rfl (hb hby at_180) (by decide) (by decide) ?_
        refine XS.aload X121.here hx rfl (hb hby at_187) rfl rfl ?_
        refine st122.trans ?_
        show Steps _ _ _ (T122.setTop (mkF m 192 #[.val (.long p1), .second, .val (.long p2), .second, .val (.long p3), .second, .val (.long p4), .second, .val (.long p5), .second, .val (.int p6), .val (.int (2 : Int32)), .val (.int (0 : Int32)), .val (.ref b103), .val (.int (1 : Int32)), .val (.long p4), .second] [(.long p4)])) _
        refine XS.lload X122.here hx rfl (hb hby at_192) rfl ?_
        refine XS.lcmp X122.here hx rfl (hb hby at_194) rfl ?_
        refine XS.ifNo X122.here hx rfl (hb hby at_195) rfl ((if0 _ _).trans (teq ((lw_eq _ _).mpr rfl)).2) ?_
        refine XS.iconst X122.here hx rfl (hb hby at_198) ?_
        show Steps _ _ _ (T122.setTop (mkF m 199 #[.val (.long p1), .second, .val (.long p2), .second, .val (.long p3), .second, .val (.long p4), .second, .val (.long p5), .second, .val (.int p6), .val (.int (2 : Int32)), .val (.int (0 : Int32)), .val (.ref b103), .val (.int (1 : Int32)), .val (.long p4), .second] [(.int (1 : Int32))])) _
        refine XS.goto X122.here hx rfl (pc0 := 199) (pc' := 203) rfl (hb hby at_199) (by decide) (by decide) ?_
        show Steps _ _ _ (T122.setTop (mkF m 203 #[.val (.long p1), .second, .val (.long p2), .second, .val (.long p3), .second, .val (.long p4), .second, .val (.long p5), .second, .val (.int p6), .val (.int (2 : Int32)), .val (.int (0 : Int32)), .val (.ref b103), .val (.int (1 : Int32)), .val (.long p4), .second] [(.int (1 : Int32))])) _
        exact retN X122 hx (t := .boolean) Bd.returns (by simp) (hb hby at_203) hr
      · show Qown_law Z p1 p2 p3 p4 p5 p6 h0 n0 _ T122.heap _
        rw [e122]
        exact ⟨rfl, N122⟩
    · skip
      rw [hs110] at pre109
      obtain ⟨cq123, kq123, q123a, q123b, q123c⟩ := isOf hZ rfl hS108.2.2.2.1
      obtain ⟨_, _, ⟨T123, L123, k123, n123⟩, -, X123, ⟨Lc123, hQ123, l123, y123, z123⟩, st123⟩ := X108.virtualBack hx (y := own_m4) (z := own_m4) hown (mvT hZ (own_w25 hw)) (mvT hZ (own_w26 hw)) (notFace_of_selects (args := #[]) (mvT hZ (own_w28 hw))) (mvT hZ (own_w28 hw)) (mvT hZ (own_w27 hw)) (by decide) (backOf (W := 0) (own_rem440 l Z a0 hw [] b103 fr108 ti108 kf108 kt108 p1 p2 p3 p4 T108.heap n0 hS108.1 gx hS108) hZ (own_w29 hw) (own_w2 hw) (by decide) (by decide)) q123a q123c (g := (mkF m 67 #[.val (.long p1), .second, .val (.long p2), .second, .val (.long p3), .second, .val (.long p4), .second, .val (.long p5), .second, .val (.int p6), .val (.int (3 : Int32)), .val (.int (0 : Int32)), .val (.ref b103), .unset, .unset, .unset] [(.ref b103)])) rfl (by rw [hml]; rfl) (Steps.refl _) (argsL := []) (rest := []) (lenOf own_pd1 rfl) rfl (by show 2 * 0 + _ ≤ _; exact Nat.le_of_eq rfl) (hb hby at_67) (fun _ _ => ⟨rfl, rfl, (by decide : 3 + 0 ≤ _), (by decide : 12 + 0 ≤ _)⟩)
      dsimp only [Pt.U, Pt.locs, Pt.cells, Pt.slots] at X123 l123 y123 z123 st123 hQ123
      subst l123 y123 z123
      obtain ⟨rfl, N123q, hG123⟩ := hQ123
      have N123 := Fr.app N108 N123q
      obtain ⟨fr123, ti123, kf123, kt123, hS123⟩ := hG123
      obtain ⟨cq124, kq124, q124a, q124b, q124c⟩ := isOf hZ rfl hS123.2.2.2.1
      obtain ⟨_, _, ⟨T124, L124, k124, n124⟩, -, X124, ⟨Lc124, hQ124, l124, y124, z124⟩, st124⟩ := X123.virtualBack hx (y := own_m4) (z := own_m4) hown (mvT hZ (own_w25 hw)) (mvT hZ (own_w26 hw)) (notFace_of_selects (args := #[]) (mvT hZ (own_w28 hw))) (mvT hZ (own_w28 hw)) (mvT hZ (own_w27 hw)) (by decide) (backOf (W := 0) (own_rem431 l Z a0 hw [] b103 fr123 ti123 kf123 kt123 p1 p2 p3 p4 T123.heap n0 hS123.1 gx hS123) hZ (own_w29 hw) (own_w2 hw) (by decide) (by decide)) q124a q124c (g := (mkF m 78 #[.val (.long p1), .second, .val (.long p2), .second, .val (.long p3), .second, .val (.long p4), .second, .val (.long p5), .second, .val (.int p6), .val (.int (3 : Int32)), .val (.int (0 : Int32)), .val (.ref b103), .unset, .unset, .unset] [(.ref b103)])) rfl (by rw [hml]; rfl) (Steps.refl _) (argsL := []) (rest := []) (lenOf own_pd1 rfl) rfl (by show 2 * 0 + _ ≤ _; exact Nat.le_of_eq rfl) (hb hby at_78) (fun _ _ => ⟨rfl, rfl, (by decide : 3 + 0 ≤ _), (by decide : 12 + 0 ≤ _)⟩)
      dsimp only [Pt.U, Pt.locs, Pt.cells, Pt.slots] at X124 l124 y124 z124 st124 hQ124
      subst l124 y124 z124
      obtain ⟨rfl, N124q, hG124⟩ := hQ124
      have N124 := Fr.app N123 N124q
      obtain ⟨fr124, ti124, kf124, kt124, hS124⟩ := hG124
      obtain ⟨cq125, kq125, q125a, q125b, q125c⟩ := isOf hZ rfl hS124.2.2.2.1
      obtain ⟨_, _, ⟨T125, L125, k125, n125⟩, -, X125, ⟨Lc125, hQ125, l125, y125, z125⟩, st125⟩ := X124.virtualBack hx (y := own_m4) (z := own_m4) hown (mvT hZ (own_w25 hw)) (mvT hZ (own_w26 hw)) (notFace_of_selects (args := #[]) (mvT hZ (own_w28 hw))) (mvT hZ (own_w28 hw)) (mvT hZ (own_w27 hw)) (by decide) (backOf (W := 0) (own_rem422 l Z a0 hw [] b103 fr124 ti124 kf124 kt124 p1 p2 p3 p4 T124.heap n0 hS124.1 gx hS124) hZ (own_w29 hw) (own_w2 hw) (by decide) (by decide)) q125a q125c (g := (mkF m 89 #[.val (.long p1), .second, .val (.long p2), .second, .val (.long p3), .second, .val (.long p4), .second, .val (.long p5), .second, .val (.int p6), .val (.int (3 : Int32)), .val (.int (0 : Int32)), .val (.ref b103), .unset, .unset, .unset] [(.ref b103)])) rfl (by rw [hml]; rfl) (Steps.refl _) (argsL := []) (rest := []) (lenOf own_pd1 rfl) rfl (by show 2 * 0 + _ ≤ _; exact Nat.le_of_eq rfl) (hb hby at_89) (fun _ _ => ⟨rfl, rfl, (by decide : 3 + 0 ≤ _), (by decide : 12 + 0 ≤ _)⟩)
      dsimp only [Pt.U, Pt.locs, Pt.cells, Pt.slots] at X125 l125 y125 z125 st125 hQ125
      subst l125 y125 z125
      obtain ⟨rfl, N125q, hG125⟩ := hQ125
      have N125 := Fr.app N124 N125q
      obtain ⟨fr125, ti125, kf125, kt125, hS125⟩ := hG125
      obtain ⟨cq126, kq126, q126a, q126b, q126c⟩ := isOf hZ rfl hS125.2.2.2.1
      obtain ⟨_, _, ⟨T126, L126, k126, n126⟩, -, X126, ⟨Lc126, hQ126, l126, y126, z126⟩, st126⟩ := X125.virtualBack hx (y := own_m4) (z := own_m4) hown (mvT hZ (own_w25 hw)) (mvT hZ (own_w26 hw)) (notFace_of_selects (args := #[]) (mvT hZ (own_w28 hw))) (mvT hZ (own_w28 hw)) (mvT hZ (own_w27 hw)) (by decide) (backOf (W := 0) (own_rem413 l Z a0 hw [] b103 fr125 ti125 kf125 kt125 p1 p2 p3 p4 T125.heap n0 hS125.1 gx hS125) hZ (own_w29 hw) (own_w2 hw) (by decide) (by decide)) q126a q126c (g := (mkF m 107 #[.val (.long p1), .second, .val (.long p2), .second, .val (.long p3), .second, .val (.long p4), .second, .val (.long p5), .second, .val (.int p6), .val (.int (3 : Int32)), .val (.int (0 : Int32)), .val (.ref b103), .unset, .unset, .unset] [(.ref b103)])) rfl (by rw [hml]; rfl) (Steps.refl _) (argsL := []) (rest := []) (lenOf own_pd1 rfl) rfl (by show 2 * 0 + _ ≤ _; exact Nat.le_of_eq rfl) (hb hby at_107) (fun _ _ => ⟨rfl, rfl, (by decide : 3 + 0 ≤ _), (by decide : 12 + 0 ≤ _)⟩)
      dsimp only [Pt.U, Pt.locs, Pt.cells, Pt.slots] at X126 l126 y126 z126 st126 hQ126
      subst l126 y126 z126
      obtain ⟨rfl, N126q, hG126⟩ := hQ126
      have N126 := Fr.app N125 N126q
      obtain ⟨fr126, ti126, kf126, kt126, hS126⟩ := hG126
      obtain ⟨cq127, kq127, q127a, q127b, q127c⟩ := isOf hZ rfl hS126.2.2.2.1
      obtain ⟨_, _, ⟨T127, L127, k127, n127⟩, -, X127, ⟨Lc127, hQ127, l127, y127, z127⟩, st127⟩ := X126.virtualBack hx (y := own_m5) (z := own_m5) hown (mvT hZ (own_w30 hw)) (mvT hZ (own_w31 hw)) (notFace_of_selects (args := #[]) (mvT hZ (own_w33 hw))) (mvT hZ (own_w33 hw)) (mvT hZ (own_w32 hw)) (by decide) (backOf (W := 0) (own_size0 l Z a0 hw [] b103 T126.heap n0 hS126.1 hS126.2.2.2.2.2.2.1) hZ (own_w34 hw) (own_w2 hw) (by decide) (by decide)) q127a q127c (g := (mkF m 129 #[.val (.long p1), .second, .val (.long p2), .second, .val (.long p3), .second, .val (.long p4), .second, .val (.long p5), .second, .val (.int p6), .val (.int (3 : Int32)), .val (.int (0 : Int32)), .val (.ref b103), .val (.int (0 : Int32)), .unset, .unset] [(.ref b103)])) rfl (by rw [hml]; rfl) (Steps.refl _) (argsL := []) (rest := []) (lenOf own_pd3 rfl) rfl (by show 2 * 0 + _ ≤ _; exact Nat.le_of_eq rfl) (hb hby at_129) (fun _ _ => ⟨rfl, rfl, (by decide : 3 + 0 ≤ _), (by decide : 12 + 0 ≤ _)⟩)
      dsimp only [Pt.U, Pt.locs, Pt.cells, Pt.slots] at X127 l127 y127 z127 st127 hQ127
      subst l127 y127 z127
      obtain ⟨rfl, N127q, e127⟩ := hQ127
      have N127 := Fr.app N126 N127q
      obtain ⟨fs, hr, hrun, hended, hW, hsame⟩ := X127.leave (v := some (.int (1 : Int32))) (fun h => by rw [Bd.returns] at h; cases h)
      refine ⟨_, _, pre109 _ ?_, hrun, hended, _, _, rfl, ?_, ⟨_, rfl⟩, hW, hsame.mono (by decide) (by decide)⟩
      · show Steps _ _ _ (T108.setTop (mkF m 59 #[.val (.long p1), .second, .val (.long p2), .second, .val (.long p3), .second, .val (.long p4), .second, .val (.long p5), .second, .val (.int p6), .val (.int (3 : Int32)), .val (.int (0 : Int32)), .val (.ref b103), .unset, .unset, .unset] [])) _
        refine XS.iload X108.here hx rfl (hb hby at_59) rfl ?_
        refine XS.iconst X108.here hx rfl (hb hby at_61) ?_
        refine XS.icmpNo X108.here hx rfl (hb hby at_62) rfl (flt (by decide : ¬ ((3 : Int32) < (1 : Int32)))).1 ?_
        refine XS.aload X108.here hx rfl (hb hby at_65) rfl rfl ?_
        show Steps _ _ _ (T108.setTop (mkF m 67 #[.val (.long p1), .second, .val (.long p2), .second, .val (.long p3), .second, .val (.long p4), .second, .val (.long p5), .second, .val (.int p6), .val (.int (3 : Int32)), .val (.int (0 : Int32)), .val (.ref b103), .unset, .unset, .unset] [(.ref b103)])) _
        refine st123.trans ?_
        refine XS.iload X123.here hx rfl (hb hby at_70) rfl ?_
        refine XS.iconst X123.here hx rfl (hb hby at_72) ?_
        refine XS.icmpNo X123.here hx rfl (hb hby at_73) rfl (flt (by decide : ¬ ((3 : Int32) < (2 : Int32)))).1 ?_
        show Steps _ _ _ (T123.setTop (mkF m 76 #[.val (.long p1), .second, .val (.long p2), .second, .val (.long p3), .second, .val (.long p4), .second, .val (.long p5), .second, .val (.int p6), .val (.int (3 : Int32)), .val (.int (0 : Int32)), .val (.ref b103), .unset, .unset, .unset] [])) _
        refine XS.aload X123.here hx rfl (hb hby at_76) rfl rfl ?_
        refine st124.trans ?_
        refine XS.iload X124.here hx rfl (hb hby at_81) rfl ?_
        refine XS.iconst X124.here hx rfl (hb hby at_83) ?_
        show Steps _ _ _ (T124.setTop (mkF m 84 #[.val (.long p1), .second, .val (.long p2), .second, .val (.long p3), .second, .val (.long p4), .second, .val (.long p5), .second, .val (.int p6), .val (.int (3 : Int32)), .val (.int (0 : Int32)), .val (.ref b103), .unset, .unset, .unset] [(.int (3 : Int32)), (.int (3 : Int32))])) _
        refine XS.icmpNo X124.here hx rfl (hb hby at_84) rfl (flt (by decide : ¬ ((3 : Int32) < (3 : Int32)))).1 ?_
        refine XS.aload X124.here hx rfl (hb hby at_87) rfl rfl ?_
        refine st125.trans ?_
        refine XS.iload X125.here hx rfl (hb hby at_92) rfl ?_
        show Steps _ _ _ (T125.setTop (mkF m 94 #[.val (.long p1), .second, .val (.long p2), .second, .val (.long p3), .second, .val (.long p4), .second, .val (.long p5), .second, .val (.int p6), .val (.int (3 : Int32)), .val (.int (0 : Int32)), .val (.ref b103), .unset, .unset, .unset] [(.int (0 : Int32))])) _
        refine XS.ifYes X125.here hx rfl (pc0 := 94) (pc' := 105) rfl (hb hby at_94) rfl ((if0 _ _).trans (teq (by decide : (0 : Int32) = (0 : Int32))).1) (by decide) (by decide) ?_
        refine XS.aload X125.here hx rfl (hb hby at_105) rfl rfl ?_
        refine st126.trans ?_
        refine XS.iconst X126.here hx rfl (hb hby at_110) ?_
        show Steps _ _ _ (T126.setTop (mkF m 111 #[.val (.long p1), .second, .val (.long p2), .second, .val (.long p3), .second, .val (.long p4), .second, .val (.long p5), .second, .val (.int p6), .val (.int (3 : Int32)), .val (.int (0 : Int32)), .val (.ref b103), .unset, .unset, .unset] [(.int (3 : Int32))])) _
        refine XS.iload X126.here hx rfl (hb hby at_111) rfl ?_
        refine XS.isub X126.here hx rfl (hb hby at_113) rfl ?_
        refine XS.iload X126.here hx rfl (hb hby at_114) rfl ?_
        refine XS.ifYes X126.here hx rfl (pc0 := 116) (pc' := 123) rfl (hb hby at_116) rfl ((if0 _ _).trans (teq (by decide : (0 : Int32) = (0 : Int32))).1) (by decide) (by decide) ?_
        show Steps _ _ _ (T126.setTop (mkF m 123 #[.val (.long p1), .second, .val (.long p2), .second, .val (.long p3), .second, .val (.long p4), .second, .val (.long p5), .second, .val (.int p6), .val (.int (3 : Int32)), .val (.int (0 : Int32)), .val (.ref b103), .unset, .unset, .unset] [(.int (0 : Int32))])) _
        refine XS.iconst X126.here hx rfl (hb hby at_123) ?_
        refine XS.iadd X126.here hx rfl (hb hby at_124) rfl ?_
        refine XS.istore X126.here hx rfl (hb hby at_125) rfl (l' := #[.val (.long p1), .second, .val (.long p2), .second, .val (.long p3), .second, .val (.long p4), .second, .val (.long p5), .second, .val (.int p6), .val (.int (3 : Int32)), .val (.int (0 : Int32)), .val (.ref b103), .val (.int (0 : Int32)), .unset, .unset]) rfl ?_
        refine XS.aload X126.here hx rfl (hb hby at_127) rfl rfl ?_
        show Steps _ _ _ (T126.setTop (mkF m 129 #[.val (.long p1), .second, .val (.long p2), .second, .val (.long p3), .second, .val (.long p4), .second, .val (.long p5), .second, .val (.int p6), .val (.int (3 : Int32)), .val (.int (0 : Int32)), .val (.ref b103), .val (.int (0 : Int32)), .unset, .unset] [(.ref b103)])) _
        refine st127.trans ?_
        refine XS.iload X127.here hx rfl (hb hby at_132) rfl ?_
        refine XS.icmpYes X127.here hx rfl (pc0 := 134) (pc' := 139) rfl (hb hby at_134) rfl (teq (by decide : (0 : Int32) = (0 : Int32))).1 (by decide) (by decide) ?_
        refine XS.iload X127.here hx rfl (hb hby at_139) rfl ?_
        show Steps _ _ _ (T127.setTop (mkF m 141 #[.val (.long p1), .second, .val (.long p2), .second, .val (.long p3), .second, .val (.long p4), .second, .val (.long p5), .second, .val (.int p6), .val (.int (3 : Int32)), .val (.int (0 : Int32)), .val (.ref b103), .val (.int (0 : Int32)), .unset, .unset] [(.int (0 : Int32))])) _
        refine XS.ifNo X127.here hx rfl (hb hby at_141) rfl ((if0 _ _).trans (teq (by decide : (0 : Int32) = (0 : Int32))).2) ?_
        refine XS.iconst X127.here hx rfl (hb hby at_144) ?_
        show Steps _ _ _ (T127.setTop (mkF m 145 #[.val (.long p1), .second, .val (.long p2), .second, .val (.long p3), .second, .val (.long p4), .second, .val (.long p5), .second, .val (.int p6), .val (.int (3 : Int32)), .val (.int (0 : Int32)), .val (.ref b103), .val (.int (0 : Int32)), .unset, .unset] [(.int (1 : Int32))])) _
        exact retN X127 hx (t := .boolean) Bd.returns (by simp) (hb hby at_145) hr
      · show Qown_law Z p1 p2 p3 p4 p5 p6 h0 n0 _ T127.heap _
        rw [e127]
        exact ⟨rfl, N127⟩
  · skip
    have ihc10_102 := (mt (own_eq (b := (0 : Int32)) (k := 0) rfl).mpr hc10_102)
    obtain ⟨T128, h128, X128, e128, E128, A128, D128, -, st128⟩ := newO X0 hx hZ hown (own_w0 hw) (own_w1 hw) (own_w2 hw) e0 (g := (mkF m 20 #[.val (.long p1), .second, .val (.long p2), .second, .val (.long p3), .second, .val (.long p4), .second, .val (.long p5), .second, .val (.int p6), .val (.int (p6 &&& (3 : Int32))), .val (.int (1 : Int32)), .unset, .unset, .unset, .unset] [])) rfl (hb hby at_20) (by decide) (by decide)
    obtain ⟨b128, g128⟩ : ∃ z, z = h0.size := ⟨_, rfl⟩
    rw [← g128] at A128 D128 st128
    have g_b128 : n0 ≤ b128 := Nat.le_trans Z0 (Nat.le_of_eq g128.symm)
    have Z128 : n0 ≤ h128.size := Nat.le_trans Z0 E128.1
    have F128_12 : Fld Z h128 b128 "com/example/don_valley/donvalley/broker/QueuedFrames" "frames" "[Ljava/nio/ByteBuffer;" .null := D128 (Or.inl (own_w12 hw)) (ty := (.array (.object "java/nio/ByteBuffer"))) (by decide)
    have F128_15 : Fld Z h128 b128 "com/example/don_valley/donvalley/broker/QueuedFrames" "times" "[J" .null := D128 (Or.inl (own_w15 hw)) (ty := (.array .long)) (by decide)
    have F128_22 : Fld Z h128 b128 "com/example/don_valley/donvalley/broker/QueuedFrames" "size" "I" (.int (0 : Int32)) := D128 (Or.inl (own_w22 hw)) (ty := .int) (by decide)
    have F128_24 : Fld Z h128 b128 "com/example/don_valley/donvalley/broker/QueuedFrames" "first" "I" (.int (0 : Int32)) := D128 (Or.inl (own_w24 hw)) (ty := .int) (by decide)
    have gx : n0 ≤ b128 := g_b128
    obtain ⟨_, _, ⟨T129, L129, k129, n129⟩, -, X129, ⟨Lc129, hQ129, l129, y129, z129⟩, st129⟩ := X128.specialBack hx (y := own_m0) rfl hown (mvT hZ (own_w3 hw)) (mvT hZ (own_w4 hw)) (mvT hZ (own_w5 hw)) (by decide) (backOf (W := 1) (own_init l Z a0 hw [] b128 h128 n0 Z128 gx A128 F128_12 F128_15 F128_22 F128_24) hZ (own_w5 hw) (own_w2 hw) (by decide) (by decide)) (g := (mkF m 24 #[.val (.long p1), .second, .val (.long p2), .second, .val (.long p3), .second, .val (.long p4), .second, .val (.long p5), .second, .val (.int p6), .val (.int (p6 &&& (3 : Int32))), .val (.int (1 : Int32)), .unset, .unset, .unset, .unset] [(.ref b128), (.ref b128)])) rfl (by rw [hml]; rfl) (Steps.refl _) (a := b128) (argsL := []) (rest := [(.ref b128)]) (lenOf own_pd1 rfl) rfl (by show 2 * 0 + _ ≤ _; exact Nat.le_of_eq rfl) (hb hby at_24) (fun _ _ => ⟨rfl, e128, (by decide : 1 + 2 ≤ _), (by decide : 4 + 8 ≤ _)⟩)
    dsimp only [Pt.U, Pt.locs, Pt.cells, Pt.slots] at X129 l129 y129 z129 st129 hQ129
    subst l129 y129 z129
    obtain ⟨rfl, N129q, hG129⟩ := hQ129
    have N129 := Fr.app N0 N129q
    obtain ⟨fr129, ti129, kf129, kt129, hS129⟩ := hG129
    obtain ⟨cq130, kq130, q130a, q130b, q130c⟩ := isOf hZ rfl hS129.2.2.2.1
    obtain ⟨_, _, ⟨T130, L130, k130, n130⟩, -, X130, ⟨Lc130, hQ130, l130, y130, z130⟩, st130⟩ := X129.virtualBack hx (y := own_m3) (z := own_m3) hown (mvT hZ (own_w16 hw)) (mvT hZ (own_w17 hw)) (notFace_of_selects (args := #[]) (mvT hZ (own_w19 hw))) (mvT hZ (own_w19 hw)) (mvT hZ (own_w18 hw)) (by decide) (backOf (W := 0) (own_add00 l Z a0 hw [] b128 fr129 ti129 kf129 kt129 (0 : Int64) (0 : Int64) (0 : Int64) (0 : Int64) p1 T129.heap n0 hS129.1 gx hS129) hZ (own_w20 hw) (own_w2 hw) (by decide) (by decide)) q130a q130c (g := (mkF m 33 #[.val (.long p1), .second, .val (.long p2), .second, .val (.long p3), .second, .val (.long p4), .second, .val (.long p5), .second, .val (.int p6), .val (.int (p6 &&& (3 : Int32))), .val (.int (1 : Int32)), .val (.ref b128), .unset, .unset, .unset] [(.long p1), .null, (.ref b128)])) rfl (by rw [hml]; rfl) (Steps.refl _) (argsL := [.null, (.long p1)]) (rest := []) (lenOf own_pd2 rfl) rfl (by show 2 * 0 + _ ≤ _; exact Nat.le_of_eq rfl) (hb hby at_33) (fun _ _ => ⟨rfl, rfl, (by decide : 3 + 0 ≤ _), (by decide : 12 + 0 ≤ _)⟩)
    dsimp only [Pt.U, Pt.locs, Pt.cells, Pt.slots] at X130 l130 y130 z130 st130 hQ130
    subst l130 y130 z130
    obtain ⟨rfl, N130q, hG130⟩ := hQ130
    have N130 := Fr.app N129 N130q
    obtain ⟨fr130, ti130, kf130, kt130, hS130⟩ := hG130
    obtain ⟨cq131, kq131, q131a, q131b, q131c⟩ := isOf hZ rfl hS130.2.2.2.1
    obtain ⟨_, _, ⟨T131, L131, k131, n131⟩, -, X131, ⟨Lc131, hQ131, l131, y131, z131⟩, st131⟩ := X130.virtualBack hx (y := own_m3) (z := own_m3) hown (mvT hZ (own_w16 hw)) (mvT hZ (own_w17 hw)) (notFace_of_selects (args := #[]) (mvT hZ (own_w19 hw))) (mvT hZ (own_w19 hw)) (mvT hZ (own_w18 hw)) (by decide) (backOf (W := 0) (own_add10 l Z a0 hw [] b128 fr130 ti130 kf130 kt130 p1 (0 : Int64) (0 : Int64) (0 : Int64) p2 T130.heap n0 hS130.1 gx hS130) hZ (own_w20 hw) (own_w2 hw) (by decide) (by decide)) q131a q131c (g := (mkF m 40 #[.val (.long p1), .second, .val (.long p2), .second, .val (.long p3), .second, .val (.long p4), .second, .val (.long p5), .second, .val (.int p6), .val (.int (p6 &&& (3 : Int32))), .val (.int (1 : Int32)), .val (.ref b128), .unset, .unset, .unset] [(.long p2), .null, (.ref b128)])) rfl (by rw [hml]; rfl) (Steps.refl _) (argsL := [.null, (.long p2)]) (rest := []) (lenOf own_pd2 rfl) rfl (by show 2 * 0 + _ ≤ _; exact Nat.le_of_eq rfl) (hb hby at_40) (fun _ _ => ⟨rfl, rfl, (by decide : 3 + 0 ≤ _), (by decide : 12 + 0 ≤ _)⟩)
    dsimp only [Pt.U, Pt.locs, Pt.cells, Pt.slots] at X131 l131 y131 z131 st131 hQ131
    subst l131 y131 z131
    obtain ⟨rfl, N131q, hG131⟩ := hQ131
    have N131 := Fr.app N130 N131q
    obtain ⟨fr131, ti131, kf131, kt131, hS131⟩ := hG131
    obtain ⟨cq132, kq132, q132a, q132b, q132c⟩ := isOf hZ rfl hS131.2.2.2.1
    obtain ⟨_, _, ⟨T132, L132, k132, n132⟩, -, X132, ⟨Lc132, hQ132, l132, y132, z132⟩, st132⟩ := X131.virtualBack hx (y := own_m3) (z := own_m3) hown (mvT hZ (own_w16 hw)) (mvT hZ (own_w17 hw)) (notFace_of_selects (args := #[]) (mvT hZ (own_w19 hw))) (mvT hZ (own_w19 hw)) (mvT hZ (own_w18 hw)) (by decide) (backOf (W := 0) (own_add20 l Z a0 hw [] b128 fr131 ti131 kf131 kt131 p1 p2 (0 : Int64) (0 : Int64) p3 T131.heap n0 hS131.1 gx hS131) hZ (own_w20 hw) (own_w2 hw) (by decide) (by decide)) q132a q132c (g := (mkF m 48 #[.val (.long p1), .second, .val (.long p2), .second, .val (.long p3), .second, .val (.long p4), .second, .val (.long p5), .second, .val (.int p6), .val (.int (p6 &&& (3 : Int32))), .val (.int (1 : Int32)), .val (.ref b128), .unset, .unset, .unset] [(.long p3), .null, (.ref b128)])) rfl (by rw [hml]; rfl) (Steps.refl _) (argsL := [.null, (.long p3)]) (rest := []) (lenOf own_pd2 rfl) rfl (by show 2 * 0 + _ ≤ _; exact Nat.le_of_eq rfl) (hb hby at_48) (fun _ _ => ⟨rfl, rfl, (by decide : 3 + 0 ≤ _), (by decide : 12 + 0 ≤ _)⟩)
    dsimp only [Pt.U, Pt.locs, Pt.cells, Pt.slots] at X132 l132 y132 z132 st132 hQ132
    subst l132 y132 z132
    obtain ⟨rfl, N132q, hG132⟩ := hQ132
    have N132 := Fr.app N131 N132q
    obtain ⟨fr132, ti132, kf132, kt132, hS132⟩ := hG132
    obtain ⟨cq133, kq133, q133a, q133b, q133c⟩ := isOf hZ rfl hS132.2.2.2.1
    obtain ⟨_, _, ⟨T133, L133, k133, n133⟩, -, X133, ⟨Lc133, hQ133, l133, y133, z133⟩, st133⟩ := X132.virtualBack hx (y := own_m3) (z := own_m3) hown (mvT hZ (own_w16 hw)) (mvT hZ (own_w17 hw)) (notFace_of_selects (args := #[]) (mvT hZ (own_w19 hw))) (mvT hZ (own_w19 hw)) (mvT hZ (own_w18 hw)) (by decide) (backOf (W := 0) (own_add30 l Z a0 hw [] b128 fr132 ti132 kf132 kt132 p1 p2 p3 (0 : Int64) p4 T132.heap n0 hS132.1 gx hS132) hZ (own_w20 hw) (own_w2 hw) (by decide) (by decide)) q133a q133c (g := (mkF m 56 #[.val (.long p1), .second, .val (.long p2), .second, .val (.long p3), .second, .val (.long p4), .second, .val (.long p5), .second, .val (.int p6), .val (.int (p6 &&& (3 : Int32))), .val (.int (1 : Int32)), .val (.ref b128), .unset, .unset, .unset] [(.long p4), .null, (.ref b128)])) rfl (by rw [hml]; rfl) (Steps.refl _) (argsL := [.null, (.long p4)]) (rest := []) (lenOf own_pd2 rfl) rfl (by show 2 * 0 + _ ≤ _; exact Nat.le_of_eq rfl) (hb hby at_56) (fun _ _ => ⟨rfl, rfl, (by decide : 3 + 0 ≤ _), (by decide : 12 + 0 ≤ _)⟩)
    dsimp only [Pt.U, Pt.locs, Pt.cells, Pt.slots] at X133 l133 y133 z133 st133 hQ133
    subst l133 y133 z133
    obtain ⟨rfl, N133q, hG133⟩ := hQ133
    have N133 := Fr.app N132 N133q
    obtain ⟨fr133, ti133, kf133, kt133, hS133⟩ := hG133
    have pre134 : ∀ t, Steps p.tables e below (T133.setTop (mkF m 59 #[.val (.long p1), .second, .val (.long p2), .second, .val (.long p3), .second, .val (.long p4), .second, .val (.long p5), .second, .val (.int p6), .val (.int (p6 &&& (3 : Int32))), .val (.int (1 : Int32)), .val (.ref b128), .unset, .unset, .unset] [])) t → Steps p.tables e below (s₁.setTop (entryFrame m #[(.long p1), (.long p2), (.long p3), (.long p4), (.long p5), (.int p6)] maxLocals)) t := fun t kt => pre101 t (by
      show Steps _ _ _ (s₁.setTop (mkF m 10 #[.val (.long p1), .second, .val (.long p2), .second, .val (.long p3), .second, .val (.long p4), .second, .val (.long p5), .second, .val (.int p6), .val (.int (p6 &&& (3 : Int32))), .unset, .unset, .unset, .unset, .unset] [(.int (p6 &&& (4 : Int32)))])) _
      refine XS.ifNo X0.here hx rfl (hb hby at_10) rfl ((if0 _ _).trans (feq hc10_102).1) ?_
      refine XS.iconst X0.here hx rfl (hb hby at_13) ?_
      refine XS.goto X0.here hx rfl (pc0 := 14) (pc' := 18) rfl (hb hby at_14) (by decide) (by decide) ?_
      refine XS.istore X0.here hx rfl (hb hby at_18) rfl (l' := #[.val (.long p1), .second, .val (.long p2), .second, .val (.long p3), .second, .val (.long p4), .second, .val (.long p5), .second, .val (.int p6), .val (.int (p6 &&& (3 : Int32))), .val (.int (1 : Int32)), .unset, .unset, .unset, .unset]) rfl ?_
      show Steps _ _ _ (s₁.setTop (mkF m 20 #[.val (.long p1), .second, .val (.long p2), .second, .val (.long p3), .second, .val (.long p4), .second, .val (.long p5), .second, .val (.int p6), .val (.int (p6 &&& (3 : Int32))), .val (.int (1 : Int32)), .unset, .unset, .unset, .unset] [])) _
      refine st128 _ ?_
      refine XS.dup X128.here hx rfl (hb hby at_23) rfl rfl ?_
      refine st129.trans ?_
      refine XS.astore X129.here hx rfl (hb hby at_27) rfl rfl (l' := #[.val (.long p1), .second, .val (.long p2), .second, .val (.long p3), .second, .val (.long p4), .second, .val (.long p5), .second, .val (.int p6), .val (.int (p6 &&& (3 : Int32))), .val (.int (1 : Int32)), .val (.ref b128), .unset, .unset, .unset]) rfl ?_
      show Steps _ _ _ (T129.setTop (mkF m 29 #[.val (.long p1), .second, .val (.long p2), .second, .val (.long p3), .second, .val (.long p4), .second, .val (.long p5), .second, .val (.int p6), .val (.int (p6 &&& (3 : Int32))), .val (.int (1 : Int32)), .val (.ref b128), .unset, .unset, .unset] [])) _
      refine XS.aload X129.here hx rfl (hb hby at_29) rfl rfl ?_
      refine XS.aconstNull X129.here hx rfl (hb hby at_31) ?_
      refine XS.lloadN X129.here hx rfl (hb hby at_32) rfl ?_
      refine st130.trans ?_
      show Steps _ _ _ (T130.setTop (mkF m 36 #[.val (.long p1), .second, .val (.long p2), .second, .val (.long p3), .second, .val (.long p4), .second, .val (.long p5), .second, .val (.int p6), .val (.int (p6 &&& (3 : Int32))), .val (.int (1 : Int32)), .val (.ref b128), .unset, .unset, .unset] [])) _
      refine XS.aload X130.here hx rfl (hb hby at_36) rfl rfl ?_
      refine XS.aconstNull X130.here hx rfl (hb hby at_38) ?_
      refine XS.lloadN X130.here hx rfl (hb hby at_39) rfl ?_
      refine st131.trans ?_
      show Steps _ _ _ (T131.setTop (mkF m 43 #[.val (.long p1), .second, .val (.long p2), .second, .val (.long p3), .second, .val (.long p4), .second, .val (.long p5), .second, .val (.int p6), .val (.int (p6 &&& (3 : Int32))), .val (.int (1 : Int32)), .val (.ref b128), .unset, .unset, .unset] [])) _
      refine XS.aload X131.here hx rfl (hb hby at_43) rfl rfl ?_
      refine XS.aconstNull X131.here hx rfl (hb hby at_45) ?_
      refine XS.lload X131.here hx rfl (hb hby at_46) rfl ?_
      refine st132.trans ?_
      show Steps _ _ _ (T132.setTop (mkF m 51 #[.val (.long p1), .second, .val (.long p2), .second, .val (.long p3), .second, .val (.long p4), .second, .val (.long p5), .second, .val (.int p6), .val (.int (p6 &&& (3 : Int32))), .val (.int (1 : Int32)), .val (.ref b128), .unset, .unset, .unset] [])) _
      refine XS.aload X132.here hx rfl (hb hby at_51) rfl rfl ?_
      refine XS.aconstNull X132.here hx rfl (hb hby at_53) ?_
      refine XS.lload X132.here hx rfl (hb hby at_54) rfl ?_
      refine st133.trans ?_
      exact kt)
    rcases own_and3 p6 with hs135 | hs135 | hs135 | hs135
    · skip
      rw [hs135] at pre134
      obtain ⟨cq136, kq136, q136a, q136b, q136c⟩ := isOf hZ rfl hS133.2.2.2.1
      obtain ⟨_, _, ⟨T136, L136, k136, n136⟩, -, X136, ⟨Lc136, hQ136, l136, y136, z136⟩, st136⟩ := X133.virtualBack hx (y := own_m3) (z := own_m3) hown (mvT hZ (own_w16 hw)) (mvT hZ (own_w17 hw)) (notFace_of_selects (args := #[]) (mvT hZ (own_w19 hw))) (mvT hZ (own_w19 hw)) (mvT hZ (own_w18 hw)) (by decide) (backOf (W := 0) (own_add40 l Z a0 hw [] b128 fr133 ti133 kf133 kt133 p1 p2 p3 p4 p5 T133.heap n0 hS133.1 gx hS133) hZ (own_w20 hw) (own_w2 hw) (by decide) (by decide)) q136a q136c (g := (mkF m 102 #[.val (.long p1), .second, .val (.long p2), .second, .val (.long p3), .second, .val (.long p4), .second, .val (.long p5), .second, .val (.int p6), .val (.int (0 : Int32)), .val (.int (1 : Int32)), .val (.ref b128), .unset, .unset, .unset] [(.long p5), .null, (.ref b128)])) rfl (by rw [hml]; rfl) (Steps.refl _) (argsL := [.null, (.long p5)]) (rest := []) (lenOf own_pd2 rfl) rfl (by show 2 * 0 + _ ≤ _; exact Nat.le_of_eq rfl) (hb hby at_102) (fun _ _ => ⟨rfl, rfl, (by decide : 3 + 2 ≤ _), (by decide : 12 + 16 ≤ _)⟩)
      dsimp only [Pt.U, Pt.locs, Pt.cells, Pt.slots] at X136 l136 y136 z136 st136 hQ136
      subst l136 y136 z136
      obtain ⟨rfl, N136q, hG136⟩ := hQ136
      have N136 := Fr.app N133 N136q
      obtain ⟨fr136, ti136, kf136, kt136, hS136⟩ := hG136
      obtain ⟨cq137, kq137, q137a, q137b, q137c⟩ := isOf hZ rfl hS136.2.2.2.1
      obtain ⟨_, _, ⟨T137, L137, k137, n137⟩, -, X137, ⟨Lc137, hQ137, l137, y137, z137⟩, st137⟩ := X136.virtualBack hx (y := own_m4) (z := own_m4) hown (mvT hZ (own_w25 hw)) (mvT hZ (own_w26 hw)) (notFace_of_selects (args := #[]) (mvT hZ (own_w28 hw))) (mvT hZ (own_w28 hw)) (mvT hZ (own_w27 hw)) (by decide) (backOf (W := 0) (own_rem850 l Z a0 hw [] b128 fr136 ti136 kf136 kt136 p1 p2 p3 p4 p5 (0 : Int64) (0 : Int64) (0 : Int64) T136.heap n0 hS136.1 gx hS136) hZ (own_w29 hw) (own_w2 hw) (by decide) (by decide)) q137a q137c (g := (mkF m 107 #[.val (.long p1), .second, .val (.long p2), .second, .val (.long p3), .second, .val (.long p4), .second, .val (.long p5), .second, .val (.int p6), .val (.int (0 : Int32)), .val (.int (1 : Int32)), .val (.ref b128), .unset, .unset, .unset] [(.ref b128)])) rfl (by rw [hml]; rfl) (Steps.refl _) (argsL := []) (rest := []) (lenOf own_pd1 rfl) rfl (by show 2 * 0 + _ ≤ _; exact Nat.le_of_eq rfl) (hb hby at_107) (fun _ _ => ⟨rfl, rfl, (by decide : 5 + 0 ≤ _), (by decide : 28 + 0 ≤ _)⟩)
      dsimp only [Pt.U, Pt.locs, Pt.cells, Pt.slots] at X137 l137 y137 z137 st137 hQ137
      subst l137 y137 z137
      obtain ⟨rfl, N137q, hG137⟩ := hQ137
      have N137 := Fr.app N136 N137q
      obtain ⟨fr137, ti137, kf137, kt137, hS137⟩ := hG137
      obtain ⟨cq138, kq138, q138a, q138b, q138c⟩ := isOf hZ rfl hS137.2.2.2.1
      obtain ⟨_, _, ⟨T138, L138, k138, n138⟩, -, X138, ⟨Lc138, hQ138, l138, y138, z138⟩, st138⟩ := X137.virtualBack hx (y := own_m5) (z := own_m5) hown (mvT hZ (own_w30 hw)) (mvT hZ (own_w31 hw)) (notFace_of_selects (args := #[]) (mvT hZ (own_w33 hw))) (mvT hZ (own_w33 hw)) (mvT hZ (own_w32 hw)) (by decide) (backOf (W := 0) (own_size4 l Z a0 hw [] b128 T137.heap n0 hS137.1 hS137.2.2.2.2.2.2.1) hZ (own_w34 hw) (own_w2 hw) (by decide) (by decide)) q138a q138c (g := (mkF m 129 #[.val (.long p1), .second, .val (.long p2), .second, .val (.long p3), .second, .val (.long p4), .second, .val (.long p5), .second, .val (.int p6), .val (.int (0 : Int32)), .val (.int (1 : Int32)), .val (.ref b128), .val (.int (4 : Int32)), .unset, .unset] [(.ref b128)])) rfl (by rw [hml]; rfl) (Steps.refl _) (argsL := []) (rest := []) (lenOf own_pd3 rfl) rfl (by show 2 * 0 + _ ≤ _; exact Nat.le_of_eq rfl) (hb hby at_129) (fun _ _ => ⟨rfl, rfl, (by decide : 5 + 0 ≤ _), (by decide : 28 + 0 ≤ _)⟩)
      dsimp only [Pt.U, Pt.locs, Pt.cells, Pt.slots] at X138 l138 y138 z138 st138 hQ138
      subst l138 y138 z138
      obtain ⟨rfl, N138q, e138⟩ := hQ138
      have N138 := Fr.app N137 N138q
      obtain ⟨cq139, kq139, q139a, q139b, q139c⟩ := isOf hZ e138 hS137.2.2.2.1
      obtain ⟨_, _, ⟨T139, L139, k139, n139⟩, -, X139, ⟨Lc139, hQ139, l139, y139, z139⟩, st139⟩ := X138.virtualBack hx (y := own_m6) (z := own_m6) hown (mvT hZ (own_w35 hw)) (mvT hZ (own_w36 hw)) (notFace_of_selects (args := #[]) (mvT hZ (own_w38 hw))) (mvT hZ (own_w38 hw)) (mvT hZ (own_w37 hw)) (by decide) (backOf (W := 0) (own_fq81 l Z a0 hw [] b128 ti137 kt137 p1 p2 p3 p4 p5 (0 : Int64) (0 : Int64) (0 : Int64) T137.heap n0 hS137.1 hS137.2.2.2.2.2.1 hS137.2.2.2.2.2.2.2.1 hS137.2.2.2.2.2.2.2.2.2.1) hZ (own_w39 hw) (own_w2 hw) (by decide) (by decide)) q139a q139c (g := (mkF m 189 #[.val (.long p1), .second, .val (.long p2), .second, .val (.long p3), .second, .val (.long p4), .second, .val (.long p5), .second, .val (.int p6), .val (.int (0 : Int32)), .val (.int (1 : Int32)), .val (.ref b128), .val (.int (4 : Int32)), .val (.long p2), .second] [(.ref b128)])) rfl (by rw [hml]; rfl) (Steps.refl _) (argsL := []) (rest := []) (lenOf own_pd4 rfl) rfl (by show 2 * 0 + _ ≤ _; exact Nat.le_of_eq rfl) (hb hby at_189) (fun _ _ => ⟨rfl, e138, (by decide : 5 + 0 ≤ _), (by decide : 28 + 0 ≤ _)⟩)
      dsimp only [Pt.U, Pt.locs, Pt.cells, Pt.slots] at X139 l139 y139 z139 st139 hQ139
      subst l139 y139 z139
      obtain ⟨rfl, N139q, e139⟩ := hQ139
      have N139 := Fr.app N138 N139q
      obtain ⟨fs, hr, hrun, hended, hW, hsame⟩ := X139.leave (v := some (.int (1 : Int32))) (fun h => by rw [Bd.returns] at h; cases h)
      refine ⟨_, _, pre134 _ ?_, hrun, hended, _, _, rfl, ?_, ⟨_, rfl⟩, hW, hsame.mono (by decide) (by decide)⟩
      · show Steps _ _ _ (T133.setTop (mkF m 59 #[.val (.long p1), .second, .val (.long p2), .second, .val (.long p3), .second, .val (.long p4), .second, .val (.long p5), .second, .val (.int p6), .val (.int (0 : Int32)), .val (.int (1 : Int32)), .val (.ref b128), .unset, .unset, .unset] [])) _
        refine XS.iload X133.here hx rfl (hb hby at_59) rfl ?_
        refine XS.iconst X133.here hx rfl (hb hby at_61) ?_
        refine XS.icmpYes X133.here hx rfl (pc0 := 62) (pc' := 70) rfl (hb hby at_62) rfl (tlt (by decide : (0 : Int32) < (1 : Int32))).1 (by decide) (by decide) ?_
        refine XS.iload X133.here hx rfl (hb hby at_70) rfl ?_
        show Steps _ _ _ (T133.setTop (mkF m 72 #[.val (.long p1), .second, .val (.long p2), .second, .val (.long p3), .second, .val (.long p4), .second, .val (.long p5), .second, .val (.int p6), .val (.int (0 : Int32)), .val (.int (1 : Int32)), .val (.ref b128), .unset, .unset, .unset] [(.int (0 : Int32))])) _
        refine XS.iconst X133.here hx rfl (hb hby at_72) ?_
        refine XS.icmpYes X133.here hx rfl (pc0 := 73) (pc' := 81) rfl (hb hby at_73) rfl (tlt (by decide : (0 : Int32) < (2 : Int32))).1 (by decide) (by decide) ?_
        refine XS.iload X133.here hx rfl (hb hby at_81) rfl ?_
        refine XS.iconst X133.here hx rfl (hb hby at_83) ?_
        show Steps _ _ _ (T133.setTop (mkF m 84 #[.val (.long p1), .second, .val (.long p2), .second, .val (.long p3), .second, .val (.long p4), .second, .val (.long p5), .second, .val (.int p6), .val (.int (0 : Int32)), .val (.int (1 : Int32)), .val (.ref b128), .unset, .unset, .unset] [(.int (3 : Int32)), (.int (0 : Int32))])) _
        refine XS.icmpYes X133.here hx rfl (pc0 := 84) (pc' := 92) rfl (hb hby at_84) rfl (tlt (by decide : (0 : Int32) < (3 : Int32))).1 (by decide) (by decide) ?_
        refine XS.iload X133.here hx rfl (hb hby at_92) rfl ?_
        refine XS.ifNo X133.here hx rfl (hb hby at_94) rfl ((if0 _ _).trans (feq (by decide : ¬ ((1 : Int32) = (0 : Int32)))).1) ?_
        refine XS.aload X133.here hx rfl (hb hby at_97) rfl rfl ?_
        show Steps _ _ _ (T133.setTop (mkF m 99 #[.val (.long p1), .second, .val (.long p2), .second, .val (.long p3), .second, .val (.long p4), .second, .val (.long p5), .second, .val (.int p6), .val (.int (0 : Int32)), .val (.int (1 : Int32)), .val (.ref b128), .unset, .unset, .unset] [(.ref b128)])) _
        refine XS.aconstNull X133.here hx rfl (hb hby at_99) ?_
        refine XS.lload X133.here hx rfl (hb hby at_100) rfl ?_
        refine st136.trans ?_
        refine XS.aload X136.here hx rfl (hb hby at_105) rfl rfl ?_
        show Steps _ _ _ (T136.setTop (mkF m 107 #[.val (.long p1), .second, .val (.long p2), .second, .val (.long p3), .second, .val (.long p4), .second, .val (.long p5), .second, .val (.int p6), .val (.int (0 : Int32)), .val (.int (1 : Int32)), .val (.ref b128), .unset, .unset, .unset] [(.ref b128)])) _
        refine st137.trans ?_
        refine XS.iconst X137.here hx rfl (hb hby at_110) ?_
        refine XS.iload X137.here hx rfl (hb hby at_111) rfl ?_
        refine XS.isub X137.here hx rfl (hb hby at_113) rfl ?_
        show Steps _ _ _ (T137.setTop (mkF m 114 #[.val (.long p1), .second, .val (.long p2), .second, .val (.long p3), .second, .val (.long p4), .second, .val (.long p5), .second, .val (.int p6), .val (.int (0 : Int32)), .val (.int (1 : Int32)), .val (.ref b128), .unset, .unset, .unset] [(.int (3 : Int32))])) _
        refine XS.iload X137.here hx rfl (hb hby at_114) rfl ?_
        refine XS.ifNo X137.here hx rfl (hb hby at_116) rfl ((if0 _ _).trans (feq (by decide : ¬ ((1 : Int32) = (0 : Int32)))).1) ?_
        refine XS.iconst X137.here hx rfl (hb hby at_119) ?_
        refine XS.goto X137.here hx rfl (pc0 := 120) (pc' := 124) rfl (hb hby at_120) (by decide) (by decide) ?_
        show Steps _ _ _ (T137.setTop (mkF m 124 #[.val (.long p1), .second, .val (.long p2), .second, .val (.long p3), .second, .val (.long p4), .second, .val (.long p5), .second, .val (.int p6), .val (.int (0 : Int32)), .val (.int (1 : Int32)), .val (.ref b128), .unset, .unset, .unset] [(.int (1 : Int32)), (.int (3 : Int32))])) _
        refine XS.iadd X137.here hx rfl (hb hby at_124) rfl ?_
        refine XS.istore X137.here hx rfl (hb hby at_125) rfl (l' := #[.val (.long p1), .second, .val (.long p2), .second, .val (.long p3), .second, .val (.long p4), .second, .val (.long p5), .second, .val (.int p6), .val (.int (0 : Int32)), .val (.int (1 : Int32)), .val (.ref b128), .val (.int (4 : Int32)), .unset, .unset]) rfl ?_
        refine XS.aload X137.here hx rfl (hb hby at_127) rfl rfl ?_
        refine st138.trans ?_
        show Steps _ _ _ (T138.setTop (mkF m 132 #[.val (.long p1), .second, .val (.long p2), .second, .val (.long p3), .second, .val (.long p4), .second, .val (.long p5), .second, .val (.int p6), .val (.int (0 : Int32)), .val (.int (1 : Int32)), .val (.ref b128), .val (.int (4 : Int32)), .unset, .unset] [(.int (4 : Int32))])) _
        refine XS.iload X138.here hx rfl (hb hby at_132) rfl ?_
        refine XS.icmpYes X138.here hx rfl (pc0 := 134) (pc' := 139) rfl (hb hby at_134) rfl (teq (by decide : (4 : Int32) = (4 : Int32))).1 (by decide) (by decide) ?_
        refine XS.iload X138.here hx rfl (hb hby at_139) rfl ?_
        refine XS.ifYes X138.here hx rfl (pc0 := 141) (pc' := 146) rfl (hb hby at_141) rfl ((if0 _ _).trans (feq (by decide : ¬ ((4 : Int32) = (0 : Int32)))).2) (by decide) (by decide) ?_
        show Steps _ _ _ (T138.setTop (mkF m 146 #[.val (.long p1), .second, .val (.long p2), .second, .val (.long p3), .second, .val (.long p4), .second, .val (.long p5), .second, .val (.int p6), .val (.int (0 : Int32)), .val (.int (1 : Int32)), .val (.ref b128), .val (.int (4 : Int32)), .unset, .unset] [])) _
        refine XS.iload X138.here hx rfl (hb hby at_146) rfl ?_
        refine XS.ifNo X138.here hx rfl (hb hby at_148) rfl ((if0 _ _).trans (teq (by decide : (0 : Int32) = (0 : Int32))).2) ?_
        refine XS.lloadN X138.here hx rfl (hb hby at_151) rfl ?_
        refine XS.lstore X138.here hx rfl (hb hby at_152) rfl (l' := #[.val (.long p1), .second, .val (.long p2), .second, .val (.long p3), .second, .val (.long p4), .second, .val (.long p5), .second, .val (.int p6), .val (.int (0 : Int32)), .val (.int (1 : Int32)), .val (.ref b128), .val (.int (4 : Int32)), .val (.long p2), .second]) rfl ?_
        show Steps _ _ _ (T138.setTop (mkF m 154 #[.val (.long p1), .second, .val (.long p2), .second, .val (.long p3), .second, .val (.long p4), .second, .val (.long p5), .second, .val (.int p6), .val (.int (0 : Int32)), .val (.int (1 : Int32)), .val (.ref b128), .val (.int (4 : Int32)), .val (.long p2), .second] [])) _
        refine XS.goto X138.here hx rfl (pc0 := 154) (pc' := 187) rfl (hb hby at_154) (by decide) (by decide) ?_
        refine XS.aload X138.here hx rfl (hb hby at_187) rfl rfl ?_
        refine st139.trans ?_
        refine XS.lload X139.here hx rfl (hb hby at_192) rfl ?_
        show Steps _ _ _ (T139.setTop (mkF m 194 #[.val (.long p1), .second, .val (.long p2), .second, .val (.long p3), .second, .val (.long p4), .second, .val (.long p5), .second, .val (.int p6), .val (.int (0 : Int32)), .val (.int (1 : Int32)), .val (.ref b128), .val (.int (4 : Int32)), .val (.long p2), .second] [(.long p2), (.long p2)])) _
        refine XS.lcmp X139.here hx rfl (hb hby at_194) rfl ?_
        refine XS.ifNo X139.here hx rfl (hb hby at_195) rfl ((if0 _ _).trans (teq ((lw_eq _ _).mpr rfl)).2) ?_
        refine XS.iconst X139.here hx rfl (hb hby at_198) ?_
        refine XS.goto X139.here hx rfl (pc0 := 199) (pc' := 203) rfl (hb hby at_199) (by decide) (by decide) ?_
        show Steps _ _ _ (T139.setTop (mkF m 203 #[.val (.long p1), .second, .val (.long p2), .second, .val (.long p3), .second, .val (.long p4), .second, .val (.long p5), .second, .val (.int p6), .val (.int (0 : Int32)), .val (.int (1 : Int32)), .val (.ref b128), .val (.int (4 : Int32)), .val (.long p2), .second] [(.int (1 : Int32))])) _
        exact retN X139 hx (t := .boolean) Bd.returns (by simp) (hb hby at_203) hr
      · show Qown_law Z p1 p2 p3 p4 p5 p6 h0 n0 _ T139.heap _
        rw [e139]
        exact ⟨rfl, N139⟩
    · skip
      rw [hs135] at pre134
      obtain ⟨cq140, kq140, q140a, q140b, q140c⟩ := isOf hZ rfl hS133.2.2.2.1
      obtain ⟨_, _, ⟨T140, L140, k140, n140⟩, -, X140, ⟨Lc140, hQ140, l140, y140, z140⟩, st140⟩ := X133.virtualBack hx (y := own_m4) (z := own_m4) hown (mvT hZ (own_w25 hw)) (mvT hZ (own_w26 hw)) (notFace_of_selects (args := #[]) (mvT hZ (own_w28 hw))) (mvT hZ (own_w28 hw)) (mvT hZ (own_w27 hw)) (by decide) (backOf (W := 0) (own_rem440 l Z a0 hw [] b128 fr133 ti133 kf133 kt133 p1 p2 p3 p4 T133.heap n0 hS133.1 gx hS133) hZ (own_w29 hw) (own_w2 hw) (by decide) (by decide)) q140a q140c (g := (mkF m 67 #[.val (.long p1), .second, .val (.long p2), .second, .val (.long p3), .second, .val (.long p4), .second, .val (.long p5), .second, .val (.int p6), .val (.int (1 : Int32)), .val (.int (1 : Int32)), .val (.ref b128), .unset, .unset, .unset] [(.ref b128)])) rfl (by rw [hml]; rfl) (Steps.refl _) (argsL := []) (rest := []) (lenOf own_pd1 rfl) rfl (by show 2 * 0 + _ ≤ _; exact Nat.le_of_eq rfl) (hb hby at_67) (fun _ _ => ⟨rfl, rfl, (by decide : 3 + 0 ≤ _), (by decide : 12 + 0 ≤ _)⟩)
      dsimp only [Pt.U, Pt.locs, Pt.cells, Pt.slots] at X140 l140 y140 z140 st140 hQ140
      subst l140 y140 z140
      obtain ⟨rfl, N140q, hG140⟩ := hQ140
      have N140 := Fr.app N133 N140q
      obtain ⟨fr140, ti140, kf140, kt140, hS140⟩ := hG140
      obtain ⟨cq141, kq141, q141a, q141b, q141c⟩ := isOf hZ rfl hS140.2.2.2.1
      obtain ⟨_, _, ⟨T141, L141, k141, n141⟩, -, X141, ⟨Lc141, hQ141, l141, y141, z141⟩, st141⟩ := X140.virtualBack hx (y := own_m3) (z := own_m3) hown (mvT hZ (own_w16 hw)) (mvT hZ (own_w17 hw)) (notFace_of_selects (args := #[]) (mvT hZ (own_w19 hw))) (mvT hZ (own_w19 hw)) (mvT hZ (own_w18 hw)) (by decide) (backOf (W := 0) (own_add31 l Z a0 hw [] b128 fr140 ti140 kf140 kt140 p1 p2 p3 p4 p5 T140.heap n0 hS140.1 gx hS140) hZ (own_w20 hw) (own_w2 hw) (by decide) (by decide)) q141a q141c (g := (mkF m 102 #[.val (.long p1), .second, .val (.long p2), .second, .val (.long p3), .second, .val (.long p4), .second, .val (.long p5), .second, .val (.int p6), .val (.int (1 : Int32)), .val (.int (1 : Int32)), .val (.ref b128), .unset, .unset, .unset] [(.long p5), .null, (.ref b128)])) rfl (by rw [hml]; rfl) (Steps.refl _) (argsL := [.null, (.long p5)]) (rest := []) (lenOf own_pd2 rfl) rfl (by show 2 * 0 + _ ≤ _; exact Nat.le_of_eq rfl) (hb hby at_102) (fun _ _ => ⟨rfl, rfl, (by decide : 3 + 0 ≤ _), (by decide : 12 + 0 ≤ _)⟩)
      dsimp only [Pt.U, Pt.locs, Pt.cells, Pt.slots] at X141 l141 y141 z141 st141 hQ141
      subst l141 y141 z141
      obtain ⟨rfl, N141q, hG141⟩ := hQ141
      have N141 := Fr.app N140 N141q
      obtain ⟨fr141, ti141, kf141, kt141, hS141⟩ := hG141
      obtain ⟨cq142, kq142, q142a, q142b, q142c⟩ := isOf hZ rfl hS141.2.2.2.1
      obtain ⟨_, _, ⟨T142, L142, k142, n142⟩, -, X142, ⟨Lc142, hQ142, l142, y142, z142⟩, st142⟩ := X141.virtualBack hx (y := own_m4) (z := own_m4) hown (mvT hZ (own_w25 hw)) (mvT hZ (own_w26 hw)) (notFace_of_selects (args := #[]) (mvT hZ (own_w28 hw))) (mvT hZ (own_w28 hw)) (mvT hZ (own_w27 hw)) (by decide) (backOf (W := 0) (own_rem441 l Z a0 hw [] b128 fr141 ti141 kf141 kt141 p5 p2 p3 p4 T141.heap n0 hS141.1 gx hS141) hZ (own_w29 hw) (own_w2 hw) (by decide) (by decide)) q142a q142c (g := (mkF m 107 #[.val (.long p1), .second, .val (.long p2), .second, .val (.long p3), .second, .val (.long p4), .second, .val (.long p5), .second, .val (.int p6), .val (.int (1 : Int32)), .val (.int (1 : Int32)), .val (.ref b128), .unset, .unset, .unset] [(.ref b128)])) rfl (by rw [hml]; rfl) (Steps.refl _) (argsL := []) (rest := []) (lenOf own_pd1 rfl) rfl (by show 2 * 0 + _ ≤ _; exact Nat.le_of_eq rfl) (hb hby at_107) (fun _ _ => ⟨rfl, rfl, (by decide : 3 + 0 ≤ _), (by decide : 12 + 0 ≤ _)⟩)
      dsimp only [Pt.U, Pt.locs, Pt.cells, Pt.slots] at X142 l142 y142 z142 st142 hQ142
      subst l142 y142 z142
      obtain ⟨rfl, N142q, hG142⟩ := hQ142
      have N142 := Fr.app N141 N142q
      obtain ⟨fr142, ti142, kf142, kt142, hS142⟩ := hG142
      obtain ⟨cq143, kq143, q143a, q143b, q143c⟩ := isOf hZ rfl hS142.2.2.2.1
      obtain ⟨_, _, ⟨T143, L143, k143, n143⟩, -, X143, ⟨Lc143, hQ143, l143, y143, z143⟩, st143⟩ := X142.virtualBack hx (y := own_m5) (z := own_m5) hown (mvT hZ (own_w30 hw)) (mvT hZ (own_w31 hw)) (notFace_of_selects (args := #[]) (mvT hZ (own_w33 hw))) (mvT hZ (own_w33 hw)) (mvT hZ (own_w32 hw)) (by decide) (backOf (W := 0) (own_size3 l Z a0 hw [] b128 T142.heap n0 hS142.1 hS142.2.2.2.2.2.2.1) hZ (own_w34 hw) (own_w2 hw) (by decide) (by decide)) q143a q143c (g := (mkF m 129 #[.val (.long p1), .second, .val (.long p2), .second, .val (.long p3), .second, .val (.long p4), .second, .val (.long p5), .second, .val (.int p6), .val (.int (1 : Int32)), .val (.int (1 : Int32)), .val (.ref b128), .val (.int (3 : Int32)), .unset, .unset] [(.ref b128)])) rfl (by rw [hml]; rfl) (Steps.refl _) (argsL := []) (rest := []) (lenOf own_pd3 rfl) rfl (by show 2 * 0 + _ ≤ _; exact Nat.le_of_eq rfl) (hb hby at_129) (fun _ _ => ⟨rfl, rfl, (by decide : 3 + 0 ≤ _), (by decide : 12 + 0 ≤ _)⟩)
      dsimp only [Pt.U, Pt.locs, Pt.cells, Pt.slots] at X143 l143 y143 z143 st143 hQ143
      subst l143 y143 z143
      obtain ⟨rfl, N143q, e143⟩ := hQ143
      have N143 := Fr.app N142 N143q
      obtain ⟨cq144, kq144, q144a, q144b, q144c⟩ := isOf hZ e143 hS142.2.2.2.1
      obtain ⟨_, _, ⟨T144, L144, k144, n144⟩, -, X144, ⟨Lc144, hQ144, l144, y144, z144⟩, st144⟩ := X143.virtualBack hx (y := own_m6) (z := own_m6) hown (mvT hZ (own_w35 hw)) (mvT hZ (own_w36 hw)) (notFace_of_selects (args := #[]) (mvT hZ (own_w38 hw))) (mvT hZ (own_w38 hw)) (mvT hZ (own_w37 hw)) (by decide) (backOf (W := 0) (own_fq42 l Z a0 hw [] b128 ti142 kt142 p5 p2 p3 p4 T142.heap n0 hS142.1 hS142.2.2.2.2.2.1 hS142.2.2.2.2.2.2.2.1 hS142.2.2.2.2.2.2.2.2.2.1) hZ (own_w39 hw) (own_w2 hw) (by decide) (by decide)) q144a q144c (g := (mkF m 189 #[.val (.long p1), .second, .val (.long p2), .second, .val (.long p3), .second, .val (.long p4), .second, .val (.long p5), .second, .val (.int p6), .val (.int (1 : Int32)), .val (.int (1 : Int32)), .val (.ref b128), .val (.int (3 : Int32)), .val (.long p3), .second] [(.ref b128)])) rfl (by rw [hml]; rfl) (Steps.refl _) (argsL := []) (rest := []) (lenOf own_pd4 rfl) rfl (by show 2 * 0 + _ ≤ _; exact Nat.le_of_eq rfl) (hb hby at_189) (fun _ _ => ⟨rfl, e143, (by decide : 3 + 0 ≤ _), (by decide : 12 + 0 ≤ _)⟩)
      dsimp only [Pt.U, Pt.locs, Pt.cells, Pt.slots] at X144 l144 y144 z144 st144 hQ144
      subst l144 y144 z144
      obtain ⟨rfl, N144q, e144⟩ := hQ144
      have N144 := Fr.app N143 N144q
      obtain ⟨fs, hr, hrun, hended, hW, hsame⟩ := X144.leave (v := some (.int (1 : Int32))) (fun h => by rw [Bd.returns] at h; cases h)
      refine ⟨_, _, pre134 _ ?_, hrun, hended, _, _, rfl, ?_, ⟨_, rfl⟩, hW, hsame.mono (by decide) (by decide)⟩
      · show Steps _ _ _ (T133.setTop (mkF m 59 #[.val (.long p1), .second, .val (.long p2), .second, .val (.long p3), .second, .val (.long p4), .second, .val (.long p5), .second, .val (.int p6), .val (.int (1 : Int32)), .val (.int (1 : Int32)), .val (.ref b128), .unset, .unset, .unset] [])) _
        refine XS.iload X133.here hx rfl (hb hby at_59) rfl ?_
        refine XS.iconst X133.here hx rfl (hb hby at_61) ?_
        refine XS.icmpNo X133.here hx rfl (hb hby at_62) rfl (flt (by decide : ¬ ((1 : Int32) < (1 : Int32)))).1 ?_
        refine XS.aload X133.here hx rfl (hb hby at_65) rfl rfl ?_
        show Steps _ _ _ (T133.setTop (mkF m 67 #[.val (.long p1), .second, .val (.long p2), .second, .val (.long p3), .second, .val (.long p4), .second, .val (.long p5), .second, .val (.int p6), .val (.int (1 : Int32)), .val (.int (1 : Int32)), .val (.ref b128), .unset, .unset, .unset] [(.ref b128)])) _
        refine st140.trans ?_
        refine XS.iload X140.here hx rfl (hb hby at_70) rfl ?_
        refine XS.iconst X140.here hx rfl (hb hby at_72) ?_
        refine XS.icmpYes X140.here hx rfl (pc0 := 73) (pc' := 81) rfl (hb hby at_73) rfl (tlt (by decide : (1 : Int32) < (2 : Int32))).1 (by decide) (by decide) ?_
        show Steps _ _ _ (T140.setTop (mkF m 81 #[.val (.long p1), .second, .val (.long p2), .second, .val (.long p3), .second, .val (.long p4), .second, .val (.long p5), .second, .val (.int p6), .val (.int (1 : Int32)), .val (.int (1 : Int32)), .val (.ref b128), .unset, .unset, .unset] [])) _
        refine XS.iload X140.here hx rfl (hb hby at_81) rfl ?_
        refine XS.iconst X140.here hx rfl (hb hby at_83) ?_
        refine XS.icmpYes X140.here hx rfl (pc0 := 84) (pc' := 92) rfl (hb hby at_84) rfl (tlt (by decide : (1 : Int32) < (3 : Int32))).1 (by decide) (by decide) ?_
        refine XS.iload X140.here hx rfl (hb hby at_92) rfl ?_
        show Steps _ _ _ (T140.setTop (mkF m 94 #[.val (.long p1), .second, .val (.long p2), .second, .val (.long p3), .second, .val (.long p4), .second, .val (.long p5), .second, .val (.int p6), .val (.int (1 : Int32)), .val (.int (1 : Int32)), .val (.ref b128), .unset, .unset, .unset] [(.int (1 : Int32))])) _
        refine XS.ifNo X140.here hx rfl (hb hby at_94) rfl ((if0 _ _).trans (feq (by decide : ¬ ((1 : Int32) = (0 : Int32)))).1) ?_
        refine XS.aload X140.here hx rfl (hb hby at_97) rfl rfl ?_
        refine XS.aconstNull X140.here hx rfl (hb hby at_99) ?_
        refine XS.lload X140.here hx rfl (hb hby at_100) rfl ?_
        show Steps _ _ _ (T140.setTop (mkF m 102 #[.val (.long p1), .second, .val (.long p2), .second, .val (.long p3), .second, .val (.long p4), .second, .val (.long p5), .second, .val (.int p6), .val (.int (1 : Int32)), .val (.int (1 : Int32)), .val (.ref b128), .unset, .unset, .unset] [(.long p5), .null, (.ref b128)])) _
        refine st141.trans ?_
        refine XS.aload X141.here hx rfl (hb hby at_105) rfl rfl ?_
        refine st142.trans ?_
        refine XS.iconst X142.here hx rfl (hb hby at_110) ?_
        show Steps _ _ _ (T142.setTop (mkF m 111 #[.val (.long p1), .second, .val (.long p2), .second, .val (.long p3), .second, .val (.long p4), .second, .val (.long p5), .second, .val (.int p6), .val (.int (1 : Int32)), .val (.int (1 : Int32)), .val (.ref b128), .unset, .unset, .unset] [(.int (3 : Int32))])) _
        refine XS.iload X142.here hx rfl (hb hby at_111) rfl ?_
        refine XS.isub X142.here hx rfl (hb hby at_113) rfl ?_
        refine XS.iload X142.here hx rfl (hb hby at_114) rfl ?_
        refine XS.ifNo X142.here hx rfl (hb hby at_116) rfl ((if0 _ _).trans (feq (by decide : ¬ ((1 : Int32) = (0 : Int32)))).1) ?_
        show Steps _ _ _ (T142.setTop (mkF m 119 #[.val (.long p1), .second, .val (.long p2), .second, .val (.long p3), .second, .val (.long p4), .second, .val (.long p5), .second, .val (.int p6), .val (.int (1 : Int32)), .val (.int (1 : Int32)), .val (.ref b128), .unset, .unset, .unset] [(.int (2 : Int32))])) _
        refine XS.iconst X142.here hx rfl (hb hby at_119) ?_
        refine XS.goto X142.here hx rfl (pc0 := 120) (pc' := 124) rfl (hb hby at_120) (by decide) (by decide) ?_
        refine XS.iadd X142.here hx rfl (hb hby at_124) rfl ?_
        refine XS.istore X142.here hx rfl (hb hby at_125) rfl (l' := #[.val (.long p1), .second, .val (.long p2), .second, .val (.long p3), .second, .val (.long p4), .second, .val (.long p5), .second, .val (.int p6), .val (.int (1 : Int32)), .val (.int (1 : Int32)), .val (.ref b128), .val (.int (3 : Int32)), .unset, .unset]) rfl ?_
        show Steps _ _ _ (T142.setTop (mkF m 127 #[.val (.long p1), .second, .val (.long p2), .second, .val (.long p3), .second, .val (.long p4), .second, .val (.long p5), .second, .val (.int p6), .val (.int (1 : Int32)), .val (.int (1 : Int32)), .val (.ref b128), .val (.int (3 : Int32)), .unset, .unset] [])) _
        refine XS.aload X142.here hx rfl (hb hby at_127) rfl rfl ?_
        refine st143.trans ?_
        refine XS.iload X143.here hx rfl (hb hby at_132) rfl ?_
        refine XS.icmpYes X143.here hx rfl (pc0 := 134) (pc' := 139) rfl (hb hby at_134) rfl (teq (by decide : (3 : Int32) = (3 : Int32))).1 (by decide) (by decide) ?_
        show Steps _ _ _ (T143.setTop (mkF m 139 #[.val (.long p1), .second, .val (.long p2), .second, .val (.long p3), .second, .val (.long p4), .second, .val (.long p5), .second, .val (.int p6), .val (.int (1 : Int32)), .val (.int (1 : Int32)), .val (.ref b128), .val (.int (3 : Int32)), .unset, .unset] [])) _
        refine XS.iload X143.here hx rfl (hb hby at_139) rfl ?_
        refine XS.ifYes X143.here hx rfl (pc0 := 141) (pc' := 146) rfl (hb hby at_141) rfl ((if0 _ _).trans (feq (by decide : ¬ ((3 : Int32) = (0 : Int32)))).2) (by decide) (by decide) ?_
        refine XS.iload X143.here hx rfl (hb hby at_146) rfl ?_
        refine XS.ifYes X143.here hx rfl (pc0 := 148) (pc' := 157) rfl (hb hby at_148) rfl ((if0 _ _).trans (feq (by decide : ¬ ((1 : Int32) = (0 : Int32)))).2) (by decide) (by decide) ?_
        show Steps _ _ _ (T143.setTop (mkF m 157 #[.val (.long p1), .second, .val (.long p2), .second, .val (.long p3), .second, .val (.long p4), .second, .val (.long p5), .second, .val (.int p6), .val (.int (1 : Int32)), .val (.int (1 : Int32)), .val (.ref b128), .val (.int (3 : Int32)), .unset, .unset] [])) _
        refine XS.iload X143.here hx rfl (hb hby at_157) rfl ?_
        refine XS.iconst X143.here hx rfl (hb hby at_159) ?_
        refine XS.icmpNo X143.here hx rfl (hb hby at_160) rfl (teq (by decide : (1 : Int32) = (1 : Int32))).2 ?_
        refine XS.lload X143.here hx rfl (hb hby at_163) rfl ?_
        show Steps _ _ _ (T143.setTop (mkF m 165 #[.val (.long p1), .second, .val (.long p2), .second, .val (.long p3), .second, .val (.long p4), .second, .val (.long p5), .second, .val (.int p6), .val (.int (1 : Int32)), .val (.int (1 : Int32)), .val (.ref b128), .val (.int (3 : Int32)), .unset, .unset] [(.long p3)])) _
        refine XS.lstore X143.here hx rfl (hb hby at_165) rfl (l' := #[.val (.long p1), .second, .val (.long p2), .second, .val (.long p3), .second, .val (.long p4), .second, .val (.long p5), .second, .val (.int p6), .val (.int (1 : Int32)), .val (.int (1 : Int32)), .val (.ref b128), .val (.int (3 : Int32)), .val (.long p3), .second]) rfl ?_
        refine XS.goto X143.here hx rfl (pc0 := 167) (pc' := 187) rfl (hb hby at_167) (by decide) (by decide) ?_
        refine XS.aload X143.here hx rfl (hb hby at_187) rfl rfl ?_
        refine st144.trans ?_
        show Steps _ _ _ (T144.setTop (mkF m 192 #[.val (.long p1), .second, .val (.long p2), .second, .val (.long p3), .second, .val (.long p4), .second, .val (.long p5), .second, .val (.int p6), .val (.int (1 : Int32)), .val (.int (1 : Int32)), .val (.ref b128), .val (.int (3 : Int32)), .val (.long p3), .second] [(.long p3)])) _
        refine XS.lload X144.here hx rfl (hb hby at_192) rfl ?_
        refine XS.lcmp X144.here hx rfl (hb hby at_194) rfl ?_
        refine XS.ifNo X144.here hx rfl (hb hby at_195) rfl ((if0 _ _).trans (teq ((lw_eq _ _).mpr rfl)).2) ?_
        refine XS.iconst X144.here hx rfl (hb hby at_198) ?_
        show Steps _ _ _ (T144.setTop (mkF m 199 #[.val (.long p1), .second, .val (.long p2), .second, .val (.long p3), .second, .val (.long p4), .second, .val (.long p5), .second, .val (.int p6), .val (.int (1 : Int32)), .val (.int (1 : Int32)), .val (.ref b128), .val (.int (3 : Int32)), .val (.long p3), .second] [(.int (1 : Int32))])) _
        refine XS.goto X144.here hx rfl (pc0 := 199) (pc' := 203) rfl (hb hby at_199) (by decide) (by decide) ?_
        show Steps _ _ _ (T144.setTop (mkF m 203 #[.val (.long p1), .second, .val (.long p2), .second, .val (.long p3), .second, .val (.long p4), .second, .val (.long p5), .second, .val (.int p6), .val (.int (1 : Int32)), .val (.int (1 : Int32)), .val (.ref b128), .val (.int (3 : Int32)), .val (.long p3), .second] [(.int (1 : Int32))])) _
        exact retN X144 hx (t := .boolean) Bd.returns (by simp) (hb hby at_203) hr
      · show Qown_law Z p1 p2 p3 p4 p5 p6 h0 n0 _ T144.heap _
        rw [e144]
        exact ⟨rfl, N144⟩
    · skip
      rw [hs135] at pre134
      obtain ⟨cq145, kq145, q145a, q145b, q145c⟩ := isOf hZ rfl hS133.2.2.2.1
      obtain ⟨_, _, ⟨T145, L145, k145, n145⟩, -, X145, ⟨Lc145, hQ145, l145, y145, z145⟩, st145⟩ := X133.virtualBack hx (y := own_m4) (z := own_m4) hown (mvT hZ (own_w25 hw)) (mvT hZ (own_w26 hw)) (notFace_of_selects (args := #[]) (mvT hZ (own_w28 hw))) (mvT hZ (own_w28 hw)) (mvT hZ (own_w27 hw)) (by decide) (backOf (W := 0) (own_rem440 l Z a0 hw [] b128 fr133 ti133 kf133 kt133 p1 p2 p3 p4 T133.heap n0 hS133.1 gx hS133) hZ (own_w29 hw) (own_w2 hw) (by decide) (by decide)) q145a q145c (g := (mkF m 67 #[.val (.long p1), .second, .val (.long p2), .second, .val (.long p3), .second, .val (.long p4), .second, .val (.long p5), .second, .val (.int p6), .val (.int (2 : Int32)), .val (.int (1 : Int32)), .val (.ref b128), .unset, .unset, .unset] [(.ref b128)])) rfl (by rw [hml]; rfl) (Steps.refl _) (argsL := []) (rest := []) (lenOf own_pd1 rfl) rfl (by show 2 * 0 + _ ≤ _; exact Nat.le_of_eq rfl) (hb hby at_67) (fun _ _ => ⟨rfl, rfl, (by decide : 3 + 0 ≤ _), (by decide : 12 + 0 ≤ _)⟩)
      dsimp only [Pt.U, Pt.locs, Pt.cells, Pt.slots] at X145 l145 y145 z145 st145 hQ145
      subst l145 y145 z145
      obtain ⟨rfl, N145q, hG145⟩ := hQ145
      have N145 := Fr.app N133 N145q
      obtain ⟨fr145, ti145, kf145, kt145, hS145⟩ := hG145
      obtain ⟨cq146, kq146, q146a, q146b, q146c⟩ := isOf hZ rfl hS145.2.2.2.1
      obtain ⟨_, _, ⟨T146, L146, k146, n146⟩, -, X146, ⟨Lc146, hQ146, l146, y146, z146⟩, st146⟩ := X145.virtualBack hx (y := own_m4) (z := own_m4) hown (mvT hZ (own_w25 hw)) (mvT hZ (own_w26 hw)) (notFace_of_selects (args := #[]) (mvT hZ (own_w28 hw))) (mvT hZ (own_w28 hw)) (mvT hZ (own_w27 hw)) (by decide) (backOf (W := 0) (own_rem431 l Z a0 hw [] b128 fr145 ti145 kf145 kt145 p1 p2 p3 p4 T145.heap n0 hS145.1 gx hS145) hZ (own_w29 hw) (own_w2 hw) (by decide) (by decide)) q146a q146c (g := (mkF m 78 #[.val (.long p1), .second, .val (.long p2), .second, .val (.long p3), .second, .val (.long p4), .second, .val (.long p5), .second, .val (.int p6), .val (.int (2 : Int32)), .val (.int (1 : Int32)), .val (.ref b128), .unset, .unset, .unset] [(.ref b128)])) rfl (by rw [hml]; rfl) (Steps.refl _) (argsL := []) (rest := []) (lenOf own_pd1 rfl) rfl (by show 2 * 0 + _ ≤ _; exact Nat.le_of_eq rfl) (hb hby at_78) (fun _ _ => ⟨rfl, rfl, (by decide : 3 + 0 ≤ _), (by decide : 12 + 0 ≤ _)⟩)
      dsimp only [Pt.U, Pt.locs, Pt.cells, Pt.slots] at X146 l146 y146 z146 st146 hQ146
      subst l146 y146 z146
      obtain ⟨rfl, N146q, hG146⟩ := hQ146
      have N146 := Fr.app N145 N146q
      obtain ⟨fr146, ti146, kf146, kt146, hS146⟩ := hG146
      obtain ⟨cq147, kq147, q147a, q147b, q147c⟩ := isOf hZ rfl hS146.2.2.2.1
      obtain ⟨_, _, ⟨T147, L147, k147, n147⟩, -, X147, ⟨Lc147, hQ147, l147, y147, z147⟩, st147⟩ := X146.virtualBack hx (y := own_m3) (z := own_m3) hown (mvT hZ (own_w16 hw)) (mvT hZ (own_w17 hw)) (notFace_of_selects (args := #[]) (mvT hZ (own_w19 hw))) (mvT hZ (own_w19 hw)) (mvT hZ (own_w18 hw)) (by decide) (backOf (W := 0) (own_add22 l Z a0 hw [] b128 fr146 ti146 kf146 kt146 p1 p2 p3 p4 p5 T146.heap n0 hS146.1 gx hS146) hZ (own_w20 hw) (own_w2 hw) (by decide) (by decide)) q147a q147c (g := (mkF m 102 #[.val (.long p1), .second, .val (.long p2), .second, .val (.long p3), .second, .val (.long p4), .second, .val (.long p5), .second, .val (.int p6), .val (.int (2 : Int32)), .val (.int (1 : Int32)), .val (.ref b128), .unset, .unset, .unset] [(.long p5), .null, (.ref b128)])) rfl (by rw [hml]; rfl) (Steps.refl _) (argsL := [.null, (.long p5)]) (rest := []) (lenOf own_pd2 rfl) rfl (by show 2 * 0 + _ ≤ _; exact Nat.le_of_eq rfl) (hb hby at_102) (fun _ _ => ⟨rfl, rfl, (by decide : 3 + 0 ≤ _), (by decide : 12 + 0 ≤ _)⟩)
      dsimp only [Pt.U, Pt.locs, Pt.cells, Pt.slots] at X147 l147 y147 z147 st147 hQ147
      subst l147 y147 z147
      obtain ⟨rfl, N147q, hG147⟩ := hQ147
      have N147 := Fr.app N146 N147q
      obtain ⟨fr147, ti147, kf147, kt147, hS147⟩ := hG147
      obtain ⟨cq148, kq148, q148a, q148b, q148c⟩ := isOf hZ rfl hS147.2.2.2.1
      obtain ⟨_, _, ⟨T148, L148, k148, n148⟩, -, X148, ⟨Lc148, hQ148, l148, y148, z148⟩, st148⟩ := X147.virtualBack hx (y := own_m4) (z := own_m4) hown (mvT hZ (own_w25 hw)) (mvT hZ (own_w26 hw)) (notFace_of_selects (args := #[]) (mvT hZ (own_w28 hw))) (mvT hZ (own_w28 hw)) (mvT hZ (own_w27 hw)) (by decide) (backOf (W := 0) (own_rem432 l Z a0 hw [] b128 fr147 ti147 kf147 kt147 p5 p2 p3 p4 T147.heap n0 hS147.1 gx hS147) hZ (own_w29 hw) (own_w2 hw) (by decide) (by decide)) q148a q148c (g := (mkF m 107 #[.val (.long p1), .second, .val (.long p2), .second, .val (.long p3), .second, .val (.long p4), .second, .val (.long p5), .second, .val (.int p6), .val (.int (2 : Int32)), .val (.int (1 : Int32)), .val (.ref b128), .unset, .unset, .unset] [(.ref b128)])) rfl (by rw [hml]; rfl) (Steps.refl _) (argsL := []) (rest := []) (lenOf own_pd1 rfl) rfl (by show 2 * 0 + _ ≤ _; exact Nat.le_of_eq rfl) (hb hby at_107) (fun _ _ => ⟨rfl, rfl, (by decide : 3 + 0 ≤ _), (by decide : 12 + 0 ≤ _)⟩)
      dsimp only [Pt.U, Pt.locs, Pt.cells, Pt.slots] at X148 l148 y148 z148 st148 hQ148
      subst l148 y148 z148
      obtain ⟨rfl, N148q, hG148⟩ := hQ148
      have N148 := Fr.app N147 N148q
      obtain ⟨fr148, ti148, kf148, kt148, hS148⟩ := hG148
      obtain ⟨cq149, kq149, q149a, q149b, q149c⟩ := isOf hZ rfl hS148.2.2.2.1
      obtain ⟨_, _, ⟨T149, L149, k149, n149⟩, -, X149, ⟨Lc149, hQ149, l149, y149, z149⟩, st149⟩ := X148.virtualBack hx (y := own_m5) (z := own_m5) hown (mvT hZ (own_w30 hw)) (mvT hZ (own_w31 hw)) (notFace_of_selects (args := #[]) (mvT hZ (own_w33 hw))) (mvT hZ (own_w33 hw)) (mvT hZ (own_w32 hw)) (by decide) (backOf (W := 0) (own_size2 l Z a0 hw [] b128 T148.heap n0 hS148.1 hS148.2.2.2.2.2.2.1) hZ (own_w34 hw) (own_w2 hw) (by decide) (by decide)) q149a q149c (g := (mkF m 129 #[.val (.long p1), .second, .val (.long p2), .second, .val (.long p3), .second, .val (.long p4), .second, .val (.long p5), .second, .val (.int p6), .val (.int (2 : Int32)), .val (.int (1 : Int32)), .val (.ref b128), .val (.int (2 : Int32)), .unset, .unset] [(.ref b128)])) rfl (by rw [hml]; rfl) (Steps.refl _) (argsL := []) (rest := []) (lenOf own_pd3 rfl) rfl (by show 2 * 0 + _ ≤ _; exact Nat.le_of_eq rfl) (hb hby at_129) (fun _ _ => ⟨rfl, rfl, (by decide : 3 + 0 ≤ _), (by decide : 12 + 0 ≤ _)⟩)
      dsimp only [Pt.U, Pt.locs, Pt.cells, Pt.slots] at X149 l149 y149 z149 st149 hQ149
      subst l149 y149 z149
      obtain ⟨rfl, N149q, e149⟩ := hQ149
      have N149 := Fr.app N148 N149q
      obtain ⟨cq150, kq150, q150a, q150b, q150c⟩ := isOf hZ e149 hS148.2.2.2.1
      obtain ⟨_, _, ⟨T150, L150, k150, n150⟩, -, X150, ⟨Lc150, hQ150, l150, y150, z150⟩, st150⟩ := X149.virtualBack hx (y := own_m6) (z := own_m6) hown (mvT hZ (own_w35 hw)) (mvT hZ (own_w36 hw)) (notFace_of_selects (args := #[]) (mvT hZ (own_w38 hw))) (mvT hZ (own_w38 hw)) (mvT hZ (own_w37 hw)) (by decide) (backOf (W := 0) (own_fq43 l Z a0 hw [] b128 ti148 kt148 p5 p2 p3 p4 T148.heap n0 hS148.1 hS148.2.2.2.2.2.1 hS148.2.2.2.2.2.2.2.1 hS148.2.2.2.2.2.2.2.2.2.1) hZ (own_w39 hw) (own_w2 hw) (by decide) (by decide)) q150a q150c (g := (mkF m 189 #[.val (.long p1), .second, .val (.long p2), .second, .val (.long p3), .second, .val (.long p4), .second, .val (.long p5), .second, .val (.int p6), .val (.int (2 : Int32)), .val (.int (1 : Int32)), .val (.ref b128), .val (.int (2 : Int32)), .val (.long p4), .second] [(.ref b128)])) rfl (by rw [hml]; rfl) (Steps.refl _) (argsL := []) (rest := []) (lenOf own_pd4 rfl) rfl (by show 2 * 0 + _ ≤ _; exact Nat.le_of_eq rfl) (hb hby at_189) (fun _ _ => ⟨rfl, e149, (by decide : 3 + 0 ≤ _), (by decide : 12 + 0 ≤ _)⟩)
      dsimp only [Pt.U, Pt.locs, Pt.cells, Pt.slots] at X150 l150 y150 z150 st150 hQ150
      subst l150 y150 z150
      obtain ⟨rfl, N150q, e150⟩ := hQ150
      have N150 := Fr.app N149 N150q
      obtain ⟨fs, hr, hrun, hended, hW, hsame⟩ := X150.leave (v := some (.int (1 : Int32))) (fun h => by rw [Bd.returns] at h; cases h)
      refine ⟨_, _, pre134 _ ?_, hrun, hended, _, _, rfl, ?_, ⟨_, rfl⟩, hW, hsame.mono (by decide) (by decide)⟩
      · show Steps _ _ _ (T133.setTop (mkF m 59 #[.val (.long p1), .second, .val (.long p2), .second, .val (.long p3), .second, .val (.long p4), .second, .val (.long p5), .second, .val (.int p6), .val (.int (2 : Int32)), .val (.int (1 : Int32)), .val (.ref b128), .unset, .unset, .unset] [])) _
        refine XS.iload X133.here hx rfl (hb hby at_59) rfl ?_
        refine XS.iconst X133.here hx rfl (hb hby at_61) ?_
        refine XS.icmpNo X133.here hx rfl (hb hby at_62) rfl (flt (by decide : ¬ ((2 : Int32) < (1 : Int32)))).1 ?_
        refine XS.aload X133.here hx rfl (hb hby at_65) rfl rfl ?_
        show Steps _ _ _ (T133.setTop (mkF m 67 #[.val (.long p1), .second, .val (.long p2), .second, .val (.long p3), .second, .val (.long p4), .second, .val (.long p5), .second, .val (.int p6), .val (.int (2 : Int32)), .val (.int (1 : Int32)), .val (.ref b128), .unset, .unset, .unset] [(.ref b128)])) _
        refine st145.trans ?_
        refine XS.iload X145.here hx rfl (hb hby at_70) rfl ?_
        refine XS.iconst X145.here hx rfl (hb hby at_72) ?_
        refine XS.icmpNo X145.here hx rfl (hb hby at_73) rfl (flt (by decide : ¬ ((2 : Int32) < (2 : Int32)))).1 ?_
        show Steps _ _ _ (T145.setTop (mkF m 76 #[.val (.long p1), .second, .val (.long p2), .second, .val (.long p3), .second, .val (.long p4), .second, .val (.long p5), .second, .val (.int p6), .val (.int (2 : Int32)), .val (.int (1 : Int32)), .val (.ref b128), .unset, .unset, .unset] [])) _
        refine XS.aload X145.here hx rfl (hb hby at_76) rfl rfl ?_
        refine st146.trans ?_
        refine XS.iload X146.here hx rfl (hb hby at_81) rfl ?_
        refine XS.iconst X146.here hx rfl (hb hby at_83) ?_
        show Steps _ _ _ (T146.setTop (mkF m 84 #[.val (.long p1), .second, .val (.long p2), .second, .val (.long p3), .second, .val (.long p4), .second, .val (.long p5), .second, .val (.int p6), .val (.int (2 : Int32)), .val (.int (1 : Int32)), .val (.ref b128), .unset, .unset, .unset] [(.int (3 : Int32)), (.int (2 : Int32))])) _
        refine XS.icmpYes X146.here hx rfl (pc0 := 84) (pc' := 92) rfl (hb hby at_84) rfl (tlt (by decide : (2 : Int32) < (3 : Int32))).1 (by decide) (by decide) ?_
        refine XS.iload X146.here hx rfl (hb hby at_92) rfl ?_
        refine XS.ifNo X146.here hx rfl (hb hby at_94) rfl ((if0 _ _).trans (feq (by decide : ¬ ((1 : Int32) = (0 : Int32)))).1) ?_
        refine XS.aload X146.here hx rfl (hb hby at_97) rfl rfl ?_
        show Steps _ _ _ (T146.setTop (mkF m 99 #[.val (.long p1), .second, .val (.long p2), .second, .val (.long p3), .second, .val (.long p4), .second, .val (.long p5), .second, .val (.int p6), .val (.int (2 : Int32)), .val (.int (1 : Int32)), .val (.ref b128), .unset, .unset, .unset] [(.ref b128)])) _
        refine XS.aconstNull X146.here hx rfl (hb hby at_99) ?_
        refine XS.lload X146.here hx rfl (hb hby at_100) rfl ?_
        refine st147.trans ?_
        refine XS.aload X147.here hx rfl (hb hby at_105) rfl rfl ?_
        show Steps _ _ _ (T147.setTop (mkF m 107 #[.val (.long p1), .second, .val (.long p2), .second, .val (.long p3), .second, .val (.long p4), .second, .val (.long p5), .second, .val (.int p6), .val (.int (2 : Int32)), .val (.int (1 : Int32)), .val (.ref b128), .unset, .unset, .unset] [(.ref b128)])) _
        refine st148.trans ?_
        refine XS.iconst X148.here hx rfl (hb hby at_110) ?_
        refine XS.iload X148.here hx rfl (hb hby at_111) rfl ?_
        refine XS.isub X148.here hx rfl (hb hby at_113) rfl ?_
        show Steps _ _ _ (T148.setTop (mkF m 114 #[.val (.long p1), .second, .val (.long p2), .second, .val (.long p3), .second, .val (.long p4), .second, .val (.long p5), .second, .val (.int p6), .val (.int (2 : Int32)), .val (.int (1 : Int32)), .val (.ref b128), .unset, .unset, .unset] [(.int (1 : Int32))])) _
        refine XS.iload X148.here hx rfl (hb hby at_114) rfl ?_
        refine XS.ifNo X148.here hx rfl (hb hby at_116) rfl ((if0 _ _).trans (feq (by decide : ¬ ((1 : Int32) = (0 : Int32)))).1) ?_
        refine XS.iconst X148.here hx rfl (hb hby at_119) ?_
        refine XS.goto X148.here hx rfl (pc0 := 120) (pc' := 124) rfl (hb hby at_120) (by decide) (by decide) ?_
        show Steps _ _ _ (T148.setTop (mkF m 124 #[.val (.long p1), .second, .val (.long p2), .second, .val (.long p3), .second, .val (.long p4), .second, .val (.long p5), .second, .val (.int p6), .val (.int (2 : Int32)), .val (.int (1 : Int32)), .val (.ref b128), .unset, .unset, .unset] [(.int (1 : Int32)), (.int (1 : Int32))])) _
        refine XS.iadd X148.here hx rfl (hb hby at_124) rfl ?_
        refine XS.istore X148.here hx rfl (hb hby at_125) rfl (l' := #[.val (.long p1), .second, .val (.long p2), .second, .val (.long p3), .second, .val (.long p4), .second, .val (.long p5), .second, .val (.int p6), .val (.int (2 : Int32)), .val (.int (1 : Int32)), .val (.ref b128), .val (.int (2 : Int32)), .unset, .unset]) rfl ?_
        refine XS.aload X148.here hx rfl (hb hby at_127) rfl rfl ?_
        refine st149.trans ?_
        show Steps _ _ _ (T149.setTop (mkF m 132 #[.val (.long p1), .second, .val (.long p2), .second, .val (.long p3), .second, .val (.long p4), .second, .val (.long p5), .second, .val (.int p6), .val (.int (2 : Int32)), .val (.int (1 : Int32)), .val (.ref b128), .val (.int (2 : Int32)), .unset, .unset] [(.int (2 : Int32))])) _
        refine XS.iload X149.here hx rfl (hb hby at_132) rfl ?_
        refine XS.icmpYes X149.here hx rfl (pc0 := 134) (pc' := 139) rfl (hb hby at_134) rfl (teq (by decide : (2 : Int32) = (2 : Int32))).1 (by decide) (by decide) ?_
        refine XS.iload X149.here hx rfl (hb hby at_139) rfl ?_
        refine XS.ifYes X149.here hx rfl (pc0 := 141) (pc' := 146) rfl (hb hby at_141) rfl ((if0 _ _).trans (feq (by decide : ¬ ((2 : Int32) = (0 : Int32)))).2) (by decide) (by decide) ?_
        show Steps _ _ _ (T149.setTop (mkF m 146 #[.val (.long p1), .second, .val (.long p2), .second, .val (.long p3), .second, .val (.long p4), .second, .val (.long p5), .second, .val (.int p6), .val (.int (2 : Int32)), .val (.int (1 : Int32)), .val (.ref b128), .val (.int (2 : Int32)), .unset, .unset] [])) _
        refine XS.iload X149.here hx rfl (hb hby at_146) rfl ?_
        refine XS.ifYes X149.here hx rfl (pc0 := 148) (pc' := 157) rfl (hb hby at_148) rfl ((if0 _ _).trans (feq (by decide : ¬ ((2 : Int32) = (0 : Int32)))).2) (by decide) (by decide) ?_
        refine XS.iload X149.here hx rfl (hb hby at_157) rfl ?_
        refine XS.iconst X149.here hx rfl (hb hby at_159) ?_
        show Steps _ _ _ (T149.setTop (mkF m 160 #[.val (.long p1), .second, .val (.long p2), .second, .val (.long p3), .second, .val (.long p4), .second, .val (.long p5), .second, .val (.int p6), .val (.int (2 : Int32)), .val (.int (1 : Int32)), .val (.ref b128), .val (.int (2 : Int32)), .unset, .unset] [(.int (1 : Int32)), (.int (2 : Int32))])) _
        refine XS.icmpYes X149.here hx rfl (pc0 := 160) (pc' := 170) rfl (hb hby at_160) rfl (feq (by decide : ¬ ((2 : Int32) = (1 : Int32)))).2 (by decide) (by decide) ?_
        refine XS.iload X149.here hx rfl (hb hby at_170) rfl ?_
        refine XS.iconst X149.here hx rfl (hb hby at_172) ?_
        refine XS.icmpNo X149.here hx rfl (hb hby at_173) rfl (teq (by decide : (2 : Int32) = (2 : Int32))).2 ?_
        show Steps _ _ _ (T149.setTop (mkF m 176 #[.val (.long p1), .second, .val (.long p2), .second, .val (.long p3), .second, .val (.long p4), .second, .val (.long p5), .second, .val (.int p6), .val (.int (2 : Int32)), .val (.int (1 : Int32)), .val (.ref b128), .val (.int (2 : Int32)), .unset, .unset] [])) _
        refine XS.lload X149.here hx rfl (hb hby at_176) rfl ?_
        refine XS.lstore X149.here hx rfl (hb hby at_178) rfl (l' := #[.val (.long p1), .second, .val (.long p2), .second, .val (.long p3), .second, .val (.long p4), .second, .val (.long p5), .second, .val (.int p6), .val (.int (2 : Int32)), .val (.int (1 : Int32)), .val (.ref b128), .val (.int (2 : Int32)), .val (.long p4), .second]) rfl ?_
        refine XS.goto X149.here hx rfl (pc0 := 180) (pc' := 187) rfl (hb hby at_180) (by decide) (by decide) ?_
        refine XS.aload X149.here hx rfl (hb hby at_187) rfl rfl ?_
        show Steps _ _ _ (T149.setTop (mkF m 189 #[.val (.long p1), .second, .val (.long p2), .second, .val (.long p3), .second, .val (.long p4), .second, .val (.long p5), .second, .val (.int p6), .val (.int (2 : Int32)), .val (.int (1 : Int32)), .val (.ref b128), .val (.int (2 : Int32)), .val (.long p4), .second] [(.ref b128)])) _
        refine st150.trans ?_
        refine XS.lload X150.here hx rfl (hb hby at_192) rfl ?_
        refine XS.lcmp X150.here hx rfl (hb hby at_194) rfl ?_
        refine XS.ifNo X150.here hx rfl (hb hby at_195) rfl ((if0 _ _).trans (teq ((lw_eq _ _).mpr rfl)).2) ?_
        show Steps _ _ _ (T150.setTop (mkF m 198 #[.val (.long p1), .second, .val (.long p2), .second, .val (.long p3), .second, .val (.long p4), .second, .val (.long p5), .second, .val (.int p6), .val (.int (2 : Int32)), .val (.int (1 : Int32)), .val (.ref b128), .val (.int (2 : Int32)), .val (.long p4), .second] [])) _
        refine XS.iconst X150.here hx rfl (hb hby at_198) ?_
        refine XS.goto X150.here hx rfl (pc0 := 199) (pc' := 203) rfl (hb hby at_199) (by decide) (by decide) ?_
        show Steps _ _ _ (T150.setTop (mkF m 203 #[.val (.long p1), .second, .val (.long p2), .second, .val (.long p3), .second, .val (.long p4), .second, .val (.long p5), .second, .val (.int p6), .val (.int (2 : Int32)), .val (.int (1 : Int32)), .val (.ref b128), .val (.int (2 : Int32)), .val (.long p4), .second] [(.int (1 : Int32))])) _
        exact retN X150 hx (t := .boolean) Bd.returns (by simp) (hb hby at_203) hr
      · show Qown_law Z p1 p2 p3 p4 p5 p6 h0 n0 _ T150.heap _
        rw [e150]
        exact ⟨rfl, N150⟩
    · skip
      rw [hs135] at pre134
      obtain ⟨cq151, kq151, q151a, q151b, q151c⟩ := isOf hZ rfl hS133.2.2.2.1
      obtain ⟨_, _, ⟨T151, L151, k151, n151⟩, -, X151, ⟨Lc151, hQ151, l151, y151, z151⟩, st151⟩ := X133.virtualBack hx (y := own_m4) (z := own_m4) hown (mvT hZ (own_w25 hw)) (mvT hZ (own_w26 hw)) (notFace_of_selects (args := #[]) (mvT hZ (own_w28 hw))) (mvT hZ (own_w28 hw)) (mvT hZ (own_w27 hw)) (by decide) (backOf (W := 0) (own_rem440 l Z a0 hw [] b128 fr133 ti133 kf133 kt133 p1 p2 p3 p4 T133.heap n0 hS133.1 gx hS133) hZ (own_w29 hw) (own_w2 hw) (by decide) (by decide)) q151a q151c (g := (mkF m 67 #[.val (.long p1), .second, .val (.long p2), .second, .val (.long p3), .second, .val (.long p4), .second, .val (.long p5), .second, .val (.int p6), .val (.int (3 : Int32)), .val (.int (1 : Int32)), .val (.ref b128), .unset, .unset, .unset] [(.ref b128)])) rfl (by rw [hml]; rfl) (Steps.refl _) (argsL := []) (rest := []) (lenOf own_pd1 rfl) rfl (by show 2 * 0 + _ ≤ _; exact Nat.le_of_eq rfl) (hb hby at_67) (fun _ _ => ⟨rfl, rfl, (by decide : 3 + 0 ≤ _), (by decide : 12 + 0 ≤ _)⟩)
      dsimp only [Pt.U, Pt.locs, Pt.cells, Pt.slots] at X151 l151 y151 z151 st151 hQ151
      subst l151 y151 z151
      obtain ⟨rfl, N151q, hG151⟩ := hQ151
      have N151 := Fr.app N133 N151q
      obtain ⟨fr151, ti151, kf151, kt151, hS151⟩ := hG151
      obtain ⟨cq152, kq152, q152a, q152b, q152c⟩ := isOf hZ rfl hS151.2.2.2.1
      obtain ⟨_, _, ⟨T152, L152, k152, n152⟩, -, X152, ⟨Lc152, hQ152, l152, y152, z152⟩, st152⟩ := X151.virtualBack hx (y := own_m4) (z := own_m4) hown (mvT hZ (own_w25 hw)) (mvT hZ (own_w26 hw)) (notFace_of_selects (args := #[]) (mvT hZ (own_w28 hw))) (mvT hZ (own_w28 hw)) (mvT hZ (own_w27 hw)) (by decide) (backOf (W := 0) (own_rem431 l Z a0 hw [] b128 fr151 ti151 kf151 kt151 p1 p2 p3 p4 T151.heap n0 hS151.1 gx hS151) hZ (own_w29 hw) (own_w2 hw) (by decide) (by decide)) q152a q152c (g := (mkF m 78 #[.val (.long p1), .second, .val (.long p2), .second, .val (.long p3), .second, .val (.long p4), .second, .val (.long p5), .second, .val (.int p6), .val (.int (3 : Int32)), .val (.int (1 : Int32)), .val (.ref b128), .unset, .unset, .unset] [(.ref b128)])) rfl (by rw [hml]; rfl) (Steps.refl _) (argsL := []) (rest := []) (lenOf own_pd1 rfl) rfl (by show 2 * 0 + _ ≤ _; exact Nat.le_of_eq rfl) (hb hby at_78) (fun _ _ => ⟨rfl, rfl, (by decide : 3 + 0 ≤ _), (by decide : 12 + 0 ≤ _)⟩)
      dsimp only [Pt.U, Pt.locs, Pt.cells, Pt.slots] at X152 l152 y152 z152 st152 hQ152
      subst l152 y152 z152
      obtain ⟨rfl, N152q, hG152⟩ := hQ152
      have N152 := Fr.app N151 N152q
      obtain ⟨fr152, ti152, kf152, kt152, hS152⟩ := hG152
      obtain ⟨cq153, kq153, q153a, q153b, q153c⟩ := isOf hZ rfl hS152.2.2.2.1
      obtain ⟨_, _, ⟨T153, L153, k153, n153⟩, -, X153, ⟨Lc153, hQ153, l153, y153, z153⟩, st153⟩ := X152.virtualBack hx (y := own_m4) (z := own_m4) hown (mvT hZ (own_w25 hw)) (mvT hZ (own_w26 hw)) (notFace_of_selects (args := #[]) (mvT hZ (own_w28 hw))) (mvT hZ (own_w28 hw)) (mvT hZ (own_w27 hw)) (by decide) (backOf (W := 0) (own_rem422 l Z a0 hw [] b128 fr152 ti152 kf152 kt152 p1 p2 p3 p4 T152.heap n0 hS152.1 gx hS152) hZ (own_w29 hw) (own_w2 hw) (by decide) (by decide)) q153a q153c (g := (mkF m 89 #[.val (.long p1), .second, .val (.long p2), .second, .val (.long p3), .second, .val (.long p4), .second, .val (.long p5), .second, .val (.int p6), .val (.int (3 : Int32)), .val (.int (1 : Int32)), .val (.ref b128), .unset, .unset, .unset] [(.ref b128)])) rfl (by rw [hml]; rfl) (Steps.refl _) (argsL := []) (rest := []) (lenOf own_pd1 rfl) rfl (by show 2 * 0 + _ ≤ _; exact Nat.le_of_eq rfl) (hb hby at_89) (fun _ _ => ⟨rfl, rfl, (by decide : 3 + 0 ≤ _), (by decide : 12 + 0 ≤ _)⟩)
      dsimp only [Pt.U, Pt.locs, Pt.cells, Pt.slots] at X153 l153 y153 z153 st153 hQ153
      subst l153 y153 z153
      obtain ⟨rfl, N153q, hG153⟩ := hQ153
      have N153 := Fr.app N152 N153q
      obtain ⟨fr153, ti153, kf153, kt153, hS153⟩ := hG153
      obtain ⟨cq154, kq154, q154a, q154b, q154c⟩ := isOf hZ rfl hS153.2.2.2.1
      obtain ⟨_, _, ⟨T154, L154, k154, n154⟩, -, X154, ⟨Lc154, hQ154, l154, y154, z154⟩, st154⟩ := X153.virtualBack hx (y := own_m3) (z := own_m3) hown (mvT hZ (own_w16 hw)) (mvT hZ (own_w17 hw)) (notFace_of_selects (args := #[]) (mvT hZ (own_w19 hw))) (mvT hZ (own_w19 hw)) (mvT hZ (own_w18 hw)) (by decide) (backOf (W := 0) (own_add13 l Z a0 hw [] b128 fr153 ti153 kf153 kt153 p1 p2 p3 p4 p5 T153.heap n0 hS153.1 gx hS153) hZ (own_w20 hw) (own_w2 hw) (by decide) (by decide)) q154a q154c (g := (mkF m 102 #[.val (.long p1), .second, .val (.long p2), .second, .val (.long p3), .second, .val (.long p4), .second, .val (.long p5), .second, .val (.int p6), .val (.int (3 : Int32)), .val (.int (1 : Int32)), .val (.ref b128), .unset, .unset, .unset] [(.long p5), .null, (.ref b128)])) rfl (by rw [hml]; rfl) (Steps.refl _) (argsL := [.null, (.long p5)]) (rest := []) (lenOf own_pd2 rfl) rfl (by show 2 * 0 + _ ≤ _; exact Nat.le_of_eq rfl) (hb hby at_102) (fun _ _ => ⟨rfl, rfl, (by decide : 3 + 0 ≤ _), (by decide : 12 + 0 ≤ _)⟩)
      dsimp only [Pt.U, Pt.locs, Pt.cells, Pt.slots] at X154 l154 y154 z154 st154 hQ154
      subst l154 y154 z154
      obtain ⟨rfl, N154q, hG154⟩ := hQ154
      have N154 := Fr.app N153 N154q
      obtain ⟨fr154, ti154, kf154, kt154, hS154⟩ := hG154
      obtain ⟨cq155, kq155, q155a, q155b, q155c⟩ := isOf hZ rfl hS154.2.2.2.1
      obtain ⟨_, _, ⟨T155, L155, k155, n155⟩, -, X155, ⟨Lc155, hQ155, l155, y155, z155⟩, st155⟩ := X154.virtualBack hx (y := own_m4) (z := own_m4) hown (mvT hZ (own_w25 hw)) (mvT hZ (own_w26 hw)) (notFace_of_selects (args := #[]) (mvT hZ (own_w28 hw))) (mvT hZ (own_w28 hw)) (mvT hZ (own_w27 hw)) (by decide) (backOf (W := 0) (own_rem423 l Z a0 hw [] b128 fr154 ti154 kf154 kt154 p5 p2 p3 p4 T154.heap n0 hS154.1 gx hS154) hZ (own_w29 hw) (own_w2 hw) (by decide) (by decide)) q155a q155c (g := (mkF m 107 #[.val (.long p1), .second, .val (.long p2), .second, .val (.long p3), .second, .val (.long p4), .second, .val (.long p5), .second, .val (.int p6), .val (.int (3 : Int32)), .val (.int (1 : Int32)), .val (.ref b128), .unset, .unset, .unset] [(.ref b128)])) rfl (by rw [hml]; rfl) (Steps.refl _) (argsL := []) (rest := []) (lenOf own_pd1 rfl) rfl (by show 2 * 0 + _ ≤ _; exact Nat.le_of_eq rfl) (hb hby at_107) (fun _ _ => ⟨rfl, rfl, (by decide : 3 + 0 ≤ _), (by decide : 12 + 0 ≤ _)⟩)
      dsimp only [Pt.U, Pt.locs, Pt.cells, Pt.slots] at X155 l155 y155 z155 st155 hQ155
      subst l155 y155 z155
      obtain ⟨rfl, N155q, hG155⟩ := hQ155
      have N155 := Fr.app N154 N155q
      obtain ⟨fr155, ti155, kf155, kt155, hS155⟩ := hG155
      obtain ⟨cq156, kq156, q156a, q156b, q156c⟩ := isOf hZ rfl hS155.2.2.2.1
      obtain ⟨_, _, ⟨T156, L156, k156, n156⟩, -, X156, ⟨Lc156, hQ156, l156, y156, z156⟩, st156⟩ := X155.virtualBack hx (y := own_m5) (z := own_m5) hown (mvT hZ (own_w30 hw)) (mvT hZ (own_w31 hw)) (notFace_of_selects (args := #[]) (mvT hZ (own_w33 hw))) (mvT hZ (own_w33 hw)) (mvT hZ (own_w32 hw)) (by decide) (backOf (W := 0) (own_size1 l Z a0 hw [] b128 T155.heap n0 hS155.1 hS155.2.2.2.2.2.2.1) hZ (own_w34 hw) (own_w2 hw) (by decide) (by decide)) q156a q156c (g := (mkF m 129 #[.val (.long p1), .second, .val (.long p2), .second, .val (.long p3), .second, .val (.long p4), .second, .val (.long p5), .second, .val (.int p6), .val (.int (3 : Int32)), .val (.int (1 : Int32)), .val (.ref b128), .val (.int (1 : Int32)), .unset, .unset] [(.ref b128)])) rfl (by rw [hml]; rfl) (Steps.refl _) (argsL := []) (rest := []) (lenOf own_pd3 rfl) rfl (by show 2 * 0 + _ ≤ _; exact Nat.le_of_eq rfl) (hb hby at_129) (fun _ _ => ⟨rfl, rfl, (by decide : 3 + 0 ≤ _), (by decide : 12 + 0 ≤ _)⟩)
      dsimp only [Pt.U, Pt.locs, Pt.cells, Pt.slots] at X156 l156 y156 z156 st156 hQ156
      subst l156 y156 z156
      obtain ⟨rfl, N156q, e156⟩ := hQ156
      have N156 := Fr.app N155 N156q
      obtain ⟨cq157, kq157, q157a, q157b, q157c⟩ := isOf hZ e156 hS155.2.2.2.1
      obtain ⟨_, _, ⟨T157, L157, k157, n157⟩, -, X157, ⟨Lc157, hQ157, l157, y157, z157⟩, st157⟩ := X156.virtualBack hx (y := own_m6) (z := own_m6) hown (mvT hZ (own_w35 hw)) (mvT hZ (own_w36 hw)) (notFace_of_selects (args := #[]) (mvT hZ (own_w38 hw))) (mvT hZ (own_w38 hw)) (mvT hZ (own_w37 hw)) (by decide) (backOf (W := 0) (own_fq40 l Z a0 hw [] b128 ti155 kt155 p5 p2 p3 p4 T155.heap n0 hS155.1 hS155.2.2.2.2.2.1 hS155.2.2.2.2.2.2.2.1 hS155.2.2.2.2.2.2.2.2.2.1) hZ (own_w39 hw) (own_w2 hw) (by decide) (by decide)) q157a q157c (g := (mkF m 189 #[.val (.long p1), .second, .val (.long p2), .second, .val (.long p3), .second, .val (.long p4), .second, .val (.long p5), .second, .val (.int p6), .val (.int (3 : Int32)), .val (.int (1 : Int32)), .val (.ref b128), .val (.int (1 : Int32)), .val (.long p5), .second] [(.ref b128)])) rfl (by rw [hml]; rfl) (Steps.refl _) (argsL := []) (rest := []) (lenOf own_pd4 rfl) rfl (by show 2 * 0 + _ ≤ _; exact Nat.le_of_eq rfl) (hb hby at_189) (fun _ _ => ⟨rfl, e156, (by decide : 3 + 0 ≤ _), (by decide : 12 + 0 ≤ _)⟩)
      dsimp only [Pt.U, Pt.locs, Pt.cells, Pt.slots] at X157 l157 y157 z157 st157 hQ157
      subst l157 y157 z157
      obtain ⟨rfl, N157q, e157⟩ := hQ157
      have N157 := Fr.app N156 N157q
      obtain ⟨fs, hr, hrun, hended, hW, hsame⟩ := X157.leave (v := some (.int (1 : Int32))) (fun h => by rw [Bd.returns] at h; cases h)
      refine ⟨_, _, pre134 _ ?_, hrun, hended, _, _, rfl, ?_, ⟨_, rfl⟩, hW, hsame.mono (by decide) (by decide)⟩
      · show Steps _ _ _ (T133.setTop (mkF m 59 #[.val (.long p1), .second, .val (.long p2), .second, .val (.long p3), .second, .val (.long p4), .second, .val (.long p5), .second, .val (.int p6), .val (.int (3 : Int32)), .val (.int (1 : Int32)), .val (.ref b128), .unset, .unset, .unset] [])) _
        refine XS.iload X133.here hx rfl (hb hby at_59) rfl ?_
        refine XS.iconst X133.here hx rfl (hb hby at_61) ?_
        refine XS.icmpNo X133.here hx rfl (hb hby at_62) rfl (flt (by decide : ¬ ((3 : Int32) < (1 : Int32)))).1 ?_
        refine XS.aload X133.here hx rfl (hb hby at_65) rfl rfl ?_
        show Steps _ _ _ (T133.setTop (mkF m 67 #[.val (.long p1), .second, .val (.long p2), .second, .val (.long p3), .second, .val (.long p4), .second, .val (.long p5), .second, .val (.int p6), .val (.int (3 : Int32)), .val (.int (1 : Int32)), .val (.ref b128), .unset, .unset, .unset] [(.ref b128)])) _
        refine st151.trans ?_
        refine XS.iload X151.here hx rfl (hb hby at_70) rfl ?_
        refine XS.iconst X151.here hx rfl (hb hby at_72) ?_
        refine XS.icmpNo X151.here hx rfl (hb hby at_73) rfl (flt (by decide : ¬ ((3 : Int32) < (2 : Int32)))).1 ?_
        show Steps _ _ _ (T151.setTop (mkF m 76 #[.val (.long p1), .second, .val (.long p2), .second, .val (.long p3), .second, .val (.long p4), .second, .val (.long p5), .second, .val (.int p6), .val (.int (3 : Int32)), .val (.int (1 : Int32)), .val (.ref b128), .unset, .unset, .unset] [])) _
        refine XS.aload X151.here hx rfl (hb hby at_76) rfl rfl ?_
        refine st152.trans ?_
        refine XS.iload X152.here hx rfl (hb hby at_81) rfl ?_
        refine XS.iconst X152.here hx rfl (hb hby at_83) ?_
        show Steps _ _ _ (T152.setTop (mkF m 84 #[.val (.long p1), .second, .val (.long p2), .second, .val (.long p3), .second, .val (.long p4), .second, .val (.long p5), .second, .val (.int p6), .val (.int (3 : Int32)), .val (.int (1 : Int32)), .val (.ref b128), .unset, .unset, .unset] [(.int (3 : Int32)), (.int (3 : Int32))])) _
        refine XS.icmpNo X152.here hx rfl (hb hby at_84) rfl (flt (by decide : ¬ ((3 : Int32) < (3 : Int32)))).1 ?_
        refine XS.aload X152.here hx rfl (hb hby at_87) rfl rfl ?_
        refine st153.trans ?_
        refine XS.iload X153.here hx rfl (hb hby at_92) rfl ?_
        show Steps _ _ _ (T153.setTop (mkF m 94 #[.val (.long p1), .second, .val (.long p2), .second, .val (.long p3), .second, .val (.long p4), .second, .val (.long p5), .second, .val (.int p6), .val (.int (3 : Int32)), .val (.int (1 : Int32)), .val (.ref b128), .unset, .unset, .unset] [(.int (1 : Int32))])) _
        refine XS.ifNo X153.here hx rfl (hb hby at_94) rfl ((if0 _ _).trans (feq (by decide : ¬ ((1 : Int32) = (0 : Int32)))).1) ?_
        refine XS.aload X153.here hx rfl (hb hby at_97) rfl rfl ?_
        refine XS.aconstNull X153.here hx rfl (hb hby at_99) ?_
        refine XS.lload X153.here hx rfl (hb hby at_100) rfl ?_
        show Steps _ _ _ (T153.setTop (mkF m 102 #[.val (.long p1), .second, .val (.long p2), .second, .val (.long p3), .second, .val (.long p4), .second, .val (.long p5), .second, .val (.int p6), .val (.int (3 : Int32)), .val (.int (1 : Int32)), .val (.ref b128), .unset, .unset, .unset] [(.long p5), .null, (.ref b128)])) _
        refine st154.trans ?_
        refine XS.aload X154.here hx rfl (hb hby at_105) rfl rfl ?_
        refine st155.trans ?_
        refine XS.iconst X155.here hx rfl (hb hby at_110) ?_
        show Steps _ _ _ (T155.setTop (mkF m 111 #[.val (.long p1), .second, .val (.long p2), .second, .val (.long p3), .second, .val (.long p4), .second, .val (.long p5), .second, .val (.int p6), .val (.int (3 : Int32)), .val (.int (1 : Int32)), .val (.ref b128), .unset, .unset, .unset] [(.int (3 : Int32))])) _
        refine XS.iload X155.here hx rfl (hb hby at_111) rfl ?_
        refine XS.isub X155.here hx rfl (hb hby at_113) rfl ?_
        refine XS.iload X155.here hx rfl (hb hby at_114) rfl ?_
        refine XS.ifNo X155.here hx rfl (hb hby at_116) rfl ((if0 _ _).trans (feq (by decide : ¬ ((1 : Int32) = (0 : Int32)))).1) ?_
        show Steps _ _ _ (T155.setTop (mkF m 119 #[.val (.long p1), .second, .val (.long p2), .second, .val (.long p3), .second, .val (.long p4), .second, .val (.long p5), .second, .val (.int p6), .val (.int (3 : Int32)), .val (.int (1 : Int32)), .val (.ref b128), .unset, .unset, .unset] [(.int (0 : Int32))])) _
        refine XS.iconst X155.here hx rfl (hb hby at_119) ?_
        refine XS.goto X155.here hx rfl (pc0 := 120) (pc' := 124) rfl (hb hby at_120) (by decide) (by decide) ?_
        refine XS.iadd X155.here hx rfl (hb hby at_124) rfl ?_
        refine XS.istore X155.here hx rfl (hb hby at_125) rfl (l' := #[.val (.long p1), .second, .val (.long p2), .second, .val (.long p3), .second, .val (.long p4), .second, .val (.long p5), .second, .val (.int p6), .val (.int (3 : Int32)), .val (.int (1 : Int32)), .val (.ref b128), .val (.int (1 : Int32)), .unset, .unset]) rfl ?_
        show Steps _ _ _ (T155.setTop (mkF m 127 #[.val (.long p1), .second, .val (.long p2), .second, .val (.long p3), .second, .val (.long p4), .second, .val (.long p5), .second, .val (.int p6), .val (.int (3 : Int32)), .val (.int (1 : Int32)), .val (.ref b128), .val (.int (1 : Int32)), .unset, .unset] [])) _
        refine XS.aload X155.here hx rfl (hb hby at_127) rfl rfl ?_
        refine st156.trans ?_
        refine XS.iload X156.here hx rfl (hb hby at_132) rfl ?_
        refine XS.icmpYes X156.here hx rfl (pc0 := 134) (pc' := 139) rfl (hb hby at_134) rfl (teq (by decide : (1 : Int32) = (1 : Int32))).1 (by decide) (by decide) ?_
        show Steps _ _ _ (T156.setTop (mkF m 139 #[.val (.long p1), .second, .val (.long p2), .second, .val (.long p3), .second, .val (.long p4), .second, .val (.long p5), .second, .val (.int p6), .val (.int (3 : Int32)), .val (.int (1 : Int32)), .val (.ref b128), .val (.int (1 : Int32)), .unset, .unset] [])) _
        refine XS.iload X156.here hx rfl (hb hby at_139) rfl ?_
        refine XS.ifYes X156.here hx rfl (pc0 := 141) (pc' := 146) rfl (hb hby at_141) rfl ((if0 _ _).trans (feq (by decide : ¬ ((1 : Int32) = (0 : Int32)))).2) (by decide) (by decide) ?_
        refine XS.iload X156.here hx rfl (hb hby at_146) rfl ?_
        refine XS.ifYes X156.here hx rfl (pc0 := 148) (pc' := 157) rfl (hb hby at_148) rfl ((if0 _ _).trans (feq (by decide : ¬ ((3 : Int32) = (0 : Int32)))).2) (by decide) (by decide) ?_
        show Steps _ _ _ (T156.setTop (mkF m 157 #[.val (.long p1), .second, .val (.long p2), .second, .val (.long p3), .second, .val (.long p4), .second, .val (.long p5), .second, .val (.int p6), .val (.int (3 : Int32)), .val (.int (1 : Int32)), .val (.ref b128), .val (.int (1 : Int32)), .unset, .unset] [])) _
        refine XS.iload X156.here hx rfl (hb hby at_157) rfl ?_
        refine XS.iconst X156.here hx rfl (hb hby at_159) ?_
        refine XS.icmpYes X156.here hx rfl (pc0 := 160) (pc' := 170) rfl (hb hby at_160) rfl (feq (by decide : ¬ ((3 : Int32) = (1 : Int32)))).2 (by decide) (by decide) ?_
        refine XS.iload X156.here hx rfl (hb hby at_170) rfl ?_
        show Steps _ _ _ (T156.setTop (mkF m 172 #[.val (.long p1), .second, .val (.long p2), .second, .val (.long p3), .second, .val (.long p4), .second, .val (.long p5), .second, .val (.int p6), .val (.int (3 : Int32)), .val (.int (1 : Int32)), .val (.ref b128), .val (.int (1 : Int32)), .unset, .unset] [(.int (3 : Int32))])) _
        refine XS.iconst X156.here hx rfl (hb hby at_172) ?_
        refine XS.icmpYes X156.here hx rfl (pc0 := 173) (pc' := 183) rfl (hb hby at_173) rfl (feq (by decide : ¬ ((3 : Int32) = (2 : Int32)))).2 (by decide) (by decide) ?_
        refine XS.lload X156.here hx rfl (hb hby at_183) rfl ?_
        refine XS.lstore X156.here hx rfl (hb hby at_185) rfl (l' := #[.val (.long p1), .second, .val (.long p2), .second, .val (.long p3), .second, .val (.long p4), .second, .val (.long p5), .second, .val (.int p6), .val (.int (3 : Int32)), .val (.int (1 : Int32)), .val (.ref b128), .val (.int (1 : Int32)), .val (.long p5), .second]) rfl ?_
        show Steps _ _ _ (T156.setTop (mkF m 187 #[.val (.long p1), .second, .val (.long p2), .second, .val (.long p3), .second, .val (.long p4), .second, .val (.long p5), .second, .val (.int p6), .val (.int (3 : Int32)), .val (.int (1 : Int32)), .val (.ref b128), .val (.int (1 : Int32)), .val (.long p5), .second] [])) _
        refine XS.aload X156.here hx rfl (hb hby at_187) rfl rfl ?_
        refine st157.trans ?_
        refine XS.lload X157.here hx rfl (hb hby at_192) rfl ?_
        refine XS.lcmp X157.here hx rfl (hb hby at_194) rfl ?_
        show Steps _ _ _ (T157.setTop (mkF m 195 #[.val (.long p1), .second, .val (.long p2), .second, .val (.long p3), .second, .val (.long p4), .second, .val (.long p5), .second, .val (.int p6), .val (.int (3 : Int32)), .val (.int (1 : Int32)), .val (.ref b128), .val (.int (1 : Int32)), .val (.long p5), .second] [(.int (lcmpW p5 p5))])) _
        refine XS.ifNo X157.here hx rfl (hb hby at_195) rfl ((if0 _ _).trans (teq ((lw_eq _ _).mpr rfl)).2) ?_
        refine XS.iconst X157.here hx rfl (hb hby at_198) ?_
        refine XS.goto X157.here hx rfl (pc0 := 199) (pc' := 203) rfl (hb hby at_199) (by decide) (by decide) ?_
        show Steps _ _ _ (T157.setTop (mkF m 203 #[.val (.long p1), .second, .val (.long p2), .second, .val (.long p3), .second, .val (.long p4), .second, .val (.long p5), .second, .val (.int p6), .val (.int (3 : Int32)), .val (.int (1 : Int32)), .val (.ref b128), .val (.int (1 : Int32)), .val (.long p5), .second] [(.int (1 : Int32))])) _
        exact retN X157 hx (t := .boolean) Bd.returns (by simp) (hb hby at_203) hr
      · show Qown_law Z p1 p2 p3 p4 p5 p6 h0 n0 _ T157.heap _
        rw [e157]
        exact ⟨rfl, N157⟩
set_option maxRecDepth 65536 in
set_option maxHeartbeats 40000000 in
theorem comes_1 {Post : Tables → Env → Array Value → State → Outcome → State → Prop} (hpost : ∀ tb e args s v u, (limb_1_1.after args s (.returned v) u = true ∧ limb_1_2.after args s (.returned v) u = true ∧ True) → FrameEnd s (.returned v) u (Jvm.fieldLocs frame_1_writes args s ++ Jvm.arrayLocs frame_1_arrays args s ++ Jvm.staticLocs frame_1_statics s) 24 128 → Post tb e args s (.returned v) u) :
    ArmFor flags0 classFile x code maxLocals ret World_1 tables_1 room_1 Calls_1 rest_1 Pre_1 Post := by
  intro l hfl _ _ p e ha hc hk s m args below hf hA hF happ hP
  obtain ⟨hcalls, hrest, hpre⟩ := hP
  obtain ⟨-, -, -, hnamed, -, -, -, hat⟩ := (Spec.applies_iff hf).mp happ
  obtain ⟨hg, hn⟩ := and_e (Cond.before_iff.mp (show (Jvm.Cond.and given_1 narrow_1).before args s = true from hpre))
  obtain ⟨gc, gr0⟩ := and_e hg
  obtain ⟨ga0, gr1⟩ := and_e gr0
  obtain ⟨ga1, gr2⟩ := and_e gr1
  obtain ⟨ga2, gr3⟩ := and_e gr2
  obtain ⟨ga3, gr4⟩ := and_e gr3
  obtain ⟨ga4, gr5⟩ := and_e gr4
  have ga5 := gr5
  obtain ⟨w0, w1, w2, w3, w4, w5, rfl⟩ : ∃ w0 w1 w2 w3 w4 w5 : Value, args = #[w0, w1, w2, w3, w4, w5] := by
    have hs : args.size = 6 := by simpa [Cond.value, given_1] using gc
    obtain ⟨L⟩ := args
    match L, hs with
    | [w0, w1, w2, w3, w4, w5], _ => exact ⟨w0, w1, w2, w3, w4, w5, rfl⟩
  have hw := fun d (hd : d ∈ tables_1) => atoms_spec (ws := Jvm.Cond.code x code maxLocals ret :: tables_1) hat d (List.mem_cons_of_mem _ hd)
  have hfit : Fit s := fun {y c} hc i hi => by
    obtain ⟨ha, rfl⟩ := Array.getElem?_eq_some_iff.mp hc
    have q := List.all_eq_true.mp ((Array.all_eq_true_iff_forall_mem.mp hF) _ (Array.getElem_mem ha)) i (List.mem_range.mpr hi)
    simpa [Array.getElem?_eq_getElem hi] using q
  obtain ⟨i0, ei0⟩ := isL_v ga0
  obtain rfl : w0 = (.long i0) := Option.some.inj ei0
  obtain ⟨i1, ei1⟩ := isL_v ga1
  obtain rfl : w1 = (.long i1) := Option.some.inj ei1
  obtain ⟨i2, ei2⟩ := isL_v ga2
  obtain rfl : w2 = (.long i2) := Option.some.inj ei2
  obtain ⟨i3, ei3⟩ := isL_v ga3
  obtain rfl : w3 = (.long i3) := Option.some.inj ei3
  obtain ⟨i4, ei4⟩ := isL_v ga4
  obtain rfl : w4 = (.long i4) := Option.some.inj ei4
  obtain ⟨i5, ei5⟩ := is_v ga5
  obtain rfl : w5 = (.int i5) := Option.some.inj ei5
  obtain ⟨n, o, h1, h2, h3, _, L, rfl, ⟨rfl, N⟩, hq⟩ := own_law l s _ hw tables_1 i0 i1 i2 i3 i4 i5 s.heap s.heap.size (Nat.le_refl _)  p e ha hc hk s m _ below hf ((Spec.applies_iff_loose hf).mp happ).1 ⟨rfl, State.Warmed39.refl s, rfl⟩ trivial
  refine ⟨n, _, h1, h2, h3, hpost _ _ _ _ _ _ ⟨Cond.after_iff.mpr rfl, Cond.after_iff.mpr (eq_i res_at (Term.int_eval (1)) rfl), trivial⟩ ⟨hq.1, hq.2.1, (hq.2.2.sift fun y hy => Or.inr (N y hy)).mono (by decide) (by decide)⟩⟩
theorem main_1_1 : Claimed_1_1 := comes_1 fun _ _ _ _ _ _ h hF => ⟨h.1, hF⟩
theorem main_1_2 : Claimed_1_2 := comes_1 fun _ _ _ _ _ _ h hF => ⟨h.2.1, hF⟩
end Jvm.Pilot.@@N@@
namespace Jvm.Pilot.@@N@@
open Jvm Jvm.ClassFile Sem Op Lib Jvm.Free Jvm.Stand Jvm.Pilot.@@N@@.Jvm.D
/-! MADE BY PROGRAM (witnessworld.py) out of the Statement's table words and the real class files: 15 classes; the members and pool entries that the words name. The judged class is class 1, her method 1. -/
namespace start1
open Jvm.ClassFile
def u (s : String) : CpInfo := .utf8 (stringToUtf16 s)
/-- a pool by its gaps: so many unusable entries, then the entry; so many at the end -/
def gap : Nat → List CpInfo → List CpInfo
  | 0, r => r
  | n + 1, r => .unusable :: gap n r
def poolList (es : List (Nat × CpInfo)) (last : Nat) : List CpInfo := es.foldr (fun e r => gap e.1 (e.2 :: r)) (gap last [])
def pool (es : List (Nat × CpInfo)) (last : Nat) : Array CpInfo := ⟨poolList es last⟩
def fileOf (pool : Array CpInfo) (this : Nat) (attrs : Array Attribute := #[]) (ms : Array MethodInfo := #[]) (fl : Nat := 33) (sup : Nat := 0) (ifs : Array Nat := #[]) (fds : Array FieldInfo := #[]) : ClassFile where
  minorVersion := 0
  majorVersion := 65
  constantPool := pool
  accessFlags := fl
  thisClass := this
  superClass := sup
  interfaces := ifs
  fields := fds
  methods := ms
  attributes := attrs
def plain (name : String) (sup : Option ClassId) : Class where
  name := name
  kind := .ordinary
  loader := none
  accessFlags := 33
  super := sup
  interfaces := #[]
  cf := none
  fields := #[]
  methods := #[]
  instanceTypes := #[]
  staticTypes := #[]
  resolved := #[]
  callSites := []
  init := .initialized
  statics := none
  mirror := none

def pool0 : Array CpInfo := pool [(5, u "<init>"), (0, u "()V"), (1, .class_ 10), (1, u "java/lang/Object")] 113

def k0c0 : Code := { maxStack := 0, maxLocals := 1, code := object_method_1_code, exceptionTable := #[], attributes := #[] }
def k0m0 : Method := { name := "<init>", desc := "()V", sig := { parameters := [], returnType := none }, accessFlags := 1, code := some k0c0 }
/-- java/lang/Object -/
def k0 : Class := { plain "java/lang/Object" none with
  accessFlags := 33
  interfaces := #[]
  cf := some (fileOf pool0 8 #[] #[{ accessFlags := 1, nameIndex := 5, descriptorIndex := 6, attributes := #[] }] 33 0 #[] #[])
  fields := #[]
  methods := #[k0m0]
  instanceTypes := #[]
  staticTypes := #[]
  resolved := Array.replicate 124 none
  statics := none }

def pool1 : Array CpInfo := pool [(2, .class_ 4), (0, .nameAndType 5 6), (0, u "java/lang/Object"), (0, u "<init>"), (0, u "()V"), (0, .class_ 8), (0, u "com/example/don_valley/donvalley/broker/QueuedFrames"), (0, .methodref 7 3), (0, .methodref 7 11), (0, .nameAndType 12 13), (0, u "add"), (0, u "(Ljava/nio/ByteBuffer;J)V"), (0, .methodref 7 15), (0, .nameAndType 16 6), (0, u "removeFirst"), (0, .methodref 7 18), (0, .nameAndType 19 20), (0, u "size"), (0, u "()I"), (0, .methodref 7 22), (0, .nameAndType 23 24), (0, u "firstQueuedAt"), (0, u "()J"), (0, .class_ 26), (0, u "com/example/don_valley/donvalley/broker/QueuedFramesRemoveFirstPinLaw"), (2, u "law"), (0, u "(JJJJJI)Z")] 3

def k1m0 : Method := { name := "<init>", desc := "()V", sig := { parameters := [], returnType := none }, accessFlags := 1, code := none }
def k1c1 : Code := { maxStack := 4, maxLocals := 17, code := code, exceptionTable := #[], attributes := #[] }
def k1m1 : Method := { name := "law", desc := "(JJJJJI)Z", sig := { parameters := [.long, .long, .long, .long, .long, .int], returnType := some .boolean }, accessFlags := 9, code := some k1c1 }
/-- com/example/don_valley/donvalley/broker/QueuedFramesRemoveFirstPinLaw -/
def k1 : Class := { plain "com/example/don_valley/donvalley/broker/QueuedFramesRemoveFirstPinLaw" (some 0) with
  accessFlags := 49
  interfaces := #[]
  cf := some (fileOf pool1 25 #[] #[{ accessFlags := 1, nameIndex := 5, descriptorIndex := 6, attributes := #[] }, { accessFlags := 9, nameIndex := 29, descriptorIndex := 30, attributes := #[] }] 49 2 #[] #[])
  fields := #[]
  methods := #[k1m0, k1m1]
  instanceTypes := #[]
  staticTypes := #[]
  resolved := Array.replicate 34 none
  statics := none }

def pool2 : Array CpInfo := pool [(1, .methodref 2 3), (0, .class_ 4), (0, .nameAndType 5 6), (0, u "java/lang/Object"), (0, u "<init>"), (0, u "()V"), (0, .class_ 8), (0, u "java/nio/ByteBuffer"), (0, .fieldref 10 11), (0, .class_ 12), (0, .nameAndType 13 14), (0, u "com/example/don_valley/donvalley/broker/QueuedFrames"), (0, u "frames"), (0, u "[Ljava/nio/ByteBuffer;"), (0, .fieldref 10 16), (0, .nameAndType 17 18), (0, u "times"), (0, u "[J"), (0, .fieldref 10 20), (0, .nameAndType 21 22), (0, u "size"), (0, u "I"), (0, .methodref 10 24), (0, .nameAndType 25 6), (0, u "grow"), (0, .fieldref 10 27), (0, .nameAndType 28 22), (0, u "first"), (4, .methodref 10 34), (0, .nameAndType 35 36), (0, u "get"), (0, u "(I)Ljava/nio/ByteBuffer;"), (2, u "firstQueuedAt"), (0, u "()J"), (2, u "add"), (0, u "(Ljava/nio/ByteBuffer;J)V"), (2, u "removeFirst"), (5, u "()I")] 4

def k2c0 : Code := { maxStack := 2, maxLocals := 1, code := prog_10_method_1_code, exceptionTable := #[], attributes := #[] }
def k2m0 : Method := { name := "<init>", desc := "()V", sig := { parameters := [], returnType := none }, accessFlags := 0, code := some k2c0 }
def k2c1 : Code := { maxStack := 5, maxLocals := 5, code := prog_10_method_2_code, exceptionTable := #[], attributes := #[] }
def k2m1 : Method := { name := "add", desc := "(Ljava/nio/ByteBuffer;J)V", sig := { parameters := [(.object "java/nio/ByteBuffer"), .long], returnType := none }, accessFlags := 0, code := some k2c1 }
def k2c2 : Code := { maxStack := 1, maxLocals := 1, code := prog_10_method_5_code, exceptionTable := #[], attributes := #[] }
def k2m2 : Method := { name := "size", desc := "()I", sig := { parameters := [], returnType := some .int }, accessFlags := 0, code := some k2c2 }
def k2c3 : Code := { maxStack := 3, maxLocals := 2, code := prog_10_method_6_code, exceptionTable := #[], attributes := #[] }
def k2m3 : Method := { name := "get", desc := "(I)Ljava/nio/ByteBuffer;", sig := { parameters := [.int], returnType := some (.object "java/nio/ByteBuffer") }, accessFlags := 0, code := some k2c3 }
def k2c4 : Code := { maxStack := 2, maxLocals := 1, code := prog_10_method_7_code, exceptionTable := #[], attributes := #[] }
def k2m4 : Method := { name := "firstQueuedAt", desc := "()J", sig := { parameters := [], returnType := some .long }, accessFlags := 0, code := some k2c4 }
def k2c5 : Code := { maxStack := 3, maxLocals := 1, code := prog_10_method_8_code, exceptionTable := #[], attributes := #[] }
def k2m5 : Method := { name := "removeFirst", desc := "()V", sig := { parameters := [], returnType := none }, accessFlags := 0, code := some k2c5 }
def k2c6 : Code := { maxStack := 5, maxLocals := 4, code := prog_10_method_9_code, exceptionTable := #[], attributes := #[] }
def k2m6 : Method := { name := "grow", desc := "()V", sig := { parameters := [], returnType := none }, accessFlags := 2, code := some k2c6 }
/-- com/example/don_valley/donvalley/broker/QueuedFrames -/
def k2 : Class := { plain "com/example/don_valley/donvalley/broker/QueuedFrames" (some 0) with
  accessFlags := 32
  interfaces := #[]
  cf := some (fileOf pool2 10 #[] #[{ accessFlags := 0, nameIndex := 5, descriptorIndex := 6, attributes := #[] }, { accessFlags := 0, nameIndex := 43, descriptorIndex := 44, attributes := #[] }, { accessFlags := 0, nameIndex := 21, descriptorIndex := 53, attributes := #[] }, { accessFlags := 0, nameIndex := 35, descriptorIndex := 36, attributes := #[] }, { accessFlags := 0, nameIndex := 39, descriptorIndex := 40, attributes := #[] }, { accessFlags := 0, nameIndex := 47, descriptorIndex := 6, attributes := #[] }, { accessFlags := 2, nameIndex := 25, descriptorIndex := 6, attributes := #[] }] 32 2 #[] #[{ accessFlags := 2, nameIndex := 13, descriptorIndex := 14, attributes := #[] }, { accessFlags := 2, nameIndex := 17, descriptorIndex := 18, attributes := #[] }, { accessFlags := 2, nameIndex := 28, descriptorIndex := 22, attributes := #[] }, { accessFlags := 2, nameIndex := 21, descriptorIndex := 22, attributes := #[] }])
  fields := #[{ name := "frames", type := (.array (.object "java/nio/ByteBuffer")), accessFlags := 2, slot := 0, constantValue := 0 }, { name := "times", type := (.array .long), accessFlags := 2, slot := 1, constantValue := 0 }, { name := "first", type := .int, accessFlags := 2, slot := 2, constantValue := 0 }, { name := "size", type := .int, accessFlags := 2, slot := 3, constantValue := 0 }]
  methods := #[k2m0, k2m1, k2m2, k2m3, k2m4, k2m5, k2m6]
  instanceTypes := #[(.array (.object "java/nio/ByteBuffer")), (.array .long), .int, .int]
  staticTypes := #[]
  resolved := Array.replicate 58 none
  statics := none }

def pool3 : Array CpInfo := pool [(4, .class_ 6), (1, u "java/lang/Object"), (3, .class_ 12), (1, u "java/nio/Buffer"), (0, u "mark"), (0, u "I"), (2, u "position"), (2, u "address"), (0, u "J"), (2, u "capacity"), (2, u "segment"), (0, u "Ljava/lang/foreign/MemorySegment;"), (6, u "limit"), (32, u "$assertionsDisabled"), (0, u "Z"), (42, u "IOOBE_FORMATTER"), (0, u "Ljava/util/function/BiFunction;"), (34, u "UNSAFE"), (0, u "Ljdk/internal/misc/Unsafe;"), (8, u "SCOPED_MEMORY_ACCESS"), (0, u "Ljdk/internal/misc/ScopedMemoryAccess;"), (0, .class_ 161), (0, u "java/nio/Buffer$1"), (5, .class_ 168), (0, u "java/nio/Buffer$2"), (7, u "SPLITERATOR_CHARACTERISTICS")] 79

/-- java/nio/Buffer -/
def k3 : Class := { plain "java/nio/Buffer" (some 0) with
  accessFlags := 1057
  interfaces := #[]
  cf := some (fileOf pool3 10 #[.nestMembers #[167, 160]] #[] 1057 4 #[] #[{ accessFlags := 24, nameIndex := 148, descriptorIndex := 149, attributes := #[] }, { accessFlags := 24, nameIndex := 158, descriptorIndex := 159, attributes := #[] }, { accessFlags := 24, nameIndex := 176, descriptorIndex := 14, attributes := #[] }, { accessFlags := 2, nameIndex := 13, descriptorIndex := 14, attributes := #[] }, { accessFlags := 2, nameIndex := 17, descriptorIndex := 14, attributes := #[] }, { accessFlags := 2, nameIndex := 35, descriptorIndex := 14, attributes := #[] }, { accessFlags := 18, nameIndex := 24, descriptorIndex := 14, attributes := #[] }, { accessFlags := 0, nameIndex := 20, descriptorIndex := 21, attributes := #[] }, { accessFlags := 16, nameIndex := 27, descriptorIndex := 28, attributes := #[] }, { accessFlags := 26, nameIndex := 112, descriptorIndex := 113, attributes := #[] }, { accessFlags := 4120, nameIndex := 68, descriptorIndex := 69, attributes := #[] }])
  fields := #[{ name := "UNSAFE", type := (.object "jdk/internal/misc/Unsafe"), accessFlags := 24, slot := 0, constantValue := 0 }, { name := "SCOPED_MEMORY_ACCESS", type := (.object "jdk/internal/misc/ScopedMemoryAccess"), accessFlags := 24, slot := 1, constantValue := 0 }, { name := "SPLITERATOR_CHARACTERISTICS", type := .int, accessFlags := 24, slot := 2, constantValue := 0 }, { name := "mark", type := .int, accessFlags := 2, slot := 0, constantValue := 0 }, { name := "position", type := .int, accessFlags := 2, slot := 1, constantValue := 0 }, { name := "limit", type := .int, accessFlags := 2, slot := 2, constantValue := 0 }, { name := "capacity", type := .int, accessFlags := 18, slot := 3, constantValue := 0 }, { name := "address", type := .long, accessFlags := 0, slot := 4, constantValue := 0 }, { name := "segment", type := (.object "java/lang/foreign/MemorySegment"), accessFlags := 16, slot := 5, constantValue := 0 }, { name := "IOOBE_FORMATTER", type := (.object "java/util/function/BiFunction"), accessFlags := 26, slot := 3, constantValue := 0 }, { name := "$assertionsDisabled", type := .boolean, accessFlags := 4120, slot := 4, constantValue := 0 }]
  methods := #[]
  instanceTypes := #[.int, .int, .int, .int, .long, (.object "java/lang/foreign/MemorySegment")]
  staticTypes := #[(.object "jdk/internal/misc/Unsafe"), (.object "jdk/internal/misc/ScopedMemoryAccess"), .int, (.object "java/util/function/BiFunction"), .boolean]
  resolved := Array.replicate 256 none
  statics := none }

def pool4 : Array CpInfo := pool [(1, .class_ 2), (0, u "java/lang/Comparable"), (0, .class_ 4), (0, u "java/lang/Object")] 7

/-- java/lang/Comparable -/
def k4 : Class := { plain "java/lang/Comparable" (some 0) with
  accessFlags := 1537
  interfaces := #[]
  cf := some (fileOf pool4 1 #[] #[] 1537 3 #[] #[])
  fields := #[]
  methods := #[]
  instanceTypes := #[]
  staticTypes := #[]
  resolved := Array.replicate 12 none
  statics := none }

def pool5 : Array CpInfo := pool [(2, .class_ 4), (1, u "java/nio/Buffer"), (3, .class_ 10), (1, u "java/nio/ByteBuffer"), (0, u "bigEndian"), (0, u "Z"), (12, u "nativeByteOrder"), (2, u "hb"), (0, u "[B"), (2, u "offset"), (0, u "I"), (69, u "J"), (2, u "ARRAY_BASE_OFFSET"), (33, u "isReadOnly"), (13, u "$assertionsDisabled"), (158, .class_ 314), (0, u "java/lang/Comparable")] 131

/-- java/nio/ByteBuffer -/
def k5 : Class := { plain "java/nio/ByteBuffer" (some 3) with
  accessFlags := 1057
  interfaces := #[4]
  cf := some (fileOf pool5 8 #[] #[] 1057 2 #[313] #[{ accessFlags := 26, nameIndex := 106, descriptorIndex := 103, attributes := #[] }, { accessFlags := 16, nameIndex := 28, descriptorIndex := 29, attributes := #[] }, { accessFlags := 16, nameIndex := 32, descriptorIndex := 33, attributes := #[] }, { accessFlags := 0, nameIndex := 140, descriptorIndex := 12, attributes := #[] }, { accessFlags := 0, nameIndex := 11, descriptorIndex := 12, attributes := #[] }, { accessFlags := 0, nameIndex := 25, descriptorIndex := 12, attributes := #[] }, { accessFlags := 4120, nameIndex := 154, descriptorIndex := 12, attributes := #[] }])
  fields := #[{ name := "ARRAY_BASE_OFFSET", type := .long, accessFlags := 26, slot := 0, constantValue := 0 }, { name := "hb", type := (.array .byte), accessFlags := 16, slot := 6, constantValue := 0 }, { name := "offset", type := .int, accessFlags := 16, slot := 7, constantValue := 0 }, { name := "isReadOnly", type := .boolean, accessFlags := 0, slot := 8, constantValue := 0 }, { name := "bigEndian", type := .boolean, accessFlags := 0, slot := 9, constantValue := 0 }, { name := "nativeByteOrder", type := .boolean, accessFlags := 0, slot := 10, constantValue := 0 }, { name := "$assertionsDisabled", type := .boolean, accessFlags := 4120, slot := 1, constantValue := 0 }]
  methods := #[]
  instanceTypes := #[.int, .int, .int, .int, .long, (.object "java/lang/foreign/MemorySegment"), (.array .byte), .int, .boolean, .boolean, .boolean]
  staticTypes := #[.long, .boolean]
  resolved := Array.replicate 446 none
  statics := none }

def pool6 : Array CpInfo := pool [(1, u "java/lang/Cloneable"), (0, .class_ 1), (0, u "java/lang/Object"), (0, .class_ 3)] 3

/-- java/lang/Cloneable -/
def k6 : Class := { plain "java/lang/Cloneable" (some 0) with
  accessFlags := 1537
  interfaces := #[]
  cf := some (fileOf pool6 2 #[] #[] 1537 4 #[] #[])
  fields := #[]
  methods := #[]
  instanceTypes := #[]
  staticTypes := #[]
  resolved := Array.replicate 8 none
  statics := none }

def pool7 : Array CpInfo := pool [(1, u "java/io/Serializable"), (0, .class_ 1), (0, u "java/lang/Object"), (0, .class_ 3)] 3

/-- java/io/Serializable -/
def k7 : Class := { plain "java/io/Serializable" (some 0) with
  accessFlags := 1537
  interfaces := #[]
  cf := some (fileOf pool7 2 #[] #[] 1537 4 #[] #[])
  fields := #[]
  methods := #[]
  instanceTypes := #[]
  staticTypes := #[]
  resolved := Array.replicate 8 none
  statics := none }

/-- the primitive byte -/
def k8 : Class := { plain "byte" none with kind := .primitive 'B', accessFlags := 0x411 }
/-- [B -/
def k9 : Class := { plain "[B" (some 0) with kind := .array 8 .byte, interfaces := #[6, 7], accessFlags := 1041 }

/-- the primitive int -/
def k10 : Class := { plain "int" none with kind := .primitive 'I', accessFlags := 0x411 }
/-- [I -/
def k11 : Class := { plain "[I" (some 0) with kind := .array 10 .int, interfaces := #[6, 7], accessFlags := 1041 }

/-- the primitive long -/
def k12 : Class := { plain "long" none with kind := .primitive 'J', accessFlags := 0x411 }
/-- [J -/
def k13 : Class := { plain "[J" (some 0) with kind := .array 12 .long, interfaces := #[6, 7], accessFlags := 1041 }

/-- [Ljava/nio/ByteBuffer; -/
def k14 : Class := { plain "[Ljava/nio/ByteBuffer;" (some 0) with kind := .array 5 (.object "java/nio/ByteBuffer"), interfaces := #[6, 7], accessFlags := 1041 }

def heap : Heap := #[]
def classes : Array Class := #[k0, k1, k2, k3, k4, k5, k6, k7, k8, k9, k10, k11, k12, k13, k14]
def interned : List (Array UInt16 × Addr) := []
def slotsUsed : Nat := 0
def theMethod : MethodId := ⟨1, 1⟩
def args0 : Array Value := #[.long 1, .long 2, .long 3, .long 4, .long 5, .int 5]
def aboutOver (below : List Frame) : State where
  vm := { classes := classes, interned := interned.toArray }
  heap := heap
  slotsUsed := slotsUsed
  threads := #[{ frames := .invoking theMethod args0 :: below }]
def below0 : List Frame := [.native { method := ⟨0, 0⟩, args := #[] }]
def about1 : State := aboutOver below0
def p0 : Program := .bare "" "" ""
def e0 : Env := launch0.env 0 0 0
theorem w_frames : about1.frames = Frame.invoking theMethod args0 :: below0 := rfl
set_option maxRecDepth 65536 in
theorem w_args : argsFit about1.vm theMethod args0 = true := by decide +kernel
set_option maxRecDepth 65536 in
theorem w_heap : heapFits about1 = true := by decide +kernel
set_option maxRecDepth 65536 in
theorem w_runnable : about1.curStatus? = some .runnable := by decide +kernel
set_option maxRecDepth 65536 in
theorem w_alone : about1.alone = true := by decide +kernel
set_option maxRecDepth 65536 in
theorem w_named : about1.methodNamed? x = some theMethod := by decide +kernel
set_option maxRecDepth 65536 in
theorem w_hears : about1.hears theMethod below0 = true := by decide +kernel
set_option maxRecDepth 65536 in
theorem w_ripe : about1.ripe theMethod args0 below0 = true := by decide +kernel
theorem w_running : about1.status = .running := rfl
set_option maxRecDepth 65536 in
theorem w_room : about1.hasRoom e0.platform room_1 = true :=
  launch0.hasRoom_least _ room_1 (by decide +kernel) (by decide +kernel) (by decide +kernel) (by decide +kernel) (by decide +kernel) (by decide +kernel)
theorem allAtoms_all (ts : List Jvm.Cond) (a : Array Jvm.Value) (st : Jvm.State) : (allAtoms ts).before a st = ts.all (fun c => c.before a st) := by
  induction ts with
  | nil => rfl
  | cons c t ih =>
    show (Jvm.Cond.and c (allAtoms t)).before a st = _
    rw [Jvm.Cond.before_and, ih, List.all_cons]
def words1 : List Jvm.Cond := Jvm.Cond.code x code maxLocals ret :: tables_1
/-- a 'code' word, met by the world's own term for the bytes: nothing is compared byte by byte -/
theorem code_word {y : MethodName} {bytes : ByteArray} {mx : Nat} {rt : Option FieldType} {a : Array Value} {s : State} {m : MethodId} {meth : Method} {c : Code} (h1 : s.methodNamed? y = some m) (h2 : s.vm.method? m = some meth) (h3 : meth.code = some c) (h4 : c.code = bytes)
    (h5 : (c.maxLocals == mx && c.exceptionTable.isEmpty && decide (c.maxStack ≤ mostOperands) && decide (meth.sig.returnType = rt) && !meth.locks && decide (parseMethodDescriptor y.desc = some meth.sig)) = true) : (Jvm.Cond.code y bytes mx rt).before a s = true := by
  simp only [Bool.and_eq_true, beq_iff_eq, Bool.not_eq_true', decide_eq_true_eq] at h5
  obtain ⟨⟨⟨⟨⟨g1, g2⟩, g3⟩, g4⟩, g5⟩, g6⟩ := h5
  simp [Cond.before, Cond.holds, Cond.value, h1, h2, h3, h4, g1, g2, g3, g4, g5, g6]
def isCode : Jvm.Cond → Bool
  | .code _ _ _ _ => true
  | _ => false
theorem all_split {L : List Jvm.Cond} {P : Jvm.Cond → Bool} (h1 : L.all (fun c => isCode c || P c) = true) (h2 : ∀ c ∈ L.filter isCode, P c = true) : L.all P = true := by
  refine List.all_eq_true.mpr fun c hc => ?_
  have h := List.all_eq_true.mp h1 c hc
  rcases Bool.eq_false_or_eq_true (isCode c) with hi | hi
  · exact h2 c (List.mem_filter.mpr ⟨hc, hi⟩)
  · simpa [hi] using h
set_option maxRecDepth 65536 in
theorem w_c0 : (Jvm.Cond.code x code maxLocals ret).before args0 about1 = true := code_word (m := ⟨1, 1⟩) (meth := k1m1) (c := k1c1) (by decide +kernel) rfl rfl rfl (by decide +kernel)
set_option maxRecDepth 65536 in
theorem w_c1 : (Jvm.Cond.code ({ cls := "com/example/don_valley/donvalley/broker/QueuedFrames", name := "<init>", desc := "()V" } : Jvm.MethodName) prog_10_method_1_code (1 : Nat) (Option.none : Option Jvm.ClassFile.FieldType)).before args0 about1 = true := code_word (m := ⟨2, 0⟩) (meth := k2m0) (c := k2c0) (by decide +kernel) rfl rfl rfl (by decide +kernel)
set_option maxRecDepth 65536 in
theorem w_c2 : (Jvm.Cond.code ({ cls := "java/lang/Object", name := "<init>", desc := "()V" } : Jvm.MethodName) object_method_1_code (1 : Nat) (Option.none : Option Jvm.ClassFile.FieldType)).before args0 about1 = true := code_word (m := ⟨0, 0⟩) (meth := k0m0) (c := k0c0) (by decide +kernel) rfl rfl rfl (by decide +kernel)
set_option maxRecDepth 65536 in
theorem w_c3 : (Jvm.Cond.code ({ cls := "com/example/don_valley/donvalley/broker/QueuedFrames", name := "add", desc := "(Ljava/nio/ByteBuffer;J)V" } : Jvm.MethodName) prog_10_method_2_code (5 : Nat) (Option.none : Option Jvm.ClassFile.FieldType)).before args0 about1 = true := code_word (m := ⟨2, 1⟩) (meth := k2m1) (c := k2c1) (by decide +kernel) rfl rfl rfl (by decide +kernel)
set_option maxRecDepth 65536 in
theorem w_c4 : (Jvm.Cond.code ({ cls := "com/example/don_valley/donvalley/broker/QueuedFrames", name := "removeFirst", desc := "()V" } : Jvm.MethodName) prog_10_method_8_code (1 : Nat) (Option.none : Option Jvm.ClassFile.FieldType)).before args0 about1 = true := code_word (m := ⟨2, 5⟩) (meth := k2m5) (c := k2c5) (by decide +kernel) rfl rfl rfl (by decide +kernel)
set_option maxRecDepth 65536 in
theorem w_c5 : (Jvm.Cond.code ({ cls := "com/example/don_valley/donvalley/broker/QueuedFrames", name := "size", desc := "()I" } : Jvm.MethodName) prog_10_method_5_code (1 : Nat) (Option.some Jvm.ClassFile.FieldType.int)).before args0 about1 = true := code_word (m := ⟨2, 2⟩) (meth := k2m2) (c := k2c2) (by decide +kernel) rfl rfl rfl (by decide +kernel)
set_option maxRecDepth 65536 in
theorem w_c6 : (Jvm.Cond.code ({ cls := "com/example/don_valley/donvalley/broker/QueuedFrames", name := "firstQueuedAt", desc := "()J" } : Jvm.MethodName) prog_10_method_7_code (1 : Nat) (Option.some Jvm.ClassFile.FieldType.long)).before args0 about1 = true := code_word (m := ⟨2, 4⟩) (meth := k2m4) (c := k2c4) (by decide +kernel) rfl rfl rfl (by decide +kernel)
set_option maxRecDepth 65536 in
theorem w_c7 : (Jvm.Cond.code ({ cls := "com/example/don_valley/donvalley/broker/QueuedFrames", name := "grow", desc := "()V" } : Jvm.MethodName) prog_10_method_9_code (4 : Nat) (Option.none : Option Jvm.ClassFile.FieldType)).before args0 about1 = true := code_word (m := ⟨2, 6⟩) (meth := k2m6) (c := k2c6) (by decide +kernel) rfl rfl rfl (by decide +kernel)
set_option maxRecDepth 65536 in
theorem w_c8 : (Jvm.Cond.code ({ cls := "com/example/don_valley/donvalley/broker/QueuedFrames", name := "get", desc := "(I)Ljava/nio/ByteBuffer;" } : Jvm.MethodName) prog_10_method_6_code (2 : Nat) (Option.some (Jvm.ClassFile.FieldType.object "java/nio/ByteBuffer"))).before args0 about1 = true := code_word (m := ⟨2, 3⟩) (meth := k2m3) (c := k2c3) (by decide +kernel) rfl rfl rfl (by decide +kernel)
def codes1 : List Jvm.Cond := [Jvm.Cond.code x code maxLocals ret, Jvm.Cond.code ({ cls := "com/example/don_valley/donvalley/broker/QueuedFrames", name := "<init>", desc := "()V" } : Jvm.MethodName) prog_10_method_1_code (1 : Nat) (Option.none : Option Jvm.ClassFile.FieldType), Jvm.Cond.code ({ cls := "java/lang/Object", name := "<init>", desc := "()V" } : Jvm.MethodName) object_method_1_code (1 : Nat) (Option.none : Option Jvm.ClassFile.FieldType), Jvm.Cond.code ({ cls := "com/example/don_valley/donvalley/broker/QueuedFrames", name := "add", desc := "(Ljava/nio/ByteBuffer;J)V" } : Jvm.MethodName) prog_10_method_2_code (5 : Nat) (Option.none : Option Jvm.ClassFile.FieldType), Jvm.Cond.code ({ cls := "com/example/don_valley/donvalley/broker/QueuedFrames", name := "removeFirst", desc := "()V" } : Jvm.MethodName) prog_10_method_8_code (1 : Nat) (Option.none : Option Jvm.ClassFile.FieldType), Jvm.Cond.code ({ cls := "com/example/don_valley/donvalley/broker/QueuedFrames", name := "size", desc := "()I" } : Jvm.MethodName) prog_10_method_5_code (1 : Nat) (Option.some Jvm.ClassFile.FieldType.int), Jvm.Cond.code ({ cls := "com/example/don_valley/donvalley/broker/QueuedFrames", name := "firstQueuedAt", desc := "()J" } : Jvm.MethodName) prog_10_method_7_code (1 : Nat) (Option.some Jvm.ClassFile.FieldType.long), Jvm.Cond.code ({ cls := "com/example/don_valley/donvalley/broker/QueuedFrames", name := "grow", desc := "()V" } : Jvm.MethodName) prog_10_method_9_code (4 : Nat) (Option.none : Option Jvm.ClassFile.FieldType), Jvm.Cond.code ({ cls := "com/example/don_valley/donvalley/broker/QueuedFrames", name := "get", desc := "(I)Ljava/nio/ByteBuffer;" } : Jvm.MethodName) prog_10_method_6_code (2 : Nat) (Option.some (Jvm.ClassFile.FieldType.object "java/nio/ByteBuffer"))]
set_option maxRecDepth 65536 in
theorem codes_eq : words1.filter isCode = codes1 := rfl
theorem w_codes : ∀ c ∈ words1.filter isCode, c.before args0 about1 = true := by
  rw [codes_eq]
  intro c hc
  simp only [codes1, List.mem_cons, List.not_mem_nil, or_false] at hc
  rcases hc with rfl | rfl | rfl | rfl | rfl | rfl | rfl | rfl | rfl
  · exact w_c0
  · exact w_c1
  · exact w_c2
  · exact w_c3
  · exact w_c4
  · exact w_c5
  · exact w_c6
  · exact w_c7
  · exact w_c8
set_option maxRecDepth 65536 in
theorem w_t1 : (words1.take 24).all (fun c => isCode c || c.before args0 about1) = true := by decide +kernel
set_option maxRecDepth 65536 in
theorem w_t2 : ((words1.drop 24).take 24).all (fun c => isCode c || c.before args0 about1) = true := by decide +kernel
set_option maxRecDepth 65536 in
theorem w_t3 : ((words1.drop 24).drop 24).all (fun c => isCode c || c.before args0 about1) = true := by decide +kernel
theorem w_tables : (allAtoms (Jvm.Cond.code x code maxLocals ret :: tables_1)).before args0 about1 = true := by
  rw [allAtoms_all]
  show words1.all (fun c => c.before args0 about1) = true
  refine all_split ?_ w_codes
  rw [← List.take_append_drop 24 words1, List.all_append, w_t1, ← List.take_append_drop 24 (words1.drop 24), List.all_append, w_t2, w_t3]
  rfl
set_option maxRecDepth 65536 in
theorem w_case : (Jvm.Cond.and given_1 narrow_1).before args0 about1 = true := by decide +kernel
theorem w_applies : (headSpec (Jvm.Cond.code x code maxLocals ret :: tables_1) room_1).applies x e0.platform about1 = true :=
  (Spec.applies_iff w_frames).mpr ⟨w_running, w_runnable, w_alone, w_named, w_hears, w_ripe, w_room, w_tables⟩
theorem atStart : AtStart classFile x code maxLocals ret World_1 tables_1 room_1 Calls_1 rest_1 Pre_1 launch0 p0 e0 about1 theMethod args0 below0 :=
  ⟨lists_1, trivial, launch0.admits_env _ _ _, launch0.least_env, fairChoices_fair.cas, fairChoices_fair.clock, w_frames, w_args, w_heap, w_applies, trivial, trivial, w_case⟩
end start1
theorem witness_1 : WitnessClaimed_1 := ⟨start1.p0, start1.e0, start1.about1, start1.theMethod, start1.args0, start1.below0, start1.atStart⟩
end Jvm.Pilot.@@N@@
