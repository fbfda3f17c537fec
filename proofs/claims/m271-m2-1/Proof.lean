import JvmDerived
import JvmDerived.Pilot.@@N@@Statement
import JvmDerived.Pilot.@@N@@Code
set_option linter.unusedVariables false
set_option linter.unusedSimpArgs false
namespace Jvm.RoadKit
open Sem ClassFile Op Lib Jvm.Stand Jvm.Free Jvm.LawKit
section New
variable {p : Program} {l : Launch} {e : Env} {R : Room} {s : State} {m : MethodId} {args : Array Value} {below : List Frame} {meth : Method} {c : Code} {T : State} {locs : List Loc} {cells slots : Nat}
theorem retI (X : Stand p l e R s m args below meth c T locs cells slots) (hx : p.tables.exec = Jvm.exec) {pc : Nat} {Ls : Array Slot} {z : Int32} {rest : List Value} (hret : meth.sig.returnType = some .int) (hd : decode c.code pc = .ok (.ireturn, 1)) {fs : List Frame}
    (hl : ∀ (f : JFrame) (acts : List Action), f.method = m → f.locked = none → f.entered = [] → (doReturn e (T.setTop f) acts (some (.int z))).1 = T.setFrames fs) : Steps p.tables e below (T.setTop (mkF m pc Ls (.int z :: rest))) (T.setFrames fs) := by
  have hm' : T.vm.method? m = some meth := X.method'
  have hn : narrow .int (.int z) = .int z := rfl
  show Steps p.tables e below (T.setTop { method := m, pc := pc, locals := Ls, stack := _ :: rest, locked := none }) _
  jvm_step X.here [X.here.top, hx, hd, hm', hret, hn]
  first | (intro acts; rw [hl _ acts rfl rfl rfl]) | rw [hl _ _ rfl rfl rfl]
  exact Steps.refl _
end New
end Jvm.RoadKit
namespace Jvm.Pilot.@@N@@
open Jvm Jvm.ClassFile Sem Op Lib Jvm.Free Jvm.Stand Jvm.LawKit Jvm.RoadKit Bundle Jvm.Pilot.@@N@@.Jvm.D
abbrev own_m0 : MethodName := ⟨"com/example/fascicle/fascicle/io/XmlNames", "isChar", "(I)Z"⟩
abbrev own_m1 : MethodName := ⟨"com/example/fascicle/fascicle/io/XmlNamesIsCharPinLaw", "forbidden", "(I)Z"⟩
theorem own_w0 {Z : State} {a0 : Array Value} (hw : ∀ d ∈ tables_1, d.before a0 Z = true) : (Jvm.Cond.arrayClass Jvm.ClassFile.FieldType.int).before a0 Z = true := hw _ (List.mem_of_getElem? (i := 0) rfl)
theorem own_w1 {Z : State} {a0 : Array Value} (hw : ∀ d ∈ tables_1, d.before a0 Z = true) : (Jvm.Cond.constant "com/example/fascicle/fascicle/io/XmlNamesIsCharPinLaw" (12 : Nat) (55295 : Int32)).before a0 Z = true := hw _ (List.mem_of_getElem? (i := 1) rfl)
theorem own_w2 {Z : State} {a0 : Array Value} (hw : ∀ d ∈ tables_1, d.before a0 Z = true) : (Jvm.Cond.constant "com/example/fascicle/fascicle/io/XmlNamesIsCharPinLaw" (8 : Nat) (55296 : Int32)).before a0 Z = true := hw _ (List.mem_of_getElem? (i := 2) rfl)
theorem own_w3 {Z : State} {a0 : Array Value} (hw : ∀ d ∈ tables_1, d.before a0 Z = true) : (Jvm.Cond.constant "com/example/fascicle/fascicle/io/XmlNamesIsCharPinLaw" (9 : Nat) (57343 : Int32)).before a0 Z = true := hw _ (List.mem_of_getElem? (i := 3) rfl)
theorem own_w4 {Z : State} {a0 : Array Value} (hw : ∀ d ∈ tables_1, d.before a0 Z = true) : (Jvm.Cond.constant "com/example/fascicle/fascicle/io/XmlNamesIsCharPinLaw" (13 : Nat) (57344 : Int32)).before a0 Z = true := hw _ (List.mem_of_getElem? (i := 4) rfl)
theorem own_w5 {Z : State} {a0 : Array Value} (hw : ∀ d ∈ tables_1, d.before a0 Z = true) : (Jvm.Cond.constant "com/example/fascicle/fascicle/io/XmlNamesIsCharPinLaw" (14 : Nat) (65533 : Int32)).before a0 Z = true := hw _ (List.mem_of_getElem? (i := 5) rfl)
theorem own_w6 {Z : State} {a0 : Array Value} (hw : ∀ d ∈ tables_1, d.before a0 Z = true) : (Jvm.Cond.constant "com/example/fascicle/fascicle/io/XmlNamesIsCharPinLaw" (10 : Nat) (65534 : Int32)).before a0 Z = true := hw _ (List.mem_of_getElem? (i := 6) rfl)
theorem own_w7 {Z : State} {a0 : Array Value} (hw : ∀ d ∈ tables_1, d.before a0 Z = true) : (Jvm.Cond.constant "com/example/fascicle/fascicle/io/XmlNamesIsCharPinLaw" (11 : Nat) (65535 : Int32)).before a0 Z = true := hw _ (List.mem_of_getElem? (i := 7) rfl)
theorem own_w8 {Z : State} {a0 : Array Value} (hw : ∀ d ∈ tables_1, d.before a0 Z = true) : (Jvm.Cond.constant "com/example/fascicle/fascicle/io/XmlNamesIsCharPinLaw" (15 : Nat) (65536 : Int32)).before a0 Z = true := hw _ (List.mem_of_getElem? (i := 8) rfl)
theorem own_w9 {Z : State} {a0 : Array Value} (hw : ∀ d ∈ tables_1, d.before a0 Z = true) : (Jvm.Cond.constant "com/example/fascicle/fascicle/io/XmlNamesIsCharPinLaw" (7 : Nat) (1114111 : Int32)).before a0 Z = true := hw _ (List.mem_of_getElem? (i := 9) rfl)
theorem own_w10 {Z : State} {a0 : Array Value} (hw : ∀ d ∈ tables_1, d.before a0 Z = true) : (Jvm.Cond.constant "com/example/fascicle/fascicle/io/XmlNamesIsCharPinLaw" (18 : Nat) (-2147483648 : Int32)).before a0 Z = true := hw _ (List.mem_of_getElem? (i := 10) rfl)
theorem own_w11 {Z : State} {a0 : Array Value} (hw : ∀ d ∈ tables_1, d.before a0 Z = true) : (Jvm.Cond.constant "com/example/fascicle/fascicle/io/XmlNamesIsCharPinLaw" (19 : Nat) (2147483647 : Int32)).before a0 Z = true := hw _ (List.mem_of_getElem? (i := 11) rfl)
theorem own_w12 {Z : State} {a0 : Array Value} (hw : ∀ d ∈ tables_1, d.before a0 Z = true) : (Jvm.Cond.methodLink "com/example/fascicle/fascicle/io/XmlNamesIsCharPinLaw" (20 : Nat) ({ cls := "com/example/fascicle/fascicle/io/XmlNames", name := "isChar", desc := "(I)Z" } : Jvm.MethodName)).before a0 Z = true := hw _ (List.mem_of_getElem? (i := 12) rfl)
theorem own_w13 {Z : State} {a0 : Array Value} (hw : ∀ d ∈ tables_1, d.before a0 Z = true) : (Jvm.Cond.static ({ cls := "com/example/fascicle/fascicle/io/XmlNames", name := "isChar", desc := "(I)Z" } : Jvm.MethodName)).before a0 Z = true := hw _ (List.mem_of_getElem? (i := 13) rfl)
theorem own_w14 {Z : State} {a0 : Array Value} (hw : ∀ d ∈ tables_1, d.before a0 Z = true) : (Jvm.Cond.initialized "com/example/fascicle/fascicle/io/XmlNames").before a0 Z = true := hw _ (List.mem_of_getElem? (i := 14) rfl)
theorem own_w15 {Z : State} {a0 : Array Value} (hw : ∀ d ∈ tables_1, d.before a0 Z = true) : (Jvm.Cond.code ({ cls := "com/example/fascicle/fascicle/io/XmlNames", name := "isChar", desc := "(I)Z" } : Jvm.MethodName) prog_55_method_3_code (1 : Nat) (Option.some Jvm.ClassFile.FieldType.boolean)).before a0 Z = true := hw _ (List.mem_of_getElem? (i := 15) rfl)
theorem own_w16 {Z : State} {a0 : Array Value} (hw : ∀ d ∈ tables_1, d.before a0 Z = true) : (Jvm.Cond.constant "com/example/fascicle/fascicle/io/XmlNames" (20 : Nat) (57344 : Int32)).before a0 Z = true := hw _ (List.mem_of_getElem? (i := 16) rfl)
theorem own_w17 {Z : State} {a0 : Array Value} (hw : ∀ d ∈ tables_1, d.before a0 Z = true) : (Jvm.Cond.constant "com/example/fascicle/fascicle/io/XmlNames" (22 : Nat) (65536 : Int32)).before a0 Z = true := hw _ (List.mem_of_getElem? (i := 17) rfl)
theorem own_w18 {Z : State} {a0 : Array Value} (hw : ∀ d ∈ tables_1, d.before a0 Z = true) : (Jvm.Cond.methodLink "com/example/fascicle/fascicle/io/XmlNamesIsCharPinLaw" (26 : Nat) ({ cls := "com/example/fascicle/fascicle/io/XmlNamesIsCharPinLaw", name := "forbidden", desc := "(I)Z" } : Jvm.MethodName)).before a0 Z = true := hw _ (List.mem_of_getElem? (i := 18) rfl)
theorem own_w19 {Z : State} {a0 : Array Value} (hw : ∀ d ∈ tables_1, d.before a0 Z = true) : (Jvm.Cond.static ({ cls := "com/example/fascicle/fascicle/io/XmlNamesIsCharPinLaw", name := "forbidden", desc := "(I)Z" } : Jvm.MethodName)).before a0 Z = true := hw _ (List.mem_of_getElem? (i := 19) rfl)
theorem own_w20 {Z : State} {a0 : Array Value} (hw : ∀ d ∈ tables_1, d.before a0 Z = true) : (Jvm.Cond.initialized "com/example/fascicle/fascicle/io/XmlNamesIsCharPinLaw").before a0 Z = true := hw _ (List.mem_of_getElem? (i := 20) rfl)
theorem own_w21 {Z : State} {a0 : Array Value} (hw : ∀ d ∈ tables_1, d.before a0 Z = true) : (Jvm.Cond.code ({ cls := "com/example/fascicle/fascicle/io/XmlNamesIsCharPinLaw", name := "forbidden", desc := "(I)Z" } : Jvm.MethodName) method_2_code (1 : Nat) (Option.some Jvm.ClassFile.FieldType.boolean)).before a0 Z = true := hw _ (List.mem_of_getElem? (i := 21) rfl)
theorem own_w22 {Z : State} {a0 : Array Value} (hw : ∀ d ∈ tables_1, d.before a0 Z = true) : (Jvm.Cond.constant "com/example/fascicle/fascicle/io/XmlNames" (19 : Nat) (55295 : Int32)).before a0 Z = true := hw _ (List.mem_of_getElem? (i := 22) rfl)
theorem own_w23 {Z : State} {a0 : Array Value} (hw : ∀ d ∈ tables_1, d.before a0 Z = true) : (Jvm.Cond.constant "com/example/fascicle/fascicle/io/XmlNames" (21 : Nat) (65533 : Int32)).before a0 Z = true := hw _ (List.mem_of_getElem? (i := 23) rfl)
theorem own_w24 {Z : State} {a0 : Array Value} (hw : ∀ d ∈ tables_1, d.before a0 Z = true) : (Jvm.Cond.constant "com/example/fascicle/fascicle/io/XmlNames" (23 : Nat) (1114111 : Int32)).before a0 Z = true := hw _ (List.mem_of_getElem? (i := 24) rfl)
theorem own_d1_0 : decode prog_55_method_3_code 0 = .ok (.iload_n 0, 1) := by decide +kernel
theorem own_d1_1 : decode prog_55_method_3_code 1 = .ok (.bipush 32, 2) := by decide +kernel
theorem own_d1_3 : decode prog_55_method_3_code 3 = .ok (.if_icmp .lt 9, 3) := by decide +kernel
theorem own_d1_6 : decode prog_55_method_3_code 6 = .ok (.iload_n 0, 1) := by decide +kernel
theorem own_d1_7 : decode prog_55_method_3_code 7 = .ok (.ldc 19, 2) := by decide +kernel
theorem own_d1_9 : decode prog_55_method_3_code 9 = .ok (.if_icmp .le 45, 3) := by decide +kernel
theorem own_d1_12 : decode prog_55_method_3_code 12 = .ok (.iload_n 0, 1) := by decide +kernel
theorem own_d1_13 : decode prog_55_method_3_code 13 = .ok (.bipush 10, 2) := by decide +kernel
theorem own_d1_15 : decode prog_55_method_3_code 15 = .ok (.if_icmp .eq 39, 3) := by decide +kernel
theorem own_d1_18 : decode prog_55_method_3_code 18 = .ok (.iload_n 0, 1) := by decide +kernel
theorem own_d1_19 : decode prog_55_method_3_code 19 = .ok (.bipush 9, 2) := by decide +kernel
theorem own_d1_21 : decode prog_55_method_3_code 21 = .ok (.if_icmp .eq 33, 3) := by decide +kernel
theorem own_d1_24 : decode prog_55_method_3_code 24 = .ok (.iload_n 0, 1) := by decide +kernel
theorem own_d1_25 : decode prog_55_method_3_code 25 = .ok (.bipush 13, 2) := by decide +kernel
theorem own_d1_27 : decode prog_55_method_3_code 27 = .ok (.if_icmp .eq 27, 3) := by decide +kernel
theorem own_d1_30 : decode prog_55_method_3_code 30 = .ok (.iload_n 0, 1) := by decide +kernel
theorem own_d1_31 : decode prog_55_method_3_code 31 = .ok (.ldc 20, 2) := by decide +kernel
theorem own_d1_33 : decode prog_55_method_3_code 33 = .ok (.if_icmp .lt 9, 3) := by decide +kernel
theorem own_d1_36 : decode prog_55_method_3_code 36 = .ok (.iload_n 0, 1) := by decide +kernel
theorem own_d1_37 : decode prog_55_method_3_code 37 = .ok (.ldc 21, 2) := by decide +kernel
theorem own_d1_39 : decode prog_55_method_3_code 39 = .ok (.if_icmp .le 15, 3) := by decide +kernel
theorem own_d1_42 : decode prog_55_method_3_code 42 = .ok (.iload_n 0, 1) := by decide +kernel
theorem own_d1_43 : decode prog_55_method_3_code 43 = .ok (.ldc 22, 2) := by decide +kernel
theorem own_d1_45 : decode prog_55_method_3_code 45 = .ok (.if_icmp .lt 13, 3) := by decide +kernel
theorem own_d1_48 : decode prog_55_method_3_code 48 = .ok (.iload_n 0, 1) := by decide +kernel
theorem own_d1_49 : decode prog_55_method_3_code 49 = .ok (.ldc 23, 2) := by decide +kernel
theorem own_d1_51 : decode prog_55_method_3_code 51 = .ok (.if_icmp .gt 7, 3) := by decide +kernel
theorem own_d1_54 : decode prog_55_method_3_code 54 = .ok (.iconst 1, 1) := by decide +kernel
theorem own_d1_55 : decode prog_55_method_3_code 55 = .ok (.goto 4, 3) := by decide +kernel
theorem own_d1_58 : decode prog_55_method_3_code 58 = .ok (.iconst 0, 1) := by decide +kernel
theorem own_d1_59 : decode prog_55_method_3_code 59 = .ok (.ireturn, 1) := by decide +kernel
theorem own_d2_0 : decode method_2_code 0 = .ok (.iload_n 0, 1) := by decide +kernel
theorem own_d2_1 : decode method_2_code 1 = .ok (.ifCond .ge 5, 3) := by decide +kernel
theorem own_d2_4 : decode method_2_code 4 = .ok (.iconst 1, 1) := by decide +kernel
theorem own_d2_5 : decode method_2_code 5 = .ok (.ireturn, 1) := by decide +kernel
theorem own_d2_6 : decode method_2_code 6 = .ok (.iload_n 0, 1) := by decide +kernel
theorem own_d2_7 : decode method_2_code 7 = .ok (.ldc 7, 2) := by decide +kernel
theorem own_d2_9 : decode method_2_code 9 = .ok (.if_icmp .le 5, 3) := by decide +kernel
theorem own_d2_12 : decode method_2_code 12 = .ok (.iconst 1, 1) := by decide +kernel
theorem own_d2_13 : decode method_2_code 13 = .ok (.ireturn, 1) := by decide +kernel
theorem own_d2_14 : decode method_2_code 14 = .ok (.iload_n 0, 1) := by decide +kernel
theorem own_d2_15 : decode method_2_code 15 = .ok (.bipush 32, 2) := by decide +kernel
theorem own_d2_17 : decode method_2_code 17 = .ok (.if_icmp .ge 27, 3) := by decide +kernel
theorem own_d2_20 : decode method_2_code 20 = .ok (.iload_n 0, 1) := by decide +kernel
theorem own_d2_21 : decode method_2_code 21 = .ok (.bipush 9, 2) := by decide +kernel
theorem own_d2_23 : decode method_2_code 23 = .ok (.if_icmp .eq 19, 3) := by decide +kernel
theorem own_d2_26 : decode method_2_code 26 = .ok (.iload_n 0, 1) := by decide +kernel
theorem own_d2_27 : decode method_2_code 27 = .ok (.bipush 10, 2) := by decide +kernel
theorem own_d2_29 : decode method_2_code 29 = .ok (.if_icmp .eq 13, 3) := by decide +kernel
theorem own_d2_32 : decode method_2_code 32 = .ok (.iload_n 0, 1) := by decide +kernel
theorem own_d2_33 : decode method_2_code 33 = .ok (.bipush 13, 2) := by decide +kernel
theorem own_d2_35 : decode method_2_code 35 = .ok (.if_icmp .eq 7, 3) := by decide +kernel
theorem own_d2_38 : decode method_2_code 38 = .ok (.iconst 1, 1) := by decide +kernel
theorem own_d2_39 : decode method_2_code 39 = .ok (.goto 4, 3) := by decide +kernel
theorem own_d2_42 : decode method_2_code 42 = .ok (.iconst 0, 1) := by decide +kernel
theorem own_d2_43 : decode method_2_code 43 = .ok (.ireturn, 1) := by decide +kernel
theorem own_d2_44 : decode method_2_code 44 = .ok (.iload_n 0, 1) := by decide +kernel
theorem own_d2_45 : decode method_2_code 45 = .ok (.ldc 8, 2) := by decide +kernel
theorem own_d2_47 : decode method_2_code 47 = .ok (.if_icmp .lt 11, 3) := by decide +kernel
theorem own_d2_50 : decode method_2_code 50 = .ok (.iload_n 0, 1) := by decide +kernel
theorem own_d2_51 : decode method_2_code 51 = .ok (.ldc 9, 2) := by decide +kernel
theorem own_d2_53 : decode method_2_code 53 = .ok (.if_icmp .gt 5, 3) := by decide +kernel
theorem own_d2_56 : decode method_2_code 56 = .ok (.iconst 1, 1) := by decide +kernel
theorem own_d2_57 : decode method_2_code 57 = .ok (.ireturn, 1) := by decide +kernel
theorem own_d2_58 : decode method_2_code 58 = .ok (.iload_n 0, 1) := by decide +kernel
theorem own_d2_59 : decode method_2_code 59 = .ok (.ldc 10, 2) := by decide +kernel
theorem own_d2_61 : decode method_2_code 61 = .ok (.if_icmp .eq 9, 3) := by decide +kernel
theorem own_d2_64 : decode method_2_code 64 = .ok (.iload_n 0, 1) := by decide +kernel
theorem own_d2_65 : decode method_2_code 65 = .ok (.ldc 11, 2) := by decide +kernel
theorem own_d2_67 : decode method_2_code 67 = .ok (.if_icmp .ne 7, 3) := by decide +kernel
theorem own_d2_70 : decode method_2_code 70 = .ok (.iconst 1, 1) := by decide +kernel
theorem own_d2_71 : decode method_2_code 71 = .ok (.goto 4, 3) := by decide +kernel
theorem own_d2_74 : decode method_2_code 74 = .ok (.iconst 0, 1) := by decide +kernel
theorem own_d2_75 : decode method_2_code 75 = .ok (.ireturn, 1) := by decide +kernel
theorem own_pn0 : plainName "com/example/fascicle/fascicle/io/XmlNames" = true := by first | (simp [plainName, overriddenIn]; done) | decide +kernel
theorem own_pn1 : plainName "com/example/fascicle/fascicle/io/XmlNamesIsCharPinLaw" = true := by first | (simp [plainName, overriddenIn]; done) | decide +kernel
theorem own_pd0 : parseMethodDescriptor "(I)Z" = some ⟨[.int], some .boolean⟩ := by decide +kernel
theorem own_lt {a b : Int32} {k : Int} (hb : b.toInt = k) : a < b ↔ a.toInt < k := by rw [Int32.lt_iff_toInt_lt, hb]
theorem own_gt {a b : Int32} {k : Int} (ha : a.toInt = k) : a < b ↔ k < b.toInt := by rw [Int32.lt_iff_toInt_lt, ha]
theorem own_eq {a b : Int32} {k : Int} (hb : b.toInt = k) : a = b ↔ a.toInt = k := by rw [← Int32.toInt_inj, hb]
theorem own_lt_of {a b : Int32} {k : Int} (hb : b.toInt = k) (h : a.toInt < k) : a < b := (own_lt hb).mpr h
theorem own_nlt_of {a b : Int32} {k : Int} (hb : b.toInt = k) (h : k ≤ a.toInt) : ¬ a < b := fun q => by have := (own_lt hb).mp q; omega
theorem own_gt_of {a b : Int32} {k : Int} (ha : a.toInt = k) (h : k < b.toInt) : a < b := (own_gt ha).mpr h
theorem own_ngt_of {a b : Int32} {k : Int} (ha : a.toInt = k) (h : b.toInt ≤ k) : ¬ a < b := fun q => by have := (own_gt ha).mp q; omega
theorem own_eq_of {a b : Int32} {k : Int} (hb : b.toInt = k) (h : a.toInt = k) : a = b := (own_eq hb).mpr h
theorem own_ne_of {a b : Int32} {k : Int} (hb : b.toInt = k) (h : a.toInt ≠ k) : ¬ a = b := fun q => h ((own_eq hb).mp q)
def own_f (c : Int32) : Int32 := if (32 ≤ c.toInt ∧ c.toInt ≤ 55295) ∨ c.toInt = 10 ∨ c.toInt = 9 ∨ c.toInt = 13 ∨ (57344 ≤ c.toInt ∧ c.toInt ≤ 65533) ∨ (65536 ≤ c.toInt ∧ c.toInt ≤ 1114111) then 1 else 0
def own_g (c : Int32) : Int32 := if (32 ≤ c.toInt ∧ c.toInt ≤ 55295) ∨ c.toInt = 10 ∨ c.toInt = 9 ∨ c.toInt = 13 ∨ (57344 ≤ c.toInt ∧ c.toInt ≤ 65533) ∨ (65536 ≤ c.toInt ∧ c.toInt ≤ 1114111) then 0 else 1
theorem own_fg1 {c : Int32} (h : own_g c = (0 : Int32)) : own_f c = (1 : Int32) := by
  unfold own_g at h; unfold own_f
  split at h
  · rename_i q; exact if_pos q
  · cases h
theorem own_fg0 {c : Int32} (h : ¬ own_g c = (0 : Int32)) : own_f c = (0 : Int32) := by
  unfold own_g at h; unfold own_f
  split at h
  · exact absurd rfl h
  · rename_i q; exact if_neg q
theorem own_lo (p : Int32) : ¬ (((p.toUInt32 >>> ((1 : Int32) &&& 31).toUInt32).toInt32) % (16 : Int32)) < 0 ∧ (((p.toUInt32 >>> ((1 : Int32) &&& 31).toUInt32).toInt32) % (16 : Int32)) < (16 : Int32) := by
  have h1 := c_iushr p 1 1 (by decide) (by decide)
  have h2 := c_irem ((p.toUInt32 >>> ((1 : Int32) &&& 31).toUInt32).toInt32) 16 16 rfl
  have h3 := rng32 p
  have h4 := h2.1 (by rw [h1]; omega)
  exact ⟨own_nlt_of (k := 0) rfl (by rw [h4]; omega), own_lt_of (k := 16) rfl (by rw [h4]; omega)⟩
def Qown_isc (Z : State) (p1 : Int32) (h0 : Heap) (n0 : Nat) (v : Option Value) (h : Heap) (L : List Loc) : Prop := v = some (.int (own_f p1)) ∧ Fr n0 L ∧ h = h0
set_option maxRecDepth 65536 in
set_option maxHeartbeats 40000000 in
theorem own_isc (l : Launch) (Z : State) (a0 : Array Value) (hw : ∀ d ∈ tables_1, d.before a0 Z = true) (ws : List Jvm.Cond) (p1 : Int32) (h0 : Heap) (n0 : Nat) (Z0 : n0 ≤ h0.size)  :
    MetFree l own_m0 (head1 (Jvm.Cond.code own_m0 prog_55_method_3_code 1 (some .boolean) :: ws) ({ frames := 0, cells := 0, slots := 0, locals := 0 } : Room)) (fun a U => a = #[(.int p1)] ∧ Z.Warmed39 U.vm ∧ U.heap = h0) (fun _ _ _ _ _ => True) (fun _ U o U' => ∃ v L, o = .returned v ∧ Qown_isc Z p1 h0 n0 v U'.heap L ∧ FrameEnd U o U' L ({ frames := 0, cells := 0, slots := 0, locals := 0 } : Room).cells ({ frames := 0, cells := 0, slots := 0, locals := 0 } : Room).slots) := by
  refine MetFree.of_bodySF (plainFor_of_name own_pn0) hisR ?_
  intro p e s m args below meth c s₁ Bd hml0 hP hK
  obtain ⟨rfl, hZ, hh⟩ := hP
  have hx := Bd.exec
  have hby := Bd.bytes
  have hml : c.maxLocals = 1 := hml0
  have hown : s.vm.findClass "com/example/fascicle/fascicle/io/XmlNames" = some m.cls := by have q := findClass_of_methodNamed Bd.named; exact q
  have hnm := (name_of_methodNamed Bd.named Bd.method).1
  have X0 : Stand p l e ({ frames := 0, cells := 0, slots := 0, locals := 0 } : Room) s m #[(.int p1)] below meth c s₁ [] 0 0 := Stand.of_body Bd
  have e0 : s₁.heap = h0 := by rw [← hh, Bd.state]; rfl
  have N0 := Fr.nil n0
  have pre0 : ∀ t, Steps p.tables e below (s₁.setTop (mkF m 0 #[.val (.int p1)] [])) t → Steps p.tables e below (s₁.setTop (entryFrame m #[(.int p1)] 1)) t := fun t k => castTop (by first | (simp [entryFrame, mkF, argsToLocals, Value.category, maxLocals]; done) | rfl) k
  have pre1 : ∀ t, Steps p.tables e below (s₁.setTop (mkF m 3 #[.val (.int p1)] [(.int (32 : Int32)), (.int p1)])) t → Steps p.tables e below (s₁.setTop (entryFrame m #[(.int p1)] 1)) t := fun t kt => pre0 t (by
    show Steps _ _ _ (s₁.setTop (mkF m 0 #[.val (.int p1)] [])) _
    refine XS.iloadN X0.here hx rfl (hb hby own_d1_0) rfl ?_
    refine XS.bipush X0.here hx rfl (hb hby own_d1_1) ?_
    exact kt)
  by_cases hc3_2 : p1 < (32 : Int32)
  · skip
    have ihc3_2 := (own_lt (b := (32 : Int32)) (k := 32) rfl).mp hc3_2
    have pre3 : ∀ t, Steps p.tables e below (s₁.setTop (mkF m 15 #[.val (.int p1)] [(.int (10 : Int32)), (.int p1)])) t → Steps p.tables e below (s₁.setTop (entryFrame m #[(.int p1)] 1)) t := fun t kt => pre1 t (by
      show Steps _ _ _ (s₁.setTop (mkF m 3 #[.val (.int p1)] [(.int (32 : Int32)), (.int p1)])) _
      refine XS.icmpYes X0.here hx rfl (pc0 := 3) (pc' := 12) rfl (hb hby own_d1_3) rfl (tlt hc3_2).1 (by decide) (by decide) ?_
      refine XS.iloadN X0.here hx rfl (hb hby own_d1_12) rfl ?_
      refine XS.bipush X0.here hx rfl (hb hby own_d1_13) ?_
      exact kt)
    by_cases hc15_4 : p1 = (10 : Int32)
    · skip
      have ihc15_4 := (own_eq (b := (10 : Int32)) (k := 10) rfl).mp hc15_4
      obtain ⟨fs, hr, hrun, hended, hW, hsame⟩ := X0.leave (v := some (.int (1 : Int32))) (fun h => by rw [Bd.returns] at h; cases h)
      refine ⟨_, _, pre3 _ ?_, hrun, hended, _, _, rfl, ?_, ⟨_, rfl⟩, hW, hsame.mono (by decide) (by decide)⟩
      · show Steps _ _ _ (s₁.setTop (mkF m 15 #[.val (.int p1)] [(.int (10 : Int32)), (.int p1)])) _
        refine XS.icmpYes X0.here hx rfl (pc0 := 15) (pc' := 54) rfl (hb hby own_d1_15) rfl (teq hc15_4).1 (by decide) (by decide) ?_
        refine XS.iconst X0.here hx rfl (hb hby own_d1_54) ?_
        refine XS.goto X0.here hx rfl (pc0 := 55) (pc' := 59) rfl (hb hby own_d1_55) (by decide) (by decide) ?_
        show Steps _ _ _ (s₁.setTop (mkF m 59 #[.val (.int p1)] [(.int (1 : Int32))])) _
        exact retN X0 hx (t := .boolean) Bd.returns (by simp) (hb hby own_d1_59) hr
      · show Qown_isc Z p1 h0 n0 _ s₁.heap _
        rw [e0]
        exact ⟨congrArg (fun z => some (Value.int z)) (by unfold own_f; exact (if_pos (by omega)).symm), N0, rfl⟩
    · skip
      have ihc15_4 := (mt (own_eq (b := (10 : Int32)) (k := 10) rfl).mpr hc15_4)
      have pre5 : ∀ t, Steps p.tables e below (s₁.setTop (mkF m 21 #[.val (.int p1)] [(.int (9 : Int32)), (.int p1)])) t → Steps p.tables e below (s₁.setTop (entryFrame m #[(.int p1)] 1)) t := fun t kt => pre3 t (by
        show Steps _ _ _ (s₁.setTop (mkF m 15 #[.val (.int p1)] [(.int (10 : Int32)), (.int p1)])) _
        refine XS.icmpNo X0.here hx rfl (hb hby own_d1_15) rfl (feq hc15_4).1 ?_
        refine XS.iloadN X0.here hx rfl (hb hby own_d1_18) rfl ?_
        refine XS.bipush X0.here hx rfl (hb hby own_d1_19) ?_
        exact kt)
      by_cases hc21_6 : p1 = (9 : Int32)
      · skip
        have ihc21_6 := (own_eq (b := (9 : Int32)) (k := 9) rfl).mp hc21_6
        obtain ⟨fs, hr, hrun, hended, hW, hsame⟩ := X0.leave (v := some (.int (1 : Int32))) (fun h => by rw [Bd.returns] at h; cases h)
        refine ⟨_, _, pre5 _ ?_, hrun, hended, _, _, rfl, ?_, ⟨_, rfl⟩, hW, hsame.mono (by decide) (by decide)⟩
        · show Steps _ _ _ (s₁.setTop (mkF m 21 #[.val (.int p1)] [(.int (9 : Int32)), (.int p1)])) _
          refine XS.icmpYes X0.here hx rfl (pc0 := 21) (pc' := 54) rfl (hb hby own_d1_21) rfl (teq hc21_6).1 (by decide) (by decide) ?_
          refine XS.iconst X0.here hx rfl (hb hby own_d1_54) ?_
          refine XS.goto X0.here hx rfl (pc0 := 55) (pc' := 59) rfl (hb hby own_d1_55) (by decide) (by decide) ?_
          show Steps _ _ _ (s₁.setTop (mkF m 59 #[.val (.int p1)] [(.int (1 : Int32))])) _
          exact retN X0 hx (t := .boolean) Bd.returns (by simp) (hb hby own_d1_59) hr
        · show Qown_isc Z p1 h0 n0 _ s₁.heap _
          rw [e0]
          exact ⟨congrArg (fun z => some (Value.int z)) (by unfold own_f; exact (if_pos (by omega)).symm), N0, rfl⟩
      · skip
        have ihc21_6 := (mt (own_eq (b := (9 : Int32)) (k := 9) rfl).mpr hc21_6)
        have pre7 : ∀ t, Steps p.tables e below (s₁.setTop (mkF m 27 #[.val (.int p1)] [(.int (13 : Int32)), (.int p1)])) t → Steps p.tables e below (s₁.setTop (entryFrame m #[(.int p1)] 1)) t := fun t kt => pre5 t (by
          show Steps _ _ _ (s₁.setTop (mkF m 21 #[.val (.int p1)] [(.int (9 : Int32)), (.int p1)])) _
          refine XS.icmpNo X0.here hx rfl (hb hby own_d1_21) rfl (feq hc21_6).1 ?_
          refine XS.iloadN X0.here hx rfl (hb hby own_d1_24) rfl ?_
          refine XS.bipush X0.here hx rfl (hb hby own_d1_25) ?_
          exact kt)
        by_cases hc27_8 : p1 = (13 : Int32)
        · skip
          have ihc27_8 := (own_eq (b := (13 : Int32)) (k := 13) rfl).mp hc27_8
          obtain ⟨fs, hr, hrun, hended, hW, hsame⟩ := X0.leave (v := some (.int (1 : Int32))) (fun h => by rw [Bd.returns] at h; cases h)
          refine ⟨_, _, pre7 _ ?_, hrun, hended, _, _, rfl, ?_, ⟨_, rfl⟩, hW, hsame.mono (by decide) (by decide)⟩
          · show Steps _ _ _ (s₁.setTop (mkF m 27 #[.val (.int p1)] [(.int (13 : Int32)), (.int p1)])) _
            refine XS.icmpYes X0.here hx rfl (pc0 := 27) (pc' := 54) rfl (hb hby own_d1_27) rfl (teq hc27_8).1 (by decide) (by decide) ?_
            refine XS.iconst X0.here hx rfl (hb hby own_d1_54) ?_
            refine XS.goto X0.here hx rfl (pc0 := 55) (pc' := 59) rfl (hb hby own_d1_55) (by decide) (by decide) ?_
            show Steps _ _ _ (s₁.setTop (mkF m 59 #[.val (.int p1)] [(.int (1 : Int32))])) _
            exact retN X0 hx (t := .boolean) Bd.returns (by simp) (hb hby own_d1_59) hr
          · show Qown_isc Z p1 h0 n0 _ s₁.heap _
            rw [e0]
            exact ⟨congrArg (fun z => some (Value.int z)) (by unfold own_f; exact (if_pos (by omega)).symm), N0, rfl⟩
        · skip
          have ihc27_8 := (mt (own_eq (b := (13 : Int32)) (k := 13) rfl).mpr hc27_8)
          obtain ⟨fs, hr, hrun, hended, hW, hsame⟩ := X0.leave (v := some (.int (0 : Int32))) (fun h => by rw [Bd.returns] at h; cases h)
          refine ⟨_, _, pre7 _ ?_, hrun, hended, _, _, rfl, ?_, ⟨_, rfl⟩, hW, hsame.mono (by decide) (by decide)⟩
          · show Steps _ _ _ (s₁.setTop (mkF m 27 #[.val (.int p1)] [(.int (13 : Int32)), (.int p1)])) _
            refine XS.icmpNo X0.here hx rfl (hb hby own_d1_27) rfl (feq hc27_8).1 ?_
            refine XS.iloadN X0.here hx rfl (hb hby own_d1_30) rfl ?_
            refine X0.ldcInt hx hown (mvT hZ (own_w16 hw)) (g := (mkF m 31 #[.val (.int p1)] [(.int p1)])) rfl (hb hby own_d1_31) _ ?_
            refine XS.icmpYes X0.here hx rfl (pc0 := 33) (pc' := 42) rfl (hb hby own_d1_33) rfl (tlt (own_lt_of (b := (57344 : Int32)) (k := 57344) rfl (by have := rng32 p1; omega))).1 (by decide) (by decide) ?_
            show Steps _ _ _ (s₁.setTop (mkF m 42 #[.val (.int p1)] [])) _
            refine XS.iloadN X0.here hx rfl (hb hby own_d1_42) rfl ?_
            refine X0.ldcInt hx hown (mvT hZ (own_w17 hw)) (g := (mkF m 43 #[.val (.int p1)] [(.int p1)])) rfl (hb hby own_d1_43) _ ?_
            refine XS.icmpYes X0.here hx rfl (pc0 := 45) (pc' := 58) rfl (hb hby own_d1_45) rfl (tlt (own_lt_of (b := (65536 : Int32)) (k := 65536) rfl (by have := rng32 p1; omega))).1 (by decide) (by decide) ?_
            refine XS.iconst X0.here hx rfl (hb hby own_d1_58) ?_
            show Steps _ _ _ (s₁.setTop (mkF m 59 #[.val (.int p1)] [(.int (0 : Int32))])) _
            exact retN X0 hx (t := .boolean) Bd.returns (by simp) (hb hby own_d1_59) hr
          · show Qown_isc Z p1 h0 n0 _ s₁.heap _
            rw [e0]
            exact ⟨congrArg (fun z => some (Value.int z)) (by unfold own_f; exact (if_neg (by omega)).symm), N0, rfl⟩
  · skip
    have ihc3_2 := (mt (own_lt (b := (32 : Int32)) (k := 32) rfl).mpr hc3_2)
    have pre9 : ∀ t, Steps p.tables e below (s₁.setTop (mkF m 9 #[.val (.int p1)] [(.int (55295 : Int32)), (.int p1)])) t → Steps p.tables e below (s₁.setTop (entryFrame m #[(.int p1)] 1)) t := fun t kt => pre1 t (by
      show Steps _ _ _ (s₁.setTop (mkF m 3 #[.val (.int p1)] [(.int (32 : Int32)), (.int p1)])) _
      refine XS.icmpNo X0.here hx rfl (hb hby own_d1_3) rfl (flt hc3_2).1 ?_
      refine XS.iloadN X0.here hx rfl (hb hby own_d1_6) rfl ?_
      refine X0.ldcInt hx hown (mvT hZ (own_w22 hw)) (g := (mkF m 7 #[.val (.int p1)] [(.int p1)])) rfl (hb hby own_d1_7) _ ?_
      exact kt)
    by_cases hc9_10 : (55295 : Int32) < p1
    · skip
      have ihc9_10 := (own_gt (a := (55295 : Int32)) (k := 55295) rfl).mp hc9_10
      have pre11 : ∀ t, Steps p.tables e below (s₁.setTop (mkF m 33 #[.val (.int p1)] [(.int (57344 : Int32)), (.int p1)])) t → Steps p.tables e below (s₁.setTop (entryFrame m #[(.int p1)] 1)) t := fun t kt => pre9 t (by
        show Steps _ _ _ (s₁.setTop (mkF m 9 #[.val (.int p1)] [(.int (55295 : Int32)), (.int p1)])) _
        refine XS.icmpNo X0.here hx rfl (hb hby own_d1_9) rfl (tlt hc9_10).2.2.2 ?_
        refine XS.iloadN X0.here hx rfl (hb hby own_d1_12) rfl ?_
        refine XS.bipush X0.here hx rfl (hb hby own_d1_13) ?_
        refine XS.icmpNo X0.here hx rfl (hb hby own_d1_15) rfl (feq (own_ne_of (b := (10 : Int32)) (k := 10) rfl (by have := rng32 p1; omega))).1 ?_
        show Steps _ _ _ (s₁.setTop (mkF m 18 #[.val (.int p1)] [])) _
        refine XS.iloadN X0.here hx rfl (hb hby own_d1_18) rfl ?_
        refine XS.bipush X0.here hx rfl (hb hby own_d1_19) ?_
        refine XS.icmpNo X0.here hx rfl (hb hby own_d1_21) rfl (feq (own_ne_of (b := (9 : Int32)) (k := 9) rfl (by have := rng32 p1; omega))).1 ?_
        refine XS.iloadN X0.here hx rfl (hb hby own_d1_24) rfl ?_
        show Steps _ _ _ (s₁.setTop (mkF m 25 #[.val (.int p1)] [(.int p1)])) _
        refine XS.bipush X0.here hx rfl (hb hby own_d1_25) ?_
        refine XS.icmpNo X0.here hx rfl (hb hby own_d1_27) rfl (feq (own_ne_of (b := (13 : Int32)) (k := 13) rfl (by have := rng32 p1; omega))).1 ?_
        refine XS.iloadN X0.here hx rfl (hb hby own_d1_30) rfl ?_
        refine X0.ldcInt hx hown (mvT hZ (own_w16 hw)) (g := (mkF m 31 #[.val (.int p1)] [(.int p1)])) rfl (hb hby own_d1_31) _ ?_
        exact kt)
      by_cases hc33_12 : p1 < (57344 : Int32)
      · skip
        have ihc33_12 := (own_lt (b := (57344 : Int32)) (k := 57344) rfl).mp hc33_12
        obtain ⟨fs, hr, hrun, hended, hW, hsame⟩ := X0.leave (v := some (.int (0 : Int32))) (fun h => by rw [Bd.returns] at h; cases h)
        refine ⟨_, _, pre11 _ ?_, hrun, hended, _, _, rfl, ?_, ⟨_, rfl⟩, hW, hsame.mono (by decide) (by decide)⟩
        · show Steps _ _ _ (s₁.setTop (mkF m 33 #[.val (.int p1)] [(.int (57344 : Int32)), (.int p1)])) _
          refine XS.icmpYes X0.here hx rfl (pc0 := 33) (pc' := 42) rfl (hb hby own_d1_33) rfl (tlt hc33_12).1 (by decide) (by decide) ?_
          refine XS.iloadN X0.here hx rfl (hb hby own_d1_42) rfl ?_
          refine X0.ldcInt hx hown (mvT hZ (own_w17 hw)) (g := (mkF m 43 #[.val (.int p1)] [(.int p1)])) rfl (hb hby own_d1_43) _ ?_
          refine XS.icmpYes X0.here hx rfl (pc0 := 45) (pc' := 58) rfl (hb hby own_d1_45) rfl (tlt (own_lt_of (b := (65536 : Int32)) (k := 65536) rfl (by have := rng32 p1; omega))).1 (by decide) (by decide) ?_
          show Steps _ _ _ (s₁.setTop (mkF m 58 #[.val (.int p1)] [])) _
          refine XS.iconst X0.here hx rfl (hb hby own_d1_58) ?_
          show Steps _ _ _ (s₁.setTop (mkF m 59 #[.val (.int p1)] [(.int (0 : Int32))])) _
          exact retN X0 hx (t := .boolean) Bd.returns (by simp) (hb hby own_d1_59) hr
        · show Qown_isc Z p1 h0 n0 _ s₁.heap _
          rw [e0]
          exact ⟨congrArg (fun z => some (Value.int z)) (by unfold own_f; exact (if_neg (by omega)).symm), N0, rfl⟩
      · skip
        have ihc33_12 := (mt (own_lt (b := (57344 : Int32)) (k := 57344) rfl).mpr hc33_12)
        have pre13 : ∀ t, Steps p.tables e below (s₁.setTop (mkF m 39 #[.val (.int p1)] [(.int (65533 : Int32)), (.int p1)])) t → Steps p.tables e below (s₁.setTop (entryFrame m #[(.int p1)] 1)) t := fun t kt => pre11 t (by
          show Steps _ _ _ (s₁.setTop (mkF m 33 #[.val (.int p1)] [(.int (57344 : Int32)), (.int p1)])) _
          refine XS.icmpNo X0.here hx rfl (hb hby own_d1_33) rfl (flt hc33_12).1 ?_
          refine XS.iloadN X0.here hx rfl (hb hby own_d1_36) rfl ?_
          refine X0.ldcInt hx hown (mvT hZ (own_w23 hw)) (g := (mkF m 37 #[.val (.int p1)] [(.int p1)])) rfl (hb hby own_d1_37) _ ?_
          exact kt)
        by_cases hc39_14 : (65533 : Int32) < p1
        · skip
          have ihc39_14 := (own_gt (a := (65533 : Int32)) (k := 65533) rfl).mp hc39_14
          have pre15 : ∀ t, Steps p.tables e below (s₁.setTop (mkF m 45 #[.val (.int p1)] [(.int (65536 : Int32)), (.int p1)])) t → Steps p.tables e below (s₁.setTop (entryFrame m #[(.int p1)] 1)) t := fun t kt => pre13 t (by
            show Steps _ _ _ (s₁.setTop (mkF m 39 #[.val (.int p1)] [(.int (65533 : Int32)), (.int p1)])) _
            refine XS.icmpNo X0.here hx rfl (hb hby own_d1_39) rfl (tlt hc39_14).2.2.2 ?_
            refine XS.iloadN X0.here hx rfl (hb hby own_d1_42) rfl ?_
            refine X0.ldcInt hx hown (mvT hZ (own_w17 hw)) (g := (mkF m 43 #[.val (.int p1)] [(.int p1)])) rfl (hb hby own_d1_43) _ ?_
            exact kt)
          by_cases hc45_16 : p1 < (65536 : Int32)
          · skip
            have ihc45_16 := (own_lt (b := (65536 : Int32)) (k := 65536) rfl).mp hc45_16
            obtain ⟨fs, hr, hrun, hended, hW, hsame⟩ := X0.leave (v := some (.int (0 : Int32))) (fun h => by rw [Bd.returns] at h; cases h)
            refine ⟨_, _, pre15 _ ?_, hrun, hended, _, _, rfl, ?_, ⟨_, rfl⟩, hW, hsame.mono (by decide) (by decide)⟩
            · show Steps _ _ _ (s₁.setTop (mkF m 45 #[.val (.int p1)] [(.int (65536 : Int32)), (.int p1)])) _
              refine XS.icmpYes X0.here hx rfl (pc0 := 45) (pc' := 58) rfl (hb hby own_d1_45) rfl (tlt hc45_16).1 (by decide) (by decide) ?_
              refine XS.iconst X0.here hx rfl (hb hby own_d1_58) ?_
              show Steps _ _ _ (s₁.setTop (mkF m 59 #[.val (.int p1)] [(.int (0 : Int32))])) _
              exact retN X0 hx (t := .boolean) Bd.returns (by simp) (hb hby own_d1_59) hr
            · show Qown_isc Z p1 h0 n0 _ s₁.heap _
              rw [e0]
              exact ⟨congrArg (fun z => some (Value.int z)) (by unfold own_f; exact (if_neg (by omega)).symm), N0, rfl⟩
          · skip
            have ihc45_16 := (mt (own_lt (b := (65536 : Int32)) (k := 65536) rfl).mpr hc45_16)
            have pre17 : ∀ t, Steps p.tables e below (s₁.setTop (mkF m 51 #[.val (.int p1)] [(.int (1114111 : Int32)), (.int p1)])) t → Steps p.tables e below (s₁.setTop (entryFrame m #[(.int p1)] 1)) t := fun t kt => pre15 t (by
              show Steps _ _ _ (s₁.setTop (mkF m 45 #[.val (.int p1)] [(.int (65536 : Int32)), (.int p1)])) _
              refine XS.icmpNo X0.here hx rfl (hb hby own_d1_45) rfl (flt hc45_16).1 ?_
              refine XS.iloadN X0.here hx rfl (hb hby own_d1_48) rfl ?_
              refine X0.ldcInt hx hown (mvT hZ (own_w24 hw)) (g := (mkF m 49 #[.val (.int p1)] [(.int p1)])) rfl (hb hby own_d1_49) _ ?_
              exact kt)
            by_cases hc51_18 : (1114111 : Int32) < p1
            · skip
              have ihc51_18 := (own_gt (a := (1114111 : Int32)) (k := 1114111) rfl).mp hc51_18
              obtain ⟨fs, hr, hrun, hended, hW, hsame⟩ := X0.leave (v := some (.int (0 : Int32))) (fun h => by rw [Bd.returns] at h; cases h)
              refine ⟨_, _, pre17 _ ?_, hrun, hended, _, _, rfl, ?_, ⟨_, rfl⟩, hW, hsame.mono (by decide) (by decide)⟩
              · show Steps _ _ _ (s₁.setTop (mkF m 51 #[.val (.int p1)] [(.int (1114111 : Int32)), (.int p1)])) _
                refine XS.icmpYes X0.here hx rfl (pc0 := 51) (pc' := 58) rfl (hb hby own_d1_51) rfl (tlt hc51_18).2.2.1 (by decide) (by decide) ?_
                refine XS.iconst X0.here hx rfl (hb hby own_d1_58) ?_
                show Steps _ _ _ (s₁.setTop (mkF m 59 #[.val (.int p1)] [(.int (0 : Int32))])) _
                exact retN X0 hx (t := .boolean) Bd.returns (by simp) (hb hby own_d1_59) hr
              · show Qown_isc Z p1 h0 n0 _ s₁.heap _
                rw [e0]
                exact ⟨congrArg (fun z => some (Value.int z)) (by unfold own_f; exact (if_neg (by omega)).symm), N0, rfl⟩
            · skip
              have ihc51_18 := (mt (own_gt (a := (1114111 : Int32)) (k := 1114111) rfl).mpr hc51_18)
              obtain ⟨fs, hr, hrun, hended, hW, hsame⟩ := X0.leave (v := some (.int (1 : Int32))) (fun h => by rw [Bd.returns] at h; cases h)
              refine ⟨_, _, pre17 _ ?_, hrun, hended, _, _, rfl, ?_, ⟨_, rfl⟩, hW, hsame.mono (by decide) (by decide)⟩
              · show Steps _ _ _ (s₁.setTop (mkF m 51 #[.val (.int p1)] [(.int (1114111 : Int32)), (.int p1)])) _
                refine XS.icmpNo X0.here hx rfl (hb hby own_d1_51) rfl (flt hc51_18).2.2.1 ?_
                refine XS.iconst X0.here hx rfl (hb hby own_d1_54) ?_
                refine XS.goto X0.here hx rfl (pc0 := 55) (pc' := 59) rfl (hb hby own_d1_55) (by decide) (by decide) ?_
                show Steps _ _ _ (s₁.setTop (mkF m 59 #[.val (.int p1)] [(.int (1 : Int32))])) _
                exact retN X0 hx (t := .boolean) Bd.returns (by simp) (hb hby own_d1_59) hr
              · show Qown_isc Z p1 h0 n0 _ s₁.heap _
                rw [e0]
                exact ⟨congrArg (fun z => some (Value.int z)) (by unfold own_f; exact (if_pos (by omega)).symm), N0, rfl⟩
        · skip
          have ihc39_14 := (mt (own_gt (a := (65533 : Int32)) (k := 65533) rfl).mpr hc39_14)
          obtain ⟨fs, hr, hrun, hended, hW, hsame⟩ := X0.leave (v := some (.int (1 : Int32))) (fun h => by rw [Bd.returns] at h; cases h)
          refine ⟨_, _, pre13 _ ?_, hrun, hended, _, _, rfl, ?_, ⟨_, rfl⟩, hW, hsame.mono (by decide) (by decide)⟩
          · show Steps _ _ _ (s₁.setTop (mkF m 39 #[.val (.int p1)] [(.int (65533 : Int32)), (.int p1)])) _
            refine XS.icmpYes X0.here hx rfl (pc0 := 39) (pc' := 54) rfl (hb hby own_d1_39) rfl (flt hc39_14).2.2.2 (by decide) (by decide) ?_
            refine XS.iconst X0.here hx rfl (hb hby own_d1_54) ?_
            refine XS.goto X0.here hx rfl (pc0 := 55) (pc' := 59) rfl (hb hby own_d1_55) (by decide) (by decide) ?_
            show Steps _ _ _ (s₁.setTop (mkF m 59 #[.val (.int p1)] [(.int (1 : Int32))])) _
            exact retN X0 hx (t := .boolean) Bd.returns (by simp) (hb hby own_d1_59) hr
          · show Qown_isc Z p1 h0 n0 _ s₁.heap _
            rw [e0]
            exact ⟨congrArg (fun z => some (Value.int z)) (by unfold own_f; exact (if_pos (by omega)).symm), N0, rfl⟩
    · skip
      have ihc9_10 := (mt (own_gt (a := (55295 : Int32)) (k := 55295) rfl).mpr hc9_10)
      obtain ⟨fs, hr, hrun, hended, hW, hsame⟩ := X0.leave (v := some (.int (1 : Int32))) (fun h => by rw [Bd.returns] at h; cases h)
      refine ⟨_, _, pre9 _ ?_, hrun, hended, _, _, rfl, ?_, ⟨_, rfl⟩, hW, hsame.mono (by decide) (by decide)⟩
      · show Steps _ _ _ (s₁.setTop (mkF m 9 #[.val (.int p1)] [(.int (55295 : Int32)), (.int p1)])) _
        refine XS.icmpYes X0.here hx rfl (pc0 := 9) (pc' := 54) rfl (hb hby own_d1_9) rfl (flt hc9_10).2.2.2 (by decide) (by decide) ?_
        refine XS.iconst X0.here hx rfl (hb hby own_d1_54) ?_
        refine XS.goto X0.here hx rfl (pc0 := 55) (pc' := 59) rfl (hb hby own_d1_55) (by decide) (by decide) ?_
        show Steps _ _ _ (s₁.setTop (mkF m 59 #[.val (.int p1)] [(.int (1 : Int32))])) _
        exact retN X0 hx (t := .boolean) Bd.returns (by simp) (hb hby own_d1_59) hr
      · show Qown_isc Z p1 h0 n0 _ s₁.heap _
        rw [e0]
        exact ⟨congrArg (fun z => some (Value.int z)) (by unfold own_f; exact (if_pos (by omega)).symm), N0, rfl⟩
def Qown_forb (Z : State) (p1 : Int32) (h0 : Heap) (n0 : Nat) (v : Option Value) (h : Heap) (L : List Loc) : Prop := v = some (.int (own_g p1)) ∧ Fr n0 L ∧ h = h0
set_option maxRecDepth 65536 in
set_option maxHeartbeats 40000000 in
theorem own_forb (l : Launch) (Z : State) (a0 : Array Value) (hw : ∀ d ∈ tables_1, d.before a0 Z = true) (ws : List Jvm.Cond) (p1 : Int32) (h0 : Heap) (n0 : Nat) (Z0 : n0 ≤ h0.size)  :
    MetFree l own_m1 (head1 (Jvm.Cond.code own_m1 method_2_code 1 (some .boolean) :: ws) ({ frames := 0, cells := 0, slots := 0, locals := 0 } : Room)) (fun a U => a = #[(.int p1)] ∧ Z.Warmed39 U.vm ∧ U.heap = h0) (fun _ _ _ _ _ => True) (fun _ U o U' => ∃ v L, o = .returned v ∧ Qown_forb Z p1 h0 n0 v U'.heap L ∧ FrameEnd U o U' L ({ frames := 0, cells := 0, slots := 0, locals := 0 } : Room).cells ({ frames := 0, cells := 0, slots := 0, locals := 0 } : Room).slots) := by
  refine MetFree.of_bodySF (plainFor_of_name own_pn1) hisR ?_
  intro p e s m args below meth c s₁ Bd hml0 hP hK
  obtain ⟨rfl, hZ, hh⟩ := hP
  have hx := Bd.exec
  have hby := Bd.bytes
  have hml : c.maxLocals = 1 := hml0
  have hown : s.vm.findClass "com/example/fascicle/fascicle/io/XmlNamesIsCharPinLaw" = some m.cls := by have q := findClass_of_methodNamed Bd.named; exact q
  have hnm := (name_of_methodNamed Bd.named Bd.method).1
  have X0 : Stand p l e ({ frames := 0, cells := 0, slots := 0, locals := 0 } : Room) s m #[(.int p1)] below meth c s₁ [] 0 0 := Stand.of_body Bd
  have e0 : s₁.heap = h0 := by rw [← hh, Bd.state]; rfl
  have N0 := Fr.nil n0
  have pre0 : ∀ t, Steps p.tables e below (s₁.setTop (mkF m 0 #[.val (.int p1)] [])) t → Steps p.tables e below (s₁.setTop (entryFrame m #[(.int p1)] 1)) t := fun t k => castTop (by first | (simp [entryFrame, mkF, argsToLocals, Value.category, maxLocals]; done) | rfl) k
  have pre1 : ∀ t, Steps p.tables e below (s₁.setTop (mkF m 1 #[.val (.int p1)] [(.int p1)])) t → Steps p.tables e below (s₁.setTop (entryFrame m #[(.int p1)] 1)) t := fun t kt => pre0 t (by
    show Steps _ _ _ (s₁.setTop (mkF m 0 #[.val (.int p1)] [])) _
    refine XS.iloadN X0.here hx rfl (hb hby own_d2_0) rfl ?_
    exact kt)
  by_cases hc1_2 : p1 < (0 : Int32)
  · skip
    have ihc1_2 := (own_lt (b := (0 : Int32)) (k := 0) rfl).mp hc1_2
    obtain ⟨fs, hr, hrun, hended, hW, hsame⟩ := X0.leave (v := some (.int (1 : Int32))) (fun h => by rw [Bd.returns] at h; cases h)
    refine ⟨_, _, pre1 _ ?_, hrun, hended, _, _, rfl, ?_, ⟨_, rfl⟩, hW, hsame.mono (by decide) (by decide)⟩
    · show Steps _ _ _ (s₁.setTop (mkF m 1 #[.val (.int p1)] [(.int p1)])) _
      refine XS.ifNo X0.here hx rfl (hb hby own_d2_1) rfl ((if0 _ _).trans (tlt hc1_2).2.1) ?_
      refine XS.iconst X0.here hx rfl (hb hby own_d2_4) ?_
      show Steps _ _ _ (s₁.setTop (mkF m 5 #[.val (.int p1)] [(.int (1 : Int32))])) _
      exact retN X0 hx (t := .boolean) Bd.returns (by simp) (hb hby own_d2_5) hr
    · show Qown_forb Z p1 h0 n0 _ s₁.heap _
      rw [e0]
      exact ⟨congrArg (fun z => some (Value.int z)) (by unfold own_g; exact (if_neg (by omega)).symm), N0, rfl⟩
  · skip
    have ihc1_2 := (mt (own_lt (b := (0 : Int32)) (k := 0) rfl).mpr hc1_2)
    have pre3 : ∀ t, Steps p.tables e below (s₁.setTop (mkF m 9 #[.val (.int p1)] [(.int (1114111 : Int32)), (.int p1)])) t → Steps p.tables e below (s₁.setTop (entryFrame m #[(.int p1)] 1)) t := fun t kt => pre1 t (by
      show Steps _ _ _ (s₁.setTop (mkF m 1 #[.val (.int p1)] [(.int p1)])) _
      refine XS.ifYes X0.here hx rfl (pc0 := 1) (pc' := 6) rfl (hb hby own_d2_1) rfl ((if0 _ _).trans (flt hc1_2).2.1) (by decide) (by decide) ?_
      refine XS.iloadN X0.here hx rfl (hb hby own_d2_6) rfl ?_
      refine X0.ldcInt hx hown (mvT hZ (own_w9 hw)) (g := (mkF m 7 #[.val (.int p1)] [(.int p1)])) rfl (hb hby own_d2_7) _ ?_
      exact kt)
    by_cases hc9_4 : (1114111 : Int32) < p1
    · skip
      have ihc9_4 := (own_gt (a := (1114111 : Int32)) (k := 1114111) rfl).mp hc9_4
      obtain ⟨fs, hr, hrun, hended, hW, hsame⟩ := X0.leave (v := some (.int (1 : Int32))) (fun h => by rw [Bd.returns] at h; cases h)
      refine ⟨_, _, pre3 _ ?_, hrun, hended, _, _, rfl, ?_, ⟨_, rfl⟩, hW, hsame.mono (by decide) (by decide)⟩
      · show Steps _ _ _ (s₁.setTop (mkF m 9 #[.val (.int p1)] [(.int (1114111 : Int32)), (.int p1)])) _
        refine XS.icmpNo X0.here hx rfl (hb hby own_d2_9) rfl (tlt hc9_4).2.2.2 ?_
        refine XS.iconst X0.here hx rfl (hb hby own_d2_12) ?_
        show Steps _ _ _ (s₁.setTop (mkF m 13 #[.val (.int p1)] [(.int (1 : Int32))])) _
        exact retN X0 hx (t := .boolean) Bd.returns (by simp) (hb hby own_d2_13) hr
      · show Qown_forb Z p1 h0 n0 _ s₁.heap _
        rw [e0]
        exact ⟨congrArg (fun z => some (Value.int z)) (by unfold own_g; exact (if_neg (by omega)).symm), N0, rfl⟩
    · skip
      have ihc9_4 := (mt (own_gt (a := (1114111 : Int32)) (k := 1114111) rfl).mpr hc9_4)
      have pre5 : ∀ t, Steps p.tables e below (s₁.setTop (mkF m 17 #[.val (.int p1)] [(.int (32 : Int32)), (.int p1)])) t → Steps p.tables e below (s₁.setTop (entryFrame m #[(.int p1)] 1)) t := fun t kt => pre3 t (by
        show Steps _ _ _ (s₁.setTop (mkF m 9 #[.val (.int p1)] [(.int (1114111 : Int32)), (.int p1)])) _
        refine XS.icmpYes X0.here hx rfl (pc0 := 9) (pc' := 14) rfl (hb hby own_d2_9) rfl (flt hc9_4).2.2.2 (by decide) (by decide) ?_
        refine XS.iloadN X0.here hx rfl (hb hby own_d2_14) rfl ?_
        refine XS.bipush X0.here hx rfl (hb hby own_d2_15) ?_
        exact kt)
      by_cases hc17_6 : p1 < (32 : Int32)
      · skip
        have ihc17_6 := (own_lt (b := (32 : Int32)) (k := 32) rfl).mp hc17_6
        have pre7 : ∀ t, Steps p.tables e below (s₁.setTop (mkF m 23 #[.val (.int p1)] [(.int (9 : Int32)), (.int p1)])) t → Steps p.tables e below (s₁.setTop (entryFrame m #[(.int p1)] 1)) t := fun t kt => pre5 t (by
          show Steps _ _ _ (s₁.setTop (mkF m 17 #[.val (.int p1)] [(.int (32 : Int32)), (.int p1)])) _
          refine XS.icmpNo X0.here hx rfl (hb hby own_d2_17) rfl (tlt hc17_6).2.1 ?_
          refine XS.iloadN X0.here hx rfl (hb hby own_d2_20) rfl ?_
          refine XS.bipush X0.here hx rfl (hb hby own_d2_21) ?_
          exact kt)
        by_cases hc23_8 : p1 = (9 : Int32)
        · skip
          have ihc23_8 := (own_eq (b := (9 : Int32)) (k := 9) rfl).mp hc23_8
          obtain ⟨fs, hr, hrun, hended, hW, hsame⟩ := X0.leave (v := some (.int (0 : Int32))) (fun h => by rw [Bd.returns] at h; cases h)
          refine ⟨_, _, pre7 _ ?_, hrun, hended, _, _, rfl, ?_, ⟨_, rfl⟩, hW, hsame.mono (by decide) (by decide)⟩
          · show Steps _ _ _ (s₁.setTop (mkF m 23 #[.val (.int p1)] [(.int (9 : Int32)), (.int p1)])) _
            refine XS.icmpYes X0.here hx rfl (pc0 := 23) (pc' := 42) rfl (hb hby own_d2_23) rfl (teq hc23_8).1 (by decide) (by decide) ?_
            refine XS.iconst X0.here hx rfl (hb hby own_d2_42) ?_
            show Steps _ _ _ (s₁.setTop (mkF m 43 #[.val (.int p1)] [(.int (0 : Int32))])) _
            exact retN X0 hx (t := .boolean) Bd.returns (by simp) (hb hby own_d2_43) hr
          · show Qown_forb Z p1 h0 n0 _ s₁.heap _
            rw [e0]
            exact ⟨congrArg (fun z => some (Value.int z)) (by unfold own_g; exact (if_pos (by omega)).symm), N0, rfl⟩
        · skip
          have ihc23_8 := (mt (own_eq (b := (9 : Int32)) (k := 9) rfl).mpr hc23_8)
          have pre9 : ∀ t, Steps p.tables e below (s₁.setTop (mkF m 29 #[.val (.int p1)] [(.int (10 : Int32)), (.int p1)])) t → Steps p.tables e below (s₁.setTop (entryFrame m #[(.int p1)] 1)) t := fun t kt => pre7 t (by
            show Steps _ _ _ (s₁.setTop (mkF m 23 #[.val (.int p1)] [(.int (9 : Int32)), (.int p1)])) _
            refine XS.icmpNo X0.here hx rfl (hb hby own_d2_23) rfl (feq hc23_8).1 ?_
            refine XS.iloadN X0.here hx rfl (hb hby own_d2_26) rfl ?_
            refine XS.bipush X0.here hx rfl (hb hby own_d2_27) ?_
            exact kt)
          by_cases hc29_10 : p1 = (10 : Int32)
          · skip
            have ihc29_10 := (own_eq (b := (10 : Int32)) (k := 10) rfl).mp hc29_10
            obtain ⟨fs, hr, hrun, hended, hW, hsame⟩ := X0.leave (v := some (.int (0 : Int32))) (fun h => by rw [Bd.returns] at h; cases h)
            refine ⟨_, _, pre9 _ ?_, hrun, hended, _, _, rfl, ?_, ⟨_, rfl⟩, hW, hsame.mono (by decide) (by decide)⟩
            · show Steps _ _ _ (s₁.setTop (mkF m 29 #[.val (.int p1)] [(.int (10 : Int32)), (.int p1)])) _
              refine XS.icmpYes X0.here hx rfl (pc0 := 29) (pc' := 42) rfl (hb hby own_d2_29) rfl (teq hc29_10).1 (by decide) (by decide) ?_
              refine XS.iconst X0.here hx rfl (hb hby own_d2_42) ?_
              show Steps _ _ _ (s₁.setTop (mkF m 43 #[.val (.int p1)] [(.int (0 : Int32))])) _
              exact retN X0 hx (t := .boolean) Bd.returns (by simp) (hb hby own_d2_43) hr
            · show Qown_forb Z p1 h0 n0 _ s₁.heap _
              rw [e0]
              exact ⟨congrArg (fun z => some (Value.int z)) (by unfold own_g; exact (if_pos (by omega)).symm), N0, rfl⟩
          · skip
            have ihc29_10 := (mt (own_eq (b := (10 : Int32)) (k := 10) rfl).mpr hc29_10)
            have pre11 : ∀ t, Steps p.tables e below (s₁.setTop (mkF m 35 #[.val (.int p1)] [(.int (13 : Int32)), (.int p1)])) t → Steps p.tables e below (s₁.setTop (entryFrame m #[(.int p1)] 1)) t := fun t kt => pre9 t (by
              show Steps _ _ _ (s₁.setTop (mkF m 29 #[.val (.int p1)] [(.int (10 : Int32)), (.int p1)])) _
              refine XS.icmpNo X0.here hx rfl (hb hby own_d2_29) rfl (feq hc29_10).1 ?_
              refine XS.iloadN X0.here hx rfl (hb hby own_d2_32) rfl ?_
              refine XS.bipush X0.here hx rfl (hb hby own_d2_33) ?_
              exact kt)
            by_cases hc35_12 : p1 = (13 : Int32)
            · skip
              have ihc35_12 := (own_eq (b := (13 : Int32)) (k := 13) rfl).mp hc35_12
              obtain ⟨fs, hr, hrun, hended, hW, hsame⟩ := X0.leave (v := some (.int (0 : Int32))) (fun h => by rw [Bd.returns] at h; cases h)
              refine ⟨_, _, pre11 _ ?_, hrun, hended, _, _, rfl, ?_, ⟨_, rfl⟩, hW, hsame.mono (by decide) (by decide)⟩
              · show Steps _ _ _ (s₁.setTop (mkF m 35 #[.val (.int p1)] [(.int (13 : Int32)), (.int p1)])) _
                refine XS.icmpYes X0.here hx rfl (pc0 := 35) (pc' := 42) rfl (hb hby own_d2_35) rfl (teq hc35_12).1 (by decide) (by decide) ?_
                refine XS.iconst X0.here hx rfl (hb hby own_d2_42) ?_
                show Steps _ _ _ (s₁.setTop (mkF m 43 #[.val (.int p1)] [(.int (0 : Int32))])) _
                exact retN X0 hx (t := .boolean) Bd.returns (by simp) (hb hby own_d2_43) hr
              · show Qown_forb Z p1 h0 n0 _ s₁.heap _
                rw [e0]
                exact ⟨congrArg (fun z => some (Value.int z)) (by unfold own_g; exact (if_pos (by omega)).symm), N0, rfl⟩
            · skip
              have ihc35_12 := (mt (own_eq (b := (13 : Int32)) (k := 13) rfl).mpr hc35_12)
              obtain ⟨fs, hr, hrun, hended, hW, hsame⟩ := X0.leave (v := some (.int (1 : Int32))) (fun h => by rw [Bd.returns] at h; cases h)
              refine ⟨_, _, pre11 _ ?_, hrun, hended, _, _, rfl, ?_, ⟨_, rfl⟩, hW, hsame.mono (by decide) (by decide)⟩
              · show Steps _ _ _ (s₁.setTop (mkF m 35 #[.val (.int p1)] [(.int (13 : Int32)), (.int p1)])) _
                refine XS.icmpNo X0.here hx rfl (hb hby own_d2_35) rfl (feq hc35_12).1 ?_
                refine XS.iconst X0.here hx rfl (hb hby own_d2_38) ?_
                refine XS.goto X0.here hx rfl (pc0 := 39) (pc' := 43) rfl (hb hby own_d2_39) (by decide) (by decide) ?_
                show Steps _ _ _ (s₁.setTop (mkF m 43 #[.val (.int p1)] [(.int (1 : Int32))])) _
                exact retN X0 hx (t := .boolean) Bd.returns (by simp) (hb hby own_d2_43) hr
              · show Qown_forb Z p1 h0 n0 _ s₁.heap _
                rw [e0]
                exact ⟨congrArg (fun z => some (Value.int z)) (by unfold own_g; exact (if_neg (by omega)).symm), N0, rfl⟩
      · skip
        have ihc17_6 := (mt (own_lt (b := (32 : Int32)) (k := 32) rfl).mpr hc17_6)
        have pre13 : ∀ t, Steps p.tables e below (s₁.setTop (mkF m 47 #[.val (.int p1)] [(.int (55296 : Int32)), (.int p1)])) t → Steps p.tables e below (s₁.setTop (entryFrame m #[(.int p1)] 1)) t := fun t kt => pre5 t (by
          show Steps _ _ _ (s₁.setTop (mkF m 17 #[.val (.int p1)] [(.int (32 : Int32)), (.int p1)])) _
          refine XS.icmpYes X0.here hx rfl (pc0 := 17) (pc' := 44) rfl (hb hby own_d2_17) rfl (flt hc17_6).2.1 (by decide) (by decide) ?_
          refine XS.iloadN X0.here hx rfl (hb hby own_d2_44) rfl ?_
          refine X0.ldcInt hx hown (mvT hZ (own_w2 hw)) (g := (mkF m 45 #[.val (.int p1)] [(.int p1)])) rfl (hb hby own_d2_45) _ ?_
          exact kt)
        by_cases hc47_14 : p1 < (55296 : Int32)
        · skip
          have ihc47_14 := (own_lt (b := (55296 : Int32)) (k := 55296) rfl).mp hc47_14
          obtain ⟨fs, hr, hrun, hended, hW, hsame⟩ := X0.leave (v := some (.int (0 : Int32))) (fun h => by rw [Bd.returns] at h; cases h)
          refine ⟨_, _, pre13 _ ?_, hrun, hended, _, _, rfl, ?_, ⟨_, rfl⟩, hW, hsame.mono (by decide) (by decide)⟩
          · show Steps _ _ _ (s₁.setTop (mkF m 47 #[.val (.int p1)] [(.int (55296 : Int32)), (.int p1)])) _
            refine XS.icmpYes X0.here hx rfl (pc0 := 47) (pc' := 58) rfl (hb hby own_d2_47) rfl (tlt hc47_14).1 (by decide) (by decide) ?_
            refine XS.iloadN X0.here hx rfl (hb hby own_d2_58) rfl ?_
            refine X0.ldcInt hx hown (mvT hZ (own_w6 hw)) (g := (mkF m 59 #[.val (.int p1)] [(.int p1)])) rfl (hb hby own_d2_59) _ ?_
            refine XS.icmpNo X0.here hx rfl (hb hby own_d2_61) rfl (feq (own_ne_of (b := (65534 : Int32)) (k := 65534) rfl (by have := rng32 p1; omega))).1 ?_
            show Steps _ _ _ (s₁.setTop (mkF m 64 #[.val (.int p1)] [])) _
            refine XS.iloadN X0.here hx rfl (hb hby own_d2_64) rfl ?_
            refine X0.ldcInt hx hown (mvT hZ (own_w7 hw)) (g := (mkF m 65 #[.val (.int p1)] [(.int p1)])) rfl (hb hby own_d2_65) _ ?_
            refine XS.icmpYes X0.here hx rfl (pc0 := 67) (pc' := 74) rfl (hb hby own_d2_67) rfl (feq (own_ne_of (b := (65535 : Int32)) (k := 65535) rfl (by have := rng32 p1; omega))).2 (by decide) (by decide) ?_
            refine XS.iconst X0.here hx rfl (hb hby own_d2_74) ?_
            show Steps _ _ _ (s₁.setTop (mkF m 75 #[.val (.int p1)] [(.int (0 : Int32))])) _
            exact retN X0 hx (t := .boolean) Bd.returns (by simp) (hb hby own_d2_75) hr
          · show Qown_forb Z p1 h0 n0 _ s₁.heap _
            rw [e0]
            exact ⟨congrArg (fun z => some (Value.int z)) (by unfold own_g; exact (if_pos (by omega)).symm), N0, rfl⟩
        · skip
          have ihc47_14 := (mt (own_lt (b := (55296 : Int32)) (k := 55296) rfl).mpr hc47_14)
          have pre15 : ∀ t, Steps p.tables e below (s₁.setTop (mkF m 53 #[.val (.int p1)] [(.int (57343 : Int32)), (.int p1)])) t → Steps p.tables e below (s₁.setTop (entryFrame m #[(.int p1)] 1)) t := fun t kt => pre13 t (by
            show Steps _ _ _ (s₁.setTop (mkF m 47 #[.val (.int p1)] [(.int (55296 : Int32)), (.int p1)])) _
            refine XS.icmpNo X0.here hx rfl (hb hby own_d2_47) rfl (flt hc47_14).1 ?_
            refine XS.iloadN X0.here hx rfl (hb hby own_d2_50) rfl ?_
            refine X0.ldcInt hx hown (mvT hZ (own_w3 hw)) (g := (mkF m 51 #[.val (.int p1)] [(.int p1)])) rfl (hb hby own_d2_51) _ ?_
            exact kt)
          by_cases hc53_16 : (57343 : Int32) < p1
          · skip
            have ihc53_16 := (own_gt (a := (57343 : Int32)) (k := 57343) rfl).mp hc53_16
            have pre17 : ∀ t, Steps p.tables e below (s₁.setTop (mkF m 61 #[.val (.int p1)] [(.int (65534 : Int32)), (.int p1)])) t → Steps p.tables e below (s₁.setTop (entryFrame m #[(.int p1)] 1)) t := fun t kt => pre15 t (by
              show Steps _ _ _ (s₁.setTop (mkF m 53 #[.val (.int p1)] [(.int (57343 : Int32)), (.int p1)])) _
              refine XS.icmpYes X0.here hx rfl (pc0 := 53) (pc' := 58) rfl (hb hby own_d2_53) rfl (tlt hc53_16).2.2.1 (by decide) (by decide) ?_
              refine XS.iloadN X0.here hx rfl (hb hby own_d2_58) rfl ?_
              refine X0.ldcInt hx hown (mvT hZ (own_w6 hw)) (g := (mkF m 59 #[.val (.int p1)] [(.int p1)])) rfl (hb hby own_d2_59) _ ?_
              exact kt)
            by_cases hc61_18 : p1 = (65534 : Int32)
            · skip
              have ihc61_18 := (own_eq (b := (65534 : Int32)) (k := 65534) rfl).mp hc61_18
              obtain ⟨fs, hr, hrun, hended, hW, hsame⟩ := X0.leave (v := some (.int (1 : Int32))) (fun h => by rw [Bd.returns] at h; cases h)
              refine ⟨_, _, pre17 _ ?_, hrun, hended, _, _, rfl, ?_, ⟨_, rfl⟩, hW, hsame.mono (by decide) (by decide)⟩
              · show Steps _ _ _ (s₁.setTop (mkF m 61 #[.val (.int p1)] [(.int (65534 : Int32)), (.int p1)])) _
                refine XS.icmpYes X0.here hx rfl (pc0 := 61) (pc' := 70) rfl (hb hby own_d2_61) rfl (teq hc61_18).1 (by decide) (by decide) ?_
                refine XS.iconst X0.here hx rfl (hb hby own_d2_70) ?_
                refine XS.goto X0.here hx rfl (pc0 := 71) (pc' := 75) rfl (hb hby own_d2_71) (by decide) (by decide) ?_
                show Steps _ _ _ (s₁.setTop (mkF m 75 #[.val (.int p1)] [(.int (1 : Int32))])) _
                exact retN X0 hx (t := .boolean) Bd.returns (by simp) (hb hby own_d2_75) hr
              · show Qown_forb Z p1 h0 n0 _ s₁.heap _
                rw [e0]
                exact ⟨congrArg (fun z => some (Value.int z)) (by unfold own_g; exact (if_neg (by omega)).symm), N0, rfl⟩
            · skip
              have ihc61_18 := (mt (own_eq (b := (65534 : Int32)) (k := 65534) rfl).mpr hc61_18)
              have pre19 : ∀ t, Steps p.tables e below (s₁.setTop (mkF m 67 #[.val (.int p1)] [(.int (65535 : Int32)), (.int p1)])) t → Steps p.tables e below (s₁.setTop (entryFrame m #[(.int p1)] 1)) t := fun t kt => pre17 t (by
                show Steps _ _ _ (s₁.setTop (mkF m 61 #[.val (.int p1)] [(.int (65534 : Int32)), (.int p1)])) _
                refine XS.icmpNo X0.here hx rfl (hb hby own_d2_61) rfl (feq hc61_18).1 ?_
                refine XS.iloadN X0.here hx rfl (hb hby own_d2_64) rfl ?_
                refine X0.ldcInt hx hown (mvT hZ (own_w7 hw)) (g := (mkF m 65 #[.val (.int p1)] [(.int p1)])) rfl (hb hby own_d2_65) _ ?_
                exact kt)
              by_cases hc67_20 : p1 = (65535 : Int32)
              · skip
                have ihc67_20 := (own_eq (b := (65535 : Int32)) (k := 65535) rfl).mp hc67_20
                obtain ⟨fs, hr, hrun, hended, hW, hsame⟩ := X0.leave (v := some (.int (1 : Int32))) (fun h => by rw [Bd.returns] at h; cases h)
                refine ⟨_, _, pre19 _ ?_, hrun, hended, _, _, rfl, ?_, ⟨_, rfl⟩, hW, hsame.mono (by decide) (by decide)⟩
                · show Steps _ _ _ (s₁.setTop (mkF m 67 #[.val (.int p1)] [(.int (65535 : Int32)), (.int p1)])) _
                  refine XS.icmpNo X0.here hx rfl (hb hby own_d2_67) rfl (teq hc67_20).2 ?_
                  refine XS.iconst X0.here hx rfl (hb hby own_d2_70) ?_
                  refine XS.goto X0.here hx rfl (pc0 := 71) (pc' := 75) rfl (hb hby own_d2_71) (by decide) (by decide) ?_
                  show Steps _ _ _ (s₁.setTop (mkF m 75 #[.val (.int p1)] [(.int (1 : Int32))])) _
                  exact retN X0 hx (t := .boolean) Bd.returns (by simp) (hb hby own_d2_75) hr
                · show Qown_forb Z p1 h0 n0 _ s₁.heap _
                  rw [e0]
                  exact ⟨congrArg (fun z => some (Value.int z)) (by unfold own_g; exact (if_neg (by omega)).symm), N0, rfl⟩
              · skip
                have ihc67_20 := (mt (own_eq (b := (65535 : Int32)) (k := 65535) rfl).mpr hc67_20)
                obtain ⟨fs, hr, hrun, hended, hW, hsame⟩ := X0.leave (v := some (.int (0 : Int32))) (fun h => by rw [Bd.returns] at h; cases h)
                refine ⟨_, _, pre19 _ ?_, hrun, hended, _, _, rfl, ?_, ⟨_, rfl⟩, hW, hsame.mono (by decide) (by decide)⟩
                · show Steps _ _ _ (s₁.setTop (mkF m 67 #[.val (.int p1)] [(.int (65535 : Int32)), (.int p1)])) _
                  refine XS.icmpYes X0.here hx rfl (pc0 := 67) (pc' := 74) rfl (hb hby own_d2_67) rfl (feq hc67_20).2 (by decide) (by decide) ?_
                  refine XS.iconst X0.here hx rfl (hb hby own_d2_74) ?_
                  show Steps _ _ _ (s₁.setTop (mkF m 75 #[.val (.int p1)] [(.int (0 : Int32))])) _
                  exact retN X0 hx (t := .boolean) Bd.returns (by simp) (hb hby own_d2_75) hr
                · show Qown_forb Z p1 h0 n0 _ s₁.heap _
                  rw [e0]
                  exact ⟨congrArg (fun z => some (Value.int z)) (by unfold own_g; exact (if_pos (by omega)).symm), N0, rfl⟩
          · skip
            have ihc53_16 := (mt (own_gt (a := (57343 : Int32)) (k := 57343) rfl).mpr hc53_16)
            obtain ⟨fs, hr, hrun, hended, hW, hsame⟩ := X0.leave (v := some (.int (1 : Int32))) (fun h => by rw [Bd.returns] at h; cases h)
            refine ⟨_, _, pre15 _ ?_, hrun, hended, _, _, rfl, ?_, ⟨_, rfl⟩, hW, hsame.mono (by decide) (by decide)⟩
            · show Steps _ _ _ (s₁.setTop (mkF m 53 #[.val (.int p1)] [(.int (57343 : Int32)), (.int p1)])) _
              refine XS.icmpNo X0.here hx rfl (hb hby own_d2_53) rfl (flt hc53_16).2.2.1 ?_
              refine XS.iconst X0.here hx rfl (hb hby own_d2_56) ?_
              show Steps _ _ _ (s₁.setTop (mkF m 57 #[.val (.int p1)] [(.int (1 : Int32))])) _
              exact retN X0 hx (t := .boolean) Bd.returns (by simp) (hb hby own_d2_57) hr
            · show Qown_forb Z p1 h0 n0 _ s₁.heap _
              rw [e0]
              exact ⟨congrArg (fun z => some (Value.int z)) (by unfold own_g; exact (if_neg (by omega)).symm), N0, rfl⟩
def Qown_law (Z : State) (p1 p2 : Int32) (h0 : Heap) (n0 : Nat) (v : Option Value) (h : Heap) (L : List Loc) : Prop := v = some (.int (1 : Int32)) ∧ Fr n0 L
set_option maxRecDepth 65536 in
set_option maxHeartbeats 40000000 in
theorem own_law (l : Launch) (Z : State) (a0 : Array Value) (hw : ∀ d ∈ tables_1, d.before a0 Z = true) (ws : List Jvm.Cond) (p1 p2 : Int32) (h0 : Heap) (n0 : Nat) (Z0 : n0 ≤ h0.size)  :
    MetFree l x (head1 (Jvm.Cond.code x code maxLocals ret :: ws) room_1) (fun a U => a = #[(.int p1), (.int p2)] ∧ Z.Warmed39 U.vm ∧ U.heap = h0) (fun _ _ _ _ _ => True) (fun _ U o U' => ∃ v L, o = .returned v ∧ Qown_law Z p1 p2 h0 n0 v U'.heap L ∧ FrameEnd U o U' L room_1.cells room_1.slots) := by
  refine MetFree.of_bodySF (plainFor_of_name own_pn1) hisR ?_
  intro p e s m args below meth c s₁ Bd hml0 hP hK
  obtain ⟨rfl, hZ, hh⟩ := hP
  have hx := Bd.exec
  have hby := Bd.bytes
  have hml : c.maxLocals = 6 := hml0
  have hown : s.vm.findClass "com/example/fascicle/fascicle/io/XmlNamesIsCharPinLaw" = some m.cls := by have q := findClass_of_methodNamed Bd.named; exact q
  have hnm := (name_of_methodNamed Bd.named Bd.method).1
  have X0 : Stand p l e room_1 s m #[(.int p1), (.int p2)] below meth c s₁ [] 0 0 := Stand.of_body Bd
  have e0 : s₁.heap = h0 := by rw [← hh, Bd.state]; rfl
  have N0 := Fr.nil n0
  have pre0 : ∀ t, Steps p.tables e below (s₁.setTop (mkF m 0 #[.val (.int p1), .val (.int p2), .unset, .unset, .unset, .unset] [])) t → Steps p.tables e below (s₁.setTop (entryFrame m #[(.int p1), (.int p2)] maxLocals)) t := fun t k => castTop (by first | (simp [entryFrame, mkF, argsToLocals, Value.category, maxLocals]; done) | rfl) k
  obtain ⟨T1, h1, k1, X1, e1, E1, A1, st1⟩ := newP (aty := .int) X0 hx hZ (own_w0 hw) e0 (g := (mkF m 2 #[.val (.int p1), .val (.int p2), .unset, .unset, .unset, .unset] [(.int (16 : Int32))])) rfl (hb hby at_2) rfl (by decide) (cap := 16) (by decide) (by decide) (by decide) (by decide)
  obtain ⟨b1, g1⟩ : ∃ z, z = h0.size := ⟨_, rfl⟩
  rw [← g1] at A1 st1
  have g_b1 : n0 ≤ b1 := Nat.le_trans Z0 (Nat.le_of_eq g1.symm)
  have sz_b1 : h0.size ≤ b1 := Nat.le_trans (Keep.refl h0 []).1 (Nat.le_of_eq g1.symm)
  have Z1 : n0 ≤ h1.size := Nat.le_trans Z0 E1.1
  have K1 := (Keep.refl h0 []).ext E1
  have V1 : Arv Z h1 b1 k1 .int (16 : Int32) [(.int (0 : Int32)), (.int (0 : Int32)), (.int (0 : Int32)), (.int (0 : Int32)), (.int (0 : Int32)), (.int (0 : Int32)), (.int (0 : Int32)), (.int (0 : Int32)), (.int (0 : Int32)), (.int (0 : Int32)), (.int (0 : Int32)), (.int (0 : Int32)), (.int (0 : Int32)), (.int (0 : Int32)), (.int (0 : Int32)), (.int (0 : Int32))] (.int (0 : Int32)) := (Arv.new A1 (by decide)).pad (pad_rep [] (.int (0 : Int32)) 16)
  obtain ⟨cl2, Ar2, Aq2, As2, An2, Ah2, Ag2⟩ := V1
  have hin2 : ¬ ((0 : Int32) < 0 ∨ cl2.slots.size ≤ ((0 : Int32)).toNatClampNeg) := inb_of As2 ⟨by decide, by decide⟩
  obtain ⟨T3, h3, X3, e3, W3, st3⟩ := stI X1 hx hZ e1 Ar2 (j := (0 : Int32)) hin2 (g := (mkF m 7 #[.val (.int p1), .val (.int p2), .unset, .unset, .unset, .unset] [(.int (0 : Int32)), (.int (0 : Int32)), (.ref b1), (.ref b1)])) rfl rfl (hb hby at_7)
  have Z3 : n0 ≤ h3.size := Nat.le_trans Z1 (Nat.le_of_eq W3.size.symm)
  have K3 := K1.wr W3 (Or.inr sz_b1)
  have N3 := Fr.snoc X3 N0 g_b1
  have V3 : Arv Z h3 b1 k1 .int (16 : Int32) [(.int (0 : Int32)), (.int (0 : Int32)), (.int (0 : Int32)), (.int (0 : Int32)), (.int (0 : Int32)), (.int (0 : Int32)), (.int (0 : Int32)), (.int (0 : Int32)), (.int (0 : Int32)), (.int (0 : Int32)), (.int (0 : Int32)), (.int (0 : Int32)), (.int (0 : Int32)), (.int (0 : Int32)), (.int (0 : Int32)), (.int (0 : Int32))] (.int (0 : Int32)) := Arv.set Ar2 Aq2 As2 An2 Ah2 Ag2 rfl W3 0 rfl (Nat.le_of_ble_eq_true rfl)
  obtain ⟨cl4, Ar4, Aq4, As4, An4, Ah4, Ag4⟩ := V3
  have hin4 : ¬ ((1 : Int32) < 0 ∨ cl4.slots.size ≤ ((1 : Int32)).toNatClampNeg) := inb_of As4 ⟨by decide, by decide⟩
  obtain ⟨T5, h5, X5, e5, W5, st5⟩ := stI X3 hx hZ e3 Ar4 (j := (1 : Int32)) hin4 (g := (mkF m 12 #[.val (.int p1), .val (.int p2), .unset, .unset, .unset, .unset] [(.int (9 : Int32)), (.int (1 : Int32)), (.ref b1), (.ref b1)])) rfl rfl (hb hby at_12)
  have Z5 : n0 ≤ h5.size := Nat.le_trans Z3 (Nat.le_of_eq W5.size.symm)
  have K5 := K3.wr W5 (Or.inr sz_b1)
  have N5 := Fr.snoc X5 N3 g_b1
  have V5 : Arv Z h5 b1 k1 .int (16 : Int32) [(.int (0 : Int32)), (.int (9 : Int32)), (.int (0 : Int32)), (.int (0 : Int32)), (.int (0 : Int32)), (.int (0 : Int32)), (.int (0 : Int32)), (.int (0 : Int32)), (.int (0 : Int32)), (.int (0 : Int32)), (.int (0 : Int32)), (.int (0 : Int32)), (.int (0 : Int32)), (.int (0 : Int32)), (.int (0 : Int32)), (.int (0 : Int32))] (.int (0 : Int32)) := Arv.set Ar4 Aq4 As4 An4 Ah4 Ag4 rfl W5 1 rfl (Nat.le_of_ble_eq_true rfl)
  obtain ⟨cl6, Ar6, Aq6, As6, An6, Ah6, Ag6⟩ := V5
  have hin6 : ¬ ((2 : Int32) < 0 ∨ cl6.slots.size ≤ ((2 : Int32)).toNatClampNeg) := inb_of As6 ⟨by decide, by decide⟩
  obtain ⟨T7, h7, X7, e7, W7, st7⟩ := stI X5 hx hZ e5 Ar6 (j := (2 : Int32)) hin6 (g := (mkF m 17 #[.val (.int p1), .val (.int p2), .unset, .unset, .unset, .unset] [(.int (10 : Int32)), (.int (2 : Int32)), (.ref b1), (.ref b1)])) rfl rfl (hb hby at_17)
  have Z7 : n0 ≤ h7.size := Nat.le_trans Z5 (Nat.le_of_eq W7.size.symm)
  have K7 := K5.wr W7 (Or.inr sz_b1)
  have N7 := Fr.snoc X7 N5 g_b1
  have V7 : Arv Z h7 b1 k1 .int (16 : Int32) [(.int (0 : Int32)), (.int (9 : Int32)), (.int (10 : Int32)), (.int (0 : Int32)), (.int (0 : Int32)), (.int (0 : Int32)), (.int (0 : Int32)), (.int (0 : Int32)), (.int (0 : Int32)), (.int (0 : Int32)), (.int (0 : Int32)), (.int (0 : Int32)), (.int (0 : Int32)), (.int (0 : Int32)), (.int (0 : Int32)), (.int (0 : Int32))] (.int (0 : Int32)) := Arv.set Ar6 Aq6 As6 An6 Ah6 Ag6 rfl W7 2 rfl (Nat.le_of_ble_eq_true rfl)
  obtain ⟨cl8, Ar8, Aq8, As8, An8, Ah8, Ag8⟩ := V7
  have hin8 : ¬ ((3 : Int32) < 0 ∨ cl8.slots.size ≤ ((3 : Int32)).toNatClampNeg) := inb_of As8 ⟨by decide, by decide⟩
  obtain ⟨T9, h9, X9, e9, W9, st9⟩ := stI X7 hx hZ e7 Ar8 (j := (3 : Int32)) hin8 (g := (mkF m 22 #[.val (.int p1), .val (.int p2), .unset, .unset, .unset, .unset] [(.int (13 : Int32)), (.int (3 : Int32)), (.ref b1), (.ref b1)])) rfl rfl (hb hby at_22)
  have Z9 : n0 ≤ h9.size := Nat.le_trans Z7 (Nat.le_of_eq W9.size.symm)
  have K9 := K7.wr W9 (Or.inr sz_b1)
  have N9 := Fr.snoc X9 N7 g_b1
  have V9 : Arv Z h9 b1 k1 .int (16 : Int32) [(.int (0 : Int32)), (.int (9 : Int32)), (.int (10 : Int32)), (.int (13 : Int32)), (.int (0 : Int32)), (.int (0 : Int32)), (.int (0 : Int32)), (.int (0 : Int32)), (.int (0 : Int32)), (.int (0 : Int32)), (.int (0 : Int32)), (.int (0 : Int32)), (.int (0 : Int32)), (.int (0 : Int32)), (.int (0 : Int32)), (.int (0 : Int32))] (.int (0 : Int32)) := Arv.set Ar8 Aq8 As8 An8 Ah8 Ag8 rfl W9 3 rfl (Nat.le_of_ble_eq_true rfl)
  obtain ⟨cl10, Ar10, Aq10, As10, An10, Ah10, Ag10⟩ := V9
  have hin10 : ¬ ((4 : Int32) < 0 ∨ cl10.slots.size ≤ ((4 : Int32)).toNatClampNeg) := inb_of As10 ⟨by decide, by decide⟩
  obtain ⟨T11, h11, X11, e11, W11, st11⟩ := stI X9 hx hZ e9 Ar10 (j := (4 : Int32)) hin10 (g := (mkF m 27 #[.val (.int p1), .val (.int p2), .unset, .unset, .unset, .unset] [(.int (32 : Int32)), (.int (4 : Int32)), (.ref b1), (.ref b1)])) rfl rfl (hb hby at_27)
  have Z11 : n0 ≤ h11.size := Nat.le_trans Z9 (Nat.le_of_eq W11.size.symm)
  have K11 := K9.wr W11 (Or.inr sz_b1)
  have N11 := Fr.snoc X11 N9 g_b1
  have V11 : Arv Z h11 b1 k1 .int (16 : Int32) [(.int (0 : Int32)), (.int (9 : Int32)), (.int (10 : Int32)), (.int (13 : Int32)), (.int (32 : Int32)), (.int (0 : Int32)), (.int (0 : Int32)), (.int (0 : Int32)), (.int (0 : Int32)), (.int (0 : Int32)), (.int (0 : Int32)), (.int (0 : Int32)), (.int (0 : Int32)), (.int (0 : Int32)), (.int (0 : Int32)), (.int (0 : Int32))] (.int (0 : Int32)) := Arv.set Ar10 Aq10 As10 An10 Ah10 Ag10 rfl W11 4 rfl (Nat.le_of_ble_eq_true rfl)
  obtain ⟨cl12, Ar12, Aq12, As12, An12, Ah12, Ag12⟩ := V11
  have hin12 : ¬ ((5 : Int32) < 0 ∨ cl12.slots.size ≤ ((5 : Int32)).toNatClampNeg) := inb_of As12 ⟨by decide, by decide⟩
  obtain ⟨T13, h13, X13, e13, W13, st13⟩ := stI X11 hx hZ e11 Ar12 (j := (5 : Int32)) hin12 (g := (mkF m 32 #[.val (.int p1), .val (.int p2), .unset, .unset, .unset, .unset] [(.int (55295 : Int32)), (.int (5 : Int32)), (.ref b1), (.ref b1)])) rfl rfl (hb hby at_32)
  have Z13 : n0 ≤ h13.size := Nat.le_trans Z11 (Nat.le_of_eq W13.size.symm)
  have K13 := K11.wr W13 (Or.inr sz_b1)
  have N13 := Fr.snoc X13 N11 g_b1
  have V13 : Arv Z h13 b1 k1 .int (16 : Int32) [(.int (0 : Int32)), (.int (9 : Int32)), (.int (10 : Int32)), (.int (13 : Int32)), (.int (32 : Int32)), (.int (55295 : Int32)), (.int (0 : Int32)), (.int (0 : Int32)), (.int (0 : Int32)), (.int (0 : Int32)), (.int (0 : Int32)), (.int (0 : Int32)), (.int (0 : Int32)), (.int (0 : Int32)), (.int (0 : Int32)), (.int (0 : Int32))] (.int (0 : Int32)) := Arv.set Ar12 Aq12 As12 An12 Ah12 Ag12 rfl W13 5 rfl (Nat.le_of_ble_eq_true rfl)
  obtain ⟨cl14, Ar14, Aq14, As14, An14, Ah14, Ag14⟩ := V13
  have hin14 : ¬ ((6 : Int32) < 0 ∨ cl14.slots.size ≤ ((6 : Int32)).toNatClampNeg) := inb_of As14 ⟨by decide, by decide⟩
  obtain ⟨T15, h15, X15, e15, W15, st15⟩ := stI X13 hx hZ e13 Ar14 (j := (6 : Int32)) hin14 (g := (mkF m 38 #[.val (.int p1), .val (.int p2), .unset, .unset, .unset, .unset] [(.int (55296 : Int32)), (.int (6 : Int32)), (.ref b1), (.ref b1)])) rfl rfl (hb hby at_38)
  have Z15 : n0 ≤ h15.size := Nat.le_trans Z13 (Nat.le_of_eq W15.size.symm)
  have K15 := K13.wr W15 (Or.inr sz_b1)
  have N15 := Fr.snoc X15 N13 g_b1
  have V15 : Arv Z h15 b1 k1 .int (16 : Int32) [(.int (0 : Int32)), (.int (9 : Int32)), (.int (10 : Int32)), (.int (13 : Int32)), (.int (32 : Int32)), (.int (55295 : Int32)), (.int (55296 : Int32)), (.int (0 : Int32)), (.int (0 : Int32)), (.int (0 : Int32)), (.int (0 : Int32)), (.int (0 : Int32)), (.int (0 : Int32)), (.int (0 : Int32)), (.int (0 : Int32)), (.int (0 : Int32))] (.int (0 : Int32)) := Arv.set Ar14 Aq14 As14 An14 Ah14 Ag14 rfl W15 6 rfl (Nat.le_of_ble_eq_true rfl)
  obtain ⟨cl16, Ar16, Aq16, As16, An16, Ah16, Ag16⟩ := V15
  have hin16 : ¬ ((7 : Int32) < 0 ∨ cl16.slots.size ≤ ((7 : Int32)).toNatClampNeg) := inb_of As16 ⟨by decide, by decide⟩
  obtain ⟨T17, h17, X17, e17, W17, st17⟩ := stI X15 hx hZ e15 Ar16 (j := (7 : Int32)) hin16 (g := (mkF m 44 #[.val (.int p1), .val (.int p2), .unset, .unset, .unset, .unset] [(.int (57343 : Int32)), (.int (7 : Int32)), (.ref b1), (.ref b1)])) rfl rfl (hb hby at_44)
  have Z17 : n0 ≤ h17.size := Nat.le_trans Z15 (Nat.le_of_eq W17.size.symm)
  have K17 := K15.wr W17 (Or.inr sz_b1)
  have N17 := Fr.snoc X17 N15 g_b1
  have V17 : Arv Z h17 b1 k1 .int (16 : Int32) [(.int (0 : Int32)), (.int (9 : Int32)), (.int (10 : Int32)), (.int (13 : Int32)), (.int (32 : Int32)), (.int (55295 : Int32)), (.int (55296 : Int32)), (.int (57343 : Int32)), (.int (0 : Int32)), (.int (0 : Int32)), (.int (0 : Int32)), (.int (0 : Int32)), (.int (0 : Int32)), (.int (0 : Int32)), (.int (0 : Int32)), (.int (0 : Int32))] (.int (0 : Int32)) := Arv.set Ar16 Aq16 As16 An16 Ah16 Ag16 rfl W17 7 rfl (Nat.le_of_ble_eq_true rfl)
  obtain ⟨cl18, Ar18, Aq18, As18, An18, Ah18, Ag18⟩ := V17
  have hin18 : ¬ ((8 : Int32) < 0 ∨ cl18.slots.size ≤ ((8 : Int32)).toNatClampNeg) := inb_of As18 ⟨by decide, by decide⟩
  obtain ⟨T19, h19, X19, e19, W19, st19⟩ := stI X17 hx hZ e17 Ar18 (j := (8 : Int32)) hin18 (g := (mkF m 50 #[.val (.int p1), .val (.int p2), .unset, .unset, .unset, .unset] [(.int (57344 : Int32)), (.int (8 : Int32)), (.ref b1), (.ref b1)])) rfl rfl (hb hby at_50)
  have Z19 : n0 ≤ h19.size := Nat.le_trans Z17 (Nat.le_of_eq W19.size.symm)
  have K19 := K17.wr W19 (Or.inr sz_b1)
  have N19 := Fr.snoc X19 N17 g_b1
  have V19 : Arv Z h19 b1 k1 .int (16 : Int32) [(.int (0 : Int32)), (.int (9 : Int32)), (.int (10 : Int32)), (.int (13 : Int32)), (.int (32 : Int32)), (.int (55295 : Int32)), (.int (55296 : Int32)), (.int (57343 : Int32)), (.int (57344 : Int32)), (.int (0 : Int32)), (.int (0 : Int32)), (.int (0 : Int32)), (.int (0 : Int32)), (.int (0 : Int32)), (.int (0 : Int32)), (.int (0 : Int32))] (.int (0 : Int32)) := Arv.set Ar18 Aq18 As18 An18 Ah18 Ag18 rfl W19 8 rfl (Nat.le_of_ble_eq_true rfl)
  obtain ⟨cl20, Ar20, Aq20, As20, An20, Ah20, Ag20⟩ := V19
  have hin20 : ¬ ((9 : Int32) < 0 ∨ cl20.slots.size ≤ ((9 : Int32)).toNatClampNeg) := inb_of As20 ⟨by decide, by decide⟩
  obtain ⟨T21, h21, X21, e21, W21, st21⟩ := stI X19 hx hZ e19 Ar20 (j := (9 : Int32)) hin20 (g := (mkF m 56 #[.val (.int p1), .val (.int p2), .unset, .unset, .unset, .unset] [(.int (65533 : Int32)), (.int (9 : Int32)), (.ref b1), (.ref b1)])) rfl rfl (hb hby at_56)
  have Z21 : n0 ≤ h21.size := Nat.le_trans Z19 (Nat.le_of_eq W21.size.symm)
  have K21 := K19.wr W21 (Or.inr sz_b1)
  have N21 := Fr.snoc X21 N19 g_b1
  have V21 : Arv Z h21 b1 k1 .int (16 : Int32) [(.int (0 : Int32)), (.int (9 : Int32)), (.int (10 : Int32)), (.int (13 : Int32)), (.int (32 : Int32)), (.int (55295 : Int32)), (.int (55296 : Int32)), (.int (57343 : Int32)), (.int (57344 : Int32)), (.int (65533 : Int32)), (.int (0 : Int32)), (.int (0 : Int32)), (.int (0 : Int32)), (.int (0 : Int32)), (.int (0 : Int32)), (.int (0 : Int32))] (.int (0 : Int32)) := Arv.set Ar20 Aq20 As20 An20 Ah20 Ag20 rfl W21 9 rfl (Nat.le_of_ble_eq_true rfl)
  obtain ⟨cl22, Ar22, Aq22, As22, An22, Ah22, Ag22⟩ := V21
  have hin22 : ¬ ((10 : Int32) < 0 ∨ cl22.slots.size ≤ ((10 : Int32)).toNatClampNeg) := inb_of As22 ⟨by decide, by decide⟩
  obtain ⟨T23, h23, X23, e23, W23, st23⟩ := stI X21 hx hZ e21 Ar22 (j := (10 : Int32)) hin22 (g := (mkF m 62 #[.val (.int p1), .val (.int p2), .unset, .unset, .unset, .unset] [(.int (65534 : Int32)), (.int (10 : Int32)), (.ref b1), (.ref b1)])) rfl rfl (hb hby at_62)
  have Z23 : n0 ≤ h23.size := Nat.le_trans Z21 (Nat.le_of_eq W23.size.symm)
  have K23 := K21.wr W23 (Or.inr sz_b1)
  have N23 := Fr.snoc X23 N21 g_b1
  have V23 : Arv Z h23 b1 k1 .int (16 : Int32) [(.int (0 : Int32)), (.int (9 : Int32)), (.int (10 : Int32)), (.int (13 : Int32)), (.int (32 : Int32)), (.int (55295 : Int32)), (.int (55296 : Int32)), (.int (57343 : Int32)), (.int (57344 : Int32)), (.int (65533 : Int32)), (.int (65534 : Int32)), (.int (0 : Int32)), (.int (0 : Int32)), (.int (0 : Int32)), (.int (0 : Int32)), (.int (0 : Int32))] (.int (0 : Int32)) := Arv.set Ar22 Aq22 As22 An22 Ah22 Ag22 rfl W23 10 rfl (Nat.le_of_ble_eq_true rfl)
  obtain ⟨cl24, Ar24, Aq24, As24, An24, Ah24, Ag24⟩ := V23
  have hin24 : ¬ ((11 : Int32) < 0 ∨ cl24.slots.size ≤ ((11 : Int32)).toNatClampNeg) := inb_of As24 ⟨by decide, by decide⟩
  obtain ⟨T25, h25, X25, e25, W25, st25⟩ := stI X23 hx hZ e23 Ar24 (j := (11 : Int32)) hin24 (g := (mkF m 68 #[.val (.int p1), .val (.int p2), .unset, .unset, .unset, .unset] [(.int (65535 : Int32)), (.int (11 : Int32)), (.ref b1), (.ref b1)])) rfl rfl (hb hby at_68)
  have Z25 : n0 ≤ h25.size := Nat.le_trans Z23 (Nat.le_of_eq W25.size.symm)
  have K25 := K23.wr W25 (Or.inr sz_b1)
  have N25 := Fr.snoc X25 N23 g_b1
  have V25 : Arv Z h25 b1 k1 .int (16 : Int32) [(.int (0 : Int32)), (.int (9 : Int32)), (.int (10 : Int32)), (.int (13 : Int32)), (.int (32 : Int32)), (.int (55295 : Int32)), (.int (55296 : Int32)), (.int (57343 : Int32)), (.int (57344 : Int32)), (.int (65533 : Int32)), (.int (65534 : Int32)), (.int (65535 : Int32)), (.int (0 : Int32)), (.int (0 : Int32)), (.int (0 : Int32)), (.int (0 : Int32))] (.int (0 : Int32)) := Arv.set Ar24 Aq24 As24 An24 Ah24 Ag24 rfl W25 11 rfl (Nat.le_of_ble_eq_true rfl)
  obtain ⟨cl26, Ar26, Aq26, As26, An26, Ah26, Ag26⟩ := V25
  have hin26 : ¬ ((12 : Int32) < 0 ∨ cl26.slots.size ≤ ((12 : Int32)).toNatClampNeg) := inb_of As26 ⟨by decide, by decide⟩
  obtain ⟨T27, h27, X27, e27, W27, st27⟩ := stI X25 hx hZ e25 Ar26 (j := (12 : Int32)) hin26 (g := (mkF m 74 #[.val (.int p1), .val (.int p2), .unset, .unset, .unset, .unset] [(.int (65536 : Int32)), (.int (12 : Int32)), (.ref b1), (.ref b1)])) rfl rfl (hb hby at_74)
  have Z27 : n0 ≤ h27.size := Nat.le_trans Z25 (Nat.le_of_eq W27.size.symm)
  have K27 := K25.wr W27 (Or.inr sz_b1)
  have N27 := Fr.snoc X27 N25 g_b1
  have V27 : Arv Z h27 b1 k1 .int (16 : Int32) [(.int (0 : Int32)), (.int (9 : Int32)), (.int (10 : Int32)), (.int (13 : Int32)), (.int (32 : Int32)), (.int (55295 : Int32)), (.int (55296 : Int32)), (.int (57343 : Int32)), (.int (57344 : Int32)), (.int (65533 : Int32)), (.int (65534 : Int32)), (.int (65535 : Int32)), (.int (65536 : Int32)), (.int (0 : Int32)), (.int (0 : Int32)), (.int (0 : Int32))] (.int (0 : Int32)) := Arv.set Ar26 Aq26 As26 An26 Ah26 Ag26 rfl W27 12 rfl (Nat.le_of_ble_eq_true rfl)
  obtain ⟨cl28, Ar28, Aq28, As28, An28, Ah28, Ag28⟩ := V27
  have hin28 : ¬ ((13 : Int32) < 0 ∨ cl28.slots.size ≤ ((13 : Int32)).toNatClampNeg) := inb_of As28 ⟨by decide, by decide⟩
  obtain ⟨T29, h29, X29, e29, W29, st29⟩ := stI X27 hx hZ e27 Ar28 (j := (13 : Int32)) hin28 (g := (mkF m 80 #[.val (.int p1), .val (.int p2), .unset, .unset, .unset, .unset] [(.int (1114111 : Int32)), (.int (13 : Int32)), (.ref b1), (.ref b1)])) rfl rfl (hb hby at_80)
  have Z29 : n0 ≤ h29.size := Nat.le_trans Z27 (Nat.le_of_eq W29.size.symm)
  have K29 := K27.wr W29 (Or.inr sz_b1)
  have N29 := Fr.snoc X29 N27 g_b1
  have V29 : Arv Z h29 b1 k1 .int (16 : Int32) [(.int (0 : Int32)), (.int (9 : Int32)), (.int (10 : Int32)), (.int (13 : Int32)), (.int (32 : Int32)), (.int (55295 : Int32)), (.int (55296 : Int32)), (.int (57343 : Int32)), (.int (57344 : Int32)), (.int (65533 : Int32)), (.int (65534 : Int32)), (.int (65535 : Int32)), (.int (65536 : Int32)), (.int (1114111 : Int32)), (.int (0 : Int32)), (.int (0 : Int32))] (.int (0 : Int32)) := Arv.set Ar28 Aq28 As28 An28 Ah28 Ag28 rfl W29 13 rfl (Nat.le_of_ble_eq_true rfl)
  obtain ⟨cl30, Ar30, Aq30, As30, An30, Ah30, Ag30⟩ := V29
  have hin30 : ¬ ((14 : Int32) < 0 ∨ cl30.slots.size ≤ ((14 : Int32)).toNatClampNeg) := inb_of As30 ⟨by decide, by decide⟩
  obtain ⟨T31, h31, X31, e31, W31, st31⟩ := stI X29 hx hZ e29 Ar30 (j := (14 : Int32)) hin30 (g := (mkF m 86 #[.val (.int p1), .val (.int p2), .unset, .unset, .unset, .unset] [(.int (-2147483648 : Int32)), (.int (14 : Int32)), (.ref b1), (.ref b1)])) rfl rfl (hb hby at_86)
  have Z31 : n0 ≤ h31.size := Nat.le_trans Z29 (Nat.le_of_eq W31.size.symm)
  have K31 := K29.wr W31 (Or.inr sz_b1)
  have N31 := Fr.snoc X31 N29 g_b1
  have V31 : Arv Z h31 b1 k1 .int (16 : Int32) [(.int (0 : Int32)), (.int (9 : Int32)), (.int (10 : Int32)), (.int (13 : Int32)), (.int (32 : Int32)), (.int (55295 : Int32)), (.int (55296 : Int32)), (.int (57343 : Int32)), (.int (57344 : Int32)), (.int (65533 : Int32)), (.int (65534 : Int32)), (.int (65535 : Int32)), (.int (65536 : Int32)), (.int (1114111 : Int32)), (.int (-2147483648 : Int32)), (.int (0 : Int32))] (.int (0 : Int32)) := Arv.set Ar30 Aq30 As30 An30 Ah30 Ag30 rfl W31 14 rfl (Nat.le_of_ble_eq_true rfl)
  obtain ⟨cl32, Ar32, Aq32, As32, An32, Ah32, Ag32⟩ := V31
  have hin32 : ¬ ((15 : Int32) < 0 ∨ cl32.slots.size ≤ ((15 : Int32)).toNatClampNeg) := inb_of As32 ⟨by decide, by decide⟩
  obtain ⟨T33, h33, X33, e33, W33, st33⟩ := stI X31 hx hZ e31 Ar32 (j := (15 : Int32)) hin32 (g := (mkF m 92 #[.val (.int p1), .val (.int p2), .unset, .unset, .unset, .unset] [(.int (2147483647 : Int32)), (.int (15 : Int32)), (.ref b1), (.ref b1)])) rfl rfl (hb hby at_92)
  have Z33 : n0 ≤ h33.size := Nat.le_trans Z31 (Nat.le_of_eq W33.size.symm)
  have K33 := K31.wr W33 (Or.inr sz_b1)
  have N33 := Fr.snoc X33 N31 g_b1
  have V33 : Arv Z h33 b1 k1 .int (16 : Int32) [(.int (0 : Int32)), (.int (9 : Int32)), (.int (10 : Int32)), (.int (13 : Int32)), (.int (32 : Int32)), (.int (55295 : Int32)), (.int (55296 : Int32)), (.int (57343 : Int32)), (.int (57344 : Int32)), (.int (65533 : Int32)), (.int (65534 : Int32)), (.int (65535 : Int32)), (.int (65536 : Int32)), (.int (1114111 : Int32)), (.int (-2147483648 : Int32)), (.int (2147483647 : Int32))] (.int (0 : Int32)) := Arv.set Ar32 Aq32 As32 An32 Ah32 Ag32 rfl W33 15 rfl (Nat.le_of_ble_eq_true rfl)
  have pre34 : ∀ t, Steps p.tables e below (T33.setTop (mkF m 97 #[.val (.int p1), .val (.int p2), .val (.ref b1), .unset, .unset, .unset] [(.int (p2 &&& (1 : Int32)))])) t → Steps p.tables e below (s₁.setTop (entryFrame m #[(.int p1), (.int p2)] maxLocals)) t := fun t kt => pre0 t (by
    show Steps _ _ _ (s₁.setTop (mkF m 0 #[.val (.int p1), .val (.int p2), .unset, .unset, .unset, .unset] [])) _
    refine XS.bipush X0.here hx rfl (hb hby at_0) ?_
    refine st1 _ ?_
    refine XS.dup X1.here hx rfl (hb hby at_4) rfl rfl ?_
    refine XS.iconst X1.here hx rfl (hb hby at_5) ?_
    show Steps _ _ _ (T1.setTop (mkF m 6 #[.val (.int p1), .val (.int p2), .unset, .unset, .unset, .unset] [(.int (0 : Int32)), (.ref b1), (.ref b1)])) _
    refine XS.iconst X1.here hx rfl (hb hby at_6) ?_
    refine st3 _ ?_
    refine XS.dup X3.here hx rfl (hb hby at_8) rfl rfl ?_
    refine XS.iconst X3.here hx rfl (hb hby at_9) ?_
    show Steps _ _ _ (T3.setTop (mkF m 10 #[.val (.int p1), .val (.int p2), .unset, .unset, .unset, .unset] [(.int (1 : Int32)), (.ref b1), (.ref b1)])) _
    refine XS.bipush X3.here hx rfl (hb hby at_10) ?_
    refine st5 _ ?_
    refine XS.dup X5.here hx rfl (hb hby at_13) rfl rfl ?_
    refine XS.iconst X5.here hx rfl (hb hby at_14) ?_
    show Steps _ _ _ (T5.setTop (mkF m 15 #[.val (.int p1), .val (.int p2), .unset, .unset, .unset, .unset] [(.int (2 : Int32)), (.ref b1), (.ref b1)])) _
    refine XS.bipush X5.here hx rfl (hb hby at_15) ?_
    refine st7 _ ?_
    refine XS.dup X7.here hx rfl (hb hby at_18) rfl rfl ?_
    refine XS.iconst X7.here hx rfl (hb hby at_19) ?_
    show Steps _ _ _ (T7.setTop (mkF m 20 #[.val (.int p1), .val (.int p2), .unset, .unset, .unset, .unset] [(.int (3 : Int32)), (.ref b1), (.ref b1)])) _
    refine XS.bipush X7.here hx rfl (hb hby at_20) ?_
    refine st9 _ ?_
    refine XS.dup X9.here hx rfl (hb hby at_23) rfl rfl ?_
    refine XS.iconst X9.here hx rfl (hb hby at_24) ?_
    show Steps _ _ _ (T9.setTop (mkF m 25 #[.val (.int p1), .val (.int p2), .unset, .unset, .unset, .unset] [(.int (4 : Int32)), (.ref b1), (.ref b1)])) _
    refine XS.bipush X9.here hx rfl (hb hby at_25) ?_
    refine st11 _ ?_
    refine XS.dup X11.here hx rfl (hb hby at_28) rfl rfl ?_
    refine XS.iconst X11.here hx rfl (hb hby at_29) ?_
    show Steps _ _ _ (T11.setTop (mkF m 30 #[.val (.int p1), .val (.int p2), .unset, .unset, .unset, .unset] [(.int (5 : Int32)), (.ref b1), (.ref b1)])) _
    refine X11.ldcInt hx hown (mvT hZ (own_w1 hw)) (g := (mkF m 30 #[.val (.int p1), .val (.int p2), .unset, .unset, .unset, .unset] [(.int (5 : Int32)), (.ref b1), (.ref b1)])) rfl (hb hby at_30) _ ?_
    refine st13 _ ?_
    refine XS.dup X13.here hx rfl (hb hby at_33) rfl rfl ?_
    refine XS.bipush X13.here hx rfl (hb hby at_34) ?_
    show Steps _ _ _ (T13.setTop (mkF m 36 #[.val (.int p1), .val (.int p2), .unset, .unset, .unset, .unset] [(.int (6 : Int32)), (.ref b1), (.ref b1)])) _
    refine X13.ldcInt hx hown (mvT hZ (own_w2 hw)) (g := (mkF m 36 #[.val (.int p1), .val (.int p2), .unset, .unset, .unset, .unset] [(.int (6 : Int32)), (.ref b1), (.ref b1)])) rfl (hb hby at_36) _ ?_
    refine st15 _ ?_
    refine XS.dup X15.here hx rfl (hb hby at_39) rfl rfl ?_
    refine XS.bipush X15.here hx rfl (hb hby at_40) ?_
    show Steps _ _ _ (T15.setTop (mkF m 42 #[.val (.int p1), .val (.int p2), .unset, .unset, .unset, .unset] [(.int (7 : Int32)), (.ref b1), (.ref b1)])) _
    refine X15.ldcInt hx hown (mvT hZ (own_w3 hw)) (g := (mkF m 42 #[.val (.int p1), .val (.int p2), .unset, .unset, .unset, .unset] [(.int (7 : Int32)), (.ref b1), (.ref b1)])) rfl (hb hby at_42) _ ?_
    refine st17 _ ?_
    refine XS.dup X17.here hx rfl (hb hby at_45) rfl rfl ?_
    refine XS.bipush X17.here hx rfl (hb hby at_46) ?_
    show Steps _ _ _ (T17.setTop (mkF m 48 #[.val (.int p1), .val (.int p2), .unset, .unset, .unset, .unset] [(.int (8 : Int32)), (.ref b1), (.ref b1)])) _
    refine X17.ldcInt hx hown (mvT hZ (own_w4 hw)) (g := (mkF m 48 #[.val (.int p1), .val (.int p2), .unset, .unset, .unset, .unset] [(.int (8 : Int32)), (.ref b1), (.ref b1)])) rfl (hb hby at_48) _ ?_
    refine st19 _ ?_
    refine XS.dup X19.here hx rfl (hb hby at_51) rfl rfl ?_
    refine XS.bipush X19.here hx rfl (hb hby at_52) ?_
    show Steps _ _ _ (T19.setTop (mkF m 54 #[.val (.int p1), .val (.int p2), .unset, .unset, .unset, .unset] [(.int (9 : Int32)), (.ref b1), (.ref b1)])) _
    refine X19.ldcInt hx hown (mvT hZ (own_w5 hw)) (g := (mkF m 54 #[.val (.int p1), .val (.int p2), .unset, .unset, .unset, .unset] [(.int (9 : Int32)), (.ref b1), (.ref b1)])) rfl (hb hby at_54) _ ?_
    refine st21 _ ?_
    refine XS.dup X21.here hx rfl (hb hby at_57) rfl rfl ?_
    refine XS.bipush X21.here hx rfl (hb hby at_58) ?_
    show Steps _ _ _ (T21.setTop (mkF m 60 #[.val (.int p1), .val (.int p2), .unset, .unset, .unset, .unset] [(.int (10 : Int32)), (.ref b1), (.ref b1)])) _
    refine X21.ldcInt hx hown (mvT hZ (own_w6 hw)) (g := (mkF m 60 #[.val (.int p1), .val (.int p2), .unset, .unset, .unset, .unset] [(.int (10 : Int32)), (.ref b1), (.ref b1)])) rfl (hb hby at_60) _ ?_
    refine st23 _ ?_
    refine XS.dup X23.here hx rfl (hb hby at_63) rfl rfl ?_
    refine XS.bipush X23.here hx rfl (hb hby at_64) ?_
    show Steps _ _ _ (T23.setTop (mkF m 66 #[.val (.int p1), .val (.int p2), .unset, .unset, .unset, .unset] [(.int (11 : Int32)), (.ref b1), (.ref b1)])) _
    refine X23.ldcInt hx hown (mvT hZ (own_w7 hw)) (g := (mkF m 66 #[.val (.int p1), .val (.int p2), .unset, .unset, .unset, .unset] [(.int (11 : Int32)), (.ref b1), (.ref b1)])) rfl (hb hby at_66) _ ?_
    refine st25 _ ?_
    refine XS.dup X25.here hx rfl (hb hby at_69) rfl rfl ?_
    refine XS.bipush X25.here hx rfl (hb hby at_70) ?_
    show Steps _ _ _ (T25.setTop (mkF m 72 #[.val (.int p1), .val (.int p2), .unset, .unset, .unset, .unset] [(.int (12 : Int32)), (.ref b1), (.ref b1)])) _
    refine X25.ldcInt hx hown (mvT hZ (own_w8 hw)) (g := (mkF m 72 #[.val (.int p1), .val (.int p2), .unset, .unset, .unset, .unset] [(.int (12 : Int32)), (.ref b1), (.ref b1)])) rfl (hb hby at_72) _ ?_
    refine st27 _ ?_
    refine XS.dup X27.here hx rfl (hb hby at_75) rfl rfl ?_
    refine XS.bipush X27.here hx rfl (hb hby at_76) ?_
    show Steps _ _ _ (T27.setTop (mkF m 78 #[.val (.int p1), .val (.int p2), .unset, .unset, .unset, .unset] [(.int (13 : Int32)), (.ref b1), (.ref b1)])) _
    refine X27.ldcInt hx hown (mvT hZ (own_w9 hw)) (g := (mkF m 78 #[.val (.int p1), .val (.int p2), .unset, .unset, .unset, .unset] [(.int (13 : Int32)), (.ref b1), (.ref b1)])) rfl (hb hby at_78) _ ?_
    refine st29 _ ?_
    refine XS.dup X29.here hx rfl (hb hby at_81) rfl rfl ?_
    refine XS.bipush X29.here hx rfl (hb hby at_82) ?_
    show Steps _ _ _ (T29.setTop (mkF m 84 #[.val (.int p1), .val (.int p2), .unset, .unset, .unset, .unset] [(.int (14 : Int32)), (.ref b1), (.ref b1)])) _
    refine X29.ldcInt hx hown (mvT hZ (own_w10 hw)) (g := (mkF m 84 #[.val (.int p1), .val (.int p2), .unset, .unset, .unset, .unset] [(.int (14 : Int32)), (.ref b1), (.ref b1)])) rfl (hb hby at_84) _ ?_
    refine st31 _ ?_
    refine XS.dup X31.here hx rfl (hb hby at_87) rfl rfl ?_
    refine XS.bipush X31.here hx rfl (hb hby at_88) ?_
    show Steps _ _ _ (T31.setTop (mkF m 90 #[.val (.int p1), .val (.int p2), .unset, .unset, .unset, .unset] [(.int (15 : Int32)), (.ref b1), (.ref b1)])) _
    refine X31.ldcInt hx hown (mvT hZ (own_w11 hw)) (g := (mkF m 90 #[.val (.int p1), .val (.int p2), .unset, .unset, .unset, .unset] [(.int (15 : Int32)), (.ref b1), (.ref b1)])) rfl (hb hby at_90) _ ?_
    refine st33 _ ?_
    refine XS.astoreN X33.here hx rfl (hb hby at_93) rfl rfl (l' := #[.val (.int p1), .val (.int p2), .val (.ref b1), .unset, .unset, .unset]) rfl ?_
    refine XS.iloadN X33.here hx rfl (hb hby at_94) rfl ?_
    show Steps _ _ _ (T33.setTop (mkF m 95 #[.val (.int p1), .val (.int p2), .val (.ref b1), .unset, .unset, .unset] [(.int p2)])) _
    refine XS.iconst X33.here hx rfl (hb hby at_95) ?_
    refine XS.iand X33.here hx rfl (hb hby at_96) rfl ?_
    exact kt)
  by_cases hc97_35 : (p2 &&& (1 : Int32)) = (0 : Int32)
  · skip
    have ihc97_35 := (own_eq (b := (0 : Int32)) (k := 0) rfl).mp hc97_35
    obtain ⟨_, _, ⟨T36, L36, k36, n36⟩, -, X36, ⟨Lc36, hQ36, l36, y36, z36⟩, st36⟩ := Jvm.LawKit.callS X33 hx (y := own_m0) hown (mvT hZ (own_w12 hw)) (mvT hZ (own_w13 hw)) (mvT hZ (own_w14 hw)) (mvT hZ (own_w15 hw)) (by decide) (backOf (W := 0) (own_isc l Z a0 hw [] p1 h33 n0 Z33) hZ (own_w15 hw) (own_w14 hw) (by decide) (by decide)) (g := (mkF m 131 #[.val (.int p1), .val (.int p2), .val (.ref b1), .val (.int p1), .unset, .unset] [(.int p1)])) rfl (by rw [hml]; rfl) (argsL := [(.int p1)]) (rest := []) (lenOf own_pd0 rfl) rfl (by show 2 * 0 + _ ≤ _; exact Nat.le_of_eq rfl) (hb hby at_131) (fun _ _ => ⟨rfl, e33, (by decide : 1 + 0 ≤ _), (by decide : 16 + 0 ≤ _)⟩)
    dsimp only [Pt.U, Pt.locs, Pt.cells, Pt.slots] at X36 l36 y36 z36 st36 hQ36
    subst l36 y36 z36
    obtain ⟨rfl, N36q, e36⟩ := hQ36
    have N36 := Fr.app N33 N36q
    obtain ⟨_, _, ⟨T37, L37, k37, n37⟩, -, X37, ⟨Lc37, hQ37, l37, y37, z37⟩, st37⟩ := Jvm.LawKit.callS X36 hx (y := own_m1) hown (mvT hZ (own_w18 hw)) (mvT hZ (own_w19 hw)) (mvT hZ (own_w20 hw)) (mvT hZ (own_w21 hw)) (by decide) (backOf (W := 1) (own_forb l Z a0 hw [] p1 h33 n0 Z33) hZ (own_w21 hw) (own_w20 hw) (by decide) (by decide)) (g := (mkF m 135 #[.val (.int p1), .val (.int p2), .val (.ref b1), .val (.int p1), .unset, .unset] [(.int p1), (.int (own_f p1))])) rfl (by rw [hml]; rfl) (argsL := [(.int p1)]) (rest := [(.int (own_f p1))]) (lenOf own_pd0 rfl) rfl (by show 2 * 0 + _ ≤ _; exact Nat.le_of_eq rfl) (hb hby at_135) (fun _ _ => ⟨rfl, e36, (by decide : 1 + 0 ≤ _), (by decide : 16 + 0 ≤ _)⟩)
    dsimp only [Pt.U, Pt.locs, Pt.cells, Pt.slots] at X37 l37 y37 z37 st37 hQ37
    subst l37 y37 z37
    obtain ⟨rfl, N37q, e37⟩ := hQ37
    have N37 := Fr.app N36 N37q
    have pre38 : ∀ t, Steps p.tables e below (T37.setTop (mkF m 138 #[.val (.int p1), .val (.int p2), .val (.ref b1), .val (.int p1), .unset, .unset] [(.int (own_g p1)), (.int (own_f p1))])) t → Steps p.tables e below (s₁.setTop (entryFrame m #[(.int p1), (.int p2)] maxLocals)) t := fun t kt => pre34 t (by
      show Steps _ _ _ (T33.setTop (mkF m 97 #[.val (.int p1), .val (.int p2), .val (.ref b1), .unset, .unset, .unset] [(.int (p2 &&& (1 : Int32)))])) _
      refine XS.ifNo X33.here hx rfl (hb hby at_97) rfl ((if0 _ _).trans (teq hc97_35).2) ?_
      refine XS.iloadN X33.here hx rfl (hb hby at_100) rfl ?_
      refine XS.istoreN X33.here hx rfl (hb hby at_101) rfl (l' := #[.val (.int p1), .val (.int p2), .val (.ref b1), .val (.int p1), .unset, .unset]) rfl ?_
      refine XS.goto X33.here hx rfl (pc0 := 102) (pc' := 130) rfl (hb hby at_102) (by decide) (by decide) ?_
      show Steps _ _ _ (T33.setTop (mkF m 130 #[.val (.int p1), .val (.int p2), .val (.ref b1), .val (.int p1), .unset, .unset] [])) _
      refine XS.iloadN X33.here hx rfl (hb hby at_130) rfl ?_
      refine st36 _ ?_
      refine XS.iloadN X36.here hx rfl (hb hby at_134) rfl ?_
      refine st37 _ ?_
      exact kt)
    by_cases hc138_39 : (own_g p1) = (0 : Int32)
    · skip
      have ihc138_39 := (own_eq (b := (0 : Int32)) (k := 0) rfl).mp hc138_39
      obtain ⟨fs, hr, hrun, hended, hW, hsame⟩ := X37.leave (v := some (.int (1 : Int32))) (fun h => by rw [Bd.returns] at h; cases h)
      refine ⟨_, _, pre38 _ ?_, hrun, hended, _, _, rfl, ?_, ⟨_, rfl⟩, hW, hsame.mono (by decide) (by decide)⟩
      · show Steps _ _ _ (T37.setTop (mkF m 138 #[.val (.int p1), .val (.int p2), .val (.ref b1), .val (.int p1), .unset, .unset] [(.int (own_g p1)), (.int (own_f p1))])) _
        refine XS.ifNo X37.here hx rfl (hb hby at_138) rfl ((if0 _ _).trans (teq hc138_39).2) ?_
        refine XS.iconst X37.here hx rfl (hb hby at_141) ?_
        refine XS.goto X37.here hx rfl (pc0 := 142) (pc' := 146) rfl (hb hby at_142) (by decide) (by decide) ?_
        refine XS.icmpNo X37.here hx rfl (hb hby at_146) rfl (teq (own_fg1 hc138_39)).2 ?_
        show Steps _ _ _ (T37.setTop (mkF m 149 #[.val (.int p1), .val (.int p2), .val (.ref b1), .val (.int p1), .unset, .unset] [])) _
        refine XS.iconst X37.here hx rfl (hb hby at_149) ?_
        refine XS.goto X37.here hx rfl (pc0 := 150) (pc' := 154) rfl (hb hby at_150) (by decide) (by decide) ?_
        show Steps _ _ _ (T37.setTop (mkF m 154 #[.val (.int p1), .val (.int p2), .val (.ref b1), .val (.int p1), .unset, .unset] [(.int (1 : Int32))])) _
        exact retN X37 hx (t := .boolean) Bd.returns (by simp) (hb hby at_154) hr
      · show Qown_law Z p1 p2 h0 n0 _ T37.heap _
        rw [e37]
        exact ⟨rfl, N37⟩
    · skip
      have ihc138_39 := (mt (own_eq (b := (0 : Int32)) (k := 0) rfl).mpr hc138_39)
      obtain ⟨fs, hr, hrun, hended, hW, hsame⟩ := X37.leave (v := some (.int (1 : Int32))) (fun h => by rw [Bd.returns] at h; cases h)
      refine ⟨_, _, pre38 _ ?_, hrun, hended, _, _, rfl, ?_, ⟨_, rfl⟩, hW, hsame.mono (by decide) (by decide)⟩
      · show Steps _ _ _ (T37.setTop (mkF m 138 #[.val (.int p1), .val (.int p2), .val (.ref b1), .val (.int p1), .unset, .unset] [(.int (own_g p1)), (.int (own_f p1))])) _
        refine XS.ifYes X37.here hx rfl (pc0 := 138) (pc' := 145) rfl (hb hby at_138) rfl ((if0 _ _).trans (feq hc138_39).2) (by decide) (by decide) ?_
        refine XS.iconst X37.here hx rfl (hb hby at_145) ?_
        refine XS.icmpNo X37.here hx rfl (hb hby at_146) rfl (teq (own_fg0 hc138_39)).2 ?_
        refine XS.iconst X37.here hx rfl (hb hby at_149) ?_
        show Steps _ _ _ (T37.setTop (mkF m 150 #[.val (.int p1), .val (.int p2), .val (.ref b1), .val (.int p1), .unset, .unset] [(.int (1 : Int32))])) _
        refine XS.goto X37.here hx rfl (pc0 := 150) (pc' := 154) rfl (hb hby at_150) (by decide) (by decide) ?_
        show Steps _ _ _ (T37.setTop (mkF m 154 #[.val (.int p1), .val (.int p2), .val (.ref b1), .val (.int p1), .unset, .unset] [(.int (1 : Int32))])) _
        exact retN X37 hx (t := .boolean) Bd.returns (by simp) (hb hby at_154) hr
      · show Qown_law Z p1 p2 h0 n0 _ T37.heap _
        rw [e37]
        exact ⟨rfl, N37⟩
  · skip
    have ihc97_35 := (mt (own_eq (b := (0 : Int32)) (k := 0) rfl).mpr hc97_35)
    obtain ⟨cl40, Ar40, Aq40, As40, An40, Ah40, Ag40⟩ := V33
    have hin40 : ¬ ((((p2.toUInt32 >>> ((1 : Int32) &&& 31).toUInt32).toInt32) % (16 : Int32)) < 0 ∨ cl40.slots.size ≤ ((((p2.toUInt32 >>> ((1 : Int32) &&& 31).toUInt32).toInt32) % (16 : Int32))).toNatClampNeg) := inb_of As40 ⟨(own_lo p2).1, (own_lo p2).2⟩
    obtain ⟨w40, hw40⟩ := fit_I (Ag40 _ (Nat.lt_of_not_le fun y => hin40 (Or.inr y))) (Or.inl rfl)
    obtain ⟨_, _, ⟨T41, L41, k41, n41⟩, -, X41, ⟨Lc41, hQ41, l41, y41, z41⟩, st41⟩ := Jvm.LawKit.callS X33 hx (y := own_m0) hown (mvT hZ (own_w12 hw)) (mvT hZ (own_w13 hw)) (mvT hZ (own_w14 hw)) (mvT hZ (own_w15 hw)) (by decide) (backOf (W := 0) (own_isc l Z a0 hw [] (w40 + ((((p1.toUInt32 >>> ((2 : Int32) &&& 31).toUInt32).toInt32) % (5 : Int32)) - (2 : Int32))) h33 n0 Z33) hZ (own_w15 hw) (own_w14 hw) (by decide) (by decide)) (g := (mkF m 131 #[.val (.int p1), .val (.int p2), .val (.ref b1), .val (.int (w40 + ((((p1.toUInt32 >>> ((2 : Int32) &&& 31).toUInt32).toInt32) % (5 : Int32)) - (2 : Int32)))), .val (.int (((p2.toUInt32 >>> ((1 : Int32) &&& 31).toUInt32).toInt32) % (16 : Int32))), .val (.int ((((p1.toUInt32 >>> ((2 : Int32) &&& 31).toUInt32).toInt32) % (5 : Int32)) - (2 : Int32)))] [(.int (w40 + ((((p1.toUInt32 >>> ((2 : Int32) &&& 31).toUInt32).toInt32) % (5 : Int32)) - (2 : Int32))))])) rfl (by rw [hml]; rfl) (argsL := [(.int (w40 + ((((p1.toUInt32 >>> ((2 : Int32) &&& 31).toUInt32).toInt32) % (5 : Int32)) - (2 : Int32))))]) (rest := []) (lenOf own_pd0 rfl) rfl (by show 2 * 0 + _ ≤ _; exact Nat.le_of_eq rfl) (hb hby at_131) (fun _ _ => ⟨rfl, e33, (by decide : 1 + 0 ≤ _), (by decide : 16 + 0 ≤ _)⟩)
    dsimp only [Pt.U, Pt.locs, Pt.cells, Pt.slots] at X41 l41 y41 z41 st41 hQ41
    subst l41 y41 z41
    obtain ⟨rfl, N41q, e41⟩ := hQ41
    have N41 := Fr.app N33 N41q
    obtain ⟨_, _, ⟨T42, L42, k42, n42⟩, -, X42, ⟨Lc42, hQ42, l42, y42, z42⟩, st42⟩ := Jvm.LawKit.callS X41 hx (y := own_m1) hown (mvT hZ (own_w18 hw)) (mvT hZ (own_w19 hw)) (mvT hZ (own_w20 hw)) (mvT hZ (own_w21 hw)) (by decide) (backOf (W := 1) (own_forb l Z a0 hw [] (w40 + ((((p1.toUInt32 >>> ((2 : Int32) &&& 31).toUInt32).toInt32) % (5 : Int32)) - (2 : Int32))) h33 n0 Z33) hZ (own_w21 hw) (own_w20 hw) (by decide) (by decide)) (g := (mkF m 135 #[.val (.int p1), .val (.int p2), .val (.ref b1), .val (.int (w40 + ((((p1.toUInt32 >>> ((2 : Int32) &&& 31).toUInt32).toInt32) % (5 : Int32)) - (2 : Int32)))), .val (.int (((p2.toUInt32 >>> ((1 : Int32) &&& 31).toUInt32).toInt32) % (16 : Int32))), .val (.int ((((p1.toUInt32 >>> ((2 : Int32) &&& 31).toUInt32).toInt32) % (5 : Int32)) - (2 : Int32)))] [(.int (w40 + ((((p1.toUInt32 >>> ((2 : Int32) &&& 31).toUInt32).toInt32) % (5 : Int32)) - (2 : Int32)))), (.int (own_f (w40 + ((((p1.toUInt32 >>> ((2 : Int32) &&& 31).toUInt32).toInt32) % (5 : Int32)) - (2 : Int32)))))])) rfl (by rw [hml]; rfl) (argsL := [(.int (w40 + ((((p1.toUInt32 >>> ((2 : Int32) &&& 31).toUInt32).toInt32) % (5 : Int32)) - (2 : Int32))))]) (rest := [(.int (own_f (w40 + ((((p1.toUInt32 >>> ((2 : Int32) &&& 31).toUInt32).toInt32) % (5 : Int32)) - (2 : Int32)))))]) (lenOf own_pd0 rfl) rfl (by show 2 * 0 + _ ≤ _; exact Nat.le_of_eq rfl) (hb hby at_135) (fun _ _ => ⟨rfl, e41, (by decide : 1 + 0 ≤ _), (by decide : 16 + 0 ≤ _)⟩)
    dsimp only [Pt.U, Pt.locs, Pt.cells, Pt.slots] at X42 l42 y42 z42 st42 hQ42
    subst l42 y42 z42
    obtain ⟨rfl, N42q, e42⟩ := hQ42
    have N42 := Fr.app N41 N42q
    have pre43 : ∀ t, Steps p.tables e below (T42.setTop (mkF m 138 #[.val (.int p1), .val (.int p2), .val (.ref b1), .val (.int (w40 + ((((p1.toUInt32 >>> ((2 : Int32) &&& 31).toUInt32).toInt32) % (5 : Int32)) - (2 : Int32)))), .val (.int (((p2.toUInt32 >>> ((1 : Int32) &&& 31).toUInt32).toInt32) % (16 : Int32))), .val (.int ((((p1.toUInt32 >>> ((2 : Int32) &&& 31).toUInt32).toInt32) % (5 : Int32)) - (2 : Int32)))] [(.int (own_g (w40 + ((((p1.toUInt32 >>> ((2 : Int32) &&& 31).toUInt32).toInt32) % (5 : Int32)) - (2 : Int32))))), (.int (own_f (w40 + ((((p1.toUInt32 >>> ((2 : Int32) &&& 31).toUInt32).toInt32) % (5 : Int32)) - (2 : Int32)))))])) t → Steps p.tables e below (s₁.setTop (entryFrame m #[(.int p1), (.int p2)] maxLocals)) t := fun t kt => pre34 t (by
      show Steps _ _ _ (T33.setTop (mkF m 97 #[.val (.int p1), .val (.int p2), .val (.ref b1), .unset, .unset, .unset] [(.int (p2 &&& (1 : Int32)))])) _
      refine XS.ifYes X33.here hx rfl (pc0 := 97) (pc' := 105) rfl (hb hby at_97) rfl ((if0 _ _).trans (feq hc97_35).2) (by decide) (by decide) ?_
      refine XS.iloadN X33.here hx rfl (hb hby at_105) rfl ?_
      refine XS.iconst X33.here hx rfl (hb hby at_106) ?_
      refine XS.iushr X33.here hx rfl (hb hby at_107) rfl ?_
      show Steps _ _ _ (T33.setTop (mkF m 108 #[.val (.int p1), .val (.int p2), .val (.ref b1), .unset, .unset, .unset] [(.int ((p2.toUInt32 >>> ((1 : Int32) &&& 31).toUInt32).toInt32))])) _
      refine XS.bipush X33.here hx rfl (hb hby at_108) ?_
      refine iremM X33 hx rfl (hb hby at_110) rfl (by decide) ?_
      refine XS.istore X33.here hx rfl (hb hby at_111) rfl (l' := #[.val (.int p1), .val (.int p2), .val (.ref b1), .unset, .val (.int (((p2.toUInt32 >>> ((1 : Int32) &&& 31).toUInt32).toInt32) % (16 : Int32))), .unset]) rfl ?_
      refine XS.iloadN X33.here hx rfl (hb hby at_113) rfl ?_
      show Steps _ _ _ (T33.setTop (mkF m 114 #[.val (.int p1), .val (.int p2), .val (.ref b1), .unset, .val (.int (((p2.toUInt32 >>> ((1 : Int32) &&& 31).toUInt32).toInt32) % (16 : Int32))), .unset] [(.int p1)])) _
      refine XS.iconst X33.here hx rfl (hb hby at_114) ?_
      refine XS.iushr X33.here hx rfl (hb hby at_115) rfl ?_
      refine XS.iconst X33.here hx rfl (hb hby at_116) ?_
      refine iremM X33 hx rfl (hb hby at_117) rfl (by decide) ?_
      show Steps _ _ _ (T33.setTop (mkF m 118 #[.val (.int p1), .val (.int p2), .val (.ref b1), .unset, .val (.int (((p2.toUInt32 >>> ((1 : Int32) &&& 31).toUInt32).toInt32) % (16 : Int32))), .unset] [(.int (((p1.toUInt32 >>> ((2 : Int32) &&& 31).toUInt32).toInt32) % (5 : Int32)))])) _
      refine XS.iconst X33.here hx rfl (hb hby at_118) ?_
      refine XS.isub X33.here hx rfl (hb hby at_119) rfl ?_
      refine XS.istore X33.here hx rfl (hb hby at_120) rfl (l' := #[.val (.int p1), .val (.int p2), .val (.ref b1), .unset, .val (.int (((p2.toUInt32 >>> ((1 : Int32) &&& 31).toUInt32).toInt32) % (16 : Int32))), .val (.int ((((p1.toUInt32 >>> ((2 : Int32) &&& 31).toUInt32).toInt32) % (5 : Int32)) - (2 : Int32)))]) rfl ?_
      refine XS.aloadN X33.here hx rfl (hb hby at_122) rfl rfl ?_
      show Steps _ _ _ (T33.setTop (mkF m 123 #[.val (.int p1), .val (.int p2), .val (.ref b1), .unset, .val (.int (((p2.toUInt32 >>> ((1 : Int32) &&& 31).toUInt32).toInt32) % (16 : Int32))), .val (.int ((((p1.toUInt32 >>> ((2 : Int32) &&& 31).toUInt32).toInt32) % (5 : Int32)) - (2 : Int32)))] [(.ref b1)])) _
      refine XS.iload X33.here hx rfl (hb hby at_123) rfl ?_
      refine X33.iaload hx (j := (((p2.toUInt32 >>> ((1 : Int32) &&& 31).toUInt32).toInt32) % (16 : Int32))) (v := (.int w40)) (by rw [e33]; exact Ar40.1) (State.isArrayOf_alike hZ.alike Ar40.2.1) Ar40.2.2 hin40 (Ah40.at hin40 hw40) (g := (mkF m 125 #[.val (.int p1), .val (.int p2), .val (.ref b1), .unset, .val (.int (((p2.toUInt32 >>> ((1 : Int32) &&& 31).toUInt32).toInt32) % (16 : Int32))), .val (.int ((((p1.toUInt32 >>> ((2 : Int32) &&& 31).toUInt32).toInt32) % (5 : Int32)) - (2 : Int32)))] [(.int (((p2.toUInt32 >>> ((1 : Int32) &&& 31).toUInt32).toInt32) % (16 : Int32))), (.ref b1)])) rfl rfl (hb hby at_125) _ ?_
      refine XS.iload X33.here hx rfl (hb hby at_126) rfl ?_
      refine XS.iadd X33.here hx rfl (hb hby at_128) rfl ?_
      show Steps _ _ _ (T33.setTop (mkF m 129 #[.val (.int p1), .val (.int p2), .val (.ref b1), .unset, .val (.int (((p2.toUInt32 >>> ((1 : Int32) &&& 31).toUInt32).toInt32) % (16 : Int32))), .val (.int ((((p1.toUInt32 >>> ((2 : Int32) &&& 31).toUInt32).toInt32) % (5 : Int32)) - (2 : Int32)))] [(.int (w40 + ((((p1.toUInt32 >>> ((2 : Int32) &&& 31).toUInt32).toInt32) % (5 : Int32)) - (2 : Int32))))])) _
      refine XS.istoreN X33.here hx rfl (hb hby at_129) rfl (l' := #[.val (.int p1), .val (.int p2), .val (.ref b1), .val (.int (w40 + ((((p1.toUInt32 >>> ((2 : Int32) &&& 31).toUInt32).toInt32) % (5 : Int32)) - (2 : Int32)))), .val (.int (((p2.toUInt32 >>> ((1 : Int32) &&& 31).toUInt32).toInt32) % (16 : Int32))), .val (.int ((((p1.toUInt32 >>> ((2 : Int32) &&& 31).toUInt32).toInt32) % (5 : Int32)) - (2 : Int32)))]) rfl ?_
      refine XS.iloadN X33.here hx rfl (hb hby at_130) rfl ?_
      refine st41 _ ?_
      refine XS.iloadN X41.here hx rfl (hb hby at_134) rfl ?_
      show Steps _ _ _ (T41.setTop (mkF m 135 #[.val (.int p1), .val (.int p2), .val (.ref b1), .val (.int (w40 + ((((p1.toUInt32 >>> ((2 : Int32) &&& 31).toUInt32).toInt32) % (5 : Int32)) - (2 : Int32)))), .val (.int (((p2.toUInt32 >>> ((1 : Int32) &&& 31).toUInt32).toInt32) % (16 : Int32))), .val (.int ((((p1.toUInt32 >>> ((2 : Int32) &&& 31).toUInt32).toInt32) % (5 : Int32)) - (2 : Int32)))] [(.int (w40 + ((((p1.toUInt32 >>> ((2 : Int32) &&& 31).toUInt32).toInt32) % (5 : Int32)) - (2 : Int32)))), (.int (own_f (w40 + ((((p1.toUInt32 >>> ((2 : Int32) &&& 31).toUInt32).toInt32) % (5 : Int32)) - (2 : Int32)))))])) _
      refine st42 _ ?_
      exact kt)
    by_cases hc138_44 : (own_g (w40 + ((((p1.toUInt32 >>> ((2 : Int32) &&& 31).toUInt32).toInt32) % (5 : Int32)) - (2 : Int32)))) = (0 : Int32)
    · skip
      have ihc138_44 := (own_eq (b := (0 : Int32)) (k := 0) rfl).mp hc138_44
      obtain ⟨fs, hr, hrun, hended, hW, hsame⟩ := X42.leave (v := some (.int (1 : Int32))) (fun h => by rw [Bd.returns] at h; cases h)
      refine ⟨_, _, pre43 _ ?_, hrun, hended, _, _, rfl, ?_, ⟨_, rfl⟩, hW, hsame.mono (by decide) (by decide)⟩
      · show Steps _ _ _ (T42.setTop (mkF m 138 #[.val (.int p1), .val (.int p2), .val (.ref b1), .val (.int (w40 + ((((p1.toUInt32 >>> ((2 : Int32) &&& 31).toUInt32).toInt32) % (5 : Int32)) - (2 : Int32)))), .val (.int (((p2.toUInt32 >>> ((1 : Int32) &&& 31).toUInt32).toInt32) % (16 : Int32))), .val (.int ((((p1.toUInt32 >>> ((2 : Int32) &&& 31).toUInt32).toInt32) % (5 : Int32)) - (2 : Int32)))] [(.int (own_g (w40 + ((((p1.toUInt32 >>> ((2 : Int32) &&& 31).toUInt32).toInt32) % (5 : Int32)) - (2 : Int32))))), (.int (own_f (w40 + ((((p1.toUInt32 >>> ((2 : Int32) &&& 31).toUInt32).toInt32) % (5 : Int32)) - (2 : Int32)))))])) _
        refine XS.ifNo X42.here hx rfl (hb hby at_138) rfl ((if0 _ _).trans (teq hc138_44).2) ?_
        refine XS.iconst X42.here hx rfl (hb hby at_141) ?_
        refine XS.goto X42.here hx rfl (pc0 := 142) (pc' := 146) rfl (hb hby at_142) (by decide) (by decide) ?_
        refine XS.icmpNo X42.here hx rfl (hb hby at_146) rfl (teq (own_fg1 hc138_44)).2 ?_
        show Steps _ _ _ (T42.setTop (mkF m 149 #[.val (.int p1), .val (.int p2), .val (.ref b1), .val (.int (w40 + ((((p1.toUInt32 >>> ((2 : Int32) &&& 31).toUInt32).toInt32) % (5 : Int32)) - (2 : Int32)))), .val (.int (((p2.toUInt32 >>> ((1 : Int32) &&& 31).toUInt32).toInt32) % (16 : Int32))), .val (.int ((((p1.toUInt32 >>> ((2 : Int32) &&& 31).toUInt32).toInt32) % (5 : Int32)) - (2 : Int32)))] [])) _
        refine XS.iconst X42.here hx rfl (hb hby at_149) ?_
        refine XS.goto X42.here hx rfl (pc0 := 150) (pc' := 154) rfl (hb hby at_150) (by decide) (by decide) ?_
        show Steps _ _ _ (T42.setTop (mkF m 154 #[.val (.int p1), .val (.int p2), .val (.ref b1), .val (.int (w40 + ((((p1.toUInt32 >>> ((2 : Int32) &&& 31).toUInt32).toInt32) % (5 : Int32)) - (2 : Int32)))), .val (.int (((p2.toUInt32 >>> ((1 : Int32) &&& 31).toUInt32).toInt32) % (16 : Int32))), .val (.int ((((p1.toUInt32 >>> ((2 : Int32) &&& 31).toUInt32).toInt32) % (5 : Int32)) - (2 : Int32)))] [(.int (1 : Int32))])) _
        exact retN X42 hx (t := .boolean) Bd.returns (by simp) (hb hby at_154) hr
      · show Qown_law Z p1 p2 h0 n0 _ T42.heap _
        rw [e42]
        exact ⟨rfl, N42⟩
    · skip
      have ihc138_44 := (mt (own_eq (b := (0 : Int32)) (k := 0) rfl).mpr hc138_44)
      obtain ⟨fs, hr, hrun, hended, hW, hsame⟩ := X42.leave (v := some (.int (1 : Int32))) (fun h => by rw [Bd.returns] at h; cases h)
      refine ⟨_, _, pre43 _ ?_, hrun, hended, _, _, rfl, ?_, ⟨_, rfl⟩, hW, hsame.mono (by decide) (by decide)⟩
      · show Steps _ _ _ (T42.setTop (mkF m 138 #[.val (.int p1), .val (.int p2), .val (.ref b1), .val (.int (w40 + ((((p1.toUInt32 >>> ((2 : Int32) &&& 31).toUInt32).toInt32) % (5 : Int32)) - (2 : Int32)))), .val (.int (((p2.toUInt32 >>> ((1 : Int32) &&& 31).toUInt32).toInt32) % (16 : Int32))), .val (.int ((((p1.toUInt32 >>> ((2 : Int32) &&& 31).toUInt32).toInt32) % (5 : Int32)) - (2 : Int32)))] [(.int (own_g (w40 + ((((p1.toUInt32 >>> ((2 : Int32) &&& 31).toUInt32).toInt32) % (5 : Int32)) - (2 : Int32))))), (.int (own_f (w40 + ((((p1.toUInt32 >>> ((2 : Int32) &&& 31).toUInt32).toInt32) % (5 : Int32)) - (2 : Int32)))))])) _
        refine XS.ifYes X42.here hx rfl (pc0 := 138) (pc' := 145) rfl (hb hby at_138) rfl ((if0 _ _).trans (feq hc138_44).2) (by decide) (by decide) ?_
        refine XS.iconst X42.here hx rfl (hb hby at_145) ?_
        refine XS.icmpNo X42.here hx rfl (hb hby at_146) rfl (teq (own_fg0 hc138_44)).2 ?_
        refine XS.iconst X42.here hx rfl (hb hby at_149) ?_
        show Steps _ _ _ (T42.setTop (mkF m 150 #[.val (.int p1), .val (.int p2), .val (.ref b1), .val (.int (w40 + ((((p1.toUInt32 >>> ((2 : Int32) &&& 31).toUInt32).toInt32) % (5 : Int32)) - (2 : Int32)))), .val (.int (((p2.toUInt32 >>> ((1 : Int32) &&& 31).toUInt32).toInt32) % (16 : Int32))), .val (.int ((((p1.toUInt32 >>> ((2 : Int32) &&& 31).toUInt32).toInt32) % (5 : Int32)) - (2 : Int32)))] [(.int (1 : Int32))])) _
        refine XS.goto X42.here hx rfl (pc0 := 150) (pc' := 154) rfl (hb hby at_150) (by decide) (by decide) ?_
        show Steps _ _ _ (T42.setTop (mkF m 154 #[.val (.int p1), .val (.int p2), .val (.ref b1), .val (.int (w40 + ((((p1.toUInt32 >>> ((2 : Int32) &&& 31).toUInt32).toInt32) % (5 : Int32)) - (2 : Int32)))), .val (.int (((p2.toUInt32 >>> ((1 : Int32) &&& 31).toUInt32).toInt32) % (16 : Int32))), .val (.int ((((p1.toUInt32 >>> ((2 : Int32) &&& 31).toUInt32).toInt32) % (5 : Int32)) - (2 : Int32)))] [(.int (1 : Int32))])) _
        exact retN X42 hx (t := .boolean) Bd.returns (by simp) (hb hby at_154) hr
      · show Qown_law Z p1 p2 h0 n0 _ T42.heap _
        rw [e42]
        exact ⟨rfl, N42⟩
set_option maxRecDepth 65536 in
set_option maxHeartbeats 40000000 in
theorem comes_1 {Post : Tables → Env → Array Value → State → Outcome → State → Prop} (hpost : ∀ tb e args s v u, (limb_1_1.after args s (.returned v) u = true ∧ limb_1_2.after args s (.returned v) u = true ∧ True) → FrameEnd s (.returned v) u (Jvm.fieldLocs frame_1_writes args s ++ Jvm.arrayLocs frame_1_arrays args s ++ Jvm.staticLocs frame_1_statics s) 16 128 → Post tb e args s (.returned v) u) :
    ArmFor flags0 classFile x code maxLocals ret World_1 tables_1 room_1 Calls_1 rest_1 Pre_1 Post := by
  intro l hfl _ _ p e ha hc hk s m args below hf hA hF happ hP
  obtain ⟨hcalls, hrest, hpre⟩ := hP
  obtain ⟨-, -, -, hnamed, -, -, -, hat⟩ := (Spec.applies_iff hf).mp happ
  obtain ⟨hg, hn⟩ := and_e (Cond.before_iff.mp (show (Jvm.Cond.and given_1 narrow_1).before args s = true from hpre))
  obtain ⟨gc, gr0⟩ := and_e hg
  obtain ⟨ga0, gr1⟩ := and_e gr0
  have ga1 := gr1
  obtain ⟨w0, w1, rfl⟩ : ∃ w0 w1 : Value, args = #[w0, w1] := by
    have hs : args.size = 2 := by simpa [Cond.value, given_1] using gc
    obtain ⟨L⟩ := args
    match L, hs with
    | [w0, w1], _ => exact ⟨w0, w1, rfl⟩
  have hw := fun d (hd : d ∈ tables_1) => atoms_spec (ws := Jvm.Cond.code x code maxLocals ret :: tables_1) hat d (List.mem_cons_of_mem _ hd)
  have hfit : Fit s := fun {y c} hc i hi => by
    obtain ⟨ha, rfl⟩ := Array.getElem?_eq_some_iff.mp hc
    have q := List.all_eq_true.mp ((Array.all_eq_true_iff_forall_mem.mp hF) _ (Array.getElem_mem ha)) i (List.mem_range.mpr hi)
    simpa [Array.getElem?_eq_getElem hi] using q
  obtain ⟨i0, ei0⟩ := is_v ga0
  obtain rfl : w0 = (.int i0) := Option.some.inj ei0
  obtain ⟨i1, ei1⟩ := is_v ga1
  obtain rfl : w1 = (.int i1) := Option.some.inj ei1
  obtain ⟨n, o, h1, h2, h3, _, L, rfl, ⟨rfl, N⟩, hq⟩ := own_law l s _ hw tables_1 i0 i1 s.heap s.heap.size (Nat.le_refl _)  p e ha hc hk s m _ below hf ((Spec.applies_iff_loose hf).mp happ).1 ⟨rfl, State.Warmed39.refl s, rfl⟩ trivial
  refine ⟨n, _, h1, h2, h3, hpost _ _ _ _ _ _ ⟨Cond.after_iff.mpr rfl, Cond.after_iff.mpr (eq_i res_at (Term.int_eval (1)) rfl), trivial⟩ ⟨hq.1, hq.2.1, (hq.2.2.sift fun y hy => Or.inr (N y hy)).mono (by decide) (by decide)⟩⟩
theorem main_1_1 : Claimed_1_1 := comes_1 fun _ _ _ _ _ _ h hF => ⟨h.1, hF⟩
theorem main_1_2 : Claimed_1_2 := comes_1 fun _ _ _ _ _ _ h hF => ⟨h.2.1, hF⟩
end Jvm.Pilot.@@N@@
namespace Jvm.Pilot.@@N@@
open Jvm Jvm.ClassFile Sem Op Lib Jvm.Free Jvm.Stand Jvm.Pilot.@@N@@.Jvm.D
/-! MADE BY PROGRAM (witnessworld.py) out of the Statement's table words and the real class files: 9 classes; the members and pool entries that the words name. The judged class is class 1, her method 2. -/
namespace start1
open Jvm.ClassFile
def u (s : String) : CpInfo := .utf8 (stringToUtf16 s)
/-- a pool by its gaps: so many unusable entries, then the entry; so many at the end -/
def gap : Nat → List CpInfo → List CpInfo
  | 0, r => r
  | n + 1, r => .unusable :: gap n r
def poolList (es : List (Nat × CpInfo)) (last : Nat) : List CpInfo := es.foldr (fun e r => gap e.1 (e.2 :: r)) (gap last [])
def pool (es : List (Nat × CpInfo)) (last : Nat) : Array CpInfo := ⟨poolList es last⟩
def fileOf (pool : Array CpInfo) (this : Nat) (attrs : Array Attribute := #[]) (ms : Array MethodInfo := #[]) (fl : Nat := 33) (sup : Nat := 0) (ifs : Array Nat := #[]) (fds : Array FieldInfo := #[]) : ClassFile where
  minorVersion := 0
  majorVersion := 65
  constantPool := pool
  accessFlags := fl
  thisClass := this
  superClass := sup
  interfaces := ifs
  fields := fds
  methods := ms
  attributes := attrs
def plain (name : String) (sup : Option ClassId) : Class where
  name := name
  kind := .ordinary
  loader := none
  accessFlags := 33
  super := sup
  interfaces := #[]
  cf := none
  fields := #[]
  methods := #[]
  instanceTypes := #[]
  staticTypes := #[]
  resolved := #[]
  callSites := []
  init := .initialized
  statics := none
  mirror := none

def pool0 : Array CpInfo := pool [(5, u "<init>"), (0, u "()V"), (1, .class_ 10), (1, u "java/lang/Object")] 113

def k0m0 : Method := { name := "<init>", desc := "()V", sig := { parameters := [], returnType := none }, accessFlags := 1, code := none }
/-- java/lang/Object -/
def k0 : Class := { plain "java/lang/Object" none with
  accessFlags := 33
  interfaces := #[]
  cf := some (fileOf pool0 8 #[] #[{ accessFlags := 1, nameIndex := 5, descriptorIndex := 6, attributes := #[] }] 33 0 #[] #[])
  fields := #[]
  methods := #[k0m0]
  instanceTypes := #[]
  staticTypes := #[]
  resolved := Array.replicate 124 none
  statics := none }

def pool1 : Array CpInfo := pool [(2, .class_ 4), (1, u "java/lang/Object"), (0, u "<init>"), (0, u "()V"), (0, .integer 1114111), (0, .integer 55296), (0, .integer 57343), (0, .integer 65534), (0, .integer 65535), (0, .integer 55295), (0, .integer 57344), (0, .integer 65533), (0, .integer 65536), (2, .integer 2147483648), (0, .integer 2147483647), (0, .methodref 21 22), (0, .class_ 23), (0, .nameAndType 24 25), (0, u "com/example/fascicle/fascicle/io/XmlNames"), (0, u "isChar"), (0, u "(I)Z"), (0, .methodref 27 28), (0, .class_ 29), (0, .nameAndType 30 25), (0, u "com/example/fascicle/fascicle/io/XmlNamesIsCharPinLaw"), (0, u "forbidden"), (3, u "law"), (0, u "(II)Z")] 4

def k1m0 : Method := { name := "<init>", desc := "()V", sig := { parameters := [], returnType := none }, accessFlags := 2, code := none }
def k1c1 : Code := { maxStack := 2, maxLocals := 1, code := method_2_code, exceptionTable := #[], attributes := #[] }
def k1m1 : Method := { name := "forbidden", desc := "(I)Z", sig := { parameters := [.int], returnType := some .boolean }, accessFlags := 10, code := some k1c1 }
def k1c2 : Code := { maxStack := 4, maxLocals := 6, code := code, exceptionTable := #[], attributes := #[] }
def k1m2 : Method := { name := "law", desc := "(II)Z", sig := { parameters := [.int, .int], returnType := some .boolean }, accessFlags := 9, code := some k1c2 }
/-- com/example/fascicle/fascicle/io/XmlNamesIsCharPinLaw -/
def k1 : Class := { plain "com/example/fascicle/fascicle/io/XmlNamesIsCharPinLaw" (some 0) with
  accessFlags := 49
  interfaces := #[]
  cf := some (fileOf pool1 27 #[] #[{ accessFlags := 2, nameIndex := 5, descriptorIndex := 6, attributes := #[] }, { accessFlags := 10, nameIndex := 30, descriptorIndex := 25, attributes := #[] }, { accessFlags := 9, nameIndex := 34, descriptorIndex := 35, attributes := #[] }] 49 2 #[] #[])
  fields := #[]
  methods := #[k1m0, k1m1, k1m2]
  instanceTypes := #[]
  staticTypes := #[]
  resolved := Array.replicate 40 none
  statics := none }

def pool2 : Array CpInfo := pool [(2, .class_ 4), (1, u "java/lang/Object"), (0, u "<init>"), (0, u "()V"), (12, .integer 55295), (0, .integer 57344), (0, .integer 65533), (0, .integer 65536), (0, .integer 1114111), (1, .class_ 27), (1, u "com/example/fascicle/fascicle/io/XmlNames"), (0, u "ASCII_NAME_START"), (0, u "[Z"), (6, u "ASCII_NAME_PART"), (3, u "(I)Z"), (32, u "isChar")] 6

def k2m0 : Method := { name := "<init>", desc := "()V", sig := { parameters := [], returnType := none }, accessFlags := 2, code := none }
def k2c1 : Code := { maxStack := 2, maxLocals := 1, code := prog_55_method_3_code, exceptionTable := #[], attributes := #[] }
def k2m1 : Method := { name := "isChar", desc := "(I)Z", sig := { parameters := [.int], returnType := some .boolean }, accessFlags := 9, code := some k2c1 }
/-- com/example/fascicle/fascicle/io/XmlNames -/
def k2 : Class := { plain "com/example/fascicle/fascicle/io/XmlNames" (some 0) with
  accessFlags := 49
  interfaces := #[]
  cf := some (fileOf pool2 25 #[] #[{ accessFlags := 2, nameIndex := 5, descriptorIndex := 6, attributes := #[] }, { accessFlags := 9, nameIndex := 73, descriptorIndex := 40, attributes := #[] }] 49 2 #[] #[{ accessFlags := 26, nameIndex := 28, descriptorIndex := 29, attributes := #[] }, { accessFlags := 26, nameIndex := 36, descriptorIndex := 29, attributes := #[] }])
  fields := #[{ name := "ASCII_NAME_START", type := (.array .boolean), accessFlags := 26, slot := 0, constantValue := 0 }, { name := "ASCII_NAME_PART", type := (.array .boolean), accessFlags := 26, slot := 1, constantValue := 0 }]
  methods := #[k2m0, k2m1]
  instanceTypes := #[]
  staticTypes := #[(.array .boolean), (.array .boolean)]
  resolved := Array.replicate 80 none
  statics := none }

def pool3 : Array CpInfo := pool [(1, u "java/lang/Cloneable"), (0, .class_ 1), (0, u "java/lang/Object"), (0, .class_ 3)] 3

/-- java/lang/Cloneable -/
def k3 : Class := { plain "java/lang/Cloneable" (some 0) with
  accessFlags := 1537
  interfaces := #[]
  cf := some (fileOf pool3 2 #[] #[] 1537 4 #[] #[])
  fields := #[]
  methods := #[]
  instanceTypes := #[]
  staticTypes := #[]
  resolved := Array.replicate 8 none
  statics := none }

def pool4 : Array CpInfo := pool [(1, u "java/io/Serializable"), (0, .class_ 1), (0, u "java/lang/Object"), (0, .class_ 3)] 3

/-- java/io/Serializable -/
def k4 : Class := { plain "java/io/Serializable" (some 0) with
  accessFlags := 1537
  interfaces := #[]
  cf := some (fileOf pool4 2 #[] #[] 1537 4 #[] #[])
  fields := #[]
  methods := #[]
  instanceTypes := #[]
  staticTypes := #[]
  resolved := Array.replicate 8 none
  statics := none }

/-- the primitive byte -/
def k5 : Class := { plain "byte" none with kind := .primitive 'B', accessFlags := 0x411 }
/-- [B -/
def k6 : Class := { plain "[B" (some 0) with kind := .array 5 .byte, interfaces := #[3, 4], accessFlags := 1041 }

/-- the primitive int -/
def k7 : Class := { plain "int" none with kind := .primitive 'I', accessFlags := 0x411 }
/-- [I -/
def k8 : Class := { plain "[I" (some 0) with kind := .array 7 .int, interfaces := #[3, 4], accessFlags := 1041 }

def heap : Heap := #[]
def classes : Array Class := #[k0, k1, k2, k3, k4, k5, k6, k7, k8]
def interned : List (Array UInt16 × Addr) := []
def slotsUsed : Nat := 0
def theMethod : MethodId := ⟨1, 2⟩
def args0 : Array Value := #[.int 65, .int 3]
def aboutOver (below : List Frame) : State where
  vm := { classes := classes, interned := interned.toArray }
  heap := heap
  slotsUsed := slotsUsed
  threads := #[{ frames := .invoking theMethod args0 :: below }]
def below0 : List Frame := [.native { method := ⟨0, 0⟩, args := #[] }]
def about1 : State := aboutOver below0
def p0 : Program := .bare "" "" ""
def e0 : Env := launch0.env 0 0 0
theorem w_frames : about1.frames = Frame.invoking theMethod args0 :: below0 := rfl
set_option maxRecDepth 65536 in
theorem w_args : argsFit about1.vm theMethod args0 = true := by decide +kernel
set_option maxRecDepth 65536 in
theorem w_heap : heapFits about1 = true := by decide +kernel
set_option maxRecDepth 65536 in
theorem w_runnable : about1.curStatus? = some .runnable := by decide +kernel
set_option maxRecDepth 65536 in
theorem w_alone : about1.alone = true := by decide +kernel
set_option maxRecDepth 65536 in
theorem w_named : about1.methodNamed? x = some theMethod := by decide +kernel
set_option maxRecDepth 65536 in
theorem w_hears : about1.hears theMethod below0 = true := by decide +kernel
set_option maxRecDepth 65536 in
theorem w_ripe : about1.ripe theMethod args0 below0 = true := by decide +kernel
theorem w_running : about1.status = .running := rfl
set_option maxRecDepth 65536 in
theorem w_room : about1.hasRoom e0.platform room_1 = true :=
  launch0.hasRoom_least _ room_1 (by decide +kernel) (by decide +kernel) (by decide +kernel) (by decide +kernel) (by decide +kernel) (by decide +kernel)
theorem allAtoms_all (ts : List Jvm.Cond) (a : Array Jvm.Value) (st : Jvm.State) : (allAtoms ts).before a st = ts.all (fun c => c.before a st) := by
  induction ts with
  | nil => rfl
  | cons c t ih =>
    show (Jvm.Cond.and c (allAtoms t)).before a st = _
    rw [Jvm.Cond.before_and, ih, List.all_cons]
def words1 : List Jvm.Cond := Jvm.Cond.code x code maxLocals ret :: tables_1
/-- a 'code' word, met by the world's own term for the bytes: nothing is compared byte by byte -/
theorem code_word {y : MethodName} {bytes : ByteArray} {mx : Nat} {rt : Option FieldType} {a : Array Value} {s : State} {m : MethodId} {meth : Method} {c : Code} (h1 : s.methodNamed? y = some m) (h2 : s.vm.method? m = some meth) (h3 : meth.code = some c) (h4 : c.code = bytes)
    (h5 : (c.maxLocals == mx && c.exceptionTable.isEmpty && decide (c.maxStack ≤ mostOperands) && decide (meth.sig.returnType = rt) && !meth.locks && decide (parseMethodDescriptor y.desc = some meth.sig)) = true) : (Jvm.Cond.code y bytes mx rt).before a s = true := by
  simp only [Bool.and_eq_true, beq_iff_eq, Bool.not_eq_true', decide_eq_true_eq] at h5
  obtain ⟨⟨⟨⟨⟨g1, g2⟩, g3⟩, g4⟩, g5⟩, g6⟩ := h5
  simp [Cond.before, Cond.holds, Cond.value, h1, h2, h3, h4, g1, g2, g3, g4, g5, g6]
def isCode : Jvm.Cond → Bool
  | .code _ _ _ _ => true
  | _ => false
theorem all_split {L : List Jvm.Cond} {P : Jvm.Cond → Bool} (h1 : L.all (fun c => isCode c || P c) = true) (h2 : ∀ c ∈ L.filter isCode, P c = true) : L.all P = true := by
  refine List.all_eq_true.mpr fun c hc => ?_
  have h := List.all_eq_true.mp h1 c hc
  rcases Bool.eq_false_or_eq_true (isCode c) with hi | hi
  · exact h2 c (List.mem_filter.mpr ⟨hc, hi⟩)
  · simpa [hi] using h
set_option maxRecDepth 65536 in
theorem w_c0 : (Jvm.Cond.code x code maxLocals ret).before args0 about1 = true := code_word (m := ⟨1, 2⟩) (meth := k1m2) (c := k1c2) (by decide +kernel) rfl rfl rfl (by decide +kernel)
set_option maxRecDepth 65536 in
theorem w_c1 : (Jvm.Cond.code ({ cls := "com/example/fascicle/fascicle/io/XmlNames", name := "isChar", desc := "(I)Z" } : Jvm.MethodName) prog_55_method_3_code (1 : Nat) (Option.some Jvm.ClassFile.FieldType.boolean)).before args0 about1 = true := code_word (m := ⟨2, 1⟩) (meth := k2m1) (c := k2c1) (by decide +kernel) rfl rfl rfl (by decide +kernel)
set_option maxRecDepth 65536 in
theorem w_c2 : (Jvm.Cond.code ({ cls := "com/example/fascicle/fascicle/io/XmlNamesIsCharPinLaw", name := "forbidden", desc := "(I)Z" } : Jvm.MethodName) method_2_code (1 : Nat) (Option.some Jvm.ClassFile.FieldType.boolean)).before args0 about1 = true := code_word (m := ⟨1, 1⟩) (meth := k1m1) (c := k1c1) (by decide +kernel) rfl rfl rfl (by decide +kernel)
def codes1 : List Jvm.Cond := [Jvm.Cond.code x code maxLocals ret, Jvm.Cond.code ({ cls := "com/example/fascicle/fascicle/io/XmlNames", name := "isChar", desc := "(I)Z" } : Jvm.MethodName) prog_55_method_3_code (1 : Nat) (Option.some Jvm.ClassFile.FieldType.boolean), Jvm.Cond.code ({ cls := "com/example/fascicle/fascicle/io/XmlNamesIsCharPinLaw", name := "forbidden", desc := "(I)Z" } : Jvm.MethodName) method_2_code (1 : Nat) (Option.some Jvm.ClassFile.FieldType.boolean)]
set_option maxRecDepth 65536 in
theorem codes_eq : words1.filter isCode = codes1 := rfl
theorem w_codes : ∀ c ∈ words1.filter isCode, c.before args0 about1 = true := by
  rw [codes_eq]
  intro c hc
  simp only [codes1, List.mem_cons, List.not_mem_nil, or_false] at hc
  rcases hc with rfl | rfl | rfl
  · exact w_c0
  · exact w_c1
  · exact w_c2
set_option maxRecDepth 65536 in
theorem w_t1 : (words1.take 24).all (fun c => isCode c || c.before args0 about1) = true := by decide +kernel
set_option maxRecDepth 65536 in
theorem w_t2 : (words1.drop 24).all (fun c => isCode c || c.before args0 about1) = true := by decide +kernel
theorem w_tables : (allAtoms (Jvm.Cond.code x code maxLocals ret :: tables_1)).before args0 about1 = true := by
  rw [allAtoms_all]
  show words1.all (fun c => c.before args0 about1) = true
  refine all_split ?_ w_codes
  rw [← List.take_append_drop 24 words1, List.all_append, w_t1, w_t2]
  rfl
set_option maxRecDepth 65536 in
theorem w_case : (Jvm.Cond.and given_1 narrow_1).before args0 about1 = true := by decide +kernel
theorem w_applies : (headSpec (Jvm.Cond.code x code maxLocals ret :: tables_1) room_1).applies x e0.platform about1 = true :=
  (Spec.applies_iff w_frames).mpr ⟨w_running, w_runnable, w_alone, w_named, w_hears, w_ripe, w_room, w_tables⟩
theorem atStart : AtStart classFile x code maxLocals ret World_1 tables_1 room_1 Calls_1 rest_1 Pre_1 launch0 p0 e0 about1 theMethod args0 below0 :=
  ⟨lists_1, trivial, launch0.admits_env _ _ _, launch0.least_env, fairChoices_fair.cas, fairChoices_fair.clock, w_frames, w_args, w_heap, w_applies, trivial, trivial, w_case⟩
end start1
theorem witness_1 : WitnessClaimed_1 := ⟨start1.p0, start1.e0, start1.about1, start1.theMethod, start1.args0, start1.below0, start1.atStart⟩
end Jvm.Pilot.@@N@@
