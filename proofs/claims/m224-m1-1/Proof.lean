import JvmDerived
import JvmDerived.Pilot.@@N@@Statement
import JvmDerived.Pilot.@@N@@Code
set_option linter.unusedVariables false
set_option linter.unusedSimpArgs false
namespace Jvm.RoadKit
open Sem ClassFile Op Lib Jvm.Stand Jvm.Free Jvm.LawKit
section New
variable {p : Program} {l : Launch} {e : Env} {R : Room} {s : State} {m : MethodId} {args : Array Value} {below : List Frame} {meth : Method} {c : Code} {T : State} {locs : List Loc} {cells slots : Nat}
theorem retI (X : Stand p l e R s m args below meth c T locs cells slots) (hx : p.tables.exec = Jvm.exec) {pc : Nat} {Ls : Array Slot} {z : Int32} {rest : List Value} (hret : meth.sig.returnType = some .int) (hd : decode c.code pc = .ok (.ireturn, 1)) {fs : List Frame}
    (hl : ∀ (f : JFrame) (acts : List Action), f.method = m → f.locked = none → f.entered = [] → (doReturn e (T.setTop f) acts (some (.int z))).1 = T.setFrames fs) : Steps p.tables e below (T.setTop (mkF m pc Ls (.int z :: rest))) (T.setFrames fs) := by
  have hm' : T.vm.method? m = some meth := X.method'
  have hn : narrow .int (.int z) = .int z := rfl
  show Steps p.tables e below (T.setTop { method := m, pc := pc, locals := Ls, stack := _ :: rest, locked := none }) _
  jvm_step X.here [X.here.top, hx, hd, hm', hret, hn]
  first | (intro acts; rw [hl _ acts rfl rfl rfl]) | rw [hl _ _ rfl rfl rfl]
  exact Steps.refl _
end New
end Jvm.RoadKit
namespace Jvm.Pilot.@@N@@
open Jvm Jvm.ClassFile Sem Op Lib Jvm.Free Jvm.Stand Jvm.LawKit Jvm.RoadKit Bundle Jvm.Pilot.@@N@@.Jvm.D
abbrev own_m0 : MethodName := ⟨"com/example/don_valley/donvalley/protocol/Frame$Kind", "forCode", "(B)Lcom/example/don_valley/donvalley/protocol/Frame$Kind;"⟩
theorem own_w0 {Z : State} {a0 : Array Value} (hw : ∀ d ∈ tables_1, d.before a0 Z = true) : (Jvm.Cond.classLink "com/example/don_valley/donvalley/protocol/KindForCodePinLaw" (7 : Nat) "com/example/don_valley/donvalley/protocol/Frame$Kind").before a0 Z = true := hw _ (List.mem_of_getElem? (i := 0) rfl)
theorem own_w1 {Z : State} {a0 : Array Value} (hw : ∀ d ∈ tables_1, d.before a0 Z = true) : (Jvm.Cond.arrayOver (Jvm.ClassFile.FieldType.object "com/example/don_valley/donvalley/protocol/Frame$Kind")).before a0 Z = true := hw _ (List.mem_of_getElem? (i := 1) rfl)
theorem own_w2 {Z : State} {a0 : Array Value} (hw : ∀ d ∈ tables_1, d.before a0 Z = true) : (Jvm.Cond.fieldLink "com/example/don_valley/donvalley/protocol/KindForCodePinLaw" (9 : Nat) "com/example/don_valley/donvalley/protocol/Frame$Kind" "SUBSCRIBE" "Lcom/example/don_valley/donvalley/protocol/Frame$Kind;").before a0 Z = true := hw _ (List.mem_of_getElem? (i := 2) rfl)
theorem own_w3 {Z : State} {a0 : Array Value} (hw : ∀ d ∈ tables_1, d.before a0 Z = true) : (Jvm.Cond.initialized "com/example/don_valley/donvalley/protocol/Frame$Kind").before a0 Z = true := hw _ (List.mem_of_getElem? (i := 3) rfl)
theorem own_w6 {Z : State} {a0 : Array Value} (hw : ∀ d ∈ tables_1, d.before a0 Z = true) : (Jvm.Cond.fieldLink "com/example/don_valley/donvalley/protocol/KindForCodePinLaw" (13 : Nat) "com/example/don_valley/donvalley/protocol/Frame$Kind" "ADVERTISE" "Lcom/example/don_valley/donvalley/protocol/Frame$Kind;").before a0 Z = true := hw _ (List.mem_of_getElem? (i := 6) rfl)
theorem own_w8 {Z : State} {a0 : Array Value} (hw : ∀ d ∈ tables_1, d.before a0 Z = true) : (Jvm.Cond.fieldLink "com/example/don_valley/donvalley/protocol/KindForCodePinLaw" (16 : Nat) "com/example/don_valley/donvalley/protocol/Frame$Kind" "PUBLISH" "Lcom/example/don_valley/donvalley/protocol/Frame$Kind;").before a0 Z = true := hw _ (List.mem_of_getElem? (i := 8) rfl)
theorem own_w10 {Z : State} {a0 : Array Value} (hw : ∀ d ∈ tables_1, d.before a0 Z = true) : (Jvm.Cond.fieldLink "com/example/don_valley/donvalley/protocol/KindForCodePinLaw" (19 : Nat) "com/example/don_valley/donvalley/protocol/Frame$Kind" "SYNC" "Lcom/example/don_valley/donvalley/protocol/Frame$Kind;").before a0 Z = true := hw _ (List.mem_of_getElem? (i := 10) rfl)
theorem own_w12 {Z : State} {a0 : Array Value} (hw : ∀ d ∈ tables_1, d.before a0 Z = true) : (Jvm.Cond.fieldLink "com/example/don_valley/donvalley/protocol/KindForCodePinLaw" (22 : Nat) "com/example/don_valley/donvalley/protocol/Frame$Kind" "ACCEPTED" "Lcom/example/don_valley/donvalley/protocol/Frame$Kind;").before a0 Z = true := hw _ (List.mem_of_getElem? (i := 12) rfl)
theorem own_w14 {Z : State} {a0 : Array Value} (hw : ∀ d ∈ tables_1, d.before a0 Z = true) : (Jvm.Cond.fieldLink "com/example/don_valley/donvalley/protocol/KindForCodePinLaw" (25 : Nat) "com/example/don_valley/donvalley/protocol/Frame$Kind" "REFUSED" "Lcom/example/don_valley/donvalley/protocol/Frame$Kind;").before a0 Z = true := hw _ (List.mem_of_getElem? (i := 14) rfl)
theorem own_w16 {Z : State} {a0 : Array Value} (hw : ∀ d ∈ tables_1, d.before a0 Z = true) : (Jvm.Cond.fieldLink "com/example/don_valley/donvalley/protocol/KindForCodePinLaw" (28 : Nat) "com/example/don_valley/donvalley/protocol/Frame$Kind" "PUBLICATION" "Lcom/example/don_valley/donvalley/protocol/Frame$Kind;").before a0 Z = true := hw _ (List.mem_of_getElem? (i := 16) rfl)
theorem own_w18 {Z : State} {a0 : Array Value} (hw : ∀ d ∈ tables_1, d.before a0 Z = true) : (Jvm.Cond.fieldLink "com/example/don_valley/donvalley/protocol/KindForCodePinLaw" (31 : Nat) "com/example/don_valley/donvalley/protocol/Frame$Kind" "LINK" "Lcom/example/don_valley/donvalley/protocol/Frame$Kind;").before a0 Z = true := hw _ (List.mem_of_getElem? (i := 18) rfl)
theorem own_w20 {Z : State} {a0 : Array Value} (hw : ∀ d ∈ tables_1, d.before a0 Z = true) : (Jvm.Cond.fieldLink "com/example/don_valley/donvalley/protocol/KindForCodePinLaw" (34 : Nat) "com/example/don_valley/donvalley/protocol/Frame$Kind" "UNSUBSCRIBE" "Lcom/example/don_valley/donvalley/protocol/Frame$Kind;").before a0 Z = true := hw _ (List.mem_of_getElem? (i := 20) rfl)
theorem own_w22 {Z : State} {a0 : Array Value} (hw : ∀ d ∈ tables_1, d.before a0 Z = true) : (Jvm.Cond.fieldLink "com/example/don_valley/donvalley/protocol/KindForCodePinLaw" (37 : Nat) "com/example/don_valley/donvalley/protocol/Frame$Kind" "UNADVERTISE" "Lcom/example/don_valley/donvalley/protocol/Frame$Kind;").before a0 Z = true := hw _ (List.mem_of_getElem? (i := 22) rfl)
theorem own_w24 {Z : State} {a0 : Array Value} (hw : ∀ d ∈ tables_1, d.before a0 Z = true) : (Jvm.Cond.fieldLink "com/example/don_valley/donvalley/protocol/KindForCodePinLaw" (40 : Nat) "com/example/don_valley/donvalley/protocol/Frame$Kind" "STATUS" "Lcom/example/don_valley/donvalley/protocol/Frame$Kind;").before a0 Z = true := hw _ (List.mem_of_getElem? (i := 24) rfl)
theorem own_w26 {Z : State} {a0 : Array Value} (hw : ∀ d ∈ tables_1, d.before a0 Z = true) : (Jvm.Cond.fieldLink "com/example/don_valley/donvalley/protocol/KindForCodePinLaw" (43 : Nat) "com/example/don_valley/donvalley/protocol/Frame$Kind" "ADVERTISED" "Lcom/example/don_valley/donvalley/protocol/Frame$Kind;").before a0 Z = true := hw _ (List.mem_of_getElem? (i := 26) rfl)
theorem own_w28 {Z : State} {a0 : Array Value} (hw : ∀ d ∈ tables_1, d.before a0 Z = true) : (Jvm.Cond.fieldLink "com/example/don_valley/donvalley/protocol/KindForCodePinLaw" (46 : Nat) "com/example/don_valley/donvalley/protocol/Frame$Kind" "SUBSCRIBED" "Lcom/example/don_valley/donvalley/protocol/Frame$Kind;").before a0 Z = true := hw _ (List.mem_of_getElem? (i := 28) rfl)
theorem own_w30 {Z : State} {a0 : Array Value} (hw : ∀ d ∈ tables_1, d.before a0 Z = true) : (Jvm.Cond.fieldLink "com/example/don_valley/donvalley/protocol/KindForCodePinLaw" (49 : Nat) "com/example/don_valley/donvalley/protocol/Frame$Kind" "MOVE" "Lcom/example/don_valley/donvalley/protocol/Frame$Kind;").before a0 Z = true := hw _ (List.mem_of_getElem? (i := 30) rfl)
theorem own_w32 {Z : State} {a0 : Array Value} (hw : ∀ d ∈ tables_1, d.before a0 Z = true) : (Jvm.Cond.fieldLink "com/example/don_valley/donvalley/protocol/KindForCodePinLaw" (52 : Nat) "com/example/don_valley/donvalley/protocol/Frame$Kind" "MOVED" "Lcom/example/don_valley/donvalley/protocol/Frame$Kind;").before a0 Z = true := hw _ (List.mem_of_getElem? (i := 32) rfl)
theorem own_w34 {Z : State} {a0 : Array Value} (hw : ∀ d ∈ tables_1, d.before a0 Z = true) : (Jvm.Cond.fieldLink "com/example/don_valley/donvalley/protocol/KindForCodePinLaw" (55 : Nat) "com/example/don_valley/donvalley/protocol/Frame$Kind" "ARRIVE" "Lcom/example/don_valley/donvalley/protocol/Frame$Kind;").before a0 Z = true := hw _ (List.mem_of_getElem? (i := 34) rfl)
theorem own_w36 {Z : State} {a0 : Array Value} (hw : ∀ d ∈ tables_1, d.before a0 Z = true) : (Jvm.Cond.fieldLink "com/example/don_valley/donvalley/protocol/KindForCodePinLaw" (58 : Nat) "com/example/don_valley/donvalley/protocol/Frame$Kind" "TRACE_PUBLISH" "Lcom/example/don_valley/donvalley/protocol/Frame$Kind;").before a0 Z = true := hw _ (List.mem_of_getElem? (i := 36) rfl)
theorem own_w38 {Z : State} {a0 : Array Value} (hw : ∀ d ∈ tables_1, d.before a0 Z = true) : (Jvm.Cond.fieldLink "com/example/don_valley/donvalley/protocol/KindForCodePinLaw" (61 : Nat) "com/example/don_valley/donvalley/protocol/Frame$Kind" "TRACE" "Lcom/example/don_valley/donvalley/protocol/Frame$Kind;").before a0 Z = true := hw _ (List.mem_of_getElem? (i := 38) rfl)
theorem own_w40 {Z : State} {a0 : Array Value} (hw : ∀ d ∈ tables_1, d.before a0 Z = true) : (Jvm.Cond.fieldLink "com/example/don_valley/donvalley/protocol/KindForCodePinLaw" (64 : Nat) "com/example/don_valley/donvalley/protocol/Frame$Kind" "TRACED" "Lcom/example/don_valley/donvalley/protocol/Frame$Kind;").before a0 Z = true := hw _ (List.mem_of_getElem? (i := 40) rfl)
theorem own_w42 {Z : State} {a0 : Array Value} (hw : ∀ d ∈ tables_1, d.before a0 Z = true) : (Jvm.Cond.fieldLink "com/example/don_valley/donvalley/protocol/KindForCodePinLaw" (67 : Nat) "com/example/don_valley/donvalley/protocol/Frame$Kind" "PLACEMENT" "Lcom/example/don_valley/donvalley/protocol/Frame$Kind;").before a0 Z = true := hw _ (List.mem_of_getElem? (i := 42) rfl)
theorem own_w44 {Z : State} {a0 : Array Value} (hw : ∀ d ∈ tables_1, d.before a0 Z = true) : (Jvm.Cond.fieldLink "com/example/don_valley/donvalley/protocol/KindForCodePinLaw" (70 : Nat) "com/example/don_valley/donvalley/protocol/Frame$Kind" "SETTLE" "Lcom/example/don_valley/donvalley/protocol/Frame$Kind;").before a0 Z = true := hw _ (List.mem_of_getElem? (i := 44) rfl)
theorem own_w46 {Z : State} {a0 : Array Value} (hw : ∀ d ∈ tables_1, d.before a0 Z = true) : (Jvm.Cond.fieldLink "com/example/don_valley/donvalley/protocol/KindForCodePinLaw" (73 : Nat) "com/example/don_valley/donvalley/protocol/Frame$Kind" "SETTLED" "Lcom/example/don_valley/donvalley/protocol/Frame$Kind;").before a0 Z = true := hw _ (List.mem_of_getElem? (i := 46) rfl)
theorem own_w48 {Z : State} {a0 : Array Value} (hw : ∀ d ∈ tables_1, d.before a0 Z = true) : (Jvm.Cond.fieldLink "com/example/don_valley/donvalley/protocol/KindForCodePinLaw" (76 : Nat) "com/example/don_valley/donvalley/protocol/Frame$Kind" "LOAD" "Lcom/example/don_valley/donvalley/protocol/Frame$Kind;").before a0 Z = true := hw _ (List.mem_of_getElem? (i := 48) rfl)
theorem own_w50 {Z : State} {a0 : Array Value} (hw : ∀ d ∈ tables_1, d.before a0 Z = true) : (Jvm.Cond.fieldLink "com/example/don_valley/donvalley/protocol/KindForCodePinLaw" (79 : Nat) "com/example/don_valley/donvalley/protocol/Frame$Kind" "TAKING" "Lcom/example/don_valley/donvalley/protocol/Frame$Kind;").before a0 Z = true := hw _ (List.mem_of_getElem? (i := 50) rfl)
theorem own_w52 {Z : State} {a0 : Array Value} (hw : ∀ d ∈ tables_1, d.before a0 Z = true) : (Jvm.Cond.methodLink "com/example/don_valley/donvalley/protocol/KindForCodePinLaw" (82 : Nat) ({ cls := "com/example/don_valley/donvalley/protocol/Frame$Kind", name := "forCode", desc := "(B)Lcom/example/don_valley/donvalley/protocol/Frame$Kind;" } : Jvm.MethodName)).before a0 Z = true := hw _ (List.mem_of_getElem? (i := 52) rfl)
theorem own_w53 {Z : State} {a0 : Array Value} (hw : ∀ d ∈ tables_1, d.before a0 Z = true) : (Jvm.Cond.static ({ cls := "com/example/don_valley/donvalley/protocol/Frame$Kind", name := "forCode", desc := "(B)Lcom/example/don_valley/donvalley/protocol/Frame$Kind;" } : Jvm.MethodName)).before a0 Z = true := hw _ (List.mem_of_getElem? (i := 53) rfl)
theorem own_w54 {Z : State} {a0 : Array Value} (hw : ∀ d ∈ tables_1, d.before a0 Z = true) : (Jvm.Cond.code ({ cls := "com/example/don_valley/donvalley/protocol/Frame$Kind", name := "forCode", desc := "(B)Lcom/example/don_valley/donvalley/protocol/Frame$Kind;" } : Jvm.MethodName) prog_60_method_9_code (5 : Nat) (Option.some (Jvm.ClassFile.FieldType.object "com/example/don_valley/donvalley/protocol/Frame$Kind"))).before a0 Z = true := hw _ (List.mem_of_getElem? (i := 54) rfl)
theorem own_w55 {Z : State} {a0 : Array Value} (hw : ∀ d ∈ tables_1, d.before a0 Z = true) : (Jvm.Cond.fieldLink "com/example/don_valley/donvalley/protocol/Frame$Kind" (113 : Nat) "com/example/don_valley/donvalley/protocol/Frame$Kind" "KINDS" "[Lcom/example/don_valley/donvalley/protocol/Frame$Kind;").before a0 Z = true := hw _ (List.mem_of_getElem? (i := 55) rfl)
theorem own_w57 {Z : State} {a0 : Array Value} (hw : ∀ d ∈ tables_1, d.before a0 Z = true) : (Jvm.Cond.fieldLink "com/example/don_valley/donvalley/protocol/Frame$Kind" (98 : Nat) "com/example/don_valley/donvalley/protocol/Frame$Kind" "code" "B").before a0 Z = true := hw _ (List.mem_of_getElem? (i := 57) rfl)
theorem own_d1_0 : decode prog_60_method_9_code 0 = .ok (.getstatic 113, 3) := by decide +kernel
theorem own_d1_3 : decode prog_60_method_9_code 3 = .ok (.astore_n 1, 1) := by decide +kernel
theorem own_d1_4 : decode prog_60_method_9_code 4 = .ok (.aload_n 1, 1) := by decide +kernel
theorem own_d1_5 : decode prog_60_method_9_code 5 = .ok (.arraylength, 1) := by decide +kernel
theorem own_d1_6 : decode prog_60_method_9_code 6 = .ok (.istore_n 2, 1) := by decide +kernel
theorem own_d1_7 : decode prog_60_method_9_code 7 = .ok (.iconst 0, 1) := by decide +kernel
theorem own_d1_8 : decode prog_60_method_9_code 8 = .ok (.istore_n 3, 1) := by decide +kernel
theorem own_d1_9 : decode prog_60_method_9_code 9 = .ok (.iload_n 3, 1) := by decide +kernel
theorem own_d1_10 : decode prog_60_method_9_code 10 = .ok (.iload_n 2, 1) := by decide +kernel
theorem own_d1_11 : decode prog_60_method_9_code 11 = .ok (.if_icmp .ge 26, 3) := by decide +kernel
theorem own_d1_14 : decode prog_60_method_9_code 14 = .ok (.aload_n 1, 1) := by decide +kernel
theorem own_d1_15 : decode prog_60_method_9_code 15 = .ok (.iload_n 3, 1) := by decide +kernel
theorem own_d1_16 : decode prog_60_method_9_code 16 = .ok (.aaload, 1) := by decide +kernel
theorem own_d1_17 : decode prog_60_method_9_code 17 = .ok (.astore 4, 2) := by decide +kernel
theorem own_d1_19 : decode prog_60_method_9_code 19 = .ok (.aload 4, 2) := by decide +kernel
theorem own_d1_21 : decode prog_60_method_9_code 21 = .ok (.getfield 98, 3) := by decide +kernel
theorem own_d1_24 : decode prog_60_method_9_code 24 = .ok (.iload_n 0, 1) := by decide +kernel
theorem own_d1_25 : decode prog_60_method_9_code 25 = .ok (.if_icmp .ne 6, 3) := by decide +kernel
theorem own_d1_28 : decode prog_60_method_9_code 28 = .ok (.aload 4, 2) := by decide +kernel
theorem own_d1_30 : decode prog_60_method_9_code 30 = .ok (.areturn, 1) := by decide +kernel
theorem own_d1_31 : decode prog_60_method_9_code 31 = .ok (.iinc 3 1, 3) := by decide +kernel
theorem own_d1_34 : decode prog_60_method_9_code 34 = .ok (.goto (-25), 3) := by decide +kernel
theorem own_d1_37 : decode prog_60_method_9_code 37 = .ok (.aconst_null, 1) := by decide +kernel
theorem own_d1_38 : decode prog_60_method_9_code 38 = .ok (.areturn, 1) := by decide +kernel
theorem own_pn0 : plainName "com/example/don_valley/donvalley/protocol/Frame$Kind" = true := by first | (simp [plainName, overriddenIn]; done) | decide +kernel
theorem own_pn1 : plainName "com/example/don_valley/donvalley/protocol/KindForCodePinLaw" = true := by first | (simp [plainName, overriddenIn]; done) | decide +kernel
theorem own_pd0 : parseMethodDescriptor "(B)Lcom/example/don_valley/donvalley/protocol/Frame$Kind;" = some ⟨[.byte], some (.object "com/example/don_valley/donvalley/protocol/Frame$Kind")⟩ := by decide +kernel
theorem own_lt {a b : Int32} {k : Int} (hb : b.toInt = k) : a < b ↔ a.toInt < k := by rw [Int32.lt_iff_toInt_lt, hb]
theorem own_gt {a b : Int32} {k : Int} (ha : a.toInt = k) : a < b ↔ k < b.toInt := by rw [Int32.lt_iff_toInt_lt, ha]
theorem own_eq {a b : Int32} {k : Int} (hb : b.toInt = k) : a = b ↔ a.toInt = k := by rw [← Int32.toInt_inj, hb]
theorem own_lt_of {a b : Int32} {k : Int} (hb : b.toInt = k) (h : a.toInt < k) : a < b := (own_lt hb).mpr h
theorem own_nlt_of {a b : Int32} {k : Int} (hb : b.toInt = k) (h : k ≤ a.toInt) : ¬ a < b := fun q => by have := (own_lt hb).mp q; omega
theorem own_gt_of {a b : Int32} {k : Int} (ha : a.toInt = k) (h : k < b.toInt) : a < b := (own_gt ha).mpr h
theorem own_ngt_of {a b : Int32} {k : Int} (ha : a.toInt = k) (h : b.toInt ≤ k) : ¬ a < b := fun q => by have := (own_gt ha).mp q; omega
theorem own_eq_of {a b : Int32} {k : Int} (hb : b.toInt = k) (h : a.toInt = k) : a = b := (own_eq hb).mpr h
theorem own_ne_of {a b : Int32} {k : Int} (hb : b.toInt = k) (h : a.toInt ≠ k) : ¬ a = b := fun q => h ((own_eq hb).mp q)
theorem own_arr_keep {Z : State} {h h' : Heap} {a : Addr} {c : Cell} {ty : FieldType} (A : Arr Z h a c ty) (K : Keep h h' []) : Arr Z h' a c ty := ⟨K.2.1 a c A.1 nin0, A.2⟩
theorem own_sta0 {Z : State} {h h' : Heap} {C n d : String} {v : Value} (F : Sta Z h C n d v) (K : Keep h h' []) : Sta Z h' C n d v := by
  obtain ⟨cf, i, k, f, st, cell, h1, h2, h3, h4, h5, h6, h7⟩ := F
  exact ⟨cf, i, k, f, st, cell, h1, h2, h3, h4, K.2.1 st cell h5 nin0, h6, h7⟩
theorem own_eqint {t : Term} {n : Int32} {args : Array Value} {s : State} (h : (Jvm.Cond.eq t (.int n)).value args s none s [] = some true) : t.eval args s none [] s = some (.int n) := by
  obtain ⟨a, b, ha, hb, k1, k2⟩ := cmp_v (Or.inl h)
  have hb' : (Term.int n).eval args s none [] s = some (.int n) := rfl
  cases hb.symm.trans hb'
  obtain ⟨z, rfl⟩ := k2
  have : z = n := by simpa [Cond.value, ha, hb'] using h
  rw [ha, this]
theorem own_exa {args : Array Value} {s : State} {t : Term} {C : String} (h1 : (Jvm.Cond.exactly t C).value args s none s [] = some true) : ∃ x, t.eval args s none [] s = some (.ref x) ∧ Exa s s.heap x C := by
  obtain ⟨x, hx⟩ := exa_v h1
  exact ⟨x, hx, Exa.start hx h1⟩
theorem own_fldint {args : Array Value} {s : State} {t : Term} {C n d : String} {x : Addr} {k : Int32} (hx : t.eval args s none [] s = some (.ref x)) (h2 : (Jvm.Cond.eq (.field t C n d) (.int k)).value args s none s [] = some true) : Fld s s.heap x C n d (.int k) :=
  Fld.start ((fld_at hx).symm.trans (own_eqint h2))
theorem own_arr {args : Array Value} {s : State} {t : Term} {ty : FieldType} {n : Int32} (h1 : (Jvm.Cond.arrayOf t ty).value args s none s [] = some true) (h2 : (Jvm.Cond.eq (.length t) (.int n)).value args s none s [] = some true) :
    ∃ a cl, t.eval args s none [] s = some (.ref a) ∧ Arr s s.heap a cl ty ∧ cl.slots.size < 2 ^ 31 ∧ cl.slots.size.toInt32 = n := by
  obtain ⟨a, ha⟩ := arr_v h1
  obtain ⟨cl, A⟩ := Arr.start ha h1
  have e := own_eqint h2
  have hA : s.arrayAt? a = some cl := A.fin (Vm.Alike.refl _)
  simp only [Term.eval, ha, hA, Option.bind_eq_bind, Option.bind_some] at e
  split at e
  · rename_i q
    refine ⟨a, cl, ha, A, q, ?_⟩
    simpa using e
  · cases e
theorem own_elem {args : Array Value} {s : State} {t : Term} {ty : FieldType} {a : Addr} {cl : Cell} {j v : Int32} (ht : t.eval args s none [] s = some (.ref a)) (A : Arr s s.heap a cl ty) (h : (Jvm.Cond.eq (.elem t (.int j)) (.int v)).value args s none s [] = some true) : cl.slots[j.toNatClampNeg]? = some (.int v) :=
  (elem_in (own_eqint h) ht rfl A.1).2
theorem own_eqref {args : Array Value} {s : State} {t u : Term} {x : Addr} (hu : u.eval args s none [] s = some (.ref x)) (h : (Jvm.Cond.eq t u).value args s none s [] = some true) : t.eval args s none [] s = some (.ref x) := by
  obtain ⟨a, b, ha, hb, k1, k2⟩ := cmp_v (Or.inl h)
  cases hb.symm.trans hu
  have q : a.isRef = true := by cases a <;> simp [Kin, Value.isRef] at k1 k2 ⊢
  rcases ref_cases q with rfl | ⟨y, rfl⟩
  · simp [Cond.value, ha, hu] at h
  · have : y = x := by simpa [Cond.value, ha, hu] using h
    rw [ha, this]
theorem own_elemR {args : Array Value} {s : State} {t u : Term} {ty : FieldType} {a x : Addr} {cl : Cell} {j : Int32} (ht : t.eval args s none [] s = some (.ref a)) (A : Arr s s.heap a cl ty) (hu : u.eval args s none [] s = some (.ref x)) (h : (Jvm.Cond.eq (.elem t (.int j)) u).value args s none s [] = some true) : cl.slots[j.toNatClampNeg]? = some (.ref x) :=
  (elem_in (own_eqref hu h) ht rfl A.1).2
def own_v (b : Int32) (s1 s2 s3 s4 s5 s6 s7 s8 s9 s10 s11 s12 s13 s14 s15 s16 s17 s18 s19 s20 s21 s22 s23 s24 : Addr) : Value := if b = (1 : Int32) then .ref s1 else if b = (2 : Int32) then .ref s2 else if b = (3 : Int32) then .ref s3 else if b = (4 : Int32) then .ref s4 else if b = (5 : Int32) then .ref s5 else if b = (6 : Int32) then .ref s6 else if b = (7 : Int32) then .ref s7 else if b = (8 : Int32) then .ref s8 else if b = (9 : Int32) then .ref s9 else if b = (10 : Int32) then .ref s10 else if b = (11 : Int32) then .ref s11 else if b = (12 : Int32) then .ref s12 else if b = (13 : Int32) then .ref s13 else if b = (14 : Int32) then .ref s14 else if b = (15 : Int32) then .ref s15 else if b = (16 : Int32) then .ref s16 else if b = (17 : Int32) then .ref s17 else if b = (18 : Int32) then .ref s18 else if b = (19 : Int32) then .ref s19 else if b = (20 : Int32) then .ref s20 else if b = (21 : Int32) then .ref s21 else if b = (22 : Int32) then .ref s22 else if b = (23 : Int32) then .ref s23 else if b = (24 : Int32) then .ref s24 else .null
theorem own_ways (b : Int32) : b = (1 : Int32) ∨ b = (2 : Int32) ∨ b = (3 : Int32) ∨ b = (4 : Int32) ∨ b = (5 : Int32) ∨ b = (6 : Int32) ∨ b = (7 : Int32) ∨ b = (8 : Int32) ∨ b = (9 : Int32) ∨ b = (10 : Int32) ∨ b = (11 : Int32) ∨ b = (12 : Int32) ∨ b = (13 : Int32) ∨ b = (14 : Int32) ∨ b = (15 : Int32) ∨ b = (16 : Int32) ∨ b = (17 : Int32) ∨ b = (18 : Int32) ∨ b = (19 : Int32) ∨ b = (20 : Int32) ∨ b = (21 : Int32) ∨ b = (22 : Int32) ∨ b = (23 : Int32) ∨ b = (24 : Int32) ∨ (b.toInt < 1 ∨ 24 < b.toInt) := by
  rw [own_eq (b := 1) (k := 1) rfl, own_eq (b := 2) (k := 2) rfl, own_eq (b := 3) (k := 3) rfl, own_eq (b := 4) (k := 4) rfl, own_eq (b := 5) (k := 5) rfl, own_eq (b := 6) (k := 6) rfl, own_eq (b := 7) (k := 7) rfl, own_eq (b := 8) (k := 8) rfl, own_eq (b := 9) (k := 9) rfl, own_eq (b := 10) (k := 10) rfl, own_eq (b := 11) (k := 11) rfl, own_eq (b := 12) (k := 12) rfl, own_eq (b := 13) (k := 13) rfl, own_eq (b := 14) (k := 14) rfl, own_eq (b := 15) (k := 15) rfl, own_eq (b := 16) (k := 16) rfl, own_eq (b := 17) (k := 17) rfl, own_eq (b := 18) (k := 18) rfl, own_eq (b := 19) (k := 19) rfl, own_eq (b := 20) (k := 20) rfl, own_eq (b := 21) (k := 21) rfl, own_eq (b := 22) (k := 22) rfl, own_eq (b := 23) (k := 23) rfl, own_eq (b := 24) (k := 24) rfl]
  omega
theorem own_none {b : Int32} {s1 s2 s3 s4 s5 s6 s7 s8 s9 s10 s11 s12 s13 s14 s15 s16 s17 s18 s19 s20 s21 s22 s23 s24 : Addr} (h : b.toInt < 1 ∨ 24 < b.toInt) : own_v b s1 s2 s3 s4 s5 s6 s7 s8 s9 s10 s11 s12 s13 s14 s15 s16 s17 s18 s19 s20 s21 s22 s23 s24 = .null := by
  unfold own_v
  rw [if_neg (own_ne_of (b := (1 : Int32)) (k := 1) rfl (by omega)), if_neg (own_ne_of (b := (2 : Int32)) (k := 2) rfl (by omega)), if_neg (own_ne_of (b := (3 : Int32)) (k := 3) rfl (by omega)), if_neg (own_ne_of (b := (4 : Int32)) (k := 4) rfl (by omega)), if_neg (own_ne_of (b := (5 : Int32)) (k := 5) rfl (by omega)), if_neg (own_ne_of (b := (6 : Int32)) (k := 6) rfl (by omega)), if_neg (own_ne_of (b := (7 : Int32)) (k := 7) rfl (by omega)), if_neg (own_ne_of (b := (8 : Int32)) (k := 8) rfl (by omega)), if_neg (own_ne_of (b := (9 : Int32)) (k := 9) rfl (by omega)), if_neg (own_ne_of (b := (10 : Int32)) (k := 10) rfl (by omega)), if_neg (own_ne_of (b := (11 : Int32)) (k := 11) rfl (by omega)), if_neg (own_ne_of (b := (12 : Int32)) (k := 12) rfl (by omega)), if_neg (own_ne_of (b := (13 : Int32)) (k := 13) rfl (by omega)), if_neg (own_ne_of (b := (14 : Int32)) (k := 14) rfl (by omega)), if_neg (own_ne_of (b := (15 : Int32)) (k := 15) rfl (by omega)), if_neg (own_ne_of (b := (16 : Int32)) (k := 16) rfl (by omega)), if_neg (own_ne_of (b := (17 : Int32)) (k := 17) rfl (by omega)), if_neg (own_ne_of (b := (18 : Int32)) (k := 18) rfl (by omega)), if_neg (own_ne_of (b := (19 : Int32)) (k := 19) rfl (by omega)), if_neg (own_ne_of (b := (20 : Int32)) (k := 20) rfl (by omega)), if_neg (own_ne_of (b := (21 : Int32)) (k := 21) rfl (by omega)), if_neg (own_ne_of (b := (22 : Int32)) (k := 22) rfl (by omega)), if_neg (own_ne_of (b := (23 : Int32)) (k := 23) rfl (by omega)), if_neg (own_ne_of (b := (24 : Int32)) (k := 24) rfl (by omega))]
def Qown_for (Z : State) (p1 : Int32) (ka : Addr) (kk : ClassId) (s1 s2 s3 s4 s5 s6 s7 s8 s9 s10 s11 s12 s13 s14 s15 s16 s17 s18 s19 s20 s21 s22 s23 s24 : Addr) (h0 : Heap) (n0 : Nat) (v : Option Value) (h : Heap) (L : List Loc) : Prop := v = some (own_v p1 s1 s2 s3 s4 s5 s6 s7 s8 s9 s10 s11 s12 s13 s14 s15 s16 s17 s18 s19 s20 s21 s22 s23 s24) ∧ Fr n0 L ∧ h = h0
set_option maxRecDepth 65536 in
set_option maxHeartbeats 40000000 in
theorem own_for (l : Launch) (Z : State) (a0 : Array Value) (hw : ∀ d ∈ tables_1, d.before a0 Z = true) (ws : List Jvm.Cond) (p1 : Int32) (ka : Addr) (kk : ClassId) (s1 s2 s3 s4 s5 s6 s7 s8 s9 s10 s11 s12 s13 s14 s15 s16 s17 s18 s19 s20 s21 s22 s23 s24 : Addr) (h0 : Heap) (n0 : Nat) (Z0 : n0 ≤ h0.size) (SK : Sta Z h0 "com/example/don_valley/donvalley/protocol/Frame$Kind" "KINDS" "[Lcom/example/don_valley/donvalley/protocol/Frame$Kind;" (.ref ka)) (VK : Arv Z h0 ka kk (.object "com/example/don_valley/donvalley/protocol/Frame$Kind") (24 : Int32) [(.ref s1), (.ref s2), (.ref s3), (.ref s4), (.ref s5), (.ref s6), (.ref s7), (.ref s8), (.ref s9), (.ref s10), (.ref s11), (.ref s12), (.ref s13), (.ref s14), (.ref s15), (.ref s16), (.ref s17), (.ref s18), (.ref s19), (.ref s20), (.ref s21), (.ref s22), (.ref s23), (.ref s24)] .null) (F1 : Fld Z h0 s1 "com/example/don_valley/donvalley/protocol/Frame$Kind" "code" "B" (.int (1 : Int32))) (F2 : Fld Z h0 s2 "com/example/don_valley/donvalley/protocol/Frame$Kind" "code" "B" (.int (2 : Int32))) (F3 : Fld Z h0 s3 "com/example/don_valley/donvalley/protocol/Frame$Kind" "code" "B" (.int (3 : Int32))) (F4 : Fld Z h0 s4 "com/example/don_valley/donvalley/protocol/Frame$Kind" "code" "B" (.int (4 : Int32))) (F5 : Fld Z h0 s5 "com/example/don_valley/donvalley/protocol/Frame$Kind" "code" "B" (.int (5 : Int32))) (F6 : Fld Z h0 s6 "com/example/don_valley/donvalley/protocol/Frame$Kind" "code" "B" (.int (6 : Int32))) (F7 : Fld Z h0 s7 "com/example/don_valley/donvalley/protocol/Frame$Kind" "code" "B" (.int (7 : Int32))) (F8 : Fld Z h0 s8 "com/example/don_valley/donvalley/protocol/Frame$Kind" "code" "B" (.int (8 : Int32))) (F9 : Fld Z h0 s9 "com/example/don_valley/donvalley/protocol/Frame$Kind" "code" "B" (.int (9 : Int32))) (F10 : Fld Z h0 s10 "com/example/don_valley/donvalley/protocol/Frame$Kind" "code" "B" (.int (10 : Int32))) (F11 : Fld Z h0 s11 "com/example/don_valley/donvalley/protocol/Frame$Kind" "code" "B" (.int (11 : Int32))) (F12 : Fld Z h0 s12 "com/example/don_valley/donvalley/protocol/Frame$Kind" "code" "B" (.int (12 : Int32))) (F13 : Fld Z h0 s13 "com/example/don_valley/donvalley/protocol/Frame$Kind" "code" "B" (.int (13 : Int32))) (F14 : Fld Z h0 s14 "com/example/don_valley/donvalley/protocol/Frame$Kind" "code" "B" (.int (14 : Int32))) (F15 : Fld Z h0 s15 "com/example/don_valley/donvalley/protocol/Frame$Kind" "code" "B" (.int (15 : Int32))) (F16 : Fld Z h0 s16 "com/example/don_valley/donvalley/protocol/Frame$Kind" "code" "B" (.int (16 : Int32))) (F17 : Fld Z h0 s17 "com/example/don_valley/donvalley/protocol/Frame$Kind" "code" "B" (.int (17 : Int32))) (F18 : Fld Z h0 s18 "com/example/don_valley/donvalley/protocol/Frame$Kind" "code" "B" (.int (18 : Int32))) (F19 : Fld Z h0 s19 "com/example/don_valley/donvalley/protocol/Frame$Kind" "code" "B" (.int (19 : Int32))) (F20 : Fld Z h0 s20 "com/example/don_valley/donvalley/protocol/Frame$Kind" "code" "B" (.int (20 : Int32))) (F21 : Fld Z h0 s21 "com/example/don_valley/donvalley/protocol/Frame$Kind" "code" "B" (.int (21 : Int32))) (F22 : Fld Z h0 s22 "com/example/don_valley/donvalley/protocol/Frame$Kind" "code" "B" (.int (22 : Int32))) (F23 : Fld Z h0 s23 "com/example/don_valley/donvalley/protocol/Frame$Kind" "code" "B" (.int (23 : Int32))) (F24 : Fld Z h0 s24 "com/example/don_valley/donvalley/protocol/Frame$Kind" "code" "B" (.int (24 : Int32))) :
    MetFree l own_m0 (head1 (Jvm.Cond.code own_m0 prog_60_method_9_code 5 (some (.object "com/example/don_valley/donvalley/protocol/Frame$Kind")) :: ws) ({ frames := 0, cells := 0, slots := 0, locals := 0 } : Room)) (fun a U => a = #[(.int p1)] ∧ Z.Warmed39 U.vm ∧ U.heap = h0) (fun _ _ _ _ _ => True) (fun _ U o U' => ∃ v L, o = .returned v ∧ Qown_for Z p1 ka kk s1 s2 s3 s4 s5 s6 s7 s8 s9 s10 s11 s12 s13 s14 s15 s16 s17 s18 s19 s20 s21 s22 s23 s24 h0 n0 v U'.heap L ∧ FrameEnd U o U' L ({ frames := 0, cells := 0, slots := 0, locals := 0 } : Room).cells ({ frames := 0, cells := 0, slots := 0, locals := 0 } : Room).slots) := by
  refine MetFree.of_bodySF (plainFor_of_name own_pn0) hisR ?_
  intro p e s m args below meth c s₁ Bd hml0 hP hK
  obtain ⟨rfl, hZ, hh⟩ := hP
  have hx := Bd.exec
  have hby := Bd.bytes
  have hml : c.maxLocals = 5 := hml0
  have hown : s.vm.findClass "com/example/don_valley/donvalley/protocol/Frame$Kind" = some m.cls := by have q := findClass_of_methodNamed Bd.named; exact q
  have hnm := (name_of_methodNamed Bd.named Bd.method).1
  have X0 : Stand p l e ({ frames := 0, cells := 0, slots := 0, locals := 0 } : Room) s m #[(.int p1)] below meth c s₁ [] 0 0 := Stand.of_body Bd
  have e0 : s₁.heap = h0 := by rw [← hh, Bd.state]; rfl
  have N0 := Fr.nil n0
  have pre0 : ∀ t, Steps p.tables e below (s₁.setTop (mkF m 0 #[.val (.int p1), .unset, .unset, .unset, .unset] [])) t → Steps p.tables e below (s₁.setTop (entryFrame m #[(.int p1)] 5)) t := fun t k => castTop (by first | (simp [entryFrame, mkF, argsToLocals, Value.category, maxLocals]; done) | rfl) k
  obtain ⟨T101, X101, e101, st101⟩ := getS2 X0 hx hZ hown (host := "") (Or.inl (own_w55 hw)) Via.refl e0 SK (g := (mkF m 0 #[.val (.int p1), .unset, .unset, .unset, .unset] [])) rfl (hb hby own_d1_0)
  obtain ⟨cl102, Ar102, Aq102, As102, An102, Ah102, Ag102⟩ := id VK
  obtain ⟨cl103, Ar103, Aq103, As103, An103, Ah103, Ag103⟩ := id VK
  have hin103 : ¬ ((0 : Int32) < 0 ∨ cl103.slots.size ≤ ((0 : Int32)).toNatClampNeg) := inb_of As103 ⟨by decide, by decide⟩
  obtain ⟨T104, X104, e104, st104⟩ := getF X101 hx hZ hown (host := "") (Or.inl (own_w57 hw)) Via.refl e101 F1 (g := (mkF m 21 #[.val (.int p1), .val (.ref ka), .val (.int (24 : Int32)), .val (.int (0 : Int32)), .val (.ref s1)] [(.ref s1)])) rfl rfl (hb hby own_d1_21)
  have pre105 : ∀ t, Steps p.tables e below (T104.setTop (mkF m 25 #[.val (.int p1), .val (.ref ka), .val (.int (24 : Int32)), .val (.int (0 : Int32)), .val (.ref s1)] [(.int p1), (.int (1 : Int32))])) t → Steps p.tables e below (s₁.setTop (entryFrame m #[(.int p1)] 5)) t := fun t kt => pre0 t (by
    show Steps _ _ _ (s₁.setTop (mkF m 0 #[.val (.int p1), .unset, .unset, .unset, .unset] [])) _
    refine st101 _ ?_
    refine XS.astoreN X101.here hx rfl (hb hby own_d1_3) rfl rfl (l' := #[.val (.int p1), .val (.ref ka), .unset, .unset, .unset]) rfl ?_
    refine XS.aloadN X101.here hx rfl (hb hby own_d1_4) rfl rfl ?_
    refine X101.arraylength hx (by rw [e101]; exact Ar102.1) (State.isArrayOf_alike hZ.alike Ar102.2.1) (g := (mkF m 5 #[.val (.int p1), .val (.ref ka), .unset, .unset, .unset] [(.ref ka)])) rfl rfl (hb hby own_d1_5) _ ?_
    rw [len_of As102 An102]
    show Steps _ _ _ (T101.setTop (mkF m 6 #[.val (.int p1), .val (.ref ka), .unset, .unset, .unset] [(.int (24 : Int32))])) _
    refine XS.istoreN X101.here hx rfl (hb hby own_d1_6) rfl (l' := #[.val (.int p1), .val (.ref ka), .val (.int (24 : Int32)), .unset, .unset]) rfl ?_
    refine XS.iconst X101.here hx rfl (hb hby own_d1_7) ?_
    refine XS.istoreN X101.here hx rfl (hb hby own_d1_8) rfl (l' := #[.val (.int p1), .val (.ref ka), .val (.int (24 : Int32)), .val (.int (0 : Int32)), .unset]) rfl ?_
    refine XS.iloadN X101.here hx rfl (hb hby own_d1_9) rfl ?_
    show Steps _ _ _ (T101.setTop (mkF m 10 #[.val (.int p1), .val (.ref ka), .val (.int (24 : Int32)), .val (.int (0 : Int32)), .unset] [(.int (0 : Int32))])) _
    refine XS.iloadN X101.here hx rfl (hb hby own_d1_10) rfl ?_
    refine XS.icmpNo X101.here hx rfl (hb hby own_d1_11) rfl (tlt (by decide : (0 : Int32) < (24 : Int32))).2.1 ?_
    refine XS.aloadN X101.here hx rfl (hb hby own_d1_14) rfl rfl ?_
    refine XS.iloadN X101.here hx rfl (hb hby own_d1_15) rfl ?_
    show Steps _ _ _ (T101.setTop (mkF m 16 #[.val (.int p1), .val (.ref ka), .val (.int (24 : Int32)), .val (.int (0 : Int32)), .unset] [(.int (0 : Int32)), (.ref ka)])) _
    refine X101.aaload hx (j := (0 : Int32)) (v := (.ref s1)) (by rw [e101]; exact Ar103.1) (State.isArrayOf_alike hZ.alike Ar103.2.1) rfl Ar103.2.2 hin103 (Ah103.at hin103 rfl) (g := (mkF m 16 #[.val (.int p1), .val (.ref ka), .val (.int (24 : Int32)), .val (.int (0 : Int32)), .unset] [(.int (0 : Int32)), (.ref ka)])) rfl rfl (hb hby own_d1_16) _ ?_
    refine XS.astore X101.here hx rfl (hb hby own_d1_17) rfl rfl (l' := #[.val (.int p1), .val (.ref ka), .val (.int (24 : Int32)), .val (.int (0 : Int32)), .val (.ref s1)]) rfl ?_
    refine XS.aload X101.here hx rfl (hb hby own_d1_19) rfl rfl ?_
    refine st104 _ ?_
    show Steps _ _ _ (T104.setTop (mkF m 24 #[.val (.int p1), .val (.ref ka), .val (.int (24 : Int32)), .val (.int (0 : Int32)), .val (.ref s1)] [(.int (1 : Int32))])) _
    refine XS.iloadN X104.here hx rfl (hb hby own_d1_24) rfl ?_
    exact kt)
  by_cases hc25_106 : (1 : Int32) = p1
  · skip
    obtain ⟨fs, hr, hrun, hended, hW, hsame⟩ := X104.leave (v := some (.ref s1)) (fun h => by rw [Bd.returns] at h; cases h)
    refine ⟨_, _, pre105 _ ?_, hrun, hended, _, _, rfl, ?_, ⟨_, rfl⟩, hW, hsame.mono (by decide) (by decide)⟩
    · show Steps _ _ _ (T104.setTop (mkF m 25 #[.val (.int p1), .val (.ref ka), .val (.int (24 : Int32)), .val (.int (0 : Int32)), .val (.ref s1)] [(.int p1), (.int (1 : Int32))])) _
      refine XS.icmpNo X104.here hx rfl (hb hby own_d1_25) rfl (teq hc25_106).2 ?_
      refine XS.aload X104.here hx rfl (hb hby own_d1_28) rfl rfl ?_
      show Steps _ _ _ (T104.setTop (mkF m 30 #[.val (.int p1), .val (.ref ka), .val (.int (24 : Int32)), .val (.int (0 : Int32)), .val (.ref s1)] [(.ref s1)])) _
      jvm_step X104.here [X104.here.top, hx, (hb hby own_d1_30), X104.method', Bd.returns, Value.isRef, FieldType.isReference]
      first | (intro acts; rw [hr _ acts rfl rfl rfl]) | rw [hr _ _ rfl rfl rfl]
      exact Steps.refl _
    · show Qown_for Z p1 ka kk s1 s2 s3 s4 s5 s6 s7 s8 s9 s10 s11 s12 s13 s14 s15 s16 s17 s18 s19 s20 s21 s22 s23 s24 h0 n0 _ T104.heap _
      rw [e104]
      exact ⟨congrArg some (by rw [← hc25_106]; rfl), N0, rfl⟩
  · skip
    obtain ⟨cl107, Ar107, Aq107, As107, An107, Ah107, Ag107⟩ := id VK
    have hin107 : ¬ ((1 : Int32) < 0 ∨ cl107.slots.size ≤ ((1 : Int32)).toNatClampNeg) := inb_of As107 ⟨by decide, by decide⟩
    obtain ⟨T108, X108, e108, st108⟩ := getF X104 hx hZ hown (host := "") (Or.inl (own_w57 hw)) Via.refl e104 F2 (g := (mkF m 21 #[.val (.int p1), .val (.ref ka), .val (.int (24 : Int32)), .val (.int (1 : Int32)), .val (.ref s2)] [(.ref s2)])) rfl rfl (hb hby own_d1_21)
    have pre109 : ∀ t, Steps p.tables e below (T108.setTop (mkF m 25 #[.val (.int p1), .val (.ref ka), .val (.int (24 : Int32)), .val (.int (1 : Int32)), .val (.ref s2)] [(.int p1), (.int (2 : Int32))])) t → Steps p.tables e below (s₁.setTop (entryFrame m #[(.int p1)] 5)) t := fun t kt => pre105 t (by
      show Steps _ _ _ (T104.setTop (mkF m 25 #[.val (.int p1), .val (.ref ka), .val (.int (24 : Int32)), .val (.int (0 : Int32)), .val (.ref s1)] [(.int p1), (.int (1 : Int32))])) _
      refine XS.icmpYes X104.here hx rfl (pc0 := 25) (pc' := 31) rfl (hb hby own_d1_25) rfl (feq hc25_106).2 (by decide) (by decide) ?_
      refine XS.iinc X104.here hx rfl (hb hby own_d1_31) rfl (l' := #[.val (.int p1), .val (.ref ka), .val (.int (24 : Int32)), .val (.int (1 : Int32)), .val (.ref s1)]) rfl ?_
      refine XS.goto X104.here hx rfl (pc0 := 34) (pc' := 9) rfl (hb hby own_d1_34) (by decide) (by decide) ?_
      refine XS.iloadN X104.here hx rfl (hb hby own_d1_9) rfl ?_
      show Steps _ _ _ (T104.setTop (mkF m 10 #[.val (.int p1), .val (.ref ka), .val (.int (24 : Int32)), .val (.int (1 : Int32)), .val (.ref s1)] [(.int (1 : Int32))])) _
      refine XS.iloadN X104.here hx rfl (hb hby own_d1_10) rfl ?_
      refine XS.icmpNo X104.here hx rfl (hb hby own_d1_11) rfl (tlt (by decide : (1 : Int32) < (24 : Int32))).2.1 ?_
      refine XS.aloadN X104.here hx rfl (hb hby own_d1_14) rfl rfl ?_
      refine XS.iloadN X104.here hx rfl (hb hby own_d1_15) rfl ?_
      show Steps _ _ _ (T104.setTop (mkF m 16 #[.val (.int p1), .val (.ref ka), .val (.int (24 : Int32)), .val (.int (1 : Int32)), .val (.ref s1)] [(.int (1 : Int32)), (.ref ka)])) _
      refine X104.aaload hx (j := (1 : Int32)) (v := (.ref s2)) (by rw [e104]; exact Ar107.1) (State.isArrayOf_alike hZ.alike Ar107.2.1) rfl Ar107.2.2 hin107 (Ah107.at hin107 rfl) (g := (mkF m 16 #[.val (.int p1), .val (.ref ka), .val (.int (24 : Int32)), .val (.int (1 : Int32)), .val (.ref s1)] [(.int (1 : Int32)), (.ref ka)])) rfl rfl (hb hby own_d1_16) _ ?_
      refine XS.astore X104.here hx rfl (hb hby own_d1_17) rfl rfl (l' := #[.val (.int p1), .val (.ref ka), .val (.int (24 : Int32)), .val (.int (1 : Int32)), .val (.ref s2)]) rfl ?_
      refine XS.aload X104.here hx rfl (hb hby own_d1_19) rfl rfl ?_
      refine st108 _ ?_
      show Steps _ _ _ (T108.setTop (mkF m 24 #[.val (.int p1), .val (.ref ka), .val (.int (24 : Int32)), .val (.int (1 : Int32)), .val (.ref s2)] [(.int (2 : Int32))])) _
      refine XS.iloadN X108.here hx rfl (hb hby own_d1_24) rfl ?_
      exact kt)
    by_cases hc25_110 : (2 : Int32) = p1
    · skip
      obtain ⟨fs, hr, hrun, hended, hW, hsame⟩ := X108.leave (v := some (.ref s2)) (fun h => by rw [Bd.returns] at h; cases h)
      refine ⟨_, _, pre109 _ ?_, hrun, hended, _, _, rfl, ?_, ⟨_, rfl⟩, hW, hsame.mono (by decide) (by decide)⟩
      · show Steps _ _ _ (T108.setTop (mkF m 25 #[.val (.int p1), .val (.ref ka), .val (.int (24 : Int32)), .val (.int (1 : Int32)), .val (.ref s2)] [(.int p1), (.int (2 : Int32))])) _
        refine XS.icmpNo X108.here hx rfl (hb hby own_d1_25) rfl (teq hc25_110).2 ?_
        refine XS.aload X108.here hx rfl (hb hby own_d1_28) rfl rfl ?_
        show Steps _ _ _ (T108.setTop (mkF m 30 #[.val (.int p1), .val (.ref ka), .val (.int (24 : Int32)), .val (.int (1 : Int32)), .val (.ref s2)] [(.ref s2)])) _
        jvm_step X108.here [X108.here.top, hx, (hb hby own_d1_30), X108.method', Bd.returns, Value.isRef, FieldType.isReference]
        first | (intro acts; rw [hr _ acts rfl rfl rfl]) | rw [hr _ _ rfl rfl rfl]
        exact Steps.refl _
      · show Qown_for Z p1 ka kk s1 s2 s3 s4 s5 s6 s7 s8 s9 s10 s11 s12 s13 s14 s15 s16 s17 s18 s19 s20 s21 s22 s23 s24 h0 n0 _ T108.heap _
        rw [e108]
        exact ⟨congrArg some (by rw [← hc25_110]; rfl), N0, rfl⟩
    · skip
      obtain ⟨cl111, Ar111, Aq111, As111, An111, Ah111, Ag111⟩ := id VK
      have hin111 : ¬ ((2 : Int32) < 0 ∨ cl111.slots.size ≤ ((2 : Int32)).toNatClampNeg) := inb_of As111 ⟨by decide, by decide⟩
      obtain ⟨T112, X112, e112, st112⟩ := getF X108 hx hZ hown (host := "") (Or.inl (own_w57 hw)) Via.refl e108 F3 (g := (mkF m 21 #[.val (.int p1), .val (.ref ka), .val (.int (24 : Int32)), .val (.int (2 : Int32)), .val (.ref s3)] [(.ref s3)])) rfl rfl (hb hby own_d1_21)
      have pre113 : ∀ t, Steps p.tables e below (T112.setTop (mkF m 25 #[.val (.int p1), .val (.ref ka), .val (.int (24 : Int32)), .val (.int (2 : Int32)), .val (.ref s3)] [(.int p1), (.int (3 : Int32))])) t → Steps p.tables e below (s₁.setTop (entryFrame m #[(.int p1)] 5)) t := fun t kt => pre109 t (by
        show Steps _ _ _ (T108.setTop (mkF m 25 #[.val (.int p1), .val (.ref ka), .val (.int (24 : Int32)), .val (.int (1 : Int32)), .val (.ref s2)] [(.int p1), (.int (2 : Int32))])) _
        refine XS.icmpYes X108.here hx rfl (pc0 := 25) (pc' := 31) rfl (hb hby own_d1_25) rfl (feq hc25_110).2 (by decide) (by decide) ?_
        refine XS.iinc X108.here hx rfl (hb hby own_d1_31) rfl (l' := #[.val (.int p1), .val (.ref ka), .val (.int (24 : Int32)), .val (.int (2 : Int32)), .val (.ref s2)]) rfl ?_
        refine XS.goto X108.here hx rfl (pc0 := 34) (pc' := 9) rfl (hb hby own_d1_34) (by decide) (by decide) ?_
        refine XS.iloadN X108.here hx rfl (hb hby own_d1_9) rfl ?_
        show Steps _ _ _ (T108.setTop (mkF m 10 #[.val (.int p1), .val (.ref ka), .val (.int (24 : Int32)), .val (.int (2 : Int32)), .val (.ref s2)] [(.int (2 : Int32))])) _
        refine XS.iloadN X108.here hx rfl (hb hby own_d1_10) rfl ?_
        refine XS.icmpNo X108.here hx rfl (hb hby own_d1_11) rfl (tlt (by decide : (2 : Int32) < (24 : Int32))).2.1 ?_
        refine XS.aloadN X108.here hx rfl (hb hby own_d1_14) rfl rfl ?_
        refine XS.iloadN X108.here hx rfl (hb hby own_d1_15) rfl ?_
        show Steps _ _ _ (T108.setTop (mkF m 16 #[.val (.int p1), .val (.ref ka), .val (.int (24 : Int32)), .val (.int (2 : Int32)), .val (.ref s2)] [(.int (2 : Int32)), (.ref ka)])) _
        refine X108.aaload hx (j := (2 : Int32)) (v := (.ref s3)) (by rw [e108]; exact Ar111.1) (State.isArrayOf_alike hZ.alike Ar111.2.1) rfl Ar111.2.2 hin111 (Ah111.at hin111 rfl) (g := (mkF m 16 #[.val (.int p1), .val (.ref ka), .val (.int (24 : Int32)), .val (.int (2 : Int32)), .val (.ref s2)] [(.int (2 : Int32)), (.ref ka)])) rfl rfl (hb hby own_d1_16) _ ?_
        refine XS.astore X108.here hx rfl (hb hby own_d1_17) rfl rfl (l' := #[.val (.int p1), .val (.ref ka), .val (.int (24 : Int32)), .val (.int (2 : Int32)), .val (.ref s3)]) rfl ?_
        refine XS.aload X108.here hx rfl (hb hby own_d1_19) rfl rfl ?_
        refine st112 _ ?_
        show Steps _ _ _ (T112.setTop (mkF m 24 #[.val (.int p1), .val (.ref ka), .val (.int (24 : Int32)), .val (.int (2 : Int32)), .val (.ref s3)] [(.int (3 : Int32))])) _
        refine XS.iloadN X112.here hx rfl (hb hby own_d1_24) rfl ?_
        exact kt)
      by_cases hc25_114 : (3 : Int32) = p1
      · skip
        obtain ⟨fs, hr, hrun, hended, hW, hsame⟩ := X112.leave (v := some (.ref s3)) (fun h => by rw [Bd.returns] at h; cases h)
        refine ⟨_, _, pre113 _ ?_, hrun, hended, _, _, rfl, ?_, ⟨_, rfl⟩, hW, hsame.mono (by decide) (by decide)⟩
        · show Steps _ _ _ (T112.setTop (mkF m 25 #[.val (.int p1), .val (.ref ka), .val (.int (24 : Int32)), .val (.int (2 : Int32)), .val (.ref s3)] [(.int p1), (.int (3 : Int32))])) _
          refine XS.icmpNo X112.here hx rfl (hb hby own_d1_25) rfl (teq hc25_114).2 ?_
          refine XS.aload X112.here hx rfl (hb hby own_d1_28) rfl rfl ?_
          show Steps _ _ _ (T112.setTop (mkF m 30 #[.val (.int p1), .val (.ref ka), .val (.int (24 : Int32)), .val (.int (2 : Int32)), .val (.ref s3)] [(.ref s3)])) _
          jvm_step X112.here [X112.here.top, hx, (hb hby own_d1_30), X112.method', Bd.returns, Value.isRef, FieldType.isReference]
          first | (intro acts; rw [hr _ acts rfl rfl rfl]) | rw [hr _ _ rfl rfl rfl]
          exact Steps.refl _
        · show Qown_for Z p1 ka kk s1 s2 s3 s4 s5 s6 s7 s8 s9 s10 s11 s12 s13 s14 s15 s16 s17 s18 s19 s20 s21 s22 s23 s24 h0 n0 _ T112.heap _
          rw [e112]
          exact ⟨congrArg some (by rw [← hc25_114]; rfl), N0, rfl⟩
      · skip
        obtain ⟨cl115, Ar115, Aq115, As115, An115, Ah115, Ag115⟩ := id VK
        have hin115 : ¬ ((3 : Int32) < 0 ∨ cl115.slots.size ≤ ((3 : Int32)).toNatClampNeg) := inb_of As115 ⟨by decide, by decide⟩
        obtain ⟨T116, X116, e116, st116⟩ := getF X112 hx hZ hown (host := "") (Or.inl (own_w57 hw)) Via.refl e112 F4 (g := (mkF m 21 #[.val (.int p1), .val (.ref ka), .val (.int (24 : Int32)), .val (.int (3 : Int32)), .val (.ref s4)] [(.ref s4)])) rfl rfl (hb hby own_d1_21)
        have pre117 : ∀ t, Steps p.tables e below (T116.setTop (mkF m 25 #[.val (.int p1), .val (.ref ka), .val (.int (24 : Int32)), .val (.int (3 : Int32)), .val (.ref s4)] [(.int p1), (.int (4 : Int32))])) t → Steps p.tables e below (s₁.setTop (entryFrame m #[(.int p1)] 5)) t := fun t kt => pre113 t (by
          show Steps _ _ _ (T112.setTop (mkF m 25 #[.val (.int p1), .val (.ref ka), .val (.int (24 : Int32)), .val (.int (2 : Int32)), .val (.ref s3)] [(.int p1), (.int (3 : Int32))])) _
          refine XS.icmpYes X112.here hx rfl (pc0 := 25) (pc' := 31) rfl (hb hby own_d1_25) rfl (feq hc25_114).2 (by decide) (by decide) ?_
          refine XS.iinc X112.here hx rfl (hb hby own_d1_31) rfl (l' := #[.val (.int p1), .val (.ref ka), .val (.int (24 : Int32)), .val (.int (3 : Int32)), .val (.ref s3)]) rfl ?_
          refine XS.goto X112.here hx rfl (pc0 := 34) (pc' := 9) rfl (hb hby own_d1_34) (by decide) (by decide) ?_
          refine XS.iloadN X112.here hx rfl (hb hby own_d1_9) rfl ?_
          show Steps _ _ _ (T112.setTop (mkF m 10 #[.val (.int p1), .val (.ref ka), .val (.int (24 : Int32)), .val (.int (3 : Int32)), .val (.ref s3)] [(.int (3 : Int32))])) _
          refine XS.iloadN X112.here hx rfl (hb hby own_d1_10) rfl ?_
          refine XS.icmpNo X112.here hx rfl (hb hby own_d1_11) rfl (tlt (by decide : (3 : Int32) < (24 : Int32))).2.1 ?_
          refine XS.aloadN X112.here hx rfl (hb hby own_d1_14) rfl rfl ?_
          refine XS.iloadN X112.here hx rfl (hb hby own_d1_15) rfl ?_
          show Steps _ _ _ (T112.setTop (mkF m 16 #[.val (.int p1), .val (.ref ka), .val (.int (24 : Int32)), .val (.int (3 : Int32)), .val (.ref s3)] [(.int (3 : Int32)), (.ref ka)])) _
          refine X112.aaload hx (j := (3 : Int32)) (v := (.ref s4)) (by rw [e112]; exact Ar115.1) (State.isArrayOf_alike hZ.alike Ar115.2.1) rfl Ar115.2.2 hin115 (Ah115.at hin115 rfl) (g := (mkF m 16 #[.val (.int p1), .val (.ref ka), .val (.int (24 : Int32)), .val (.int (3 : Int32)), .val (.ref s3)] [(.int (3 : Int32)), (.ref ka)])) rfl rfl (hb hby own_d1_16) _ ?_
          refine XS.astore X112.here hx rfl (hb hby own_d1_17) rfl rfl (l' := #[.val (.int p1), .val (.ref ka), .val (.int (24 : Int32)), .val (.int (3 : Int32)), .val (.ref s4)]) rfl ?_
          refine XS.aload X112.here hx rfl (hb hby own_d1_19) rfl rfl ?_
          refine st116 _ ?_
          show Steps _ _ _ (T116.setTop (mkF m 24 #[.val (.int p1), .val (.ref ka), .val (.int (24 : Int32)), .val (.int (3 : Int32)), .val (.ref s4)] [(.int (4 : Int32))])) _
          refine XS.iloadN X116.here hx rfl (hb hby own_d1_24) rfl ?_
          exact kt)
        by_cases hc25_118 : (4 : Int32) = p1
        · skip
          obtain ⟨fs, hr, hrun, hended, hW, hsame⟩ := X116.leave (v := some (.ref s4)) (fun h => by rw [Bd.returns] at h; cases h)
          refine ⟨_, _, pre117 _ ?_, hrun, hended, _, _, rfl, ?_, ⟨_, rfl⟩, hW, hsame.mono (by decide) (by decide)⟩
          · show Steps _ _ _ (T116.setTop (mkF m 25 #[.val (.int p1), .val (.ref ka), .val (.int (24 : Int32)), .val (.int (3 : Int32)), .val (.ref s4)] [(.int p1), (.int (4 : Int32))])) _
            refine XS.icmpNo X116.here hx rfl (hb hby own_d1_25) rfl (teq hc25_118).2 ?_
            refine XS.aload X116.here hx rfl (hb hby own_d1_28) rfl rfl ?_
            show Steps _ _ _ (T116.setTop (mkF m 30 #[.val (.int p1), .val (.ref ka), .val (.int (24 : Int32)), .val (.int (3 : Int32)), .val (.ref s4)] [(.ref s4)])) _
            jvm_step X116.here [X116.here.top, hx, (hb hby own_d1_30), X116.method', Bd.returns, Value.isRef, FieldType.isReference]
            first | (intro acts; rw [hr _ acts rfl rfl rfl]) | rw [hr _ _ rfl rfl rfl]
            exact Steps.refl _
          · show Qown_for Z p1 ka kk s1 s2 s3 s4 s5 s6 s7 s8 s9 s10 s11 s12 s13 s14 s15 s16 s17 s18 s19 s20 s21 s22 s23 s24 h0 n0 _ T116.heap _
            rw [e116]
            exact ⟨congrArg some (by rw [← hc25_118]; rfl), N0, rfl⟩
        · skip
          obtain ⟨cl119, Ar119, Aq119, As119, An119, Ah119, Ag119⟩ := id VK
          have hin119 : ¬ ((4 : Int32) < 0 ∨ cl119.slots.size ≤ ((4 : Int32)).toNatClampNeg) := inb_of As119 ⟨by decide, by decide⟩
          obtain ⟨T120, X120, e120, st120⟩ := getF X116 hx hZ hown (host := "") (Or.inl (own_w57 hw)) Via.refl e116 F5 (g := (mkF m 21 #[.val (.int p1), .val (.ref ka), .val (.int (24 : Int32)), .val (.int (4 : Int32)), .val (.ref s5)] [(.ref s5)])) rfl rfl (hb hby own_d1_21)
          have pre121 : ∀ t, Steps p.tables e below (T120.setTop (mkF m 25 #[.val (.int p1), .val (.ref ka), .val (.int (24 : Int32)), .val (.int (4 : Int32)), .val (.ref s5)] [(.int p1), (.int (5 : Int32))])) t → Steps p.tables e below (s₁.setTop (entryFrame m #[(.int p1)] 5)) t := fun t kt => pre117 t (by
            show Steps _ _ _ (T116.setTop (mkF m 25 #[.val (.int p1), .val (.ref ka), .val (.int (24 : Int32)), .val (.int (3 : Int32)), .val (.ref s4)] [(.int p1), (.int (4 : Int32))])) _
            refine XS.icmpYes X116.here hx rfl (pc0 := 25) (pc' := 31) rfl (hb hby own_d1_25) rfl (feq hc25_118).2 (by decide) (by decide) ?_
            refine XS.iinc X116.here hx rfl (hb hby own_d1_31) rfl (l' := #[.val (.int p1), .val (.ref ka), .val (.int (24 : Int32)), .val (.int (4 : Int32)), .val (.ref s4)]) rfl ?_
            refine XS.goto X116.here hx rfl (pc0 := 34) (pc' := 9) rfl (hb hby own_d1_34) (by decide) (by decide) ?_
            refine XS.iloadN X116.here hx rfl (hb hby own_d1_9) rfl ?_
            show Steps _ _ _ (T116.setTop (mkF m 10 #[.val (.int p1), .val (.ref ka), .val (.int (24 : Int32)), .val (.int (4 : Int32)), .val (.ref s4)] [(.int (4 : Int32))])) _
            refine XS.iloadN X116.here hx rfl (hb hby own_d1_10) rfl ?_
            refine XS.icmpNo X116.here hx rfl (hb hby own_d1_11) rfl (tlt (by decide : (4 : Int32) < (24 : Int32))).2.1 ?_
            refine XS.aloadN X116.here hx rfl (hb hby own_d1_14) rfl rfl ?_
            refine XS.iloadN X116.here hx rfl (hb hby own_d1_15) rfl ?_
            show Steps _ _ _ (T116.setTop (mkF m 16 #[.val (.int p1), .val (.ref ka), .val (.int (24 : Int32)), .val (.int (4 : Int32)), .val (.ref s4)] [(.int (4 : Int32)), (.ref ka)])) _
            refine X116.aaload hx (j := (4 : Int32)) (v := (.ref s5)) (by rw [e116]; exact Ar119.1) (State.isArrayOf_alike hZ.alike Ar119.2.1) rfl Ar119.2.2 hin119 (Ah119.at hin119 rfl) (g := (mkF m 16 #[.val (.int p1), .val (.ref ka), .val (.int (24 : Int32)), .val (.int (4 : Int32)), .val (.ref s4)] [(.int (4 : Int32)), (.ref ka)])) rfl rfl (hb hby own_d1_16) _ ?_
            refine XS.astore X116.here hx rfl (hb hby own_d1_17) rfl rfl (l' := #[.val (.int p1), .val (.ref ka), .val (.int (24 : Int32)), .val (.int (4 : Int32)), .val (.ref s5)]) rfl ?_
            refine XS.aload X116.here hx rfl (hb hby own_d1_19) rfl rfl ?_
            refine st120 _ ?_
            show Steps _ _ _ (T120.setTop (mkF m 24 #[.val (.int p1), .val (.ref ka), .val (.int (24 : Int32)), .val (.int (4 : Int32)), .val (.ref s5)] [(.int (5 : Int32))])) _
            refine XS.iloadN X120.here hx rfl (hb hby own_d1_24) rfl ?_
            exact kt)
          by_cases hc25_122 : (5 : Int32) = p1
          · skip
            obtain ⟨fs, hr, hrun, hended, hW, hsame⟩ := X120.leave (v := some (.ref s5)) (fun h => by rw [Bd.returns] at h; cases h)
            refine ⟨_, _, pre121 _ ?_, hrun, hended, _, _, rfl, ?_, ⟨_, rfl⟩, hW, hsame.mono (by decide) (by decide)⟩
            · show Steps _ _ _ (T120.setTop (mkF m 25 #[.val (.int p1), .val (.ref ka), .val (.int (24 : Int32)), .val (.int (4 : Int32)), .val (.ref s5)] [(.int p1), (.int (5 : Int32))])) _
              refine XS.icmpNo X120.here hx rfl (hb hby own_d1_25) rfl (teq hc25_122).2 ?_
              refine XS.aload X120.here hx rfl (hb hby own_d1_28) rfl rfl ?_
              show Steps _ _ _ (T120.setTop (mkF m 30 #[.val (.int p1), .val (.ref ka), .val (.int (24 : Int32)), .val (.int (4 : Int32)), .val (.ref s5)] [(.ref s5)])) _
              jvm_step X120.here [X120.here.top, hx, (hb hby own_d1_30), X120.method', Bd.returns, Value.isRef, FieldType.isReference]
              first | (intro acts; rw [hr _ acts rfl rfl rfl]) | rw [hr _ _ rfl rfl rfl]
              exact Steps.refl _
            · show Qown_for Z p1 ka kk s1 s2 s3 s4 s5 s6 s7 s8 s9 s10 s11 s12 s13 s14 s15 s16 s17 s18 s19 s20 s21 s22 s23 s24 h0 n0 _ T120.heap _
              rw [e120]
              exact ⟨congrArg some (by rw [← hc25_122]; rfl), N0, rfl⟩
          · skip
            obtain ⟨cl123, Ar123, Aq123, As123, An123, Ah123, Ag123⟩ := id VK
            have hin123 : ¬ ((5 : Int32) < 0 ∨ cl123.slots.size ≤ ((5 : Int32)).toNatClampNeg) := inb_of As123 ⟨by decide, by decide⟩
            obtain ⟨T124, X124, e124, st124⟩ := getF X120 hx hZ hown (host := "") (Or.inl (own_w57 hw)) Via.refl e120 F6 (g := (mkF m 21 #[.val (.int p1), .val (.ref ka), .val (.int (24 : Int32)), .val (.int (5 : Int32)), .val (.ref s6)] [(.ref s6)])) rfl rfl (hb hby own_d1_21)
            have pre125 : ∀ t, Steps p.tables e below (T124.setTop (mkF m 25 #[.val (.int p1), .val (.ref ka), .val (.int (24 : Int32)), .val (.int (5 : Int32)), .val (.ref s6)] [(.int p1), (.int (6 : Int32))])) t → Steps p.tables e below (s₁.setTop (entryFrame m #[(.int p1)] 5)) t := fun t kt => pre121 t (by
              show Steps _ _ _ (T120.setTop (mkF m 25 #[.val (.int p1), .val (.ref ka), .val (.int (24 : Int32)), .val (.int (4 : Int32)), .val (.ref s5)] [(.int p1), (.int (5 : Int32))])) _
              refine XS.icmpYes X120.here hx rfl (pc0 := 25) (pc' := 31) rfl (hb hby own_d1_25) rfl (feq hc25_122).2 (by decide) (by decide) ?_
              refine XS.iinc X120.here hx rfl (hb hby own_d1_31) rfl (l' := #[.val (.int p1), .val (.ref ka), .val (.int (24 : Int32)), .val (.int (5 : Int32)), .val (.ref s5)]) rfl ?_
              refine XS.goto X120.here hx rfl (pc0 := 34) (pc' := 9) rfl (hb hby own_d1_34) (by decide) (by decide) ?_
              refine XS.iloadN X120.here hx rfl (hb hby own_d1_9) rfl ?_
              show Steps _ _ _ (T120.setTop (mkF m 10 #[.val (.int p1), .val (.ref ka), .val (.int (24 : Int32)), .val (.int (5 : Int32)), .val (.ref s5)] [(.int (5 : Int32))])) _
              refine XS.iloadN X120.here hx rfl (hb hby own_d1_10) rfl ?_
              refine XS.icmpNo X120.here hx rfl (hb hby own_d1_11) rfl (tlt (by decide : (5 : Int32) < (24 : Int32))).2.1 ?_
              refine XS.aloadN X120.here hx rfl (hb hby own_d1_14) rfl rfl ?_
              refine XS.iloadN X120.here hx rfl (hb hby own_d1_15) rfl ?_
              show Steps _ _ _ (T120.setTop (mkF m 16 #[.val (.int p1), .val (.ref ka), .val (.int (24 : Int32)), .val (.int (5 : Int32)), .val (.ref s5)] [(.int (5 : Int32)), (.ref ka)])) _
              refine X120.aaload hx (j := (5 : Int32)) (v := (.ref s6)) (by rw [e120]; exact Ar123.1) (State.isArrayOf_alike hZ.alike Ar123.2.1) rfl Ar123.2.2 hin123 (Ah123.at hin123 rfl) (g := (mkF m 16 #[.val (.int p1), .val (.ref ka), .val (.int (24 : Int32)), .val (.int (5 : Int32)), .val (.ref s5)] [(.int (5 : Int32)), (.ref ka)])) rfl rfl (hb hby own_d1_16) _ ?_
              refine XS.astore X120.here hx rfl (hb hby own_d1_17) rfl rfl (l' := #[.val (.int p1), .val (.ref ka), .val (.int (24 : Int32)), .val (.int (5 : Int32)), .val (.ref s6)]) rfl ?_
              refine XS.aload X120.here hx rfl (hb hby own_d1_19) rfl rfl ?_
              refine st124 _ ?_
              show Steps _ _ _ (T124.setTop (mkF m 24 #[.val (.int p1), .val (.ref ka), .val (.int (24 : Int32)), .val (.int (5 : Int32)), .val (.ref s6)] [(.int (6 : Int32))])) _
              refine XS.iloadN X124.here hx rfl (hb hby own_d1_24) rfl ?_
              exact kt)
            by_cases hc25_126 : (6 : Int32) = p1
            · skip
              obtain ⟨fs, hr, hrun, hended, hW, hsame⟩ := X124.leave (v := some (.ref s6)) (fun h => by rw [Bd.returns] at h; cases h)
              refine ⟨_, _, pre125 _ ?_, hrun, hended, _, _, rfl, ?_, ⟨_, rfl⟩, hW, hsame.mono (by decide) (by decide)⟩
              · show Steps _ _ _ (T124.setTop (mkF m 25 #[.val (.int p1), .val (.ref ka), .val (.int (24 : Int32)), .val (.int (5 : Int32)), .val (.ref s6)] [(.int p1), (.int (6 : Int32))])) _
                refine XS.icmpNo X124.here hx rfl (hb hby own_d1_25) rfl (teq hc25_126).2 ?_
                refine XS.aload X124.here hx rfl (hb hby own_d1_28) rfl rfl ?_
                show Steps _ _ _ (T124.setTop (mkF m 30 #[.val (.int p1), .val (.ref ka), .val (.int (24 : Int32)), .val (.int (5 : Int32)), .val (.ref s6)] [(.ref s6)])) _
                jvm_step X124.here [X124.here.top, hx, (hb hby own_d1_30), X124.method', Bd.returns, Value.isRef, FieldType.isReference]
                first | (intro acts; rw [hr _ acts rfl rfl rfl]) | rw [hr _ _ rfl rfl rfl]
                exact Steps.refl _
              · show Qown_for Z p1 ka kk s1 s2 s3 s4 s5 s6 s7 s8 s9 s10 s11 s12 s13 s14 s15 s16 s17 s18 s19 s20 s21 s22 s23 s24 h0 n0 _ T124.heap _
                rw [e124]
                exact ⟨congrArg some (by rw [← hc25_126]; rfl), N0, rfl⟩
            · skip
              obtain ⟨cl127, Ar127, Aq127, As127, An127, Ah127, Ag127⟩ := id VK
              have hin127 : ¬ ((6 : Int32) < 0 ∨ cl127.slots.size ≤ ((6 : Int32)).toNatClampNeg) := inb_of As127 ⟨by decide, by decide⟩
              obtain ⟨T128, X128, e128, st128⟩ := getF X124 hx hZ hown (host := "") (Or.inl (own_w57 hw)) Via.refl e124 F7 (g := (mkF m 21 #[.val (.int p1), .val (.ref ka), .val (.int (24 : Int32)), .val (.int (6 : Int32)), .val (.ref s7)] [(.ref s7)])) rfl rfl (hb hby own_d1_21)
              have pre129 : ∀ t, Steps p.tables e below (T128.setTop (mkF m 25 #[.val (.int p1), .val (.ref ka), .val (.int (24 : Int32)), .val (.int (6 : Int32)), .val (.ref s7)] [(.int p1), (.int (7 : Int32))])) t → Steps p.tables e below (s₁.setTop (entryFrame m #[(.int p1)] 5)) t := fun t kt => pre125 t (by
                show Steps _ _ _ (T124.setTop (mkF m 25 #[.val (.int p1), .val (.ref ka), .val (.int (24 : Int32)), .val (.int (5 : Int32)), .val (.ref s6)] [(.int p1), (.int (6 : Int32))])) _
                refine XS.icmpYes X124.here hx rfl (pc0 := 25) (pc' := 31) rfl (hb hby own_d1_25) rfl (feq hc25_126).2 (by decide) (by decide) ?_
                refine XS.iinc X124.here hx rfl (hb hby own_d1_31) rfl (l' := #[.val (.int p1), .val (.ref ka), .val (.int (24 : Int32)), .val (.int (6 : Int32)), .val (.ref s6)]) rfl ?_
                refine XS.goto X124.here hx rfl (pc0 := 34) (pc' := 9) rfl (hb hby own_d1_34) (by decide) (by decide) ?_
                refine XS.iloadN X124.here hx rfl (hb hby own_d1_9) rfl ?_
                show Steps _ _ _ (T124.setTop (mkF m 10 #[.val (.int p1), .val (.ref ka), .val (.int (24 : Int32)), .val (.int (6 : Int32)), .val (.ref s6)] [(.int (6 : Int32))])) _
                refine XS.iloadN X124.here hx rfl (hb hby own_d1_10) rfl ?_
                refine XS.icmpNo X124.here hx rfl (hb hby own_d1_11) rfl (tlt (by decide : (6 : Int32) < (24 : Int32))).2.1 ?_
                refine XS.aloadN X124.here hx rfl (hb hby own_d1_14) rfl rfl ?_
                refine XS.iloadN X124.here hx rfl (hb hby own_d1_15) rfl ?_
                show Steps _ _ _ (T124.setTop (mkF m 16 #[.val (.int p1), .val (.ref ka), .val (.int (24 : Int32)), .val (.int (6 : Int32)), .val (.ref s6)] [(.int (6 : Int32)), (.ref ka)])) _
                refine X124.aaload hx (j := (6 : Int32)) (v := (.ref s7)) (by rw [e124]; exact Ar127.1) (State.isArrayOf_alike hZ.alike Ar127.2.1) rfl Ar127.2.2 hin127 (Ah127.at hin127 rfl) (g := (mkF m 16 #[.val (.int p1), .val (.ref ka), .val (.int (24 : Int32)), .val (.int (6 : Int32)), .val (.ref s6)] [(.int (6 : Int32)), (.ref ka)])) rfl rfl (hb hby own_d1_16) _ ?_
                refine XS.astore X124.here hx rfl (hb hby own_d1_17) rfl rfl (l' := #[.val (.int p1), .val (.ref ka), .val (.int (24 : Int32)), .val (.int (6 : Int32)), .val (.ref s7)]) rfl ?_
                refine XS.aload X124.here hx rfl (hb hby own_d1_19) rfl rfl ?_
                refine st128 _ ?_
                show Steps _ _ _ (T128.setTop (mkF m 24 #[.val (.int p1), .val (.ref ka), .val (.int (24 : Int32)), .val (.int (6 : Int32)), .val (.ref s7)] [(.int (7 : Int32))])) _
                refine XS.iloadN X128.here hx rfl (hb hby own_d1_24) rfl ?_
                exact kt)
              by_cases hc25_130 : (7 : Int32) = p1
              · skip
                obtain ⟨fs, hr, hrun, hended, hW, hsame⟩ := X128.leave (v := some (.ref s7)) (fun h => by rw [Bd.returns] at h; cases h)
                refine ⟨_, _, pre129 _ ?_, hrun, hended, _, _, rfl, ?_, ⟨_, rfl⟩, hW, hsame.mono (by decide) (by decide)⟩
                · show Steps _ _ _ (T128.setTop (mkF m 25 #[.val (.int p1), .val (.ref ka), .val (.int (24 : Int32)), .val (.int (6 : Int32)), .val (.ref s7)] [(.int p1), (.int (7 : Int32))])) _
                  refine XS.icmpNo X128.here hx rfl (hb hby own_d1_25) rfl (teq hc25_130).2 ?_
                  refine XS.aload X128.here hx rfl (hb hby own_d1_28) rfl rfl ?_
                  show Steps _ _ _ (T128.setTop (mkF m 30 #[.val (.int p1), .val (.ref ka), .val (.int (24 : Int32)), .val (.int (6 : Int32)), .val (.ref s7)] [(.ref s7)])) _
                  jvm_step X128.here [X128.here.top, hx, (hb hby own_d1_30), X128.method', Bd.returns, Value.isRef, FieldType.isReference]
                  first | (intro acts; rw [hr _ acts rfl rfl rfl]) | rw [hr _ _ rfl rfl rfl]
                  exact Steps.refl _
                · show Qown_for Z p1 ka kk s1 s2 s3 s4 s5 s6 s7 s8 s9 s10 s11 s12 s13 s14 s15 s16 s17 s18 s19 s20 s21 s22 s23 s24 h0 n0 _ T128.heap _
                  rw [e128]
                  exact ⟨congrArg some (by rw [← hc25_130]; rfl), N0, rfl⟩
              · skip
                obtain ⟨cl131, Ar131, Aq131, As131, An131, Ah131, Ag131⟩ := id VK
                have hin131 : ¬ ((7 : Int32) < 0 ∨ cl131.slots.size ≤ ((7 : Int32)).toNatClampNeg) := inb_of As131 ⟨by decide, by decide⟩
                obtain ⟨T132, X132, e132, st132⟩ := getF X128 hx hZ hown (host := "") (Or.inl (own_w57 hw)) Via.refl e128 F8 (g := (mkF m 21 #[.val (.int p1), .val (.ref ka), .val (.int (24 : Int32)), .val (.int (7 : Int32)), .val (.ref s8)] [(.ref s8)])) rfl rfl (hb hby own_d1_21)
                have pre133 : ∀ t, Steps p.tables e below (T132.setTop (mkF m 25 #[.val (.int p1), .val (.ref ka), .val (.int (24 : Int32)), .val (.int (7 : Int32)), .val (.ref s8)] [(.int p1), (.int (8 : Int32))])) t → Steps p.tables e below (s₁.setTop (entryFrame m #[(.int p1)] 5)) t := fun t kt => pre129 t (by
                  show Steps _ _ _ (T128.setTop (mkF m 25 #[.val (.int p1), .val (.ref ka), .val (.int (24 : Int32)), .val (.int (6 : Int32)), .val (.ref s7)] [(.int p1), (.int (7 : Int32))])) _
                  refine XS.icmpYes X128.here hx rfl (pc0 := 25) (pc' := 31) rfl (hb hby own_d1_25) rfl (feq hc25_130).2 (by decide) (by decide) ?_
                  refine XS.iinc X128.here hx rfl (hb hby own_d1_31) rfl (l' := #[.val (.int p1), .val (.ref ka), .val (.int (24 : Int32)), .val (.int (7 : Int32)), .val (.ref s7)]) rfl ?_
                  refine XS.goto X128.here hx rfl (pc0 := 34) (pc' := 9) rfl (hb hby own_d1_34) (by decide) (by decide) ?_
                  refine XS.iloadN X128.here hx rfl (hb hby own_d1_9) rfl ?_
                  show Steps _ _ _ (T128.setTop (mkF m 10 #[.val (.int p1), .val (.ref ka), .val (.int (24 : Int32)), .val (.int (7 : Int32)), .val (.ref s7)] [(.int (7 : Int32))])) _
                  refine XS.iloadN X128.here hx rfl (hb hby own_d1_10) rfl ?_
                  refine XS.icmpNo X128.here hx rfl (hb hby own_d1_11) rfl (tlt (by decide : (7 : Int32) < (24 : Int32))).2.1 ?_
                  refine XS.aloadN X128.here hx rfl (hb hby own_d1_14) rfl rfl ?_
                  refine XS.iloadN X128.here hx rfl (hb hby own_d1_15) rfl ?_
                  show Steps _ _ _ (T128.setTop (mkF m 16 #[.val (.int p1), .val (.ref ka), .val (.int (24 : Int32)), .val (.int (7 : Int32)), .val (.ref s7)] [(.int (7 : Int32)), (.ref ka)])) _
                  refine X128.aaload hx (j := (7 : Int32)) (v := (.ref s8)) (by rw [e128]; exact Ar131.1) (State.isArrayOf_alike hZ.alike Ar131.2.1) rfl Ar131.2.2 hin131 (Ah131.at hin131 rfl) (g := (mkF m 16 #[.val (.int p1), .val (.ref ka), .val (.int (24 : Int32)), .val (.int (7 : Int32)), .val (.ref s7)] [(.int (7 : Int32)), (.ref ka)])) rfl rfl (hb hby own_d1_16) _ ?_
                  refine XS.astore X128.here hx rfl (hb hby own_d1_17) rfl rfl (l' := #[.val (.int p1), .val (.ref ka), .val (.int (24 : Int32)), .val (.int (7 : Int32)), .val (.ref s8)]) rfl ?_
                  refine XS.aload X128.here hx rfl (hb hby own_d1_19) rfl rfl ?_
                  refine st132 _ ?_
                  show Steps _ _ _ (T132.setTop (mkF m 24 #[.val (.int p1), .val (.ref ka), .val (.int (24 : Int32)), .val (.int (7 : Int32)), .val (.ref s8)] [(.int (8 : Int32))])) _
                  refine XS.iloadN X132.here hx rfl (hb hby own_d1_24) rfl ?_
                  exact kt)
                by_cases hc25_134 : (8 : Int32) = p1
                · skip
                  obtain ⟨fs, hr, hrun, hended, hW, hsame⟩ := X132.leave (v := some (.ref s8)) (fun h => by rw [Bd.returns] at h; cases h)
                  refine ⟨_, _, pre133 _ ?_, hrun, hended, _, _, rfl, ?_, ⟨_, rfl⟩, hW, hsame.mono (by decide) (by decide)⟩
                  · show Steps _ _ _ (T132.setTop (mkF m 25 #[.val (.int p1), .val (.ref ka), .val (.int (24 : Int32)), .val (.int (7 : Int32)), .val (.ref s8)] [(.int p1), (.int (8 : Int32))])) _
                    refine XS.icmpNo X132.here hx rfl (hb hby own_d1_25) rfl (teq hc25_134).2 ?_
                    refine XS.aload X132.here hx rfl (hb hby own_d1_28) rfl rfl ?_
                    show Steps _ _ _ (T132.setTop (mkF m 30 #[.val (.int p1), .val (.ref ka), .val (.int (24 : Int32)), .val (.int (7 : Int32)), .val (.ref s8)] [(.ref s8)])) _
                    jvm_step X132.here [X132.here.top, hx, (hb hby own_d1_30), X132.method', Bd.returns, Value.isRef, FieldType.isReference]
                    first | (intro acts; rw [hr _ acts rfl rfl rfl]) | rw [hr _ _ rfl rfl rfl]
                    exact Steps.refl _
                  · show Qown_for Z p1 ka kk s1 s2 s3 s4 s5 s6 s7 s8 s9 s10 s11 s12 s13 s14 s15 s16 s17 s18 s19 s20 s21 s22 s23 s24 h0 n0 _ T132.heap _
                    rw [e132]
                    exact ⟨congrArg some (by rw [← hc25_134]; rfl), N0, rfl⟩
                · skip
                  obtain ⟨cl135, Ar135, Aq135, As135, An135, Ah135, Ag135⟩ := id VK
                  have hin135 : ¬ ((8 : Int32) < 0 ∨ cl135.slots.size ≤ ((8 : Int32)).toNatClampNeg) := inb_of As135 ⟨by decide, by decide⟩
                  obtain ⟨T136, X136, e136, st136⟩ := getF X132 hx hZ hown (host := "") (Or.inl (own_w57 hw)) Via.refl e132 F9 (g := (mkF m 21 #[.val (.int p1), .val (.ref ka), .val (.int (24 : Int32)), .val (.int (8 : Int32)), .val (.ref s9)] [(.ref s9)])) rfl rfl (hb hby own_d1_21)
                  have pre137 : ∀ t, Steps p.tables e below (T136.setTop (mkF m 25 #[.val (.int p1), .val (.ref ka), .val (.int (24 : Int32)), .val (.int (8 : Int32)), .val (.ref s9)] [(.int p1), (.int (9 : Int32))])) t → Steps p.tables e below (s₁.setTop (entryFrame m #[(.int p1)] 5)) t := fun t kt => pre133 t (by
                    show Steps _ _ _ (T132.setTop (mkF m 25 #[.val (.int p1), .val (.ref ka), .val (.int (24 : Int32)), .val (.int (7 : Int32)), .val (.ref s8)] [(.int p1), (.int (8 : Int32))])) _
                    refine XS.icmpYes X132.here hx rfl (pc0 := 25) (pc' := 31) rfl (hb hby own_d1_25) rfl (feq hc25_134).2 (by decide) (by decide) ?_
                    refine XS.iinc X132.here hx rfl (hb hby own_d1_31) rfl (l' := #[.val (.int p1), .val (.ref ka), .val (.int (24 : Int32)), .val (.int (8 : Int32)), .val (.ref s8)]) rfl ?_
                    refine XS.goto X132.here hx rfl (pc0 := 34) (pc' := 9) rfl (hb hby own_d1_34) (by decide) (by decide) ?_
                    refine XS.iloadN X132.here hx rfl (hb hby own_d1_9) rfl ?_
                    show Steps _ _ _ (T132.setTop (mkF m 10 #[.val (.int p1), .val (.ref ka), .val (.int (24 : Int32)), .val (.int (8 : Int32)), .val (.ref s8)] [(.int (8 : Int32))])) _
                    refine XS.iloadN X132.here hx rfl (hb hby own_d1_10) rfl ?_
                    refine XS.icmpNo X132.here hx rfl (hb hby own_d1_11) rfl (tlt (by decide : (8 : Int32) < (24 : Int32))).2.1 ?_
                    refine XS.aloadN X132.here hx rfl (hb hby own_d1_14) rfl rfl ?_
                    refine XS.iloadN X132.here hx rfl (hb hby own_d1_15) rfl ?_
                    show Steps _ _ _ (T132.setTop (mkF m 16 #[.val (.int p1), .val (.ref ka), .val (.int (24 : Int32)), .val (.int (8 : Int32)), .val (.ref s8)] [(.int (8 : Int32)), (.ref ka)])) _
                    refine X132.aaload hx (j := (8 : Int32)) (v := (.ref s9)) (by rw [e132]; exact Ar135.1) (State.isArrayOf_alike hZ.alike Ar135.2.1) rfl Ar135.2.2 hin135 (Ah135.at hin135 rfl) (g := (mkF m 16 #[.val (.int p1), .val (.ref ka), .val (.int (24 : Int32)), .val (.int (8 : Int32)), .val (.ref s8)] [(.int (8 : Int32)), (.ref ka)])) rfl rfl (hb hby own_d1_16) _ ?_
                    refine XS.astore X132.here hx rfl (hb hby own_d1_17) rfl rfl (l' := #[.val (.int p1), .val (.ref ka), .val (.int (24 : Int32)), .val (.int (8 : Int32)), .val (.ref s9)]) rfl ?_
                    refine XS.aload X132.here hx rfl (hb hby own_d1_19) rfl rfl ?_
                    refine st136 _ ?_
                    show Steps _ _ _ (T136.setTop (mkF m 24 #[.val (.int p1), .val (.ref ka), .val (.int (24 : Int32)), .val (.int (8 : Int32)), .val (.ref s9)] [(.int (9 : Int32))])) _
                    refine XS.iloadN X136.here hx rfl (hb hby own_d1_24) rfl ?_
                    exact kt)
                  by_cases hc25_138 : (9 : Int32) = p1
                  · skip
                    obtain ⟨fs, hr, hrun, hended, hW, hsame⟩ := X136.leave (v := some (.ref s9)) (fun h => by rw [Bd.returns] at h; cases h)
                    refine ⟨_, _, pre137 _ ?_, hrun, hended, _, _, rfl, ?_, ⟨_, rfl⟩, hW, hsame.mono (by decide) (by decide)⟩
                    · show Steps _ _ _ (T136.setTop (mkF m 25 #[.val (.int p1), .val (.ref ka), .val (.int (24 : Int32)), .val (.int (8 : Int32)), .val (.ref s9)] [(.int p1), (.int (9 : Int32))])) _
                      refine XS.icmpNo X136.here hx rfl (hb hby own_d1_25) rfl (teq hc25_138).2 ?_
                      refine XS.aload X136.here hx rfl (hb hby own_d1_28) rfl rfl ?_
                      show Steps _ _ _ (T136.setTop (mkF m 30 #[.val (.int p1), .val (.ref ka), .val (.int (24 : Int32)), .val (.int (8 : Int32)), .val (.ref s9)] [(.ref s9)])) _
                      jvm_step X136.here [X136.here.top, hx, (hb hby own_d1_30), X136.method', Bd.returns, Value.isRef, FieldType.isReference]
                      first | (intro acts; rw [hr _ acts rfl rfl rfl]) | rw [hr _ _ rfl rfl rfl]
                      exact Steps.refl _
                    · show Qown_for Z p1 ka kk s1 s2 s3 s4 s5 s6 s7 s8 s9 s10 s11 s12 s13 s14 s15 s16 s17 s18 s19 s20 s21 s22 s23 s24 h0 n0 _ T136.heap _
                      rw [e136]
                      exact ⟨congrArg some (by rw [← hc25_138]; rfl), N0, rfl⟩
                  · skip
                    obtain ⟨cl139, Ar139, Aq139, As139, An139, Ah139, Ag139⟩ := id VK
                    have hin139 : ¬ ((9 : Int32) < 0 ∨ cl139.slots.size ≤ ((9 : Int32)).toNatClampNeg) := inb_of As139 ⟨by decide, by decide⟩
                    obtain ⟨T140, X140, e140, st140⟩ := getF X136 hx hZ hown (host := "") (Or.inl (own_w57 hw)) Via.refl e136 F10 (g := (mkF m 21 #[.val (.int p1), .val (.ref ka), .val (.int (24 : Int32)), .val (.int (9 : Int32)), .val (.ref s10)] [(.ref s10)])) rfl rfl (hb hby own_d1_21)
                    have pre141 : ∀ t, Steps p.tables e below (T140.setTop (mkF m 25 #[.val (.int p1), .val (.ref ka), .val (.int (24 : Int32)), .val (.int (9 : Int32)), .val (.ref s10)] [(.int p1), (.int (10 : Int32))])) t → Steps p.tables e below (s₁.setTop (entryFrame m #[(.int p1)] 5)) t := fun t kt => pre137 t (by
                      show Steps _ _ _ (T136.setTop (mkF m 25 #[.val (.int p1), .val (.ref ka), .val (.int (24 : Int32)), .val (.int (8 : Int32)), .val (.ref s9)] [(.int p1), (.int (9 : Int32))])) _
                      refine XS.icmpYes X136.here hx rfl (pc0 := 25) (pc' := 31) rfl (hb hby own_d1_25) rfl (feq hc25_138).2 (by decide) (by decide) ?_
                      refine XS.iinc X136.here hx rfl (hb hby own_d1_31) rfl (l' := #[.val (.int p1), .val (.ref ka), .val (.int (24 : Int32)), .val (.int (9 : Int32)), .val (.ref s9)]) rfl ?_
                      refine XS.goto X136.here hx rfl (pc0 := 34) (pc' := 9) rfl (hb hby own_d1_34) (by decide) (by decide) ?_
                      refine XS.iloadN X136.here hx rfl (hb hby own_d1_9) rfl ?_
                      show Steps _ _ _ (T136.setTop (mkF m 10 #[.val (.int p1), .val (.ref ka), .val (.int (24 : Int32)), .val (.int (9 : Int32)), .val (.ref s9)] [(.int (9 : Int32))])) _
                      refine XS.iloadN X136.here hx rfl (hb hby own_d1_10) rfl ?_
                      refine XS.icmpNo X136.here hx rfl (hb hby own_d1_11) rfl (tlt (by decide : (9 : Int32) < (24 : Int32))).2.1 ?_
                      refine XS.aloadN X136.here hx rfl (hb hby own_d1_14) rfl rfl ?_
                      refine XS.iloadN X136.here hx rfl (hb hby own_d1_15) rfl ?_
                      show Steps _ _ _ (T136.setTop (mkF m 16 #[.val (.int p1), .val (.ref ka), .val (.int (24 : Int32)), .val (.int (9 : Int32)), .val (.ref s9)] [(.int (9 : Int32)), (.ref ka)])) _
                      refine X136.aaload hx (j := (9 : Int32)) (v := (.ref s10)) (by rw [e136]; exact Ar139.1) (State.isArrayOf_alike hZ.alike Ar139.2.1) rfl Ar139.2.2 hin139 (Ah139.at hin139 rfl) (g := (mkF m 16 #[.val (.int p1), .val (.ref ka), .val (.int (24 : Int32)), .val (.int (9 : Int32)), .val (.ref s9)] [(.int (9 : Int32)), (.ref ka)])) rfl rfl (hb hby own_d1_16) _ ?_
                      refine XS.astore X136.here hx rfl (hb hby own_d1_17) rfl rfl (l' := #[.val (.int p1), .val (.ref ka), .val (.int (24 : Int32)), .val (.int (9 : Int32)), .val (.ref s10)]) rfl ?_
                      refine XS.aload X136.here hx rfl (hb hby own_d1_19) rfl rfl ?_
                      refine st140 _ ?_
                      show Steps _ _ _ (T140.setTop (mkF m 24 #[.val (.int p1), .val (.ref ka), .val (.int (24 : Int32)), .val (.int (9 : Int32)), .val (.ref s10)] [(.int (10 : Int32))])) _
                      refine XS.iloadN X140.here hx rfl (hb hby own_d1_24) rfl ?_
                      exact kt)
                    by_cases hc25_142 : (10 : Int32) = p1
                    · skip
                      obtain ⟨fs, hr, hrun, hended, hW, hsame⟩ := X140.leave (v := some (.ref s10)) (fun h => by rw [Bd.returns] at h; cases h)
                      refine ⟨_, _, pre141 _ ?_, hrun, hended, _, _, rfl, ?_, ⟨_, rfl⟩, hW, hsame.mono (by decide) (by decide)⟩
                      · show Steps _ _ _ (T140.setTop (mkF m 25 #[.val (.int p1), .val (.ref ka), .val (.int (24 : Int32)), .val (.int (9 : Int32)), .val (.ref s10)] [(.int p1), (.int (10 : Int32))])) _
                        refine XS.icmpNo X140.here hx rfl (hb hby own_d1_25) rfl (teq hc25_142).2 ?_
                        refine XS.aload X140.here hx rfl (hb hby own_d1_28) rfl rfl ?_
                        show Steps _ _ _ (T140.setTop (mkF m 30 #[.val (.int p1), .val (.ref ka), .val (.int (24 : Int32)), .val (.int (9 : Int32)), .val (.ref s10)] [(.ref s10)])) _
                        jvm_step X140.here [X140.here.top, hx, (hb hby own_d1_30), X140.method', Bd.returns, Value.isRef, FieldType.isReference]
                        first | (intro acts; rw [hr _ acts rfl rfl rfl]) | rw [hr _ _ rfl rfl rfl]
                        exact Steps.refl _
                      · show Qown_for Z p1 ka kk s1 s2 s3 s4 s5 s6 s7 s8 s9 s10 s11 s12 s13 s14 s15 s16 s17 s18 s19 s20 s21 s22 s23 s24 h0 n0 _ T140.heap _
                        rw [e140]
                        exact ⟨congrArg some (by rw [← hc25_142]; rfl), N0, rfl⟩
                    · skip
                      obtain ⟨cl143, Ar143, Aq143, As143, An143, Ah143, Ag143⟩ := id VK
                      have hin143 : ¬ ((10 : Int32) < 0 ∨ cl143.slots.size ≤ ((10 : Int32)).toNatClampNeg) := inb_of As143 ⟨by decide, by decide⟩
                      obtain ⟨T144, X144, e144, st144⟩ := getF X140 hx hZ hown (host := "") (Or.inl (own_w57 hw)) Via.refl e140 F11 (g := (mkF m 21 #[.val (.int p1), .val (.ref ka), .val (.int (24 : Int32)), .val (.int (10 : Int32)), .val (.ref s11)] [(.ref s11)])) rfl rfl (hb hby own_d1_21)
                      have pre145 : ∀ t, Steps p.tables e below (T144.setTop (mkF m 25 #[.val (.int p1), .val (.ref ka), .val (.int (24 : Int32)), .val (.int (10 : Int32)), .val (.ref s11)] [(.int p1), (.int (11 : Int32))])) t → Steps p.tables e below (s₁.setTop (entryFrame m #[(.int p1)] 5)) t := fun t kt => pre141 t (by
                        show Steps _ _ _ (T140.setTop (mkF m 25 #[.val (.int p1), .val (.ref ka), .val (.int (24 : Int32)), .val (.int (9 : Int32)), .val (.ref s10)] [(.int p1), (.int (10 : Int32))])) _
                        refine XS.icmpYes X140.here hx rfl (pc0 := 25) (pc' := 31) rfl (hb hby own_d1_25) rfl (feq hc25_142).2 (by decide) (by decide) ?_
                        refine XS.iinc X140.here hx rfl (hb hby own_d1_31) rfl (l' := #[.val (.int p1), .val (.ref ka), .val (.int (24 : Int32)), .val (.int (10 : Int32)), .val (.ref s10)]) rfl ?_
                        refine XS.goto X140.here hx rfl (pc0 := 34) (pc' := 9) rfl (hb hby own_d1_34) (by decide) (by decide) ?_
                        refine XS.iloadN X140.here hx rfl (hb hby own_d1_9) rfl ?_
                        show Steps _ _ _ (T140.setTop (mkF m 10 #[.val (.int p1), .val (.ref ka), .val (.int (24 : Int32)), .val (.int (10 : Int32)), .val (.ref s10)] [(.int (10 : Int32))])) _
                        refine XS.iloadN X140.here hx rfl (hb hby own_d1_10) rfl ?_
                        refine XS.icmpNo X140.here hx rfl (hb hby own_d1_11) rfl (tlt (by decide : (10 : Int32) < (24 : Int32))).2.1 ?_
                        refine XS.aloadN X140.here hx rfl (hb hby own_d1_14) rfl rfl ?_
                        refine XS.iloadN X140.here hx rfl (hb hby own_d1_15) rfl ?_
                        show Steps _ _ _ (T140.setTop (mkF m 16 #[.val (.int p1), .val (.ref ka), .val (.int (24 : Int32)), .val (.int (10 : Int32)), .val (.ref s10)] [(.int (10 : Int32)), (.ref ka)])) _
                        refine X140.aaload hx (j := (10 : Int32)) (v := (.ref s11)) (by rw [e140]; exact Ar143.1) (State.isArrayOf_alike hZ.alike Ar143.2.1) rfl Ar143.2.2 hin143 (Ah143.at hin143 rfl) (g := (mkF m 16 #[.val (.int p1), .val (.ref ka), .val (.int (24 : Int32)), .val (.int (10 : Int32)), .val (.ref s10)] [(.int (10 : Int32)), (.ref ka)])) rfl rfl (hb hby own_d1_16) _ ?_
                        refine XS.astore X140.here hx rfl (hb hby own_d1_17) rfl rfl (l' := #[.val (.int p1), .val (.ref ka), .val (.int (24 : Int32)), .val (.int (10 : Int32)), .val (.ref s11)]) rfl ?_
                        refine XS.aload X140.here hx rfl (hb hby own_d1_19) rfl rfl ?_
                        refine st144 _ ?_
                        show Steps _ _ _ (T144.setTop (mkF m 24 #[.val (.int p1), .val (.ref ka), .val (.int (24 : Int32)), .val (.int (10 : Int32)), .val (.ref s11)] [(.int (11 : Int32))])) _
                        refine XS.iloadN X144.here hx rfl (hb hby own_d1_24) rfl ?_
                        exact kt)
                      by_cases hc25_146 : (11 : Int32) = p1
                      · skip
                        obtain ⟨fs, hr, hrun, hended, hW, hsame⟩ := X144.leave (v := some (.ref s11)) (fun h => by rw [Bd.returns] at h; cases h)
                        refine ⟨_, _, pre145 _ ?_, hrun, hended, _, _, rfl, ?_, ⟨_, rfl⟩, hW, hsame.mono (by decide) (by decide)⟩
                        · show Steps _ _ _ (T144.setTop (mkF m 25 #[.val (.int p1), .val (.ref ka), .val (.int (24 : Int32)), .val (.int (10 : Int32)), .val (.ref s11)] [(.int p1), (.int (11 : Int32))])) _
                          refine XS.icmpNo X144.here hx rfl (hb hby own_d1_25) rfl (teq hc25_146).2 ?_
                          refine XS.aload X144.here hx rfl (hb hby own_d1_28) rfl rfl ?_
                          show Steps _ _ _ (T144.setTop (mkF m 30 #[.val (.int p1), .val (.ref ka), .val (.int (24 : Int32)), .val (.int (10 : Int32)), .val (.ref s11)] [(.ref s11)])) _
                          jvm_step X144.here [X144.here.top, hx, (hb hby own_d1_30), X144.method', Bd.returns, Value.isRef, FieldType.isReference]
                          first | (intro acts; rw [hr _ acts rfl rfl rfl]) | rw [hr _ _ rfl rfl rfl]
                          exact Steps.refl _
                        · show Qown_for Z p1 ka kk s1 s2 s3 s4 s5 s6 s7 s8 s9 s10 s11 s12 s13 s14 s15 s16 s17 s18 s19 s20 s21 s22 s23 s24 h0 n0 _ T144.heap _
                          rw [e144]
                          exact ⟨congrArg some (by rw [← hc25_146]; rfl), N0, rfl⟩
                      · skip
                        obtain ⟨cl147, Ar147, Aq147, As147, An147, Ah147, Ag147⟩ := id VK
                        have hin147 : ¬ ((11 : Int32) < 0 ∨ cl147.slots.size ≤ ((11 : Int32)).toNatClampNeg) := inb_of As147 ⟨by decide, by decide⟩
                        obtain ⟨T148, X148, e148, st148⟩ := getF X144 hx hZ hown (host := "") (Or.inl (own_w57 hw)) Via.refl e144 F12 (g := (mkF m 21 #[.val (.int p1), .val (.ref ka), .val (.int (24 : Int32)), .val (.int (11 : Int32)), .val (.ref s12)] [(.ref s12)])) rfl rfl (hb hby own_d1_21)
                        have pre149 : ∀ t, Steps p.tables e below (T148.setTop (mkF m 25 #[.val (.int p1), .val (.ref ka), .val (.int (24 : Int32)), .val (.int (11 : Int32)), .val (.ref s12)] [(.int p1), (.int (12 : Int32))])) t → Steps p.tables e below (s₁.setTop (entryFrame m #[(.int p1)] 5)) t := fun t kt => pre145 t (by
                          show Steps _ _ _ (T144.setTop (mkF m 25 #[.val (.int p1), .val (.ref ka), .val (.int (24 : Int32)), .val (.int (10 : Int32)), .val (.ref s11)] [(.int p1), (.int (11 : Int32))])) _
                          refine XS.icmpYes X144.here hx rfl (pc0 := 25) (pc' := 31) rfl (hb hby own_d1_25) rfl (feq hc25_146).2 (by decide) (by decide) ?_
                          refine XS.iinc X144.here hx rfl (hb hby own_d1_31) rfl (l' := #[.val (.int p1), .val (.ref ka), .val (.int (24 : Int32)), .val (.int (11 : Int32)), .val (.ref s11)]) rfl ?_
                          refine XS.goto X144.here hx rfl (pc0 := 34) (pc' := 9) rfl (hb hby own_d1_34) (by decide) (by decide) ?_
                          refine XS.iloadN X144.here hx rfl (hb hby own_d1_9) rfl ?_
                          show Steps _ _ _ (T144.setTop (mkF m 10 #[.val (.int p1), .val (.ref ka), .val (.int (24 : Int32)), .val (.int (11 : Int32)), .val (.ref s11)] [(.int (11 : Int32))])) _
                          refine XS.iloadN X144.here hx rfl (hb hby own_d1_10) rfl ?_
                          refine XS.icmpNo X144.here hx rfl (hb hby own_d1_11) rfl (tlt (by decide : (11 : Int32) < (24 : Int32))).2.1 ?_
                          refine XS.aloadN X144.here hx rfl (hb hby own_d1_14) rfl rfl ?_
                          refine XS.iloadN X144.here hx rfl (hb hby own_d1_15) rfl ?_
                          show Steps _ _ _ (T144.setTop (mkF m 16 #[.val (.int p1), .val (.ref ka), .val (.int (24 : Int32)), .val (.int (11 : Int32)), .val (.ref s11)] [(.int (11 : Int32)), (.ref ka)])) _
                          refine X144.aaload hx (j := (11 : Int32)) (v := (.ref s12)) (by rw [e144]; exact Ar147.1) (State.isArrayOf_alike hZ.alike Ar147.2.1) rfl Ar147.2.2 hin147 (Ah147.at hin147 rfl) (g := (mkF m 16 #[.val (.int p1), .val (.ref ka), .val (.int (24 : Int32)), .val (.int (11 : Int32)), .val (.ref s11)] [(.int (11 : Int32)), (.ref ka)])) rfl rfl (hb hby own_d1_16) _ ?_
                          refine XS.astore X144.here hx rfl (hb hby own_d1_17) rfl rfl (l' := #[.val (.int p1), .val (.ref ka), .val (.int (24 : Int32)), .val (.int (11 : Int32)), .val (.ref s12)]) rfl ?_
                          refine XS.aload X144.here hx rfl (hb hby own_d1_19) rfl rfl ?_
                          refine st148 _ ?_
                          show Steps _ _ _ (T148.setTop (mkF m 24 #[.val (.int p1), .val (.ref ka), .val (.int (24 : Int32)), .val (.int (11 : Int32)), .val (.ref s12)] [(.int (12 : Int32))])) _
                          refine XS.iloadN X148.here hx rfl (hb hby own_d1_24) rfl ?_
                          exact kt)
                        by_cases hc25_150 : (12 : Int32) = p1
                        · skip
                          obtain ⟨fs, hr, hrun, hended, hW, hsame⟩ := X148.leave (v := some (.ref s12)) (fun h => by rw [Bd.returns] at h; cases h)
                          refine ⟨_, _, pre149 _ ?_, hrun, hended, _, _, rfl, ?_, ⟨_, rfl⟩, hW, hsame.mono (by decide) (by decide)⟩
                          · show Steps _ _ _ (T148.setTop (mkF m 25 #[.val (.int p1), .val (.ref ka), .val (.int (24 : Int32)), .val (.int (11 : Int32)), .val (.ref s12)] [(.int p1), (.int (12 : Int32))])) _
                            refine XS.icmpNo X148.here hx rfl (hb hby own_d1_25) rfl (teq hc25_150).2 ?_
                            refine XS.aload X148.here hx rfl (hb hby own_d1_28) rfl rfl ?_
                            show Steps _ _ _ (T148.setTop (mkF m 30 #[.val (.int p1), .val (.ref ka), .val (.int (24 : Int32)), .val (.int (11 : Int32)), .val (.ref s12)] [(.ref s12)])) _
                            jvm_step X148.here [X148.here.top, hx, (hb hby own_d1_30), X148.method', Bd.returns, Value.isRef, FieldType.isReference]
                            first | (intro acts; rw [hr _ acts rfl rfl rfl]) | rw [hr _ _ rfl rfl rfl]
                            exact Steps.refl _
                          · show Qown_for Z p1 ka kk s1 s2 s3 s4 s5 s6 s7 s8 s9 s10 s11 s12 s13 s14 s15 s16 s17 s18 s19 s20 s21 s22 s23 s24 h0 n0 _ T148.heap _
                            rw [e148]
                            exact ⟨congrArg some (by rw [← hc25_150]; rfl), N0, rfl⟩
                        · skip
                          obtain ⟨cl151, Ar151, Aq151, As151, An151, Ah151, Ag151⟩ := id VK
                          have hin151 : ¬ ((12 : Int32) < 0 ∨ cl151.slots.size ≤ ((12 : Int32)).toNatClampNeg) := inb_of As151 ⟨by decide, by decide⟩
                          obtain ⟨T152, X152, e152, st152⟩ := getF X148 hx hZ hown (host := "") (Or.inl (own_w57 hw)) Via.refl e148 F13 (g := (mkF m 21 #[.val (.int p1), .val (.ref ka), .val (.int (24 : Int32)), .val (.int (12 : Int32)), .val (.ref s13)] [(.ref s13)])) rfl rfl (hb hby own_d1_21)
                          have pre153 : ∀ t, Steps p.tables e below (T152.setTop (mkF m 25 #[.val (.int p1), .val (.ref ka), .val (.int (24 : Int32)), .val (.int (12 : Int32)), .val (.ref s13)] [(.int p1), (.int (13 : Int32))])) t → Steps p.tables e below (s₁.setTop (entryFrame m #[(.int p1)] 5)) t := fun t kt => pre149 t (by
                            show Steps _ _ _ (T148.setTop (mkF m 25 #[.val (.int p1), .val (.ref ka), .val (.int (24 : Int32)), .val (.int (11 : Int32)), .val (.ref s12)] [(.int p1), (.int (12 : Int32))])) _
                            refine XS.icmpYes X148.here hx rfl (pc0 := 25) (pc' := 31) rfl (hb hby own_d1_25) rfl (feq hc25_150).2 (by decide) (by decide) ?_
                            refine XS.iinc X148.here hx rfl (hb hby own_d1_31) rfl (l' := #[.val (.int p1), .val (.ref ka), .val (.int (24 : Int32)), .val (.int (12 : Int32)), .val (.ref s12)]) rfl ?_
                            refine XS.goto X148.here hx rfl (pc0 := 34) (pc' := 9) rfl (hb hby own_d1_34) (by decide) (by decide) ?_
                            refine XS.iloadN X148.here hx rfl (hb hby own_d1_9) rfl ?_
                            show Steps _ _ _ (T148.setTop (mkF m 10 #[.val (.int p1), .val (.ref ka), .val (.int (24 : Int32)), .val (.int (12 : Int32)), .val (.ref s12)] [(.int (12 : Int32))])) _
                            refine XS.iloadN X148.here hx rfl (hb hby own_d1_10) rfl ?_
                            refine XS.icmpNo X148.here hx rfl (hb hby own_d1_11) rfl (tlt (by decide : (12 : Int32) < (24 : Int32))).2.1 ?_
                            refine XS.aloadN X148.here hx rfl (hb hby own_d1_14) rfl rfl ?_
                            refine XS.iloadN X148.here hx rfl (hb hby own_d1_15) rfl ?_
                            show Steps _ _ _ (T148.setTop (mkF m 16 #[.val (.int p1), .val (.ref ka), .val (.int (24 : Int32)), .val (.int (12 : Int32)), .val (.ref s12)] [(.int (12 : Int32)), (.ref ka)])) _
                            refine X148.aaload hx (j := (12 : Int32)) (v := (.ref s13)) (by rw [e148]; exact Ar151.1) (State.isArrayOf_alike hZ.alike Ar151.2.1) rfl Ar151.2.2 hin151 (Ah151.at hin151 rfl) (g := (mkF m 16 #[.val (.int p1), .val (.ref ka), .val (.int (24 : Int32)), .val (.int (12 : Int32)), .val (.ref s12)] [(.int (12 : Int32)), (.ref ka)])) rfl rfl (hb hby own_d1_16) _ ?_
                            refine XS.astore X148.here hx rfl (hb hby own_d1_17) rfl rfl (l' := #[.val (.int p1), .val (.ref ka), .val (.int (24 : Int32)), .val (.int (12 : Int32)), .val (.ref s13)]) rfl ?_
                            refine XS.aload X148.here hx rfl (hb hby own_d1_19) rfl rfl ?_
                            refine st152 _ ?_
                            show Steps _ _ _ (T152.setTop (mkF m 24 #[.val (.int p1), .val (.ref ka), .val (.int (24 : Int32)), .val (.int (12 : Int32)), .val (.ref s13)] [(.int (13 : Int32))])) _
                            refine XS.iloadN X152.here hx rfl (hb hby own_d1_24) rfl ?_
                            exact kt)
                          by_cases hc25_154 : (13 : Int32) = p1
                          · skip
                            obtain ⟨fs, hr, hrun, hended, hW, hsame⟩ := X152.leave (v := some (.ref s13)) (fun h => by rw [Bd.returns] at h; cases h)
                            refine ⟨_, _, pre153 _ ?_, hrun, hended, _, _, rfl, ?_, ⟨_, rfl⟩, hW, hsame.mono (by decide) (by decide)⟩
                            · show Steps _ _ _ (T152.setTop (mkF m 25 #[.val (.int p1), .val (.ref ka), .val (.int (24 : Int32)), .val (.int (12 : Int32)), .val (.ref s13)] [(.int p1), (.int (13 : Int32))])) _
                              refine XS.icmpNo X152.here hx rfl (hb hby own_d1_25) rfl (teq hc25_154).2 ?_
                              refine XS.aload X152.here hx rfl (hb hby own_d1_28) rfl rfl ?_
                              show Steps _ _ _ (T152.setTop (mkF m 30 #[.val (.int p1), .val (.ref ka), .val (.int (24 : Int32)), .val (.int (12 : Int32)), .val (.ref s13)] [(.ref s13)])) _
                              jvm_step X152.here [X152.here.top, hx, (hb hby own_d1_30), X152.method', Bd.returns, Value.isRef, FieldType.isReference]
                              first | (intro acts; rw [hr _ acts rfl rfl rfl]) | rw [hr _ _ rfl rfl rfl]
                              exact Steps.refl _
                            · show Qown_for Z p1 ka kk s1 s2 s3 s4 s5 s6 s7 s8 s9 s10 s11 s12 s13 s14 s15 s16 s17 s18 s19 s20 s21 s22 s23 s24 h0 n0 _ T152.heap _
                              rw [e152]
                              exact ⟨congrArg some (by rw [← hc25_154]; rfl), N0, rfl⟩
                          · skip
                            obtain ⟨cl155, Ar155, Aq155, As155, An155, Ah155, Ag155⟩ := id VK
                            have hin155 : ¬ ((13 : Int32) < 0 ∨ cl155.slots.size ≤ ((13 : Int32)).toNatClampNeg) := inb_of As155 ⟨by decide, by decide⟩
                            obtain ⟨T156, X156, e156, st156⟩ := getF X152 hx hZ hown (host := "") (Or.inl (own_w57 hw)) Via.refl e152 F14 (g := (mkF m 21 #[.val (.int p1), .val (.ref ka), .val (.int (24 : Int32)), .val (.int (13 : Int32)), .val (.ref s14)] [(.ref s14)])) rfl rfl (hb hby own_d1_21)
                            have pre157 : ∀ t, Steps p.tables e below (T156.setTop (mkF m 25 #[.val (.int p1), .val (.ref ka), .val (.int (24 : Int32)), .val (.int (13 : Int32)), .val (.ref s14)] [(.int p1), (.int (14 : Int32))])) t → Steps p.tables e below (s₁.setTop (entryFrame m #[(.int p1)] 5)) t := fun t kt => pre153 t (by
                              show Steps _ _ _ (T152.setTop (mkF m 25 #[.val (.int p1), .val (.ref ka), .val (.int (24 : Int32)), .val (.int (12 : Int32)), .val (.ref s13)] [(.int p1), (.int (13 : Int32))])) _
                              refine XS.icmpYes X152.here hx rfl (pc0 := 25) (pc' := 31) rfl (hb hby own_d1_25) rfl (feq hc25_154).2 (by decide) (by decide) ?_
                              refine XS.iinc X152.here hx rfl (hb hby own_d1_31) rfl (l' := #[.val (.int p1), .val (.ref ka), .val (.int (24 : Int32)), .val (.int (13 : Int32)), .val (.ref s13)]) rfl ?_
                              refine XS.goto X152.here hx rfl (pc0 := 34) (pc' := 9) rfl (hb hby own_d1_34) (by decide) (by decide) ?_
                              refine XS.iloadN X152.here hx rfl (hb hby own_d1_9) rfl ?_
                              show Steps _ _ _ (T152.setTop (mkF m 10 #[.val (.int p1), .val (.ref ka), .val (.int (24 : Int32)), .val (.int (13 : Int32)), .val (.ref s13)] [(.int (13 : Int32))])) _
                              refine XS.iloadN X152.here hx rfl (hb hby own_d1_10) rfl ?_
                              refine XS.icmpNo X152.here hx rfl (hb hby own_d1_11) rfl (tlt (by decide : (13 : Int32) < (24 : Int32))).2.1 ?_
                              refine XS.aloadN X152.here hx rfl (hb hby own_d1_14) rfl rfl ?_
                              refine XS.iloadN X152.here hx rfl (hb hby own_d1_15) rfl ?_
                              show Steps _ _ _ (T152.setTop (mkF m 16 #[.val (.int p1), .val (.ref ka), .val (.int (24 : Int32)), .val (.int (13 : Int32)), .val (.ref s13)] [(.int (13 : Int32)), (.ref ka)])) _
                              refine X152.aaload hx (j := (13 : Int32)) (v := (.ref s14)) (by rw [e152]; exact Ar155.1) (State.isArrayOf_alike hZ.alike Ar155.2.1) rfl Ar155.2.2 hin155 (Ah155.at hin155 rfl) (g := (mkF m 16 #[.val (.int p1), .val (.ref ka), .val (.int (24 : Int32)), .val (.int (13 : Int32)), .val (.ref s13)] [(.int (13 : Int32)), (.ref ka)])) rfl rfl (hb hby own_d1_16) _ ?_
                              refine XS.astore X152.here hx rfl (hb hby own_d1_17) rfl rfl (l' := #[.val (.int p1), .val (.ref ka), .val (.int (24 : Int32)), .val (.int (13 : Int32)), .val (.ref s14)]) rfl ?_
                              refine XS.aload X152.here hx rfl (hb hby own_d1_19) rfl rfl ?_
                              refine st156 _ ?_
                              show Steps _ _ _ (T156.setTop (mkF m 24 #[.val (.int p1), .val (.ref ka), .val (.int (24 : Int32)), .val (.int (13 : Int32)), .val (.ref s14)] [(.int (14 : Int32))])) _
                              refine XS.iloadN X156.here hx rfl (hb hby own_d1_24) rfl ?_
                              exact kt)
                            by_cases hc25_158 : (14 : Int32) = p1
                            · skip
                              obtain ⟨fs, hr, hrun, hended, hW, hsame⟩ := X156.leave (v := some (.ref s14)) (fun h => by rw [Bd.returns] at h; cases h)
                              refine ⟨_, _, pre157 _ ?_, hrun, hended, _, _, rfl, ?_, ⟨_, rfl⟩, hW, hsame.mono (by decide) (by decide)⟩
                              · show Steps _ _ _ (T156.setTop (mkF m 25 #[.val (.int p1), .val (.ref ka), .val (.int (24 : Int32)), .val (.int (13 : Int32)), .val (.ref s14)] [(.int p1), (.int (14 : Int32))])) _
                                refine XS.icmpNo X156.here hx rfl (hb hby own_d1_25) rfl (teq hc25_158).2 ?_
                                refine XS.aload X156.here hx rfl (hb hby own_d1_28) rfl rfl ?_
                                show Steps _ _ _ (T156.setTop (mkF m 30 #[.val (.int p1), .val (.ref ka), .val (.int (24 : Int32)), .val (.int (13 : Int32)), .val (.ref s14)] [(.ref s14)])) _
                                jvm_step X156.here [X156.here.top, hx, (hb hby own_d1_30), X156.method', Bd.returns, Value.isRef, FieldType.isReference]
                                first | (intro acts; rw [hr _ acts rfl rfl rfl]) | rw [hr _ _ rfl rfl rfl]
                                exact Steps.refl _
                              · show Qown_for Z p1 ka kk s1 s2 s3 s4 s5 s6 s7 s8 s9 s10 s11 s12 s13 s14 s15 s16 s17 s18 s19 s20 s21 s22 s23 s24 h0 n0 _ T156.heap _
                                rw [e156]
                                exact ⟨congrArg some (by rw [← hc25_158]; rfl), N0, rfl⟩
                            · skip
                              obtain ⟨cl159, Ar159, Aq159, As159, An159, Ah159, Ag159⟩ := id VK
                              have hin159 : ¬ ((14 : Int32) < 0 ∨ cl159.slots.size ≤ ((14 : Int32)).toNatClampNeg) := inb_of As159 ⟨by decide, by decide⟩
                              obtain ⟨T160, X160, e160, st160⟩ := getF X156 hx hZ hown (host := "") (Or.inl (own_w57 hw)) Via.refl e156 F15 (g := (mkF m 21 #[.val (.int p1), .val (.ref ka), .val (.int (24 : Int32)), .val (.int (14 : Int32)), .val (.ref s15)] [(.ref s15)])) rfl rfl (hb hby own_d1_21)
                              have pre161 : ∀ t, Steps p.tables e below (T160.setTop (mkF m 25 #[.val (.int p1), .val (.ref ka), .val (.int (24 : Int32)), .val (.int (14 : Int32)), .val (.ref s15)] [(.int p1), (.int (15 : Int32))])) t → Steps p.tables e below (s₁.setTop (entryFrame m #[(.int p1)] 5)) t := fun t kt => pre157 t (by
                                show Steps _ _ _ (T156.setTop (mkF m 25 #[.val (.int p1), .val (.ref ka), .val (.int (24 : Int32)), .val (.int (13 : Int32)), .val (.ref s14)] [(.int p1), (.int (14 : Int32))])) _
                                refine XS.icmpYes X156.here hx rfl (pc0 := 25) (pc' := 31) rfl (hb hby own_d1_25) rfl (feq hc25_158).2 (by decide) (by decide) ?_
                                refine XS.iinc X156.here hx rfl (hb hby own_d1_31) rfl (l' := #[.val (.int p1), .val (.ref ka), .val (.int (24 : Int32)), .val (.int (14 : Int32)), .val (.ref s14)]) rfl ?_
                                refine XS.goto X156.here hx rfl (pc0 := 34) (pc' := 9) rfl (hb hby own_d1_34) (by decide) (by decide) ?_
                                refine XS.iloadN X156.here hx rfl (hb hby own_d1_9) rfl ?_
                                show Steps _ _ _ (T156.setTop (mkF m 10 #[.val (.int p1), .val (.ref ka), .val (.int (24 : Int32)), .val (.int (14 : Int32)), .val (.ref s14)] [(.int (14 : Int32))])) _
                                refine XS.iloadN X156.here hx rfl (hb hby own_d1_10) rfl ?_
                                refine XS.icmpNo X156.here hx rfl (hb hby own_d1_11) rfl (tlt (by decide : (14 : Int32) < (24 : Int32))).2.1 ?_
                                refine XS.aloadN X156.here hx rfl (hb hby own_d1_14) rfl rfl ?_
                                refine XS.iloadN X156.here hx rfl (hb hby own_d1_15) rfl ?_
                                show Steps _ _ _ (T156.setTop (mkF m 16 #[.val (.int p1), .val (.ref ka), .val (.int (24 : Int32)), .val (.int (14 : Int32)), .val (.ref s14)] [(.int (14 : Int32)), (.ref ka)])) _
                                refine X156.aaload hx (j := (14 : Int32)) (v := (.ref s15)) (by rw [e156]; exact Ar159.1) (State.isArrayOf_alike hZ.alike Ar159.2.1) rfl Ar159.2.2 hin159 (Ah159.at hin159 rfl) (g := (mkF m 16 #[.val (.int p1), .val (.ref ka), .val (.int (24 : Int32)), .val (.int (14 : Int32)), .val (.ref s14)] [(.int (14 : Int32)), (.ref ka)])) rfl rfl (hb hby own_d1_16) _ ?_
                                refine XS.astore X156.here hx rfl (hb hby own_d1_17) rfl rfl (l' := #[.val (.int p1), .val (.ref ka), .val (.int (24 : Int32)), .val (.int (14 : Int32)), .val (.ref s15)]) rfl ?_
                                refine XS.aload X156.here hx rfl (hb hby own_d1_19) rfl rfl ?_
                                refine st160 _ ?_
                                show Steps _ _ _ (T160.setTop (mkF m 24 #[.val (.int p1), .val (.ref ka), .val (.int (24 : Int32)), .val (.int (14 : Int32)), .val (.ref s15)] [(.int (15 : Int32))])) _
                                refine XS.iloadN X160.here hx rfl (hb hby own_d1_24) rfl ?_
                                exact kt)
                              by_cases hc25_162 : (15 : Int32) = p1
                              · skip
                                obtain ⟨fs, hr, hrun, hended, hW, hsame⟩ := X160.leave (v := some (.ref s15)) (fun h => by rw [Bd.returns] at h; cases h)
                                refine ⟨_, _, pre161 _ ?_, hrun, hended, _, _, rfl, ?_, ⟨_, rfl⟩, hW, hsame.mono (by decide) (by decide)⟩
                                · show Steps _ _ _ (T160.setTop (mkF m 25 #[.val (.int p1), .val (.ref ka), .val (.int (24 : Int32)), .val (.int (14 : Int32)), .val (.ref s15)] [(.int p1), (.int (15 : Int32))])) _
                                  refine XS.icmpNo X160.here hx rfl (hb hby own_d1_25) rfl (teq hc25_162).2 ?_
                                  refine XS.aload X160.here hx rfl (hb hby own_d1_28) rfl rfl ?_
                                  show Steps _ _ _ (T160.setTop (mkF m 30 #[.val (.int p1), .val (.ref ka), .val (.int (24 : Int32)), .val (.int (14 : Int32)), .val (.ref s15)] [(.ref s15)])) _
                                  jvm_step X160.here [X160.here.top, hx, (hb hby own_d1_30), X160.method', Bd.returns, Value.isRef, FieldType.isReference]
                                  first | (intro acts; rw [hr _ acts rfl rfl rfl]) | rw [hr _ _ rfl rfl rfl]
                                  exact Steps.refl _
                                · show Qown_for Z p1 ka kk s1 s2 s3 s4 s5 s6 s7 s8 s9 s10 s11 s12 s13 s14 s15 s16 s17 s18 s19 s20 s21 s22 s23 s24 h0 n0 _ T160.heap _
                                  rw [e160]
                                  exact ⟨congrArg some (by rw [← hc25_162]; rfl), N0, rfl⟩
                              · skip
                                obtain ⟨cl163, Ar163, Aq163, As163, An163, Ah163, Ag163⟩ := id VK
                                have hin163 : ¬ ((15 : Int32) < 0 ∨ cl163.slots.size ≤ ((15 : Int32)).toNatClampNeg) := inb_of As163 ⟨by decide, by decide⟩
                                obtain ⟨T164, X164, e164, st164⟩ := getF X160 hx hZ hown (host := "") (Or.inl (own_w57 hw)) Via.refl e160 F16 (g := (mkF m 21 #[.val (.int p1), .val (.ref ka), .val (.int (24 : Int32)), .val (.int (15 : Int32)), .val (.ref s16)] [(.ref s16)])) rfl rfl (hb hby own_d1_21)
                                have pre165 : ∀ t, Steps p.tables e below (T164.setTop (mkF m 25 #[.val (.int p1), .val (.ref ka), .val (.int (24 : Int32)), .val (.int (15 : Int32)), .val (.ref s16)] [(.int p1), (.int (16 : Int32))])) t → Steps p.tables e below (s₁.setTop (entryFrame m #[(.int p1)] 5)) t := fun t kt => pre161 t (by
                                  show Steps _ _ _ (T160.setTop (mkF m 25 #[.val (.int p1), .val (.ref ka), .val (.int (24 : Int32)), .val (.int (14 : Int32)), .val (.ref s15)] [(.int p1), (.int (15 : Int32))])) _
                                  refine XS.icmpYes X160.here hx rfl (pc0 := 25) (pc' := 31) rfl (hb hby own_d1_25) rfl (feq hc25_162).2 (by decide) (by decide) ?_
                                  refine XS.iinc X160.here hx rfl (hb hby own_d1_31) rfl (l' := #[.val (.int p1), .val (.ref ka), .val (.int (24 : Int32)), .val (.int (15 : Int32)), .val (.ref s15)]) rfl ?_
                                  refine XS.goto X160.here hx rfl (pc0 := 34) (pc' := 9) rfl (hb hby own_d1_34) (by decide) (by decide) ?_
                                  refine XS.iloadN X160.here hx rfl (hb hby own_d1_9) rfl ?_
                                  show Steps _ _ _ (T160.setTop (mkF m 10 #[.val (.int p1), .val (.ref ka), .val (.int (24 : Int32)), .val (.int (15 : Int32)), .val (.ref s15)] [(.int (15 : Int32))])) _
                                  refine XS.iloadN X160.here hx rfl (hb hby own_d1_10) rfl ?_
                                  refine XS.icmpNo X160.here hx rfl (hb hby own_d1_11) rfl (tlt (by decide : (15 : Int32) < (24 : Int32))).2.1 ?_
                                  refine XS.aloadN X160.here hx rfl (hb hby own_d1_14) rfl rfl ?_
                                  refine XS.iloadN X160.here hx rfl (hb hby own_d1_15) rfl ?_
                                  show Steps _ _ _ (T160.setTop (mkF m 16 #[.val (.int p1), .val (.ref ka), .val (.int (24 : Int32)), .val (.int (15 : Int32)), .val (.ref s15)] [(.int (15 : Int32)), (.ref ka)])) _
                                  refine X160.aaload hx (j := (15 : Int32)) (v := (.ref s16)) (by rw [e160]; exact Ar163.1) (State.isArrayOf_alike hZ.alike Ar163.2.1) rfl Ar163.2.2 hin163 (Ah163.at hin163 rfl) (g := (mkF m 16 #[.val (.int p1), .val (.ref ka), .val (.int (24 : Int32)), .val (.int (15 : Int32)), .val (.ref s15)] [(.int (15 : Int32)), (.ref ka)])) rfl rfl (hb hby own_d1_16) _ ?_
                                  refine XS.astore X160.here hx rfl (hb hby own_d1_17) rfl rfl (l' := #[.val (.int p1), .val (.ref ka), .val (.int (24 : Int32)), .val (.int (15 : Int32)), .val (.ref s16)]) rfl ?_
                                  refine XS.aload X160.here hx rfl (hb hby own_d1_19) rfl rfl ?_
                                  refine st164 _ ?_
                                  show Steps _ _ _ (T164.setTop (mkF m 24 #[.val (.int p1), .val (.ref ka), .val (.int (24 : Int32)), .val (.int (15 : Int32)), .val (.ref s16)] [(.int (16 : Int32))])) _
                                  refine XS.iloadN X164.here hx rfl (hb hby own_d1_24) rfl ?_
                                  exact kt)
                                by_cases hc25_166 : (16 : Int32) = p1
                                · skip
                                  obtain ⟨fs, hr, hrun, hended, hW, hsame⟩ := X164.leave (v := some (.ref s16)) (fun h => by rw [Bd.returns] at h; cases h)
                                  refine ⟨_, _, pre165 _ ?_, hrun, hended, _, _, rfl, ?_, ⟨_, rfl⟩, hW, hsame.mono (by decide) (by decide)⟩
                                  · show Steps _ _ _ (T164.setTop (mkF m 25 #[.val (.int p1), .val (.ref ka), .val (.int (24 : Int32)), .val (.int (15 : Int32)), .val (.ref s16)] [(.int p1), (.int (16 : Int32))])) _
                                    refine XS.icmpNo X164.here hx rfl (hb hby own_d1_25) rfl (teq hc25_166).2 ?_
                                    refine XS.aload X164.here hx rfl (hb hby own_d1_28) rfl rfl ?_
                                    show Steps _ _ _ (T164.setTop (mkF m 30 #[.val (.int p1), .val (.ref ka), .val (.int (24 : Int32)), .val (.int (15 : Int32)), .val (.ref s16)] [(.ref s16)])) _
                                    jvm_step X164.here [X164.here.top, hx, (hb hby own_d1_30), X164.method', Bd.returns, Value.isRef, FieldType.isReference]
                                    first | (intro acts; rw [hr _ acts rfl rfl rfl]) | rw [hr _ _ rfl rfl rfl]
                                    exact Steps.refl _
                                  · show Qown_for Z p1 ka kk s1 s2 s3 s4 s5 s6 s7 s8 s9 s10 s11 s12 s13 s14 s15 s16 s17 s18 s19 s20 s21 s22 s23 s24 h0 n0 _ T164.heap _
                                    rw [e164]
                                    exact ⟨congrArg some (by rw [← hc25_166]; rfl), N0, rfl⟩
                                · skip
                                  obtain ⟨cl167, Ar167, Aq167, As167, An167, Ah167, Ag167⟩ := id VK
                                  have hin167 : ¬ ((16 : Int32) < 0 ∨ cl167.slots.size ≤ ((16 : Int32)).toNatClampNeg) := inb_of As167 ⟨by decide, by decide⟩
                                  obtain ⟨T168, X168, e168, st168⟩ := getF X164 hx hZ hown (host := "") (Or.inl (own_w57 hw)) Via.refl e164 F17 (g := (mkF m 21 #[.val (.int p1), .val (.ref ka), .val (.int (24 : Int32)), .val (.int (16 : Int32)), .val (.ref s17)] [(.ref s17)])) rfl rfl (hb hby own_d1_21)
                                  have pre169 : ∀ t, Steps p.tables e below (T168.setTop (mkF m 25 #[.val (.int p1), .val (.ref ka), .val (.int (24 : Int32)), .val (.int (16 : Int32)), .val (.ref s17)] [(.int p1), (.int (17 : Int32))])) t → Steps p.tables e below (s₁.setTop (entryFrame m #[(.int p1)] 5)) t := fun t kt => pre165 t (by
                                    show Steps _ _ _ (T164.setTop (mkF m 25 #[.val (.int p1), .val (.ref ka), .val (.int (24 : Int32)), .val (.int (15 : Int32)), .val (.ref s16)] [(.int p1), (.int (16 : Int32))])) _
                                    refine XS.icmpYes X164.here hx rfl (pc0 := 25) (pc' := 31) rfl (hb hby own_d1_25) rfl (feq hc25_166).2 (by decide) (by decide) ?_
                                    refine XS.iinc X164.here hx rfl (hb hby own_d1_31) rfl (l' := #[.val (.int p1), .val (.ref ka), .val (.int (24 : Int32)), .val (.int (16 : Int32)), .val (.ref s16)]) rfl ?_
                                    refine XS.goto X164.here hx rfl (pc0 := 34) (pc' := 9) rfl (hb hby own_d1_34) (by decide) (by decide) ?_
                                    refine XS.iloadN X164.here hx rfl (hb hby own_d1_9) rfl ?_
                                    show Steps _ _ _ (T164.setTop (mkF m 10 #[.val (.int p1), .val (.ref ka), .val (.int (24 : Int32)), .val (.int (16 : Int32)), .val (.ref s16)] [(.int (16 : Int32))])) _
                                    refine XS.iloadN X164.here hx rfl (hb hby own_d1_10) rfl ?_
                                    refine XS.icmpNo X164.here hx rfl (hb hby own_d1_11) rfl (tlt (by decide : (16 : Int32) < (24 : Int32))).2.1 ?_
                                    refine XS.aloadN X164.here hx rfl (hb hby own_d1_14) rfl rfl ?_
                                    refine XS.iloadN X164.here hx rfl (hb hby own_d1_15) rfl ?_
                                    show Steps _ _ _ (T164.setTop (mkF m 16 #[.val (.int p1), .val (.ref ka), .val (.int (24 : Int32)), .val (.int (16 : Int32)), .val (.ref s16)] [(.int (16 : Int32)), (.ref ka)])) _
                                    refine X164.aaload hx (j := (16 : Int32)) (v := (.ref s17)) (by rw [e164]; exact Ar167.1) (State.isArrayOf_alike hZ.alike Ar167.2.1) rfl Ar167.2.2 hin167 (Ah167.at hin167 rfl) (g := (mkF m 16 #[.val (.int p1), .val (.ref ka), .val (.int (24 : Int32)), .val (.int (16 : Int32)), .val (.ref s16)] [(.int (16 : Int32)), (.ref ka)])) rfl rfl (hb hby own_d1_16) _ ?_
                                    refine XS.astore X164.here hx rfl (hb hby own_d1_17) rfl rfl (l' := #[.val (.int p1), .val (.ref ka), .val (.int (24 : Int32)), .val (.int (16 : Int32)), .val (.ref s17)]) rfl ?_
                                    refine XS.aload X164.here hx rfl (hb hby own_d1_19) rfl rfl ?_
                                    refine st168 _ ?_
                                    show Steps _ _ _ (T168.setTop (mkF m 24 #[.val (.int p1), .val (.ref ka), .val (.int (24 : Int32)), .val (.int (16 : Int32)), .val (.ref s17)] [(.int (17 : Int32))])) _
                                    refine XS.iloadN X168.here hx rfl (hb hby own_d1_24) rfl ?_
                                    exact kt)
                                  by_cases hc25_170 : (17 : Int32) = p1
                                  · skip
                                    obtain ⟨fs, hr, hrun, hended, hW, hsame⟩ := X168.leave (v := some (.ref s17)) (fun h => by rw [Bd.returns] at h; cases h)
                                    refine ⟨_, _, pre169 _ ?_, hrun, hended, _, _, rfl, ?_, ⟨_, rfl⟩, hW, hsame.mono (by decide) (by decide)⟩
                                    · show Steps _ _ _ (T168.setTop (mkF m 25 #[.val (.int p1), .val (.ref ka), .val (.int (24 : Int32)), .val (.int (16 : Int32)), .val (.ref s17)] [(.int p1), (.int (17 : Int32))])) _
                                      refine XS.icmpNo X168.here hx rfl (hb hby own_d1_25) rfl (teq hc25_170).2 ?_
                                      refine XS.aload X168.here hx rfl (hb hby own_d1_28) rfl rfl ?_
                                      show Steps _ _ _ (T168.setTop (mkF m 30 #[.val (.int p1), .val (.ref ka), .val (.int (24 : Int32)), .val (.int (16 : Int32)), .val (.ref s17)] [(.ref s17)])) _
                                      jvm_step X168.here [X168.here.top, hx, (hb hby own_d1_30), X168.method', Bd.returns, Value.isRef, FieldType.isReference]
                                      first | (intro acts; rw [hr _ acts rfl rfl rfl]) | rw [hr _ _ rfl rfl rfl]
                                      exact Steps.refl _
                                    · show Qown_for Z p1 ka kk s1 s2 s3 s4 s5 s6 s7 s8 s9 s10 s11 s12 s13 s14 s15 s16 s17 s18 s19 s20 s21 s22 s23 s24 h0 n0 _ T168.heap _
                                      rw [e168]
                                      exact ⟨congrArg some (by rw [← hc25_170]; rfl), N0, rfl⟩
                                  · skip
                                    obtain ⟨cl171, Ar171, Aq171, As171, An171, Ah171, Ag171⟩ := id VK
                                    have hin171 : ¬ ((17 : Int32) < 0 ∨ cl171.slots.size ≤ ((17 : Int32)).toNatClampNeg) := inb_of As171 ⟨by decide, by decide⟩
                                    obtain ⟨T172, X172, e172, st172⟩ := getF X168 hx hZ hown (host := "") (Or.inl (own_w57 hw)) Via.refl e168 F18 (g := (mkF m 21 #[.val (.int p1), .val (.ref ka), .val (.int (24 : Int32)), .val (.int (17 : Int32)), .val (.ref s18)] [(.ref s18)])) rfl rfl (hb hby own_d1_21)
                                    have pre173 : ∀ t, Steps p.tables e below (T172.setTop (mkF m 25 #[.val (.int p1), .val (.ref ka), .val (.int (24 : Int32)), .val (.int (17 : Int32)), .val (.ref s18)] [(.int p1), (.int (18 : Int32))])) t → Steps p.tables e below (s₁.setTop (entryFrame m #[(.int p1)] 5)) t := fun t kt => pre169 t (by
                                      show Steps _ _ _ (T168.setTop (mkF m 25 #[.val (.int p1), .val (.ref ka), .val (.int (24 : Int32)), .val (.int (16 : Int32)), .val (.ref s17)] [(.int p1), (.int (17 : Int32))])) _
                                      refine XS.icmpYes X168.here hx rfl (pc0 := 25) (pc' := 31) rfl (hb hby own_d1_25) rfl (feq hc25_170).2 (by decide) (by decide) ?_
                                      refine XS.iinc X168.here hx rfl (hb hby own_d1_31) rfl (l' := #[.val (.int p1), .val (.ref ka), .val (.int (24 : Int32)), .val (.int (17 : Int32)), .val (.ref s17)]) rfl ?_
                                      refine XS.goto X168.here hx rfl (pc0 := 34) (pc' := 9) rfl (hb hby own_d1_34) (by decide) (by decide) ?_
                                      refine XS.iloadN X168.here hx rfl (hb hby own_d1_9) rfl ?_
                                      show Steps _ _ _ (T168.setTop (mkF m 10 #[.val (.int p1), .val (.ref ka), .val (.int (24 : Int32)), .val (.int (17 : Int32)), .val (.ref s17)] [(.int (17 : Int32))])) _
                                      refine XS.iloadN X168.here hx rfl (hb hby own_d1_10) rfl ?_
                                      refine XS.icmpNo X168.here hx rfl (hb hby own_d1_11) rfl (tlt (by decide : (17 : Int32) < (24 : Int32))).2.1 ?_
                                      refine XS.aloadN X168.here hx rfl (hb hby own_d1_14) rfl rfl ?_
                                      refine XS.iloadN X168.here hx rfl (hb hby own_d1_15) rfl ?_
                                      show Steps _ _ _ (T168.setTop (mkF m 16 #[.val (.int p1), .val (.ref ka), .val (.int (24 : Int32)), .val (.int (17 : Int32)), .val (.ref s17)] [(.int (17 : Int32)), (.ref ka)])) _
                                      refine X168.aaload hx (j := (17 : Int32)) (v := (.ref s18)) (by rw [e168]; exact Ar171.1) (State.isArrayOf_alike hZ.alike Ar171.2.1) rfl Ar171.2.2 hin171 (Ah171.at hin171 rfl) (g := (mkF m 16 #[.val (.int p1), .val (.ref ka), .val (.int (24 : Int32)), .val (.int (17 : Int32)), .val (.ref s17)] [(.int (17 : Int32)), (.ref ka)])) rfl rfl (hb hby own_d1_16) _ ?_
                                      refine XS.astore X168.here hx rfl (hb hby own_d1_17) rfl rfl (l' := #[.val (.int p1), .val (.ref ka), .val (.int (24 : Int32)), .val (.int (17 : Int32)), .val (.ref s18)]) rfl ?_
                                      refine XS.aload X168.here hx rfl (hb hby own_d1_19) rfl rfl ?_
                                      refine st172 _ ?_
                                      show Steps _ _ _ (T172.setTop (mkF m 24 #[.val (.int p1), .val (.ref ka), .val (.int (24 : Int32)), .val (.int (17 : Int32)), .val (.ref s18)] [(.int (18 : Int32))])) _
                                      refine XS.iloadN X172.here hx rfl (hb hby own_d1_24) rfl ?_
                                      exact kt)
                                    by_cases hc25_174 : (18 : Int32) = p1
                                    · skip
                                      obtain ⟨fs, hr, hrun, hended, hW, hsame⟩ := X172.leave (v := some (.ref s18)) (fun h => by rw [Bd.returns] at h; cases h)
                                      refine ⟨_, _, pre173 _ ?_, hrun, hended, _, _, rfl, ?_, ⟨_, rfl⟩, hW, hsame.mono (by decide) (by decide)⟩
                                      · show Steps _ _ _ (T172.setTop (mkF m 25 #[.val (.int p1), .val (.ref ka), .val (.int (24 : Int32)), .val (.int (17 : Int32)), .val (.ref s18)] [(.int p1), (.int (18 : Int32))])) _
                                        refine XS.icmpNo X172.here hx rfl (hb hby own_d1_25) rfl (teq hc25_174).2 ?_
                                        refine XS.aload X172.here hx rfl (hb hby own_d1_28) rfl rfl ?_
                                        show Steps _ _ _ (T172.setTop (mkF m 30 #[.val (.int p1), .val (.ref ka), .val (.int (24 : Int32)), .val (.int (17 : Int32)), .val (.ref s18)] [(.ref s18)])) _
                                        jvm_step X172.here [X172.here.top, hx, (hb hby own_d1_30), X172.method', Bd.returns, Value.isRef, FieldType.isReference]
                                        first | (intro acts; rw [hr _ acts rfl rfl rfl]) | rw [hr _ _ rfl rfl rfl]
                                        exact Steps.refl _
                                      · show Qown_for Z p1 ka kk s1 s2 s3 s4 s5 s6 s7 s8 s9 s10 s11 s12 s13 s14 s15 s16 s17 s18 s19 s20 s21 s22 s23 s24 h0 n0 _ T172.heap _
                                        rw [e172]
                                        exact ⟨congrArg some (by rw [← hc25_174]; rfl), N0, rfl⟩
                                    · skip
                                      obtain ⟨cl175, Ar175, Aq175, As175, An175, Ah175, Ag175⟩ := id VK
                                      have hin175 : ¬ ((18 : Int32) < 0 ∨ cl175.slots.size ≤ ((18 : Int32)).toNatClampNeg) := inb_of As175 ⟨by decide, by decide⟩
                                      obtain ⟨T176, X176, e176, st176⟩ := getF X172 hx hZ hown (host := "") (Or.inl (own_w57 hw)) Via.refl e172 F19 (g := (mkF m 21 #[.val (.int p1), .val (.ref ka), .val (.int (24 : Int32)), .val (.int (18 : Int32)), .val (.ref s19)] [(.ref s19)])) rfl rfl (hb hby own_d1_21)
                                      have pre177 : ∀ t, Steps p.tables e below (T176.setTop (mkF m 25 #[.val (.int p1), .val (.ref ka), .val (.int (24 : Int32)), .val (.int (18 : Int32)), .val (.ref s19)] [(.int p1), (.int (19 : Int32))])) t → Steps p.tables e below (s₁.setTop (entryFrame m #[(.int p1)] 5)) t := fun t kt => pre173 t (by
                                        show Steps _ _ _ (T172.setTop (mkF m 25 #[.val (.int p1), .val (.ref ka), .val (.int (24 : Int32)), .val (.int (17 : Int32)), .val (.ref s18)] [(.int p1), (.int (18 : Int32))])) _
                                        refine XS.icmpYes X172.here hx rfl (pc0 := 25) (pc' := 31) rfl (hb hby own_d1_25) rfl (feq hc25_174).2 (by decide) (by decide) ?_
                                        refine XS.iinc X172.here hx rfl (hb hby own_d1_31) rfl (l' := #[.val (.int p1), .val (.ref ka), .val (.int (24 : Int32)), .val (.int (18 : Int32)), .val (.ref s18)]) rfl ?_
                                        refine XS.goto X172.here hx rfl (pc0 := 34) (pc' := 9) rfl (hb hby own_d1_34) (by decide) (by decide) ?_
                                        refine XS.iloadN X172.here hx rfl (hb hby own_d1_9) rfl ?_
                                        show Steps _ _ _ (T172.setTop (mkF m 10 #[.val (.int p1), .val (.ref ka), .val (.int (24 : Int32)), .val (.int (18 : Int32)), .val (.ref s18)] [(.int (18 : Int32))])) _
                                        refine XS.iloadN X172.here hx rfl (hb hby own_d1_10) rfl ?_
                                        refine XS.icmpNo X172.here hx rfl (hb hby own_d1_11) rfl (tlt (by decide : (18 : Int32) < (24 : Int32))).2.1 ?_
                                        refine XS.aloadN X172.here hx rfl (hb hby own_d1_14) rfl rfl ?_
                                        refine XS.iloadN X172.here hx rfl (hb hby own_d1_15) rfl ?_
                                        show Steps _ _ _ (T172.setTop (mkF m 16 #[.val (.int p1), .val (.ref ka), .val (.int (24 : Int32)), .val (.int (18 : Int32)), .val (.ref s18)] [(.int (18 : Int32)), (.ref ka)])) _
                                        refine X172.aaload hx (j := (18 : Int32)) (v := (.ref s19)) (by rw [e172]; exact Ar175.1) (State.isArrayOf_alike hZ.alike Ar175.2.1) rfl Ar175.2.2 hin175 (Ah175.at hin175 rfl) (g := (mkF m 16 #[.val (.int p1), .val (.ref ka), .val (.int (24 : Int32)), .val (.int (18 : Int32)), .val (.ref s18)] [(.int (18 : Int32)), (.ref ka)])) rfl rfl (hb hby own_d1_16) _ ?_
                                        refine XS.astore X172.here hx rfl (hb hby own_d1_17) rfl rfl (l' := #[.val (.int p1), .val (.ref ka), .val (.int (24 : Int32)), .val (.int (18 : Int32)), .val (.ref s19)]) rfl ?_
                                        refine XS.aload X172.here hx rfl (hb hby own_d1_19) rfl rfl ?_
                                        refine st176 _ ?_
                                        show Steps _ _ _ (T176.setTop (mkF m 24 #[.val (.int p1), .val (.ref ka), .val (.int (24 : Int32)), .val (.int (18 : Int32)), .val (.ref s19)] [(.int (19 : Int32))])) _
                                        refine XS.iloadN X176.here hx rfl (hb hby own_d1_24) rfl ?_
                                        exact kt)
                                      by_cases hc25_178 : (19 : Int32) = p1
                                      · skip
                                        obtain ⟨fs, hr, hrun, hended, hW, hsame⟩ := X176.leave (v := some (.ref s19)) (fun h => by rw [Bd.returns] at h; cases h)
                                        refine ⟨_, _, pre177 _ ?_, hrun, hended, _, _, rfl, ?_, ⟨_, rfl⟩, hW, hsame.mono (by decide) (by decide)⟩
                                        · show Steps _ _ _ (T176.setTop (mkF m 25 #[.val (.int p1), .val (.ref ka), .val (.int (24 : Int32)), .val (.int (18 : Int32)), .val (.ref s19)] [(.int p1), (.int (19 : Int32))])) _
                                          refine XS.icmpNo X176.here hx rfl (hb hby own_d1_25) rfl (teq hc25_178).2 ?_
                                          refine XS.aload X176.here hx rfl (hb hby own_d1_28) rfl rfl ?_
                                          show Steps _ _ _ (T176.setTop (mkF m 30 #[.val (.int p1), .val (.ref ka), .val (.int (24 : Int32)), .val (.int (18 : Int32)), .val (.ref s19)] [(.ref s19)])) _
                                          jvm_step X176.here [X176.here.top, hx, (hb hby own_d1_30), X176.method', Bd.returns, Value.isRef, FieldType.isReference]
                                          first | (intro acts; rw [hr _ acts rfl rfl rfl]) | rw [hr _ _ rfl rfl rfl]
                                          exact Steps.refl _
                                        · show Qown_for Z p1 ka kk s1 s2 s3 s4 s5 s6 s7 s8 s9 s10 s11 s12 s13 s14 s15 s16 s17 s18 s19 s20 s21 s22 s23 s24 h0 n0 _ T176.heap _
                                          rw [e176]
                                          exact ⟨congrArg some (by rw [← hc25_178]; rfl), N0, rfl⟩
                                      · skip
                                        obtain ⟨cl179, Ar179, Aq179, As179, An179, Ah179, Ag179⟩ := id VK
                                        have hin179 : ¬ ((19 : Int32) < 0 ∨ cl179.slots.size ≤ ((19 : Int32)).toNatClampNeg) := inb_of As179 ⟨by decide, by decide⟩
                                        obtain ⟨T180, X180, e180, st180⟩ := getF X176 hx hZ hown (host := "") (Or.inl (own_w57 hw)) Via.refl e176 F20 (g := (mkF m 21 #[.val (.int p1), .val (.ref ka), .val (.int (24 : Int32)), .val (.int (19 : Int32)), .val (.ref s20)] [(.ref s20)])) rfl rfl (hb hby own_d1_21)
                                        have pre181 : ∀ t, Steps p.tables e below (T180.setTop (mkF m 25 #[.val (.int p1), .val (.ref ka), .val (.int (24 : Int32)), .val (.int (19 : Int32)), .val (.ref s20)] [(.int p1), (.int (20 : Int32))])) t → Steps p.tables e below (s₁.setTop (entryFrame m #[(.int p1)] 5)) t := fun t kt => pre177 t (by
                                          show Steps _ _ _ (T176.setTop (mkF m 25 #[.val (.int p1), .val (.ref ka), .val (.int (24 : Int32)), .val (.int (18 : Int32)), .val (.ref s19)] [(.int p1), (.int (19 : Int32))])) _
                                          refine XS.icmpYes X176.here hx rfl (pc0 := 25) (pc' := 31) rfl (hb hby own_d1_25) rfl (feq hc25_178).2 (by decide) (by decide) ?_
                                          refine XS.iinc X176.here hx rfl (hb hby own_d1_31) rfl (l' := #[.val (.int p1), .val (.ref ka), .val (.int (24 : Int32)), .val (.int (19 : Int32)), .val (.ref s19)]) rfl ?_
                                          refine XS.goto X176.here hx rfl (pc0 := 34) (pc' := 9) rfl (hb hby own_d1_34) (by decide) (by decide) ?_
                                          refine XS.iloadN X176.here hx rfl (hb hby own_d1_9) rfl ?_
                                          show Steps _ _ _ (T176.setTop (mkF m 10 #[.val (.int p1), .val (.ref ka), .val (.int (24 : Int32)), .val (.int (19 : Int32)), .val (.ref s19)] [(.int (19 : Int32))])) _
                                          refine XS.iloadN X176.here hx rfl (hb hby own_d1_10) rfl ?_
                                          refine XS.icmpNo X176.here hx rfl (hb hby own_d1_11) rfl (tlt (by decide : (19 : Int32) < (24 : Int32))).2.1 ?_
                                          refine XS.aloadN X176.here hx rfl (hb hby own_d1_14) rfl rfl ?_
                                          refine XS.iloadN X176.here hx rfl (hb hby own_d1_15) rfl ?_
                                          show Steps _ _ _ (T176.setTop (mkF m 16 #[.val (.int p1), .val (.ref ka), .val (.int (24 : Int32)), .val (.int (19 : Int32)), .val (.ref s19)] [(.int (19 : Int32)), (.ref ka)])) _
                                          refine X176.aaload hx (j := (19 : Int32)) (v := (.ref s20)) (by rw [e176]; exact Ar179.1) (State.isArrayOf_alike hZ.alike Ar179.2.1) rfl Ar179.2.2 hin179 (Ah179.at hin179 rfl) (g := (mkF m 16 #[.val (.int p1), .val (.ref ka), .val (.int (24 : Int32)), .val (.int (19 : Int32)), .val (.ref s19)] [(.int (19 : Int32)), (.ref ka)])) rfl rfl (hb hby own_d1_16) _ ?_
                                          refine XS.astore X176.here hx rfl (hb hby own_d1_17) rfl rfl (l' := #[.val (.int p1), .val (.ref ka), .val (.int (24 : Int32)), .val (.int (19 : Int32)), .val (.ref s20)]) rfl ?_
                                          refine XS.aload X176.here hx rfl (hb hby own_d1_19) rfl rfl ?_
                                          refine st180 _ ?_
                                          show Steps _ _ _ (T180.setTop (mkF m 24 #[.val (.int p1), .val (.ref ka), .val (.int (24 : Int32)), .val (.int (19 : Int32)), .val (.ref s20)] [(.int (20 : Int32))])) _
                                          refine XS.iloadN X180.here hx rfl (hb hby own_d1_24) rfl ?_
                                          exact kt)
                                        by_cases hc25_182 : (20 : Int32) = p1
                                        · skip
                                          obtain ⟨fs, hr, hrun, hended, hW, hsame⟩ := X180.leave (v := some (.ref s20)) (fun h => by rw [Bd.returns] at h; cases h)
                                          refine ⟨_, _, pre181 _ ?_, hrun, hended, _, _, rfl, ?_, ⟨_, rfl⟩, hW, hsame.mono (by decide) (by decide)⟩
                                          · show Steps _ _ _ (T180.setTop (mkF m 25 #[.val (.int p1), .val (.ref ka), .val (.int (24 : Int32)), .val (.int (19 : Int32)), .val (.ref s20)] [(.int p1), (.int (20 : Int32))])) _
                                            refine XS.icmpNo X180.here hx rfl (hb hby own_d1_25) rfl (teq hc25_182).2 ?_
                                            refine XS.aload X180.here hx rfl (hb hby own_d1_28) rfl rfl ?_
                                            show Steps _ _ _ (T180.setTop (mkF m 30 #[.val (.int p1), .val (.ref ka), .val (.int (24 : Int32)), .val (.int (19 : Int32)), .val (.ref s20)] [(.ref s20)])) _
                                            jvm_step X180.here [X180.here.top, hx, (hb hby own_d1_30), X180.method', Bd.returns, Value.isRef, FieldType.isReference]
                                            first | (intro acts; rw [hr _ acts rfl rfl rfl]) | rw [hr _ _ rfl rfl rfl]
                                            exact Steps.refl _
                                          · show Qown_for Z p1 ka kk s1 s2 s3 s4 s5 s6 s7 s8 s9 s10 s11 s12 s13 s14 s15 s16 s17 s18 s19 s20 s21 s22 s23 s24 h0 n0 _ T180.heap _
                                            rw [e180]
                                            exact ⟨congrArg some (by rw [← hc25_182]; rfl), N0, rfl⟩
                                        · skip
                                          obtain ⟨cl183, Ar183, Aq183, As183, An183, Ah183, Ag183⟩ := id VK
                                          have hin183 : ¬ ((20 : Int32) < 0 ∨ cl183.slots.size ≤ ((20 : Int32)).toNatClampNeg) := inb_of As183 ⟨by decide, by decide⟩
                                          obtain ⟨T184, X184, e184, st184⟩ := getF X180 hx hZ hown (host := "") (Or.inl (own_w57 hw)) Via.refl e180 F21 (g := (mkF m 21 #[.val (.int p1), .val (.ref ka), .val (.int (24 : Int32)), .val (.int (20 : Int32)), .val (.ref s21)] [(.ref s21)])) rfl rfl (hb hby own_d1_21)
                                          have pre185 : ∀ t, Steps p.tables e below (T184.setTop (mkF m 25 #[.val (.int p1), .val (.ref ka), .val (.int (24 : Int32)), .val (.int (20 : Int32)), .val (.ref s21)] [(.int p1), (.int (21 : Int32))])) t → Steps p.tables e below (s₁.setTop (entryFrame m #[(.int p1)] 5)) t := fun t kt => pre181 t (by
                                            show Steps _ _ _ (T180.setTop (mkF m 25 #[.val (.int p1), .val (.ref ka), .val (.int (24 : Int32)), .val (.int (19 : Int32)), .val (.ref s20)] [(.int p1), (.int (20 : Int32))])) _
                                            refine XS.icmpYes X180.here hx rfl (pc0 := 25) (pc' := 31) rfl (hb hby own_d1_25) rfl (feq hc25_182).2 (by decide) (by decide) ?_
                                            refine XS.iinc X180.here hx rfl (hb hby own_d1_31) rfl (l' := #[.val (.int p1), .val (.ref ka), .val (.int (24 : Int32)), .val (.int (20 : Int32)), .val (.ref s20)]) rfl ?_
                                            refine XS.goto X180.here hx rfl (pc0 := 34) (pc' := 9) rfl (hb hby own_d1_34) (by decide) (by decide) ?_
                                            refine XS.iloadN X180.here hx rfl (hb hby own_d1_9) rfl ?_
                                            show Steps _ _ _ (T180.setTop (mkF m 10 #[.val (.int p1), .val (.ref ka), .val (.int (24 : Int32)), .val (.int (20 : Int32)), .val (.ref s20)] [(.int (20 : Int32))])) _
                                            refine XS.iloadN X180.here hx rfl (hb hby own_d1_10) rfl ?_
                                            refine XS.icmpNo X180.here hx rfl (hb hby own_d1_11) rfl (tlt (by decide : (20 : Int32) < (24 : Int32))).2.1 ?_
                                            refine XS.aloadN X180.here hx rfl (hb hby own_d1_14) rfl rfl ?_
                                            refine XS.iloadN X180.here hx rfl (hb hby own_d1_15) rfl ?_
                                            show Steps _ _ _ (T180.setTop (mkF m 16 #[.val (.int p1), .val (.ref ka), .val (.int (24 : Int32)), .val (.int (20 : Int32)), .val (.ref s20)] [(.int (20 : Int32)), (.ref ka)])) _
                                            refine X180.aaload hx (j := (20 : Int32)) (v := (.ref s21)) (by rw [e180]; exact Ar183.1) (State.isArrayOf_alike hZ.alike Ar183.2.1) rfl Ar183.2.2 hin183 (Ah183.at hin183 rfl) (g := (mkF m 16 #[.val (.int p1), .val (.ref ka), .val (.int (24 : Int32)), .val (.int (20 : Int32)), .val (.ref s20)] [(.int (20 : Int32)), (.ref ka)])) rfl rfl (hb hby own_d1_16) _ ?_
                                            refine XS.astore X180.here hx rfl (hb hby own_d1_17) rfl rfl (l' := #[.val (.int p1), .val (.ref ka), .val (.int (24 : Int32)), .val (.int (20 : Int32)), .val (.ref s21)]) rfl ?_
                                            refine XS.aload X180.here hx rfl (hb hby own_d1_19) rfl rfl ?_
                                            refine st184 _ ?_
                                            show Steps _ _ _ (T184.setTop (mkF m 24 #[.val (.int p1), .val (.ref ka), .val (.int (24 : Int32)), .val (.int (20 : Int32)), .val (.ref s21)] [(.int (21 : Int32))])) _
                                            refine XS.iloadN X184.here hx rfl (hb hby own_d1_24) rfl ?_
                                            exact kt)
                                          by_cases hc25_186 : (21 : Int32) = p1
                                          · skip
                                            obtain ⟨fs, hr, hrun, hended, hW, hsame⟩ := X184.leave (v := some (.ref s21)) (fun h => by rw [Bd.returns] at h; cases h)
                                            refine ⟨_, _, pre185 _ ?_, hrun, hended, _, _, rfl, ?_, ⟨_, rfl⟩, hW, hsame.mono (by decide) (by decide)⟩
                                            · show Steps _ _ _ (T184.setTop (mkF m 25 #[.val (.int p1), .val (.ref ka), .val (.int (24 : Int32)), .val (.int (20 : Int32)), .val (.ref s21)] [(.int p1), (.int (21 : Int32))])) _
                                              refine XS.icmpNo X184.here hx rfl (hb hby own_d1_25) rfl (teq hc25_186).2 ?_
                                              refine XS.aload X184.here hx rfl (hb hby own_d1_28) rfl rfl ?_
                                              show Steps _ _ _ (T184.setTop (mkF m 30 #[.val (.int p1), .val (.ref ka), .val (.int (24 : Int32)), .val (.int (20 : Int32)), .val (.ref s21)] [(.ref s21)])) _
                                              jvm_step X184.here [X184.here.top, hx, (hb hby own_d1_30), X184.method', Bd.returns, Value.isRef, FieldType.isReference]
                                              first | (intro acts; rw [hr _ acts rfl rfl rfl]) | rw [hr _ _ rfl rfl rfl]
                                              exact Steps.refl _
                                            · show Qown_for Z p1 ka kk s1 s2 s3 s4 s5 s6 s7 s8 s9 s10 s11 s12 s13 s14 s15 s16 s17 s18 s19 s20 s21 s22 s23 s24 h0 n0 _ T184.heap _
                                              rw [e184]
                                              exact ⟨congrArg some (by rw [← hc25_186]; rfl), N0, rfl⟩
                                          · skip
                                            obtain ⟨cl187, Ar187, Aq187, As187, An187, Ah187, Ag187⟩ := id VK
                                            have hin187 : ¬ ((21 : Int32) < 0 ∨ cl187.slots.size ≤ ((21 : Int32)).toNatClampNeg) := inb_of As187 ⟨by decide, by decide⟩
                                            obtain ⟨T188, X188, e188, st188⟩ := getF X184 hx hZ hown (host := "") (Or.inl (own_w57 hw)) Via.refl e184 F22 (g := (mkF m 21 #[.val (.int p1), .val (.ref ka), .val (.int (24 : Int32)), .val (.int (21 : Int32)), .val (.ref s22)] [(.ref s22)])) rfl rfl (hb hby own_d1_21)
                                            have pre189 : ∀ t, Steps p.tables e below (T188.setTop (mkF m 25 #[.val (.int p1), .val (.ref ka), .val (.int (24 : Int32)), .val (.int (21 : Int32)), .val (.ref s22)] [(.int p1), (.int (22 : Int32))])) t → Steps p.tables e below (s₁.setTop (entryFrame m #[(.int p1)] 5)) t := fun t kt => pre185 t (by
                                              show Steps _ _ _ (T184.setTop (mkF m 25 #[.val (.int p1), .val (.ref ka), .val (.int (24 : Int32)), .val (.int (20 : Int32)), .val (.ref s21)] [(.int p1), (.int (21 : Int32))])) _
                                              refine XS.icmpYes X184.here hx rfl (pc0 := 25) (pc' := 31) rfl (hb hby own_d1_25) rfl (feq hc25_186).2 (by decide) (by decide) ?_
                                              refine XS.iinc X184.here hx rfl (hb hby own_d1_31) rfl (l' := #[.val (.int p1), .val (.ref ka), .val (.int (24 : Int32)), .val (.int (21 : Int32)), .val (.ref s21)]) rfl ?_
                                              refine XS.goto X184.here hx rfl (pc0 := 34) (pc' := 9) rfl (hb hby own_d1_34) (by decide) (by decide) ?_
                                              refine XS.iloadN X184.here hx rfl (hb hby own_d1_9) rfl ?_
                                              show Steps _ _ _ (T184.setTop (mkF m 10 #[.val (.int p1), .val (.ref ka), .val (.int (24 : Int32)), .val (.int (21 : Int32)), .val (.ref s21)] [(.int (21 : Int32))])) _
                                              refine XS.iloadN X184.here hx rfl (hb hby own_d1_10) rfl ?_
                                              refine XS.icmpNo X184.here hx rfl (hb hby own_d1_11) rfl (tlt (by decide : (21 : Int32) < (24 : Int32))).2.1 ?_
                                              refine XS.aloadN X184.here hx rfl (hb hby own_d1_14) rfl rfl ?_
                                              refine XS.iloadN X184.here hx rfl (hb hby own_d1_15) rfl ?_
                                              show Steps _ _ _ (T184.setTop (mkF m 16 #[.val (.int p1), .val (.ref ka), .val (.int (24 : Int32)), .val (.int (21 : Int32)), .val (.ref s21)] [(.int (21 : Int32)), (.ref ka)])) _
                                              refine X184.aaload hx (j := (21 : Int32)) (v := (.ref s22)) (by rw [e184]; exact Ar187.1) (State.isArrayOf_alike hZ.alike Ar187.2.1) rfl Ar187.2.2 hin187 (Ah187.at hin187 rfl) (g := (mkF m 16 #[.val (.int p1), .val (.ref ka), .val (.int (24 : Int32)), .val (.int (21 : Int32)), .val (.ref s21)] [(.int (21 : Int32)), (.ref ka)])) rfl rfl (hb hby own_d1_16) _ ?_
                                              refine XS.astore X184.here hx rfl (hb hby own_d1_17) rfl rfl (l' := #[.val (.int p1), .val (.ref ka), .val (.int (24 : Int32)), .val (.int (21 : Int32)), .val (.ref s22)]) rfl ?_
                                              refine XS.aload X184.here hx rfl (hb hby own_d1_19) rfl rfl ?_
                                              refine st188 _ ?_
                                              show Steps _ _ _ (T188.setTop (mkF m 24 #[.val (.int p1), .val (.ref ka), .val (.int (24 : Int32)), .val (.int (21 : Int32)), .val (.ref s22)] [(.int (22 : Int32))])) _
                                              refine XS.iloadN X188.here hx rfl (hb hby own_d1_24) rfl ?_
                                              exact kt)
                                            by_cases hc25_190 : (22 : Int32) = p1
                                            · skip
                                              obtain ⟨fs, hr, hrun, hended, hW, hsame⟩ := X188.leave (v := some (.ref s22)) (fun h => by rw [Bd.returns] at h; cases h)
                                              refine ⟨_, _, pre189 _ ?_, hrun, hended, _, _, rfl, ?_, ⟨_, rfl⟩, hW, hsame.mono (by decide) (by decide)⟩
                                              · show Steps _ _ _ (T188.setTop (mkF m 25 #[.val (.int p1), .val (.ref ka), .val (.int (24 : Int32)), .val (.int (21 : Int32)), .val (.ref s22)] [(.int p1), (.int (22 : Int32))])) _
                                                refine XS.icmpNo X188.here hx rfl (hb hby own_d1_25) rfl (teq hc25_190).2 ?_
                                                refine XS.aload X188.here hx rfl (hb hby own_d1_28) rfl rfl ?_
                                                show Steps _ _ _ (T188.setTop (mkF m 30 #[.val (.int p1), .val (.ref ka), .val (.int (24 : Int32)), .val (.int (21 : Int32)), .val (.ref s22)] [(.ref s22)])) _
                                                jvm_step X188.here [X188.here.top, hx, (hb hby own_d1_30), X188.method', Bd.returns, Value.isRef, FieldType.isReference]
                                                first | (intro acts; rw [hr _ acts rfl rfl rfl]) | rw [hr _ _ rfl rfl rfl]
                                                exact Steps.refl _
                                              · show Qown_for Z p1 ka kk s1 s2 s3 s4 s5 s6 s7 s8 s9 s10 s11 s12 s13 s14 s15 s16 s17 s18 s19 s20 s21 s22 s23 s24 h0 n0 _ T188.heap _
                                                rw [e188]
                                                exact ⟨congrArg some (by rw [← hc25_190]; rfl), N0, rfl⟩
                                            · skip
                                              obtain ⟨cl191, Ar191, Aq191, As191, An191, Ah191, Ag191⟩ := id VK
                                              have hin191 : ¬ ((22 : Int32) < 0 ∨ cl191.slots.size ≤ ((22 : Int32)).toNatClampNeg) := inb_of As191 ⟨by decide, by decide⟩
                                              obtain ⟨T192, X192, e192, st192⟩ := getF X188 hx hZ hown (host := "") (Or.inl (own_w57 hw)) Via.refl e188 F23 (g := (mkF m 21 #[.val (.int p1), .val (.ref ka), .val (.int (24 : Int32)), .val (.int (22 : Int32)), .val (.ref s23)] [(.ref s23)])) rfl rfl (hb hby own_d1_21)
                                              have pre193 : ∀ t, Steps p.tables e below (T192.setTop (mkF m 25 #[.val (.int p1), .val (.ref ka), .val (.int (24 : Int32)), .val (.int (22 : Int32)), .val (.ref s23)] [(.int p1), (.int (23 : Int32))])) t → Steps p.tables e below (s₁.setTop (entryFrame m #[(.int p1)] 5)) t := fun t kt => pre189 t (by
                                                show Steps _ _ _ (T188.setTop (mkF m 25 #[.val (.int p1), .val (.ref ka), .val (.int (24 : Int32)), .val (.int (21 : Int32)), .val (.ref s22)] [(.int p1), (.int (22 : Int32))])) _
                                                refine XS.icmpYes X188.here hx rfl (pc0 := 25) (pc' := 31) rfl (hb hby own_d1_25) rfl (feq hc25_190).2 (by decide) (by decide) ?_
                                                refine XS.iinc X188.here hx rfl (hb hby own_d1_31) rfl (l' := #[.val (.int p1), .val (.ref ka), .val (.int (24 : Int32)), .val (.int (22 : Int32)), .val (.ref s22)]) rfl ?_
                                                refine XS.goto X188.here hx rfl (pc0 := 34) (pc' := 9) rfl (hb hby own_d1_34) (by decide) (by decide) ?_
                                                refine XS.iloadN X188.here hx rfl (hb hby own_d1_9) rfl ?_
                                                show Steps _ _ _ (T188.setTop (mkF m 10 #[.val (.int p1), .val (.ref ka), .val (.int (24 : Int32)), .val (.int (22 : Int32)), .val (.ref s22)] [(.int (22 : Int32))])) _
                                                refine XS.iloadN X188.here hx rfl (hb hby own_d1_10) rfl ?_
                                                refine XS.icmpNo X188.here hx rfl (hb hby own_d1_11) rfl (tlt (by decide : (22 : Int32) < (24 : Int32))).2.1 ?_
                                                refine XS.aloadN X188.here hx rfl (hb hby own_d1_14) rfl rfl ?_
                                                refine XS.iloadN X188.here hx rfl (hb hby own_d1_15) rfl ?_
                                                show Steps _ _ _ (T188.setTop (mkF m 16 #[.val (.int p1), .val (.ref ka), .val (.int (24 : Int32)), .val (.int (22 : Int32)), .val (.ref s22)] [(.int (22 : Int32)), (.ref ka)])) _
                                                refine X188.aaload hx (j := (22 : Int32)) (v := (.ref s23)) (by rw [e188]; exact Ar191.1) (State.isArrayOf_alike hZ.alike Ar191.2.1) rfl Ar191.2.2 hin191 (Ah191.at hin191 rfl) (g := (mkF m 16 #[.val (.int p1), .val (.ref ka), .val (.int (24 : Int32)), .val (.int (22 : Int32)), .val (.ref s22)] [(.int (22 : Int32)), (.ref ka)])) rfl rfl (hb hby own_d1_16) _ ?_
                                                refine XS.astore X188.here hx rfl (hb hby own_d1_17) rfl rfl (l' := #[.val (.int p1), .val (.ref ka), .val (.int (24 : Int32)), .val (.int (22 : Int32)), .val (.ref s23)]) rfl ?_
                                                refine XS.aload X188.here hx rfl (hb hby own_d1_19) rfl rfl ?_
                                                refine st192 _ ?_
                                                show Steps _ _ _ (T192.setTop (mkF m 24 #[.val (.int p1), .val (.ref ka), .val (.int (24 : Int32)), .val (.int (22 : Int32)), .val (.ref s23)] [(.int (23 : Int32))])) _
                                                refine XS.iloadN X192.here hx rfl (hb hby own_d1_24) rfl ?_
                                                exact kt)
                                              by_cases hc25_194 : (23 : Int32) = p1
                                              · skip
                                                obtain ⟨fs, hr, hrun, hended, hW, hsame⟩ := X192.leave (v := some (.ref s23)) (fun h => by rw [Bd.returns] at h; cases h)
                                                refine ⟨_, _, pre193 _ ?_, hrun, hended, _, _, rfl, ?_, ⟨_, rfl⟩, hW, hsame.mono (by decide) (by decide)⟩
                                                · show Steps _ _ _ (T192.setTop (mkF m 25 #[.val (.int p1), .val (.ref ka), .val (.int (24 : Int32)), .val (.int (22 : Int32)), .val (.ref s23)] [(.int p1), (.int (23 : Int32))])) _
                                                  refine XS.icmpNo X192.here hx rfl (hb hby own_d1_25) rfl (teq hc25_194).2 ?_
                                                  refine XS.aload X192.here hx rfl (hb hby own_d1_28) rfl rfl ?_
                                                  show Steps _ _ _ (T192.setTop (mkF m 30 #[.val (.int p1), .val (.ref ka), .val (.int (24 : Int32)), .val (.int (22 : Int32)), .val (.ref s23)] [(.ref s23)])) _
                                                  jvm_step X192.here [X192.here.top, hx, (hb hby own_d1_30), X192.method', Bd.returns, Value.isRef, FieldType.isReference]
                                                  first | (intro acts; rw [hr _ acts rfl rfl rfl]) | rw [hr _ _ rfl rfl rfl]
                                                  exact Steps.refl _
                                                · show Qown_for Z p1 ka kk s1 s2 s3 s4 s5 s6 s7 s8 s9 s10 s11 s12 s13 s14 s15 s16 s17 s18 s19 s20 s21 s22 s23 s24 h0 n0 _ T192.heap _
                                                  rw [e192]
                                                  exact ⟨congrArg some (by rw [← hc25_194]; rfl), N0, rfl⟩
                                              · skip
                                                obtain ⟨cl195, Ar195, Aq195, As195, An195, Ah195, Ag195⟩ := id VK
                                                have hin195 : ¬ ((23 : Int32) < 0 ∨ cl195.slots.size ≤ ((23 : Int32)).toNatClampNeg) := inb_of As195 ⟨by decide, by decide⟩
                                                obtain ⟨T196, X196, e196, st196⟩ := getF X192 hx hZ hown (host := "") (Or.inl (own_w57 hw)) Via.refl e192 F24 (g := (mkF m 21 #[.val (.int p1), .val (.ref ka), .val (.int (24 : Int32)), .val (.int (23 : Int32)), .val (.ref s24)] [(.ref s24)])) rfl rfl (hb hby own_d1_21)
                                                have pre197 : ∀ t, Steps p.tables e below (T196.setTop (mkF m 25 #[.val (.int p1), .val (.ref ka), .val (.int (24 : Int32)), .val (.int (23 : Int32)), .val (.ref s24)] [(.int p1), (.int (24 : Int32))])) t → Steps p.tables e below (s₁.setTop (entryFrame m #[(.int p1)] 5)) t := fun t kt => pre193 t (by
                                                  show Steps _ _ _ (T192.setTop (mkF m 25 #[.val (.int p1), .val (.ref ka), .val (.int (24 : Int32)), .val (.int (22 : Int32)), .val (.ref s23)] [(.int p1), (.int (23 : Int32))])) _
                                                  refine XS.icmpYes X192.here hx rfl (pc0 := 25) (pc' := 31) rfl (hb hby own_d1_25) rfl (feq hc25_194).2 (by decide) (by decide) ?_
                                                  refine XS.iinc X192.here hx rfl (hb hby own_d1_31) rfl (l' := #[.val (.int p1), .val (.ref ka), .val (.int (24 : Int32)), .val (.int (23 : Int32)), .val (.ref s23)]) rfl ?_
                                                  refine XS.goto X192.here hx rfl (pc0 := 34) (pc' := 9) rfl (hb hby own_d1_34) (by decide) (by decide) ?_
                                                  refine XS.iloadN X192.here hx rfl (hb hby own_d1_9) rfl ?_
                                                  show Steps _ _ _ (T192.setTop (mkF m 10 #[.val (.int p1), .val (.ref ka), .val (.int (24 : Int32)), .val (.int (23 : Int32)), .val (.ref s23)] [(.int (23 : Int32))])) _
                                                  refine XS.iloadN X192.here hx rfl (hb hby own_d1_10) rfl ?_
                                                  refine XS.icmpNo X192.here hx rfl (hb hby own_d1_11) rfl (tlt (by decide : (23 : Int32) < (24 : Int32))).2.1 ?_
                                                  refine XS.aloadN X192.here hx rfl (hb hby own_d1_14) rfl rfl ?_
                                                  refine XS.iloadN X192.here hx rfl (hb hby own_d1_15) rfl ?_
                                                  show Steps _ _ _ (T192.setTop (mkF m 16 #[.val (.int p1), .val (.ref ka), .val (.int (24 : Int32)), .val (.int (23 : Int32)), .val (.ref s23)] [(.int (23 : Int32)), (.ref ka)])) _
                                                  refine X192.aaload hx (j := (23 : Int32)) (v := (.ref s24)) (by rw [e192]; exact Ar195.1) (State.isArrayOf_alike hZ.alike Ar195.2.1) rfl Ar195.2.2 hin195 (Ah195.at hin195 rfl) (g := (mkF m 16 #[.val (.int p1), .val (.ref ka), .val (.int (24 : Int32)), .val (.int (23 : Int32)), .val (.ref s23)] [(.int (23 : Int32)), (.ref ka)])) rfl rfl (hb hby own_d1_16) _ ?_
                                                  refine XS.astore X192.here hx rfl (hb hby own_d1_17) rfl rfl (l' := #[.val (.int p1), .val (.ref ka), .val (.int (24 : Int32)), .val (.int (23 : Int32)), .val (.ref s24)]) rfl ?_
                                                  refine XS.aload X192.here hx rfl (hb hby own_d1_19) rfl rfl ?_
                                                  refine st196 _ ?_
                                                  show Steps _ _ _ (T196.setTop (mkF m 24 #[.val (.int p1), .val (.ref ka), .val (.int (24 : Int32)), .val (.int (23 : Int32)), .val (.ref s24)] [(.int (24 : Int32))])) _
                                                  refine XS.iloadN X196.here hx rfl (hb hby own_d1_24) rfl ?_
                                                  exact kt)
                                                by_cases hc25_198 : (24 : Int32) = p1
                                                · skip
                                                  obtain ⟨fs, hr, hrun, hended, hW, hsame⟩ := X196.leave (v := some (.ref s24)) (fun h => by rw [Bd.returns] at h; cases h)
                                                  refine ⟨_, _, pre197 _ ?_, hrun, hended, _, _, rfl, ?_, ⟨_, rfl⟩, hW, hsame.mono (by decide) (by decide)⟩
                                                  · show Steps _ _ _ (T196.setTop (mkF m 25 #[.val (.int p1), .val (.ref ka), .val (.int (24 : Int32)), .val (.int (23 : Int32)), .val (.ref s24)] [(.int p1), (.int (24 : Int32))])) _
                                                    refine XS.icmpNo X196.here hx rfl (hb hby own_d1_25) rfl (teq hc25_198).2 ?_
                                                    refine XS.aload X196.here hx rfl (hb hby own_d1_28) rfl rfl ?_
                                                    show Steps _ _ _ (T196.setTop (mkF m 30 #[.val (.int p1), .val (.ref ka), .val (.int (24 : Int32)), .val (.int (23 : Int32)), .val (.ref s24)] [(.ref s24)])) _
                                                    jvm_step X196.here [X196.here.top, hx, (hb hby own_d1_30), X196.method', Bd.returns, Value.isRef, FieldType.isReference]
                                                    first | (intro acts; rw [hr _ acts rfl rfl rfl]) | rw [hr _ _ rfl rfl rfl]
                                                    exact Steps.refl _
                                                  · show Qown_for Z p1 ka kk s1 s2 s3 s4 s5 s6 s7 s8 s9 s10 s11 s12 s13 s14 s15 s16 s17 s18 s19 s20 s21 s22 s23 s24 h0 n0 _ T196.heap _
                                                    rw [e196]
                                                    exact ⟨congrArg some (by rw [← hc25_198]; rfl), N0, rfl⟩
                                                · skip
                                                  obtain ⟨fs, hr, hrun, hended, hW, hsame⟩ := X196.leave (v := some .null) (fun h => by rw [Bd.returns] at h; cases h)
                                                  refine ⟨_, _, pre197 _ ?_, hrun, hended, _, _, rfl, ?_, ⟨_, rfl⟩, hW, hsame.mono (by decide) (by decide)⟩
                                                  · show Steps _ _ _ (T196.setTop (mkF m 25 #[.val (.int p1), .val (.ref ka), .val (.int (24 : Int32)), .val (.int (23 : Int32)), .val (.ref s24)] [(.int p1), (.int (24 : Int32))])) _
                                                    refine XS.icmpYes X196.here hx rfl (pc0 := 25) (pc' := 31) rfl (hb hby own_d1_25) rfl (feq hc25_198).2 (by decide) (by decide) ?_
                                                    refine XS.iinc X196.here hx rfl (hb hby own_d1_31) rfl (l' := #[.val (.int p1), .val (.ref ka), .val (.int (24 : Int32)), .val (.int (24 : Int32)), .val (.ref s24)]) rfl ?_
                                                    refine XS.goto X196.here hx rfl (pc0 := 34) (pc' := 9) rfl (hb hby own_d1_34) (by decide) (by decide) ?_
                                                    refine XS.iloadN X196.here hx rfl (hb hby own_d1_9) rfl ?_
                                                    show Steps _ _ _ (T196.setTop (mkF m 10 #[.val (.int p1), .val (.ref ka), .val (.int (24 : Int32)), .val (.int (24 : Int32)), .val (.ref s24)] [(.int (24 : Int32))])) _
                                                    refine XS.iloadN X196.here hx rfl (hb hby own_d1_10) rfl ?_
                                                    refine XS.icmpYes X196.here hx rfl (pc0 := 11) (pc' := 37) rfl (hb hby own_d1_11) rfl (flt (by decide : ¬ ((24 : Int32) < (24 : Int32)))).2.1 (by decide) (by decide) ?_
                                                    refine XS.aconstNull X196.here hx rfl (hb hby own_d1_37) ?_
                                                    show Steps _ _ _ (T196.setTop (mkF m 38 #[.val (.int p1), .val (.ref ka), .val (.int (24 : Int32)), .val (.int (24 : Int32)), .val (.ref s24)] [.null])) _
                                                    jvm_step X196.here [X196.here.top, hx, (hb hby own_d1_38), X196.method', Bd.returns, Value.isRef, FieldType.isReference]
                                                    first | (intro acts; rw [hr _ acts rfl rfl rfl]) | rw [hr _ _ rfl rfl rfl]
                                                    exact Steps.refl _
                                                  · show Qown_for Z p1 ka kk s1 s2 s3 s4 s5 s6 s7 s8 s9 s10 s11 s12 s13 s14 s15 s16 s17 s18 s19 s20 s21 s22 s23 s24 h0 n0 _ T196.heap _
                                                    rw [e196]
                                                    exact ⟨congrArg some (by unfold own_v; rw [if_neg (Ne.symm hc25_106), if_neg (Ne.symm hc25_110), if_neg (Ne.symm hc25_114), if_neg (Ne.symm hc25_118), if_neg (Ne.symm hc25_122), if_neg (Ne.symm hc25_126), if_neg (Ne.symm hc25_130), if_neg (Ne.symm hc25_134), if_neg (Ne.symm hc25_138), if_neg (Ne.symm hc25_142), if_neg (Ne.symm hc25_146), if_neg (Ne.symm hc25_150), if_neg (Ne.symm hc25_154), if_neg (Ne.symm hc25_158), if_neg (Ne.symm hc25_162), if_neg (Ne.symm hc25_166), if_neg (Ne.symm hc25_170), if_neg (Ne.symm hc25_174), if_neg (Ne.symm hc25_178), if_neg (Ne.symm hc25_182), if_neg (Ne.symm hc25_186), if_neg (Ne.symm hc25_190), if_neg (Ne.symm hc25_194), if_neg (Ne.symm hc25_198)]), N0, rfl⟩
def Qown_law (Z : State) (p1 : Int32) (ka : Addr) (kk : ClassId) (s1 s2 s3 s4 s5 s6 s7 s8 s9 s10 s11 s12 s13 s14 s15 s16 s17 s18 s19 s20 s21 s22 s23 s24 : Addr) (h0 : Heap) (n0 : Nat) (v : Option Value) (h : Heap) (L : List Loc) : Prop := v = some (.int (1 : Int32)) ∧ Fr n0 L
set_option maxRecDepth 65536 in
set_option maxHeartbeats 40000000 in
theorem own_law (l : Launch) (Z : State) (a0 : Array Value) (hw : ∀ d ∈ tables_1, d.before a0 Z = true) (ws : List Jvm.Cond) (p1 : Int32) (ka : Addr) (kk : ClassId) (s1 s2 s3 s4 s5 s6 s7 s8 s9 s10 s11 s12 s13 s14 s15 s16 s17 s18 s19 s20 s21 s22 s23 s24 : Addr) (h0 : Heap) (n0 : Nat) (Z0 : n0 ≤ h0.size) (SK : Sta Z h0 "com/example/don_valley/donvalley/protocol/Frame$Kind" "KINDS" "[Lcom/example/don_valley/donvalley/protocol/Frame$Kind;" (.ref ka)) (VK : Arv Z h0 ka kk (.object "com/example/don_valley/donvalley/protocol/Frame$Kind") (24 : Int32) [(.ref s1), (.ref s2), (.ref s3), (.ref s4), (.ref s5), (.ref s6), (.ref s7), (.ref s8), (.ref s9), (.ref s10), (.ref s11), (.ref s12), (.ref s13), (.ref s14), (.ref s15), (.ref s16), (.ref s17), (.ref s18), (.ref s19), (.ref s20), (.ref s21), (.ref s22), (.ref s23), (.ref s24)] .null) (F1 : Fld Z h0 s1 "com/example/don_valley/donvalley/protocol/Frame$Kind" "code" "B" (.int (1 : Int32))) (F2 : Fld Z h0 s2 "com/example/don_valley/donvalley/protocol/Frame$Kind" "code" "B" (.int (2 : Int32))) (F3 : Fld Z h0 s3 "com/example/don_valley/donvalley/protocol/Frame$Kind" "code" "B" (.int (3 : Int32))) (F4 : Fld Z h0 s4 "com/example/don_valley/donvalley/protocol/Frame$Kind" "code" "B" (.int (4 : Int32))) (F5 : Fld Z h0 s5 "com/example/don_valley/donvalley/protocol/Frame$Kind" "code" "B" (.int (5 : Int32))) (F6 : Fld Z h0 s6 "com/example/don_valley/donvalley/protocol/Frame$Kind" "code" "B" (.int (6 : Int32))) (F7 : Fld Z h0 s7 "com/example/don_valley/donvalley/protocol/Frame$Kind" "code" "B" (.int (7 : Int32))) (F8 : Fld Z h0 s8 "com/example/don_valley/donvalley/protocol/Frame$Kind" "code" "B" (.int (8 : Int32))) (F9 : Fld Z h0 s9 "com/example/don_valley/donvalley/protocol/Frame$Kind" "code" "B" (.int (9 : Int32))) (F10 : Fld Z h0 s10 "com/example/don_valley/donvalley/protocol/Frame$Kind" "code" "B" (.int (10 : Int32))) (F11 : Fld Z h0 s11 "com/example/don_valley/donvalley/protocol/Frame$Kind" "code" "B" (.int (11 : Int32))) (F12 : Fld Z h0 s12 "com/example/don_valley/donvalley/protocol/Frame$Kind" "code" "B" (.int (12 : Int32))) (F13 : Fld Z h0 s13 "com/example/don_valley/donvalley/protocol/Frame$Kind" "code" "B" (.int (13 : Int32))) (F14 : Fld Z h0 s14 "com/example/don_valley/donvalley/protocol/Frame$Kind" "code" "B" (.int (14 : Int32))) (F15 : Fld Z h0 s15 "com/example/don_valley/donvalley/protocol/Frame$Kind" "code" "B" (.int (15 : Int32))) (F16 : Fld Z h0 s16 "com/example/don_valley/donvalley/protocol/Frame$Kind" "code" "B" (.int (16 : Int32))) (F17 : Fld Z h0 s17 "com/example/don_valley/donvalley/protocol/Frame$Kind" "code" "B" (.int (17 : Int32))) (F18 : Fld Z h0 s18 "com/example/don_valley/donvalley/protocol/Frame$Kind" "code" "B" (.int (18 : Int32))) (F19 : Fld Z h0 s19 "com/example/don_valley/donvalley/protocol/Frame$Kind" "code" "B" (.int (19 : Int32))) (F20 : Fld Z h0 s20 "com/example/don_valley/donvalley/protocol/Frame$Kind" "code" "B" (.int (20 : Int32))) (F21 : Fld Z h0 s21 "com/example/don_valley/donvalley/protocol/Frame$Kind" "code" "B" (.int (21 : Int32))) (F22 : Fld Z h0 s22 "com/example/don_valley/donvalley/protocol/Frame$Kind" "code" "B" (.int (22 : Int32))) (F23 : Fld Z h0 s23 "com/example/don_valley/donvalley/protocol/Frame$Kind" "code" "B" (.int (23 : Int32))) (F24 : Fld Z h0 s24 "com/example/don_valley/donvalley/protocol/Frame$Kind" "code" "B" (.int (24 : Int32))) (S1 : Sta Z h0 "com/example/don_valley/donvalley/protocol/Frame$Kind" "SUBSCRIBE" "Lcom/example/don_valley/donvalley/protocol/Frame$Kind;" (.ref s1)) (S2 : Sta Z h0 "com/example/don_valley/donvalley/protocol/Frame$Kind" "ADVERTISE" "Lcom/example/don_valley/donvalley/protocol/Frame$Kind;" (.ref s2)) (S3 : Sta Z h0 "com/example/don_valley/donvalley/protocol/Frame$Kind" "PUBLISH" "Lcom/example/don_valley/donvalley/protocol/Frame$Kind;" (.ref s3)) (S4 : Sta Z h0 "com/example/don_valley/donvalley/protocol/Frame$Kind" "SYNC" "Lcom/example/don_valley/donvalley/protocol/Frame$Kind;" (.ref s4)) (S5 : Sta Z h0 "com/example/don_valley/donvalley/protocol/Frame$Kind" "ACCEPTED" "Lcom/example/don_valley/donvalley/protocol/Frame$Kind;" (.ref s5)) (S6 : Sta Z h0 "com/example/don_valley/donvalley/protocol/Frame$Kind" "REFUSED" "Lcom/example/don_valley/donvalley/protocol/Frame$Kind;" (.ref s6)) (S7 : Sta Z h0 "com/example/don_valley/donvalley/protocol/Frame$Kind" "PUBLICATION" "Lcom/example/don_valley/donvalley/protocol/Frame$Kind;" (.ref s7)) (S8 : Sta Z h0 "com/example/don_valley/donvalley/protocol/Frame$Kind" "LINK" "Lcom/example/don_valley/donvalley/protocol/Frame$Kind;" (.ref s8)) (S9 : Sta Z h0 "com/example/don_valley/donvalley/protocol/Frame$Kind" "UNSUBSCRIBE" "Lcom/example/don_valley/donvalley/protocol/Frame$Kind;" (.ref s9)) (S10 : Sta Z h0 "com/example/don_valley/donvalley/protocol/Frame$Kind" "UNADVERTISE" "Lcom/example/don_valley/donvalley/protocol/Frame$Kind;" (.ref s10)) (S11 : Sta Z h0 "com/example/don_valley/donvalley/protocol/Frame$Kind" "STATUS" "Lcom/example/don_valley/donvalley/protocol/Frame$Kind;" (.ref s11)) (S12 : Sta Z h0 "com/example/don_valley/donvalley/protocol/Frame$Kind" "ADVERTISED" "Lcom/example/don_valley/donvalley/protocol/Frame$Kind;" (.ref s12)) (S13 : Sta Z h0 "com/example/don_valley/donvalley/protocol/Frame$Kind" "SUBSCRIBED" "Lcom/example/don_valley/donvalley/protocol/Frame$Kind;" (.ref s13)) (S14 : Sta Z h0 "com/example/don_valley/donvalley/protocol/Frame$Kind" "MOVE" "Lcom/example/don_valley/donvalley/protocol/Frame$Kind;" (.ref s14)) (S15 : Sta Z h0 "com/example/don_valley/donvalley/protocol/Frame$Kind" "MOVED" "Lcom/example/don_valley/donvalley/protocol/Frame$Kind;" (.ref s15)) (S16 : Sta Z h0 "com/example/don_valley/donvalley/protocol/Frame$Kind" "ARRIVE" "Lcom/example/don_valley/donvalley/protocol/Frame$Kind;" (.ref s16)) (S17 : Sta Z h0 "com/example/don_valley/donvalley/protocol/Frame$Kind" "TRACE_PUBLISH" "Lcom/example/don_valley/donvalley/protocol/Frame$Kind;" (.ref s17)) (S18 : Sta Z h0 "com/example/don_valley/donvalley/protocol/Frame$Kind" "TRACE" "Lcom/example/don_valley/donvalley/protocol/Frame$Kind;" (.ref s18)) (S19 : Sta Z h0 "com/example/don_valley/donvalley/protocol/Frame$Kind" "TRACED" "Lcom/example/don_valley/donvalley/protocol/Frame$Kind;" (.ref s19)) (S20 : Sta Z h0 "com/example/don_valley/donvalley/protocol/Frame$Kind" "PLACEMENT" "Lcom/example/don_valley/donvalley/protocol/Frame$Kind;" (.ref s20)) (S21 : Sta Z h0 "com/example/don_valley/donvalley/protocol/Frame$Kind" "SETTLE" "Lcom/example/don_valley/donvalley/protocol/Frame$Kind;" (.ref s21)) (S22 : Sta Z h0 "com/example/don_valley/donvalley/protocol/Frame$Kind" "SETTLED" "Lcom/example/don_valley/donvalley/protocol/Frame$Kind;" (.ref s22)) (S23 : Sta Z h0 "com/example/don_valley/donvalley/protocol/Frame$Kind" "LOAD" "Lcom/example/don_valley/donvalley/protocol/Frame$Kind;" (.ref s23)) (S24 : Sta Z h0 "com/example/don_valley/donvalley/protocol/Frame$Kind" "TAKING" "Lcom/example/don_valley/donvalley/protocol/Frame$Kind;" (.ref s24)) (E1 : Exa Z h0 s1 "com/example/don_valley/donvalley/protocol/Frame$Kind") (E2 : Exa Z h0 s2 "com/example/don_valley/donvalley/protocol/Frame$Kind") (E3 : Exa Z h0 s3 "com/example/don_valley/donvalley/protocol/Frame$Kind") (E4 : Exa Z h0 s4 "com/example/don_valley/donvalley/protocol/Frame$Kind") (E5 : Exa Z h0 s5 "com/example/don_valley/donvalley/protocol/Frame$Kind") (E6 : Exa Z h0 s6 "com/example/don_valley/donvalley/protocol/Frame$Kind") (E7 : Exa Z h0 s7 "com/example/don_valley/donvalley/protocol/Frame$Kind") (E8 : Exa Z h0 s8 "com/example/don_valley/donvalley/protocol/Frame$Kind") (E9 : Exa Z h0 s9 "com/example/don_valley/donvalley/protocol/Frame$Kind") (E10 : Exa Z h0 s10 "com/example/don_valley/donvalley/protocol/Frame$Kind") (E11 : Exa Z h0 s11 "com/example/don_valley/donvalley/protocol/Frame$Kind") (E12 : Exa Z h0 s12 "com/example/don_valley/donvalley/protocol/Frame$Kind") (E13 : Exa Z h0 s13 "com/example/don_valley/donvalley/protocol/Frame$Kind") (E14 : Exa Z h0 s14 "com/example/don_valley/donvalley/protocol/Frame$Kind") (E15 : Exa Z h0 s15 "com/example/don_valley/donvalley/protocol/Frame$Kind") (E16 : Exa Z h0 s16 "com/example/don_valley/donvalley/protocol/Frame$Kind") (E17 : Exa Z h0 s17 "com/example/don_valley/donvalley/protocol/Frame$Kind") (E18 : Exa Z h0 s18 "com/example/don_valley/donvalley/protocol/Frame$Kind") (E19 : Exa Z h0 s19 "com/example/don_valley/donvalley/protocol/Frame$Kind") (E20 : Exa Z h0 s20 "com/example/don_valley/donvalley/protocol/Frame$Kind") (E21 : Exa Z h0 s21 "com/example/don_valley/donvalley/protocol/Frame$Kind") (E22 : Exa Z h0 s22 "com/example/don_valley/donvalley/protocol/Frame$Kind") (E23 : Exa Z h0 s23 "com/example/don_valley/donvalley/protocol/Frame$Kind") (E24 : Exa Z h0 s24 "com/example/don_valley/donvalley/protocol/Frame$Kind") :
    MetFree l x (head1 (Jvm.Cond.code x code maxLocals ret :: ws) room_1) (fun a U => a = #[(.int p1)] ∧ Z.Warmed39 U.vm ∧ U.heap = h0) (fun _ _ _ _ _ => True) (fun _ U o U' => ∃ v L, o = .returned v ∧ Qown_law Z p1 ka kk s1 s2 s3 s4 s5 s6 s7 s8 s9 s10 s11 s12 s13 s14 s15 s16 s17 s18 s19 s20 s21 s22 s23 s24 h0 n0 v U'.heap L ∧ FrameEnd U o U' L room_1.cells room_1.slots) := by
  refine MetFree.of_bodySF (plainFor_of_name own_pn1) hisR ?_
  intro p e s m args below meth c s₁ Bd hml0 hP hK
  obtain ⟨rfl, hZ, hh⟩ := hP
  have hx := Bd.exec
  have hby := Bd.bytes
  have hml : c.maxLocals = 5 := hml0
  have hown : s.vm.findClass "com/example/don_valley/donvalley/protocol/KindForCodePinLaw" = some m.cls := by have q := findClass_of_methodNamed Bd.named; exact q
  have hnm := (name_of_methodNamed Bd.named Bd.method).1
  have X0 : Stand p l e room_1 s m #[(.int p1)] below meth c s₁ [] 0 0 := Stand.of_body Bd
  have e0 : s₁.heap = h0 := by rw [← hh, Bd.state]; rfl
  have N0 := Fr.nil n0
  have pre0 : ∀ t, Steps p.tables e below (s₁.setTop (mkF m 0 #[.val (.int p1), .unset, .unset, .unset, .unset] [])) t → Steps p.tables e below (s₁.setTop (entryFrame m #[(.int p1)] maxLocals)) t := fun t k => castTop (by first | (simp [entryFrame, mkF, argsToLocals, Value.category, maxLocals]; done) | rfl) k
  obtain ⟨T101, h101, k101, X101, e101, E101, A101, O101, st101⟩ := newR X0 hx hZ hown (own_w0 hw) (own_w1 hw) e0 (g := (mkF m 5 #[.val (.int p1), .val (.int (p1.toInt8.toInt32)), .unset, .unset, .unset] [(.int (25 : Int32))])) rfl (hb hby at_5) rfl (by decide) (cap := 25) (by decide) (by decide) (by decide) (by decide)
  obtain ⟨b101, g101⟩ : ∃ z, z = h0.size := ⟨_, rfl⟩
  rw [← g101] at A101 st101
  have ne_ka_b101 : ka ≠ b101 := Nat.ne_of_lt (Nat.lt_of_lt_of_le VK.lt (Nat.le_of_eq g101.symm))
  have ne_s1_b101 : s1 ≠ b101 := Nat.ne_of_lt (Nat.lt_of_lt_of_le F1.lt (Nat.le_of_eq g101.symm))
  have ne_s2_b101 : s2 ≠ b101 := Nat.ne_of_lt (Nat.lt_of_lt_of_le F2.lt (Nat.le_of_eq g101.symm))
  have ne_s3_b101 : s3 ≠ b101 := Nat.ne_of_lt (Nat.lt_of_lt_of_le F3.lt (Nat.le_of_eq g101.symm))
  have ne_s4_b101 : s4 ≠ b101 := Nat.ne_of_lt (Nat.lt_of_lt_of_le F4.lt (Nat.le_of_eq g101.symm))
  have ne_s5_b101 : s5 ≠ b101 := Nat.ne_of_lt (Nat.lt_of_lt_of_le F5.lt (Nat.le_of_eq g101.symm))
  have ne_s6_b101 : s6 ≠ b101 := Nat.ne_of_lt (Nat.lt_of_lt_of_le F6.lt (Nat.le_of_eq g101.symm))
  have ne_s7_b101 : s7 ≠ b101 := Nat.ne_of_lt (Nat.lt_of_lt_of_le F7.lt (Nat.le_of_eq g101.symm))
  have ne_s8_b101 : s8 ≠ b101 := Nat.ne_of_lt (Nat.lt_of_lt_of_le F8.lt (Nat.le_of_eq g101.symm))
  have ne_s9_b101 : s9 ≠ b101 := Nat.ne_of_lt (Nat.lt_of_lt_of_le F9.lt (Nat.le_of_eq g101.symm))
  have ne_s10_b101 : s10 ≠ b101 := Nat.ne_of_lt (Nat.lt_of_lt_of_le F10.lt (Nat.le_of_eq g101.symm))
  have ne_s11_b101 : s11 ≠ b101 := Nat.ne_of_lt (Nat.lt_of_lt_of_le F11.lt (Nat.le_of_eq g101.symm))
  have ne_s12_b101 : s12 ≠ b101 := Nat.ne_of_lt (Nat.lt_of_lt_of_le F12.lt (Nat.le_of_eq g101.symm))
  have ne_s13_b101 : s13 ≠ b101 := Nat.ne_of_lt (Nat.lt_of_lt_of_le F13.lt (Nat.le_of_eq g101.symm))
  have ne_s14_b101 : s14 ≠ b101 := Nat.ne_of_lt (Nat.lt_of_lt_of_le F14.lt (Nat.le_of_eq g101.symm))
  have ne_s15_b101 : s15 ≠ b101 := Nat.ne_of_lt (Nat.lt_of_lt_of_le F15.lt (Nat.le_of_eq g101.symm))
  have ne_s16_b101 : s16 ≠ b101 := Nat.ne_of_lt (Nat.lt_of_lt_of_le F16.lt (Nat.le_of_eq g101.symm))
  have ne_s17_b101 : s17 ≠ b101 := Nat.ne_of_lt (Nat.lt_of_lt_of_le F17.lt (Nat.le_of_eq g101.symm))
  have ne_s18_b101 : s18 ≠ b101 := Nat.ne_of_lt (Nat.lt_of_lt_of_le F18.lt (Nat.le_of_eq g101.symm))
  have ne_s19_b101 : s19 ≠ b101 := Nat.ne_of_lt (Nat.lt_of_lt_of_le F19.lt (Nat.le_of_eq g101.symm))
  have ne_s20_b101 : s20 ≠ b101 := Nat.ne_of_lt (Nat.lt_of_lt_of_le F20.lt (Nat.le_of_eq g101.symm))
  have ne_s21_b101 : s21 ≠ b101 := Nat.ne_of_lt (Nat.lt_of_lt_of_le F21.lt (Nat.le_of_eq g101.symm))
  have ne_s22_b101 : s22 ≠ b101 := Nat.ne_of_lt (Nat.lt_of_lt_of_le F22.lt (Nat.le_of_eq g101.symm))
  have ne_s23_b101 : s23 ≠ b101 := Nat.ne_of_lt (Nat.lt_of_lt_of_le F23.lt (Nat.le_of_eq g101.symm))
  have ne_s24_b101 : s24 ≠ b101 := Nat.ne_of_lt (Nat.lt_of_lt_of_le F24.lt (Nat.le_of_eq g101.symm))
  have g_b101 : n0 ≤ b101 := Nat.le_trans Z0 (Nat.le_of_eq g101.symm)
  have sz_b101 : h0.size ≤ b101 := Nat.le_trans (Keep.refl h0 []).1 (Nat.le_of_eq g101.symm)
  have Z101 : n0 ≤ h101.size := Nat.le_trans Z0 E101.1
  have K101 := (Keep.refl h0 []).ext E101
  have V101 : Arv Z h101 b101 k101 (.object "com/example/don_valley/donvalley/protocol/Frame$Kind") (25 : Int32) [.null, .null, .null, .null, .null, .null, .null, .null, .null, .null, .null, .null, .null, .null, .null, .null, .null, .null, .null, .null, .null, .null, .null, .null, .null] .null := (Arv.new A101 (by decide)).pad (pad_rep [] .null 25)
  obtain ⟨cl102, Ar102, Aq102, As102, An102, Ah102, Ag102⟩ := id V101
  have hin102 : ¬ ((0 : Int32) < 0 ∨ cl102.slots.size ≤ ((0 : Int32)).toNatClampNeg) := inb_of As102 ⟨by decide, by decide⟩
  obtain ⟨T103, h103, X103, e103, W103, st103⟩ := stR X101 hx hZ e101 Ar102 (j := (0 : Int32)) hin102 rfl (Or.inl rfl) (g := (mkF m 11 #[.val (.int p1), .val (.int (p1.toInt8.toInt32)), .unset, .unset, .unset] [.null, (.int (0 : Int32)), (.ref b101), (.ref b101)])) rfl rfl (hb hby at_11)
  have Z103 : n0 ≤ h103.size := Nat.le_trans Z101 (Nat.le_of_eq W103.size.symm)
  have K103 := K101.wr W103 (Or.inr sz_b101)
  have N103 := Fr.snoc X103 N0 g_b101
  have V103 : Arv Z h103 b101 k101 (.object "com/example/don_valley/donvalley/protocol/Frame$Kind") (25 : Int32) [.null, .null, .null, .null, .null, .null, .null, .null, .null, .null, .null, .null, .null, .null, .null, .null, .null, .null, .null, .null, .null, .null, .null, .null, .null] .null := Arv.set Ar102 Aq102 As102 An102 Ah102 Ag102 rfl W103 0 rfl (Nat.le_of_ble_eq_true rfl)
  have c104 := own_sta0 S1 K103
  obtain ⟨T105, X105, e105, st105⟩ := getS2 X103 hx hZ hown (host := "") (Or.inl (own_w2 hw)) Via.refl e103 c104 (g := (mkF m 14 #[.val (.int p1), .val (.int (p1.toInt8.toInt32)), .unset, .unset, .unset] [(.int (1 : Int32)), (.ref b101), (.ref b101)])) rfl (hb hby at_14)
  obtain ⟨cl106, Ar106, Aq106, As106, An106, Ah106, Ag106⟩ := id V103
  have hin106 : ¬ ((1 : Int32) < 0 ∨ cl106.slots.size ≤ ((1 : Int32)).toNatClampNeg) := inb_of As106 ⟨by decide, by decide⟩
  have c107 := E1.keep K103
  obtain ⟨T108, h108, X108, e108, W108, st108⟩ := stR X105 hx hZ e105 Ar106 (j := (1 : Int32)) hin106 rfl (Sto.ofV Ar106 Aq106 O101 (Ins.self c107)) (g := (mkF m 17 #[.val (.int p1), .val (.int (p1.toInt8.toInt32)), .unset, .unset, .unset] [(.ref s1), (.int (1 : Int32)), (.ref b101), (.ref b101)])) rfl rfl (hb hby at_17)
  have Z108 : n0 ≤ h108.size := Nat.le_trans Z103 (Nat.le_of_eq W108.size.symm)
  have K108 := K103.wr W108 (Or.inr sz_b101)
  have N108 := Fr.snoc X108 N103 g_b101
  have V108 : Arv Z h108 b101 k101 (.object "com/example/don_valley/donvalley/protocol/Frame$Kind") (25 : Int32) [.null, (.ref s1), .null, .null, .null, .null, .null, .null, .null, .null, .null, .null, .null, .null, .null, .null, .null, .null, .null, .null, .null, .null, .null, .null, .null] .null := Arv.set Ar106 Aq106 As106 An106 Ah106 Ag106 rfl W108 1 rfl (Nat.le_of_ble_eq_true rfl)
  have c109 := own_sta0 S2 K108
  obtain ⟨T110, X110, e110, st110⟩ := getS2 X108 hx hZ hown (host := "") (Or.inl (own_w6 hw)) Via.refl e108 c109 (g := (mkF m 20 #[.val (.int p1), .val (.int (p1.toInt8.toInt32)), .unset, .unset, .unset] [(.int (2 : Int32)), (.ref b101), (.ref b101)])) rfl (hb hby at_20)
  obtain ⟨cl111, Ar111, Aq111, As111, An111, Ah111, Ag111⟩ := id V108
  have hin111 : ¬ ((2 : Int32) < 0 ∨ cl111.slots.size ≤ ((2 : Int32)).toNatClampNeg) := inb_of As111 ⟨by decide, by decide⟩
  have c112 := E2.keep K108
  obtain ⟨T113, h113, X113, e113, W113, st113⟩ := stR X110 hx hZ e110 Ar111 (j := (2 : Int32)) hin111 rfl (Sto.ofV Ar111 Aq111 O101 (Ins.self c112)) (g := (mkF m 23 #[.val (.int p1), .val (.int (p1.toInt8.toInt32)), .unset, .unset, .unset] [(.ref s2), (.int (2 : Int32)), (.ref b101), (.ref b101)])) rfl rfl (hb hby at_23)
  have Z113 : n0 ≤ h113.size := Nat.le_trans Z108 (Nat.le_of_eq W113.size.symm)
  have K113 := K108.wr W113 (Or.inr sz_b101)
  have N113 := Fr.snoc X113 N108 g_b101
  have V113 : Arv Z h113 b101 k101 (.object "com/example/don_valley/donvalley/protocol/Frame$Kind") (25 : Int32) [.null, (.ref s1), (.ref s2), .null, .null, .null, .null, .null, .null, .null, .null, .null, .null, .null, .null, .null, .null, .null, .null, .null, .null, .null, .null, .null, .null] .null := Arv.set Ar111 Aq111 As111 An111 Ah111 Ag111 rfl W113 2 rfl (Nat.le_of_ble_eq_true rfl)
  have c114 := own_sta0 S3 K113
  obtain ⟨T115, X115, e115, st115⟩ := getS2 X113 hx hZ hown (host := "") (Or.inl (own_w8 hw)) Via.refl e113 c114 (g := (mkF m 26 #[.val (.int p1), .val (.int (p1.toInt8.toInt32)), .unset, .unset, .unset] [(.int (3 : Int32)), (.ref b101), (.ref b101)])) rfl (hb hby at_26)
  obtain ⟨cl116, Ar116, Aq116, As116, An116, Ah116, Ag116⟩ := id V113
  have hin116 : ¬ ((3 : Int32) < 0 ∨ cl116.slots.size ≤ ((3 : Int32)).toNatClampNeg) := inb_of As116 ⟨by decide, by decide⟩
  have c117 := E3.keep K113
  obtain ⟨T118, h118, X118, e118, W118, st118⟩ := stR X115 hx hZ e115 Ar116 (j := (3 : Int32)) hin116 rfl (Sto.ofV Ar116 Aq116 O101 (Ins.self c117)) (g := (mkF m 29 #[.val (.int p1), .val (.int (p1.toInt8.toInt32)), .unset, .unset, .unset] [(.ref s3), (.int (3 : Int32)), (.ref b101), (.ref b101)])) rfl rfl (hb hby at_29)
  have Z118 : n0 ≤ h118.size := Nat.le_trans Z113 (Nat.le_of_eq W118.size.symm)
  have K118 := K113.wr W118 (Or.inr sz_b101)
  have N118 := Fr.snoc X118 N113 g_b101
  have V118 : Arv Z h118 b101 k101 (.object "com/example/don_valley/donvalley/protocol/Frame$Kind") (25 : Int32) [.null, (.ref s1), (.ref s2), (.ref s3), .null, .null, .null, .null, .null, .null, .null, .null, .null, .null, .null, .null, .null, .null, .null, .null, .null, .null, .null, .null, .null] .null := Arv.set Ar116 Aq116 As116 An116 Ah116 Ag116 rfl W118 3 rfl (Nat.le_of_ble_eq_true rfl)
  have c119 := own_sta0 S4 K118
  obtain ⟨T120, X120, e120, st120⟩ := getS2 X118 hx hZ hown (host := "") (Or.inl (own_w10 hw)) Via.refl e118 c119 (g := (mkF m 32 #[.val (.int p1), .val (.int (p1.toInt8.toInt32)), .unset, .unset, .unset] [(.int (4 : Int32)), (.ref b101), (.ref b101)])) rfl (hb hby at_32)
  obtain ⟨cl121, Ar121, Aq121, As121, An121, Ah121, Ag121⟩ := id V118
  have hin121 : ¬ ((4 : Int32) < 0 ∨ cl121.slots.size ≤ ((4 : Int32)).toNatClampNeg) := inb_of As121 ⟨by decide, by decide⟩
  have c122 := E4.keep K118
  obtain ⟨T123, h123, X123, e123, W123, st123⟩ := stR X120 hx hZ e120 Ar121 (j := (4 : Int32)) hin121 rfl (Sto.ofV Ar121 Aq121 O101 (Ins.self c122)) (g := (mkF m 35 #[.val (.int p1), .val (.int (p1.toInt8.toInt32)), .unset, .unset, .unset] [(.ref s4), (.int (4 : Int32)), (.ref b101), (.ref b101)])) rfl rfl (hb hby at_35)
  have Z123 : n0 ≤ h123.size := Nat.le_trans Z118 (Nat.le_of_eq W123.size.symm)
  have K123 := K118.wr W123 (Or.inr sz_b101)
  have N123 := Fr.snoc X123 N118 g_b101
  have V123 : Arv Z h123 b101 k101 (.object "com/example/don_valley/donvalley/protocol/Frame$Kind") (25 : Int32) [.null, (.ref s1), (.ref s2), (.ref s3), (.ref s4), .null, .null, .null, .null, .null, .null, .null, .null, .null, .null, .null, .null, .null, .null, .null, .null, .null, .null, .null, .null] .null := Arv.set Ar121 Aq121 As121 An121 Ah121 Ag121 rfl W123 4 rfl (Nat.le_of_ble_eq_true rfl)
  have c124 := own_sta0 S5 K123
  obtain ⟨T125, X125, e125, st125⟩ := getS2 X123 hx hZ hown (host := "") (Or.inl (own_w12 hw)) Via.refl e123 c124 (g := (mkF m 38 #[.val (.int p1), .val (.int (p1.toInt8.toInt32)), .unset, .unset, .unset] [(.int (5 : Int32)), (.ref b101), (.ref b101)])) rfl (hb hby at_38)
  obtain ⟨cl126, Ar126, Aq126, As126, An126, Ah126, Ag126⟩ := id V123
  have hin126 : ¬ ((5 : Int32) < 0 ∨ cl126.slots.size ≤ ((5 : Int32)).toNatClampNeg) := inb_of As126 ⟨by decide, by decide⟩
  have c127 := E5.keep K123
  obtain ⟨T128, h128, X128, e128, W128, st128⟩ := stR X125 hx hZ e125 Ar126 (j := (5 : Int32)) hin126 rfl (Sto.ofV Ar126 Aq126 O101 (Ins.self c127)) (g := (mkF m 41 #[.val (.int p1), .val (.int (p1.toInt8.toInt32)), .unset, .unset, .unset] [(.ref s5), (.int (5 : Int32)), (.ref b101), (.ref b101)])) rfl rfl (hb hby at_41)
  have Z128 : n0 ≤ h128.size := Nat.le_trans Z123 (Nat.le_of_eq W128.size.symm)
  have K128 := K123.wr W128 (Or.inr sz_b101)
  have N128 := Fr.snoc X128 N123 g_b101
  have V128 : Arv Z h128 b101 k101 (.object "com/example/don_valley/donvalley/protocol/Frame$Kind") (25 : Int32) [.null, (.ref s1), (.ref s2), (.ref s3), (.ref s4), (.ref s5), .null, .null, .null, .null, .null, .null, .null, .null, .null, .null, .null, .null, .null, .null, .null, .null, .null, .null, .null] .null := Arv.set Ar126 Aq126 As126 An126 Ah126 Ag126 rfl W128 5 rfl (Nat.le_of_ble_eq_true rfl)
  have c129 := own_sta0 S6 K128
  obtain ⟨T130, X130, e130, st130⟩ := getS2 X128 hx hZ hown (host := "") (Or.inl (own_w14 hw)) Via.refl e128 c129 (g := (mkF m 45 #[.val (.int p1), .val (.int (p1.toInt8.toInt32)), .unset, .unset, .unset] [(.int (6 : Int32)), (.ref b101), (.ref b101)])) rfl (hb hby at_45)
  obtain ⟨cl131, Ar131, Aq131, As131, An131, Ah131, Ag131⟩ := id V128
  have hin131 : ¬ ((6 : Int32) < 0 ∨ cl131.slots.size ≤ ((6 : Int32)).toNatClampNeg) := inb_of As131 ⟨by decide, by decide⟩
  have c132 := E6.keep K128
  obtain ⟨T133, h133, X133, e133, W133, st133⟩ := stR X130 hx hZ e130 Ar131 (j := (6 : Int32)) hin131 rfl (Sto.ofV Ar131 Aq131 O101 (Ins.self c132)) (g := (mkF m 48 #[.val (.int p1), .val (.int (p1.toInt8.toInt32)), .unset, .unset, .unset] [(.ref s6), (.int (6 : Int32)), (.ref b101), (.ref b101)])) rfl rfl (hb hby at_48)
  have Z133 : n0 ≤ h133.size := Nat.le_trans Z128 (Nat.le_of_eq W133.size.symm)
  have K133 := K128.wr W133 (Or.inr sz_b101)
  have N133 := Fr.snoc X133 N128 g_b101
  have V133 : Arv Z h133 b101 k101 (.object "com/example/don_valley/donvalley/protocol/Frame$Kind") (25 : Int32) [.null, (.ref s1), (.ref s2), (.ref s3), (.ref s4), (.ref s5), (.ref s6), .null, .null, .null, .null, .null, .null, .null, .null, .null, .null, .null, .null, .null, .null, .null, .null, .null, .null] .null := Arv.set Ar131 Aq131 As131 An131 Ah131 Ag131 rfl W133 6 rfl (Nat.le_of_ble_eq_true rfl)
  have c134 := own_sta0 S7 K133
  obtain ⟨T135, X135, e135, st135⟩ := getS2 X133 hx hZ hown (host := "") (Or.inl (own_w16 hw)) Via.refl e133 c134 (g := (mkF m 52 #[.val (.int p1), .val (.int (p1.toInt8.toInt32)), .unset, .unset, .unset] [(.int (7 : Int32)), (.ref b101), (.ref b101)])) rfl (hb hby at_52)
  obtain ⟨cl136, Ar136, Aq136, As136, An136, Ah136, Ag136⟩ := id V133
  have hin136 : ¬ ((7 : Int32) < 0 ∨ cl136.slots.size ≤ ((7 : Int32)).toNatClampNeg) := inb_of As136 ⟨by decide, by decide⟩
  have c137 := E7.keep K133
  obtain ⟨T138, h138, X138, e138, W138, st138⟩ := stR X135 hx hZ e135 Ar136 (j := (7 : Int32)) hin136 rfl (Sto.ofV Ar136 Aq136 O101 (Ins.self c137)) (g := (mkF m 55 #[.val (.int p1), .val (.int (p1.toInt8.toInt32)), .unset, .unset, .unset] [(.ref s7), (.int (7 : Int32)), (.ref b101), (.ref b101)])) rfl rfl (hb hby at_55)
  have Z138 : n0 ≤ h138.size := Nat.le_trans Z133 (Nat.le_of_eq W138.size.symm)
  have K138 := K133.wr W138 (Or.inr sz_b101)
  have N138 := Fr.snoc X138 N133 g_b101
  have V138 : Arv Z h138 b101 k101 (.object "com/example/don_valley/donvalley/protocol/Frame$Kind") (25 : Int32) [.null, (.ref s1), (.ref s2), (.ref s3), (.ref s4), (.ref s5), (.ref s6), (.ref s7), .null, .null, .null, .null, .null, .null, .null, .null, .null, .null, .null, .null, .null, .null, .null, .null, .null] .null := Arv.set Ar136 Aq136 As136 An136 Ah136 Ag136 rfl W138 7 rfl (Nat.le_of_ble_eq_true rfl)
  have c139 := own_sta0 S8 K138
  obtain ⟨T140, X140, e140, st140⟩ := getS2 X138 hx hZ hown (host := "") (Or.inl (own_w18 hw)) Via.refl e138 c139 (g := (mkF m 59 #[.val (.int p1), .val (.int (p1.toInt8.toInt32)), .unset, .unset, .unset] [(.int (8 : Int32)), (.ref b101), (.ref b101)])) rfl (hb hby at_59)
  obtain ⟨cl141, Ar141, Aq141, As141, An141, Ah141, Ag141⟩ := id V138
  have hin141 : ¬ ((8 : Int32) < 0 ∨ cl141.slots.size ≤ ((8 : Int32)).toNatClampNeg) := inb_of As141 ⟨by decide, by decide⟩
  have c142 := E8.keep K138
  obtain ⟨T143, h143, X143, e143, W143, st143⟩ := stR X140 hx hZ e140 Ar141 (j := (8 : Int32)) hin141 rfl (Sto.ofV Ar141 Aq141 O101 (Ins.self c142)) (g := (mkF m 62 #[.val (.int p1), .val (.int (p1.toInt8.toInt32)), .unset, .unset, .unset] [(.ref s8), (.int (8 : Int32)), (.ref b101), (.ref b101)])) rfl rfl (hb hby at_62)
  have Z143 : n0 ≤ h143.size := Nat.le_trans Z138 (Nat.le_of_eq W143.size.symm)
  have K143 := K138.wr W143 (Or.inr sz_b101)
  have N143 := Fr.snoc X143 N138 g_b101
  have V143 : Arv Z h143 b101 k101 (.object "com/example/don_valley/donvalley/protocol/Frame$Kind") (25 : Int32) [.null, (.ref s1), (.ref s2), (.ref s3), (.ref s4), (.ref s5), (.ref s6), (.ref s7), (.ref s8), .null, .null, .null, .null, .null, .null, .null, .null, .null, .null, .null, .null, .null, .null, .null, .null] .null := Arv.set Ar141 Aq141 As141 An141 Ah141 Ag141 rfl W143 8 rfl (Nat.le_of_ble_eq_true rfl)
  have c144 := own_sta0 S9 K143
  obtain ⟨T145, X145, e145, st145⟩ := getS2 X143 hx hZ hown (host := "") (Or.inl (own_w20 hw)) Via.refl e143 c144 (g := (mkF m 66 #[.val (.int p1), .val (.int (p1.toInt8.toInt32)), .unset, .unset, .unset] [(.int (9 : Int32)), (.ref b101), (.ref b101)])) rfl (hb hby at_66)
  obtain ⟨cl146, Ar146, Aq146, As146, An146, Ah146, Ag146⟩ := id V143
  have hin146 : ¬ ((9 : Int32) < 0 ∨ cl146.slots.size ≤ ((9 : Int32)).toNatClampNeg) := inb_of As146 ⟨by decide, by decide⟩
  have c147 := E9.keep K143
  obtain ⟨T148, h148, X148, e148, W148, st148⟩ := stR X145 hx hZ e145 Ar146 (j := (9 : Int32)) hin146 rfl (Sto.ofV Ar146 Aq146 O101 (Ins.self c147)) (g := (mkF m 69 #[.val (.int p1), .val (.int (p1.toInt8.toInt32)), .unset, .unset, .unset] [(.ref s9), (.int (9 : Int32)), (.ref b101), (.ref b101)])) rfl rfl (hb hby at_69)
  have Z148 : n0 ≤ h148.size := Nat.le_trans Z143 (Nat.le_of_eq W148.size.symm)
  have K148 := K143.wr W148 (Or.inr sz_b101)
  have N148 := Fr.snoc X148 N143 g_b101
  have V148 : Arv Z h148 b101 k101 (.object "com/example/don_valley/donvalley/protocol/Frame$Kind") (25 : Int32) [.null, (.ref s1), (.ref s2), (.ref s3), (.ref s4), (.ref s5), (.ref s6), (.ref s7), (.ref s8), (.ref s9), .null, .null, .null, .null, .null, .null, .null, .null, .null, .null, .null, .null, .null, .null, .null] .null := Arv.set Ar146 Aq146 As146 An146 Ah146 Ag146 rfl W148 9 rfl (Nat.le_of_ble_eq_true rfl)
  have c149 := own_sta0 S10 K148
  obtain ⟨T150, X150, e150, st150⟩ := getS2 X148 hx hZ hown (host := "") (Or.inl (own_w22 hw)) Via.refl e148 c149 (g := (mkF m 73 #[.val (.int p1), .val (.int (p1.toInt8.toInt32)), .unset, .unset, .unset] [(.int (10 : Int32)), (.ref b101), (.ref b101)])) rfl (hb hby at_73)
  obtain ⟨cl151, Ar151, Aq151, As151, An151, Ah151, Ag151⟩ := id V148
  have hin151 : ¬ ((10 : Int32) < 0 ∨ cl151.slots.size ≤ ((10 : Int32)).toNatClampNeg) := inb_of As151 ⟨by decide, by decide⟩
  have c152 := E10.keep K148
  obtain ⟨T153, h153, X153, e153, W153, st153⟩ := stR X150 hx hZ e150 Ar151 (j := (10 : Int32)) hin151 rfl (Sto.ofV Ar151 Aq151 O101 (Ins.self c152)) (g := (mkF m 76 #[.val (.int p1), .val (.int (p1.toInt8.toInt32)), .unset, .unset, .unset] [(.ref s10), (.int (10 : Int32)), (.ref b101), (.ref b101)])) rfl rfl (hb hby at_76)
  have Z153 : n0 ≤ h153.size := Nat.le_trans Z148 (Nat.le_of_eq W153.size.symm)
  have K153 := K148.wr W153 (Or.inr sz_b101)
  have N153 := Fr.snoc X153 N148 g_b101
  have V153 : Arv Z h153 b101 k101 (.object "com/example/don_valley/donvalley/protocol/Frame$Kind") (25 : Int32) [.null, (.ref s1), (.ref s2), (.ref s3), (.ref s4), (.ref s5), (.ref s6), (.ref s7), (.ref s8), (.ref s9), (.ref s10), .null, .null, .null, .null, .null, .null, .null, .null, .null, .null, .null, .null, .null, .null] .null := Arv.set Ar151 Aq151 As151 An151 Ah151 Ag151 rfl W153 10 rfl (Nat.le_of_ble_eq_true rfl)
  have c154 := own_sta0 S11 K153
  obtain ⟨T155, X155, e155, st155⟩ := getS2 X153 hx hZ hown (host := "") (Or.inl (own_w24 hw)) Via.refl e153 c154 (g := (mkF m 80 #[.val (.int p1), .val (.int (p1.toInt8.toInt32)), .unset, .unset, .unset] [(.int (11 : Int32)), (.ref b101), (.ref b101)])) rfl (hb hby at_80)
  obtain ⟨cl156, Ar156, Aq156, As156, An156, Ah156, Ag156⟩ := id V153
  have hin156 : ¬ ((11 : Int32) < 0 ∨ cl156.slots.size ≤ ((11 : Int32)).toNatClampNeg) := inb_of As156 ⟨by decide, by decide⟩
  have c157 := E11.keep K153
  obtain ⟨T158, h158, X158, e158, W158, st158⟩ := stR X155 hx hZ e155 Ar156 (j := (11 : Int32)) hin156 rfl (Sto.ofV Ar156 Aq156 O101 (Ins.self c157)) (g := (mkF m 83 #[.val (.int p1), .val (.int (p1.toInt8.toInt32)), .unset, .unset, .unset] [(.ref s11), (.int (11 : Int32)), (.ref b101), (.ref b101)])) rfl rfl (hb hby at_83)
  have Z158 : n0 ≤ h158.size := Nat.le_trans Z153 (Nat.le_of_eq W158.size.symm)
  have K158 := K153.wr W158 (Or.inr sz_b101)
  have N158 := Fr.snoc X158 N153 g_b101
  have V158 : Arv Z h158 b101 k101 (.object "com/example/don_valley/donvalley/protocol/Frame$Kind") (25 : Int32) [.null, (.ref s1), (.ref s2), (.ref s3), (.ref s4), (.ref s5), (.ref s6), (.ref s7), (.ref s8), (.ref s9), (.ref s10), (.ref s11), .null, .null, .null, .null, .null, .null, .null, .null, .null, .null, .null, .null, .null] .null := Arv.set Ar156 Aq156 As156 An156 Ah156 Ag156 rfl W158 11 rfl (Nat.le_of_ble_eq_true rfl)
  have c159 := own_sta0 S12 K158
  obtain ⟨T160, X160, e160, st160⟩ := getS2 X158 hx hZ hown (host := "") (Or.inl (own_w26 hw)) Via.refl e158 c159 (g := (mkF m 87 #[.val (.int p1), .val (.int (p1.toInt8.toInt32)), .unset, .unset, .unset] [(.int (12 : Int32)), (.ref b101), (.ref b101)])) rfl (hb hby at_87)
  obtain ⟨cl161, Ar161, Aq161, As161, An161, Ah161, Ag161⟩ := id V158
  have hin161 : ¬ ((12 : Int32) < 0 ∨ cl161.slots.size ≤ ((12 : Int32)).toNatClampNeg) := inb_of As161 ⟨by decide, by decide⟩
  have c162 := E12.keep K158
  obtain ⟨T163, h163, X163, e163, W163, st163⟩ := stR X160 hx hZ e160 Ar161 (j := (12 : Int32)) hin161 rfl (Sto.ofV Ar161 Aq161 O101 (Ins.self c162)) (g := (mkF m 90 #[.val (.int p1), .val (.int (p1.toInt8.toInt32)), .unset, .unset, .unset] [(.ref s12), (.int (12 : Int32)), (.ref b101), (.ref b101)])) rfl rfl (hb hby at_90)
  have Z163 : n0 ≤ h163.size := Nat.le_trans Z158 (Nat.le_of_eq W163.size.symm)
  have K163 := K158.wr W163 (Or.inr sz_b101)
  have N163 := Fr.snoc X163 N158 g_b101
  have V163 : Arv Z h163 b101 k101 (.object "com/example/don_valley/donvalley/protocol/Frame$Kind") (25 : Int32) [.null, (.ref s1), (.ref s2), (.ref s3), (.ref s4), (.ref s5), (.ref s6), (.ref s7), (.ref s8), (.ref s9), (.ref s10), (.ref s11), (.ref s12), .null, .null, .null, .null, .null, .null, .null, .null, .null, .null, .null, .null] .null := Arv.set Ar161 Aq161 As161 An161 Ah161 Ag161 rfl W163 12 rfl (Nat.le_of_ble_eq_true rfl)
  have c164 := own_sta0 S13 K163
  obtain ⟨T165, X165, e165, st165⟩ := getS2 X163 hx hZ hown (host := "") (Or.inl (own_w28 hw)) Via.refl e163 c164 (g := (mkF m 94 #[.val (.int p1), .val (.int (p1.toInt8.toInt32)), .unset, .unset, .unset] [(.int (13 : Int32)), (.ref b101), (.ref b101)])) rfl (hb hby at_94)
  obtain ⟨cl166, Ar166, Aq166, As166, An166, Ah166, Ag166⟩ := id V163
  have hin166 : ¬ ((13 : Int32) < 0 ∨ cl166.slots.size ≤ ((13 : Int32)).toNatClampNeg) := inb_of As166 ⟨by decide, by decide⟩
  have c167 := E13.keep K163
  obtain ⟨T168, h168, X168, e168, W168, st168⟩ := stR X165 hx hZ e165 Ar166 (j := (13 : Int32)) hin166 rfl (Sto.ofV Ar166 Aq166 O101 (Ins.self c167)) (g := (mkF m 97 #[.val (.int p1), .val (.int (p1.toInt8.toInt32)), .unset, .unset, .unset] [(.ref s13), (.int (13 : Int32)), (.ref b101), (.ref b101)])) rfl rfl (hb hby at_97)
  have Z168 : n0 ≤ h168.size := Nat.le_trans Z163 (Nat.le_of_eq W168.size.symm)
  have K168 := K163.wr W168 (Or.inr sz_b101)
  have N168 := Fr.snoc X168 N163 g_b101
  have V168 : Arv Z h168 b101 k101 (.object "com/example/don_valley/donvalley/protocol/Frame$Kind") (25 : Int32) [.null, (.ref s1), (.ref s2), (.ref s3), (.ref s4), (.ref s5), (.ref s6), (.ref s7), (.ref s8), (.ref s9), (.ref s10), (.ref s11), (.ref s12), (.ref s13), .null, .null, .null, .null, .null, .null, .null, .null, .null, .null, .null] .null := Arv.set Ar166 Aq166 As166 An166 Ah166 Ag166 rfl W168 13 rfl (Nat.le_of_ble_eq_true rfl)
  have c169 := own_sta0 S14 K168
  obtain ⟨T170, X170, e170, st170⟩ := getS2 X168 hx hZ hown (host := "") (Or.inl (own_w30 hw)) Via.refl e168 c169 (g := (mkF m 101 #[.val (.int p1), .val (.int (p1.toInt8.toInt32)), .unset, .unset, .unset] [(.int (14 : Int32)), (.ref b101), (.ref b101)])) rfl (hb hby at_101)
  obtain ⟨cl171, Ar171, Aq171, As171, An171, Ah171, Ag171⟩ := id V168
  have hin171 : ¬ ((14 : Int32) < 0 ∨ cl171.slots.size ≤ ((14 : Int32)).toNatClampNeg) := inb_of As171 ⟨by decide, by decide⟩
  have c172 := E14.keep K168
  obtain ⟨T173, h173, X173, e173, W173, st173⟩ := stR X170 hx hZ e170 Ar171 (j := (14 : Int32)) hin171 rfl (Sto.ofV Ar171 Aq171 O101 (Ins.self c172)) (g := (mkF m 104 #[.val (.int p1), .val (.int (p1.toInt8.toInt32)), .unset, .unset, .unset] [(.ref s14), (.int (14 : Int32)), (.ref b101), (.ref b101)])) rfl rfl (hb hby at_104)
  have Z173 : n0 ≤ h173.size := Nat.le_trans Z168 (Nat.le_of_eq W173.size.symm)
  have K173 := K168.wr W173 (Or.inr sz_b101)
  have N173 := Fr.snoc X173 N168 g_b101
  have V173 : Arv Z h173 b101 k101 (.object "com/example/don_valley/donvalley/protocol/Frame$Kind") (25 : Int32) [.null, (.ref s1), (.ref s2), (.ref s3), (.ref s4), (.ref s5), (.ref s6), (.ref s7), (.ref s8), (.ref s9), (.ref s10), (.ref s11), (.ref s12), (.ref s13), (.ref s14), .null, .null, .null, .null, .null, .null, .null, .null, .null, .null] .null := Arv.set Ar171 Aq171 As171 An171 Ah171 Ag171 rfl W173 14 rfl (Nat.le_of_ble_eq_true rfl)
  have c174 := own_sta0 S15 K173
  obtain ⟨T175, X175, e175, st175⟩ := getS2 X173 hx hZ hown (host := "") (Or.inl (own_w32 hw)) Via.refl e173 c174 (g := (mkF m 108 #[.val (.int p1), .val (.int (p1.toInt8.toInt32)), .unset, .unset, .unset] [(.int (15 : Int32)), (.ref b101), (.ref b101)])) rfl (hb hby at_108)
  obtain ⟨cl176, Ar176, Aq176, As176, An176, Ah176, Ag176⟩ := id V173
  have hin176 : ¬ ((15 : Int32) < 0 ∨ cl176.slots.size ≤ ((15 : Int32)).toNatClampNeg) := inb_of As176 ⟨by decide, by decide⟩
  have c177 := E15.keep K173
  obtain ⟨T178, h178, X178, e178, W178, st178⟩ := stR X175 hx hZ e175 Ar176 (j := (15 : Int32)) hin176 rfl (Sto.ofV Ar176 Aq176 O101 (Ins.self c177)) (g := (mkF m 111 #[.val (.int p1), .val (.int (p1.toInt8.toInt32)), .unset, .unset, .unset] [(.ref s15), (.int (15 : Int32)), (.ref b101), (.ref b101)])) rfl rfl (hb hby at_111)
  have Z178 : n0 ≤ h178.size := Nat.le_trans Z173 (Nat.le_of_eq W178.size.symm)
  have K178 := K173.wr W178 (Or.inr sz_b101)
  have N178 := Fr.snoc X178 N173 g_b101
  have V178 : Arv Z h178 b101 k101 (.object "com/example/don_valley/donvalley/protocol/Frame$Kind") (25 : Int32) [.null, (.ref s1), (.ref s2), (.ref s3), (.ref s4), (.ref s5), (.ref s6), (.ref s7), (.ref s8), (.ref s9), (.ref s10), (.ref s11), (.ref s12), (.ref s13), (.ref s14), (.ref s15), .null, .null, .null, .null, .null, .null, .null, .null, .null] .null := Arv.set Ar176 Aq176 As176 An176 Ah176 Ag176 rfl W178 15 rfl (Nat.le_of_ble_eq_true rfl)
  have c179 := own_sta0 S16 K178
  obtain ⟨T180, X180, e180, st180⟩ := getS2 X178 hx hZ hown (host := "") (Or.inl (own_w34 hw)) Via.refl e178 c179 (g := (mkF m 115 #[.val (.int p1), .val (.int (p1.toInt8.toInt32)), .unset, .unset, .unset] [(.int (16 : Int32)), (.ref b101), (.ref b101)])) rfl (hb hby at_115)
  obtain ⟨cl181, Ar181, Aq181, As181, An181, Ah181, Ag181⟩ := id V178
  have hin181 : ¬ ((16 : Int32) < 0 ∨ cl181.slots.size ≤ ((16 : Int32)).toNatClampNeg) := inb_of As181 ⟨by decide, by decide⟩
  have c182 := E16.keep K178
  obtain ⟨T183, h183, X183, e183, W183, st183⟩ := stR X180 hx hZ e180 Ar181 (j := (16 : Int32)) hin181 rfl (Sto.ofV Ar181 Aq181 O101 (Ins.self c182)) (g := (mkF m 118 #[.val (.int p1), .val (.int (p1.toInt8.toInt32)), .unset, .unset, .unset] [(.ref s16), (.int (16 : Int32)), (.ref b101), (.ref b101)])) rfl rfl (hb hby at_118)
  have Z183 : n0 ≤ h183.size := Nat.le_trans Z178 (Nat.le_of_eq W183.size.symm)
  have K183 := K178.wr W183 (Or.inr sz_b101)
  have N183 := Fr.snoc X183 N178 g_b101
  have V183 : Arv Z h183 b101 k101 (.object "com/example/don_valley/donvalley/protocol/Frame$Kind") (25 : Int32) [.null, (.ref s1), (.ref s2), (.ref s3), (.ref s4), (.ref s5), (.ref s6), (.ref s7), (.ref s8), (.ref s9), (.ref s10), (.ref s11), (.ref s12), (.ref s13), (.ref s14), (.ref s15), (.ref s16), .null, .null, .null, .null, .null, .null, .null, .null] .null := Arv.set Ar181 Aq181 As181 An181 Ah181 Ag181 rfl W183 16 rfl (Nat.le_of_ble_eq_true rfl)
  have c184 := own_sta0 S17 K183
  obtain ⟨T185, X185, e185, st185⟩ := getS2 X183 hx hZ hown (host := "") (Or.inl (own_w36 hw)) Via.refl e183 c184 (g := (mkF m 122 #[.val (.int p1), .val (.int (p1.toInt8.toInt32)), .unset, .unset, .unset] [(.int (17 : Int32)), (.ref b101), (.ref b101)])) rfl (hb hby at_122)
  obtain ⟨cl186, Ar186, Aq186, As186, An186, Ah186, Ag186⟩ := id V183
  have hin186 : ¬ ((17 : Int32) < 0 ∨ cl186.slots.size ≤ ((17 : Int32)).toNatClampNeg) := inb_of As186 ⟨by decide, by decide⟩
  have c187 := E17.keep K183
  obtain ⟨T188, h188, X188, e188, W188, st188⟩ := stR X185 hx hZ e185 Ar186 (j := (17 : Int32)) hin186 rfl (Sto.ofV Ar186 Aq186 O101 (Ins.self c187)) (g := (mkF m 125 #[.val (.int p1), .val (.int (p1.toInt8.toInt32)), .unset, .unset, .unset] [(.ref s17), (.int (17 : Int32)), (.ref b101), (.ref b101)])) rfl rfl (hb hby at_125)
  have Z188 : n0 ≤ h188.size := Nat.le_trans Z183 (Nat.le_of_eq W188.size.symm)
  have K188 := K183.wr W188 (Or.inr sz_b101)
  have N188 := Fr.snoc X188 N183 g_b101
  have V188 : Arv Z h188 b101 k101 (.object "com/example/don_valley/donvalley/protocol/Frame$Kind") (25 : Int32) [.null, (.ref s1), (.ref s2), (.ref s3), (.ref s4), (.ref s5), (.ref s6), (.ref s7), (.ref s8), (.ref s9), (.ref s10), (.ref s11), (.ref s12), (.ref s13), (.ref s14), (.ref s15), (.ref s16), (.ref s17), .null, .null, .null, .null, .null, .null, .null] .null := Arv.set Ar186 Aq186 As186 An186 Ah186 Ag186 rfl W188 17 rfl (Nat.le_of_ble_eq_true rfl)
  have c189 := own_sta0 S18 K188
  obtain ⟨T190, X190, e190, st190⟩ := getS2 X188 hx hZ hown (host := "") (Or.inl (own_w38 hw)) Via.refl e188 c189 (g := (mkF m 129 #[.val (.int p1), .val (.int (p1.toInt8.toInt32)), .unset, .unset, .unset] [(.int (18 : Int32)), (.ref b101), (.ref b101)])) rfl (hb hby at_129)
  obtain ⟨cl191, Ar191, Aq191, As191, An191, Ah191, Ag191⟩ := id V188
  have hin191 : ¬ ((18 : Int32) < 0 ∨ cl191.slots.size ≤ ((18 : Int32)).toNatClampNeg) := inb_of As191 ⟨by decide, by decide⟩
  have c192 := E18.keep K188
  obtain ⟨T193, h193, X193, e193, W193, st193⟩ := stR X190 hx hZ e190 Ar191 (j := (18 : Int32)) hin191 rfl (Sto.ofV Ar191 Aq191 O101 (Ins.self c192)) (g := (mkF m 132 #[.val (.int p1), .val (.int (p1.toInt8.toInt32)), .unset, .unset, .unset] [(.ref s18), (.int (18 : Int32)), (.ref b101), (.ref b101)])) rfl rfl (hb hby at_132)
  have Z193 : n0 ≤ h193.size := Nat.le_trans Z188 (Nat.le_of_eq W193.size.symm)
  have K193 := K188.wr W193 (Or.inr sz_b101)
  have N193 := Fr.snoc X193 N188 g_b101
  have V193 : Arv Z h193 b101 k101 (.object "com/example/don_valley/donvalley/protocol/Frame$Kind") (25 : Int32) [.null, (.ref s1), (.ref s2), (.ref s3), (.ref s4), (.ref s5), (.ref s6), (.ref s7), (.ref s8), (.ref s9), (.ref s10), (.ref s11), (.ref s12), (.ref s13), (.ref s14), (.ref s15), (.ref s16), (.ref s17), (.ref s18), .null, .null, .null, .null, .null, .null] .null := Arv.set Ar191 Aq191 As191 An191 Ah191 Ag191 rfl W193 18 rfl (Nat.le_of_ble_eq_true rfl)
  have c194 := own_sta0 S19 K193
  obtain ⟨T195, X195, e195, st195⟩ := getS2 X193 hx hZ hown (host := "") (Or.inl (own_w40 hw)) Via.refl e193 c194 (g := (mkF m 136 #[.val (.int p1), .val (.int (p1.toInt8.toInt32)), .unset, .unset, .unset] [(.int (19 : Int32)), (.ref b101), (.ref b101)])) rfl (hb hby at_136)
  obtain ⟨cl196, Ar196, Aq196, As196, An196, Ah196, Ag196⟩ := id V193
  have hin196 : ¬ ((19 : Int32) < 0 ∨ cl196.slots.size ≤ ((19 : Int32)).toNatClampNeg) := inb_of As196 ⟨by decide, by decide⟩
  have c197 := E19.keep K193
  obtain ⟨T198, h198, X198, e198, W198, st198⟩ := stR X195 hx hZ e195 Ar196 (j := (19 : Int32)) hin196 rfl (Sto.ofV Ar196 Aq196 O101 (Ins.self c197)) (g := (mkF m 139 #[.val (.int p1), .val (.int (p1.toInt8.toInt32)), .unset, .unset, .unset] [(.ref s19), (.int (19 : Int32)), (.ref b101), (.ref b101)])) rfl rfl (hb hby at_139)
  have Z198 : n0 ≤ h198.size := Nat.le_trans Z193 (Nat.le_of_eq W198.size.symm)
  have K198 := K193.wr W198 (Or.inr sz_b101)
  have N198 := Fr.snoc X198 N193 g_b101
  have V198 : Arv Z h198 b101 k101 (.object "com/example/don_valley/donvalley/protocol/Frame$Kind") (25 : Int32) [.null, (.ref s1), (.ref s2), (.ref s3), (.ref s4), (.ref s5), (.ref s6), (.ref s7), (.ref s8), (.ref s9), (.ref s10), (.ref s11), (.ref s12), (.ref s13), (.ref s14), (.ref s15), (.ref s16), (.ref s17), (.ref s18), (.ref s19), .null, .null, .null, .null, .null] .null := Arv.set Ar196 Aq196 As196 An196 Ah196 Ag196 rfl W198 19 rfl (Nat.le_of_ble_eq_true rfl)
  have c199 := own_sta0 S20 K198
  obtain ⟨T200, X200, e200, st200⟩ := getS2 X198 hx hZ hown (host := "") (Or.inl (own_w42 hw)) Via.refl e198 c199 (g := (mkF m 143 #[.val (.int p1), .val (.int (p1.toInt8.toInt32)), .unset, .unset, .unset] [(.int (20 : Int32)), (.ref b101), (.ref b101)])) rfl (hb hby at_143)
  obtain ⟨cl201, Ar201, Aq201, As201, An201, Ah201, Ag201⟩ := id V198
  have hin201 : ¬ ((20 : Int32) < 0 ∨ cl201.slots.size ≤ ((20 : Int32)).toNatClampNeg) := inb_of As201 ⟨by decide, by decide⟩
  have c202 := E20.keep K198
  obtain ⟨T203, h203, X203, e203, W203, st203⟩ := stR X200 hx hZ e200 Ar201 (j := (20 : Int32)) hin201 rfl (Sto.ofV Ar201 Aq201 O101 (Ins.self c202)) (g := (mkF m 146 #[.val (.int p1), .val (.int (p1.toInt8.toInt32)), .unset, .unset, .unset] [(.ref s20), (.int (20 : Int32)), (.ref b101), (.ref b101)])) rfl rfl (hb hby at_146)
  have Z203 : n0 ≤ h203.size := Nat.le_trans Z198 (Nat.le_of_eq W203.size.symm)
  have K203 := K198.wr W203 (Or.inr sz_b101)
  have N203 := Fr.snoc X203 N198 g_b101
  have V203 : Arv Z h203 b101 k101 (.object "com/example/don_valley/donvalley/protocol/Frame$Kind") (25 : Int32) [.null, (.ref s1), (.ref s2), (.ref s3), (.ref s4), (.ref s5), (.ref s6), (.ref s7), (.ref s8), (.ref s9), (.ref s10), (.ref s11), (.ref s12), (.ref s13), (.ref s14), (.ref s15), (.ref s16), (.ref s17), (.ref s18), (.ref s19), (.ref s20), .null, .null, .null, .null] .null := Arv.set Ar201 Aq201 As201 An201 Ah201 Ag201 rfl W203 20 rfl (Nat.le_of_ble_eq_true rfl)
  have c204 := own_sta0 S21 K203
  obtain ⟨T205, X205, e205, st205⟩ := getS2 X203 hx hZ hown (host := "") (Or.inl (own_w44 hw)) Via.refl e203 c204 (g := (mkF m 150 #[.val (.int p1), .val (.int (p1.toInt8.toInt32)), .unset, .unset, .unset] [(.int (21 : Int32)), (.ref b101), (.ref b101)])) rfl (hb hby at_150)
  obtain ⟨cl206, Ar206, Aq206, As206, An206, Ah206, Ag206⟩ := id V203
  have hin206 : ¬ ((21 : Int32) < 0 ∨ cl206.slots.size ≤ ((21 : Int32)).toNatClampNeg) := inb_of As206 ⟨by decide, by decide⟩
  have c207 := E21.keep K203
  obtain ⟨T208, h208, X208, e208, W208, st208⟩ := stR X205 hx hZ e205 Ar206 (j := (21 : Int32)) hin206 rfl (Sto.ofV Ar206 Aq206 O101 (Ins.self c207)) (g := (mkF m 153 #[.val (.int p1), .val (.int (p1.toInt8.toInt32)), .unset, .unset, .unset] [(.ref s21), (.int (21 : Int32)), (.ref b101), (.ref b101)])) rfl rfl (hb hby at_153)
  have Z208 : n0 ≤ h208.size := Nat.le_trans Z203 (Nat.le_of_eq W208.size.symm)
  have K208 := K203.wr W208 (Or.inr sz_b101)
  have N208 := Fr.snoc X208 N203 g_b101
  have V208 : Arv Z h208 b101 k101 (.object "com/example/don_valley/donvalley/protocol/Frame$Kind") (25 : Int32) [.null, (.ref s1), (.ref s2), (.ref s3), (.ref s4), (.ref s5), (.ref s6), (.ref s7), (.ref s8), (.ref s9), (.ref s10), (.ref s11), (.ref s12), (.ref s13), (.ref s14), (.ref s15), (.ref s16), (.ref s17), (.ref s18), (.ref s19), (.ref s20), (.ref s21), .null, .null, .null] .null := Arv.set Ar206 Aq206 As206 An206 Ah206 Ag206 rfl W208 21 rfl (Nat.le_of_ble_eq_true rfl)
  have c209 := own_sta0 S22 K208
  obtain ⟨T210, X210, e210, st210⟩ := getS2 X208 hx hZ hown (host := "") (Or.inl (own_w46 hw)) Via.refl e208 c209 (g := (mkF m 157 #[.val (.int p1), .val (.int (p1.toInt8.toInt32)), .unset, .unset, .unset] [(.int (22 : Int32)), (.ref b101), (.ref b101)])) rfl (hb hby at_157)
  obtain ⟨cl211, Ar211, Aq211, As211, An211, Ah211, Ag211⟩ := id V208
  have hin211 : ¬ ((22 : Int32) < 0 ∨ cl211.slots.size ≤ ((22 : Int32)).toNatClampNeg) := inb_of As211 ⟨by decide, by decide⟩
  have c212 := E22.keep K208
  obtain ⟨T213, h213, X213, e213, W213, st213⟩ := stR X210 hx hZ e210 Ar211 (j := (22 : Int32)) hin211 rfl (Sto.ofV Ar211 Aq211 O101 (Ins.self c212)) (g := (mkF m 160 #[.val (.int p1), .val (.int (p1.toInt8.toInt32)), .unset, .unset, .unset] [(.ref s22), (.int (22 : Int32)), (.ref b101), (.ref b101)])) rfl rfl (hb hby at_160)
  have Z213 : n0 ≤ h213.size := Nat.le_trans Z208 (Nat.le_of_eq W213.size.symm)
  have K213 := K208.wr W213 (Or.inr sz_b101)
  have N213 := Fr.snoc X213 N208 g_b101
  have V213 : Arv Z h213 b101 k101 (.object "com/example/don_valley/donvalley/protocol/Frame$Kind") (25 : Int32) [.null, (.ref s1), (.ref s2), (.ref s3), (.ref s4), (.ref s5), (.ref s6), (.ref s7), (.ref s8), (.ref s9), (.ref s10), (.ref s11), (.ref s12), (.ref s13), (.ref s14), (.ref s15), (.ref s16), (.ref s17), (.ref s18), (.ref s19), (.ref s20), (.ref s21), (.ref s22), .null, .null] .null := Arv.set Ar211 Aq211 As211 An211 Ah211 Ag211 rfl W213 22 rfl (Nat.le_of_ble_eq_true rfl)
  have c214 := own_sta0 S23 K213
  obtain ⟨T215, X215, e215, st215⟩ := getS2 X213 hx hZ hown (host := "") (Or.inl (own_w48 hw)) Via.refl e213 c214 (g := (mkF m 164 #[.val (.int p1), .val (.int (p1.toInt8.toInt32)), .unset, .unset, .unset] [(.int (23 : Int32)), (.ref b101), (.ref b101)])) rfl (hb hby at_164)
  obtain ⟨cl216, Ar216, Aq216, As216, An216, Ah216, Ag216⟩ := id V213
  have hin216 : ¬ ((23 : Int32) < 0 ∨ cl216.slots.size ≤ ((23 : Int32)).toNatClampNeg) := inb_of As216 ⟨by decide, by decide⟩
  have c217 := E23.keep K213
  obtain ⟨T218, h218, X218, e218, W218, st218⟩ := stR X215 hx hZ e215 Ar216 (j := (23 : Int32)) hin216 rfl (Sto.ofV Ar216 Aq216 O101 (Ins.self c217)) (g := (mkF m 167 #[.val (.int p1), .val (.int (p1.toInt8.toInt32)), .unset, .unset, .unset] [(.ref s23), (.int (23 : Int32)), (.ref b101), (.ref b101)])) rfl rfl (hb hby at_167)
  have Z218 : n0 ≤ h218.size := Nat.le_trans Z213 (Nat.le_of_eq W218.size.symm)
  have K218 := K213.wr W218 (Or.inr sz_b101)
  have N218 := Fr.snoc X218 N213 g_b101
  have V218 : Arv Z h218 b101 k101 (.object "com/example/don_valley/donvalley/protocol/Frame$Kind") (25 : Int32) [.null, (.ref s1), (.ref s2), (.ref s3), (.ref s4), (.ref s5), (.ref s6), (.ref s7), (.ref s8), (.ref s9), (.ref s10), (.ref s11), (.ref s12), (.ref s13), (.ref s14), (.ref s15), (.ref s16), (.ref s17), (.ref s18), (.ref s19), (.ref s20), (.ref s21), (.ref s22), (.ref s23), .null] .null := Arv.set Ar216 Aq216 As216 An216 Ah216 Ag216 rfl W218 23 rfl (Nat.le_of_ble_eq_true rfl)
  have c219 := own_sta0 S24 K218
  obtain ⟨T220, X220, e220, st220⟩ := getS2 X218 hx hZ hown (host := "") (Or.inl (own_w50 hw)) Via.refl e218 c219 (g := (mkF m 171 #[.val (.int p1), .val (.int (p1.toInt8.toInt32)), .unset, .unset, .unset] [(.int (24 : Int32)), (.ref b101), (.ref b101)])) rfl (hb hby at_171)
  obtain ⟨cl221, Ar221, Aq221, As221, An221, Ah221, Ag221⟩ := id V218
  have hin221 : ¬ ((24 : Int32) < 0 ∨ cl221.slots.size ≤ ((24 : Int32)).toNatClampNeg) := inb_of As221 ⟨by decide, by decide⟩
  have c222 := E24.keep K218
  obtain ⟨T223, h223, X223, e223, W223, st223⟩ := stR X220 hx hZ e220 Ar221 (j := (24 : Int32)) hin221 rfl (Sto.ofV Ar221 Aq221 O101 (Ins.self c222)) (g := (mkF m 174 #[.val (.int p1), .val (.int (p1.toInt8.toInt32)), .unset, .unset, .unset] [(.ref s24), (.int (24 : Int32)), (.ref b101), (.ref b101)])) rfl rfl (hb hby at_174)
  have Z223 : n0 ≤ h223.size := Nat.le_trans Z218 (Nat.le_of_eq W223.size.symm)
  have K223 := K218.wr W223 (Or.inr sz_b101)
  have N223 := Fr.snoc X223 N218 g_b101
  have V223 : Arv Z h223 b101 k101 (.object "com/example/don_valley/donvalley/protocol/Frame$Kind") (25 : Int32) [.null, (.ref s1), (.ref s2), (.ref s3), (.ref s4), (.ref s5), (.ref s6), (.ref s7), (.ref s8), (.ref s9), (.ref s10), (.ref s11), (.ref s12), (.ref s13), (.ref s14), (.ref s15), (.ref s16), (.ref s17), (.ref s18), (.ref s19), (.ref s20), (.ref s21), (.ref s22), (.ref s23), (.ref s24)] .null := Arv.set Ar221 Aq221 As221 An221 Ah221 Ag221 rfl W223 24 rfl (Nat.le_of_ble_eq_true rfl)
  have c224 := own_sta0 SK K223
  have c225 := VK.keep K223 nin0
  have c226 := F1.keep K223 nin0
  have c227 := F2.keep K223 nin0
  have c228 := F3.keep K223 nin0
  have c229 := F4.keep K223 nin0
  have c230 := F5.keep K223 nin0
  have c231 := F6.keep K223 nin0
  have c232 := F7.keep K223 nin0
  have c233 := F8.keep K223 nin0
  have c234 := F9.keep K223 nin0
  have c235 := F10.keep K223 nin0
  have c236 := F11.keep K223 nin0
  have c237 := F12.keep K223 nin0
  have c238 := F13.keep K223 nin0
  have c239 := F14.keep K223 nin0
  have c240 := F15.keep K223 nin0
  have c241 := F16.keep K223 nin0
  have c242 := F17.keep K223 nin0
  have c243 := F18.keep K223 nin0
  have c244 := F19.keep K223 nin0
  have c245 := F20.keep K223 nin0
  have c246 := F21.keep K223 nin0
  have c247 := F22.keep K223 nin0
  have c248 := F23.keep K223 nin0
  have c249 := F24.keep K223 nin0
  have pre250 : ∀ t, Steps p.tables e below (T223.setTop (mkF m 176 #[.val (.int p1), .val (.int (p1.toInt8.toInt32)), .val (.ref b101), .unset, .unset] [])) t → Steps p.tables e below (s₁.setTop (entryFrame m #[(.int p1)] maxLocals)) t := fun t kt => pre0 t (by
    show Steps _ _ _ (s₁.setTop (mkF m 0 #[.val (.int p1), .unset, .unset, .unset, .unset] [])) _
    refine XS.iloadN X0.here hx rfl (hb hby at_0) rfl ?_
    refine XS.i2b X0.here hx rfl (hb hby at_1) rfl ?_
    refine XS.istoreN X0.here hx rfl (hb hby at_2) rfl (l' := #[.val (.int p1), .val (.int (p1.toInt8.toInt32)), .unset, .unset, .unset]) rfl ?_
    refine XS.bipush X0.here hx rfl (hb hby at_3) ?_
    show Steps _ _ _ (s₁.setTop (mkF m 5 #[.val (.int p1), .val (.int (p1.toInt8.toInt32)), .unset, .unset, .unset] [(.int (25 : Int32))])) _
    refine st101 _ ?_
    refine XS.dup X101.here hx rfl (hb hby at_8) rfl rfl ?_
    refine XS.iconst X101.here hx rfl (hb hby at_9) ?_
    refine XS.aconstNull X101.here hx rfl (hb hby at_10) ?_
    show Steps _ _ _ (T101.setTop (mkF m 11 #[.val (.int p1), .val (.int (p1.toInt8.toInt32)), .unset, .unset, .unset] [.null, (.int (0 : Int32)), (.ref b101), (.ref b101)])) _
    refine st103 _ ?_
    refine XS.dup X103.here hx rfl (hb hby at_12) rfl rfl ?_
    refine XS.iconst X103.here hx rfl (hb hby at_13) ?_
    refine st105 _ ?_
    show Steps _ _ _ (T105.setTop (mkF m 17 #[.val (.int p1), .val (.int (p1.toInt8.toInt32)), .unset, .unset, .unset] [(.ref s1), (.int (1 : Int32)), (.ref b101), (.ref b101)])) _
    refine st108 _ ?_
    refine XS.dup X108.here hx rfl (hb hby at_18) rfl rfl ?_
    refine XS.iconst X108.here hx rfl (hb hby at_19) ?_
    refine st110 _ ?_
    show Steps _ _ _ (T110.setTop (mkF m 23 #[.val (.int p1), .val (.int (p1.toInt8.toInt32)), .unset, .unset, .unset] [(.ref s2), (.int (2 : Int32)), (.ref b101), (.ref b101)])) _
    refine st113 _ ?_
    refine XS.dup X113.here hx rfl (hb hby at_24) rfl rfl ?_
    refine XS.iconst X113.here hx rfl (hb hby at_25) ?_
    refine st115 _ ?_
    show Steps _ _ _ (T115.setTop (mkF m 29 #[.val (.int p1), .val (.int (p1.toInt8.toInt32)), .unset, .unset, .unset] [(.ref s3), (.int (3 : Int32)), (.ref b101), (.ref b101)])) _
    refine st118 _ ?_
    refine XS.dup X118.here hx rfl (hb hby at_30) rfl rfl ?_
    refine XS.iconst X118.here hx rfl (hb hby at_31) ?_
    refine st120 _ ?_
    show Steps _ _ _ (T120.setTop (mkF m 35 #[.val (.int p1), .val (.int (p1.toInt8.toInt32)), .unset, .unset, .unset] [(.ref s4), (.int (4 : Int32)), (.ref b101), (.ref b101)])) _
    refine st123 _ ?_
    refine XS.dup X123.here hx rfl (hb hby at_36) rfl rfl ?_
    refine XS.iconst X123.here hx rfl (hb hby at_37) ?_
    refine st125 _ ?_
    show Steps _ _ _ (T125.setTop (mkF m 41 #[.val (.int p1), .val (.int (p1.toInt8.toInt32)), .unset, .unset, .unset] [(.ref s5), (.int (5 : Int32)), (.ref b101), (.ref b101)])) _
    refine st128 _ ?_
    refine XS.dup X128.here hx rfl (hb hby at_42) rfl rfl ?_
    refine XS.bipush X128.here hx rfl (hb hby at_43) ?_
    refine st130 _ ?_
    show Steps _ _ _ (T130.setTop (mkF m 48 #[.val (.int p1), .val (.int (p1.toInt8.toInt32)), .unset, .unset, .unset] [(.ref s6), (.int (6 : Int32)), (.ref b101), (.ref b101)])) _
    refine st133 _ ?_
    refine XS.dup X133.here hx rfl (hb hby at_49) rfl rfl ?_
    refine XS.bipush X133.here hx rfl (hb hby at_50) ?_
    refine st135 _ ?_
    show Steps _ _ _ (T135.setTop (mkF m 55 #[.val (.int p1), .val (.int (p1.toInt8.toInt32)), .unset, .unset, .unset] [(.ref s7), (.int (7 : Int32)), (.ref b101), (.ref b101)])) _
    refine st138 _ ?_
    refine XS.dup X138.here hx rfl (hb hby at_56) rfl rfl ?_
    refine XS.bipush X138.here hx rfl (hb hby at_57) ?_
    refine st140 _ ?_
    show Steps _ _ _ (T140.setTop (mkF m 62 #[.val (.int p1), .val (.int (p1.toInt8.toInt32)), .unset, .unset, .unset] [(.ref s8), (.int (8 : Int32)), (.ref b101), (.ref b101)])) _
    refine st143 _ ?_
    refine XS.dup X143.here hx rfl (hb hby at_63) rfl rfl ?_
    refine XS.bipush X143.here hx rfl (hb hby at_64) ?_
    refine st145 _ ?_
    show Steps _ _ _ (T145.setTop (mkF m 69 #[.val (.int p1), .val (.int (p1.toInt8.toInt32)), .unset, .unset, .unset] [(.ref s9), (.int (9 : Int32)), (.ref b101), (.ref b101)])) _
    refine st148 _ ?_
    refine XS.dup X148.here hx rfl (hb hby at_70) rfl rfl ?_
    refine XS.bipush X148.here hx rfl (hb hby at_71) ?_
    refine st150 _ ?_
    show Steps _ _ _ (T150.setTop (mkF m 76 #[.val (.int p1), .val (.int (p1.toInt8.toInt32)), .unset, .unset, .unset] [(.ref s10), (.int (10 : Int32)), (.ref b101), (.ref b101)])) _
    refine st153 _ ?_
    refine XS.dup X153.here hx rfl (hb hby at_77) rfl rfl ?_
    refine XS.bipush X153.here hx rfl (hb hby at_78) ?_
    refine st155 _ ?_
    show Steps _ _ _ (T155.setTop (mkF m 83 #[.val (.int p1), .val (.int (p1.toInt8.toInt32)), .unset, .unset, .unset] [(.ref s11), (.int (11 : Int32)), (.ref b101), (.ref b101)])) _
    refine st158 _ ?_
    refine XS.dup X158.here hx rfl (hb hby at_84) rfl rfl ?_
    refine XS.bipush X158.here hx rfl (hb hby at_85) ?_
    refine st160 _ ?_
    show Steps _ _ _ (T160.setTop (mkF m 90 #[.val (.int p1), .val (.int (p1.toInt8.toInt32)), .unset, .unset, .unset] [(.ref s12), (.int (12 : Int32)), (.ref b101), (.ref b101)])) _
    refine st163 _ ?_
    refine XS.dup X163.here hx rfl (hb hby at_91) rfl rfl ?_
    refine XS.bipush X163.here hx rfl (hb hby at_92) ?_
    refine st165 _ ?_
    show Steps _ _ _ (T165.setTop (mkF m 97 #[.val (.int p1), .val (.int (p1.toInt8.toInt32)), .unset, .unset, .unset] [(.ref s13), (.int (13 : Int32)), (.ref b101), (.ref b101)])) _
    refine st168 _ ?_
    refine XS.dup X168.here hx rfl (hb hby at_98) rfl rfl ?_
    refine XS.bipush X168.here hx rfl (hb hby at_99) ?_
    refine st170 _ ?_
    show Steps _ _ _ (T170.setTop (mkF m 104 #[.val (.int p1), .val (.int (p1.toInt8.toInt32)), .unset, .unset, .unset] [(.ref s14), (.int (14 : Int32)), (.ref b101), (.ref b101)])) _
    refine st173 _ ?_
    refine XS.dup X173.here hx rfl (hb hby at_105) rfl rfl ?_
    refine XS.bipush X173.here hx rfl (hb hby at_106) ?_
    refine st175 _ ?_
    show Steps _ _ _ (T175.setTop (mkF m 111 #[.val (.int p1), .val (.int (p1.toInt8.toInt32)), .unset, .unset, .unset] [(.ref s15), (.int (15 : Int32)), (.ref b101), (.ref b101)])) _
    refine st178 _ ?_
    refine XS.dup X178.here hx rfl (hb hby at_112) rfl rfl ?_
    refine XS.bipush X178.here hx rfl (hb hby at_113) ?_
    refine st180 _ ?_
    show Steps _ _ _ (T180.setTop (mkF m 118 #[.val (.int p1), .val (.int (p1.toInt8.toInt32)), .unset, .unset, .unset] [(.ref s16), (.int (16 : Int32)), (.ref b101), (.ref b101)])) _
    refine st183 _ ?_
    refine XS.dup X183.here hx rfl (hb hby at_119) rfl rfl ?_
    refine XS.bipush X183.here hx rfl (hb hby at_120) ?_
    refine st185 _ ?_
    show Steps _ _ _ (T185.setTop (mkF m 125 #[.val (.int p1), .val (.int (p1.toInt8.toInt32)), .unset, .unset, .unset] [(.ref s17), (.int (17 : Int32)), (.ref b101), (.ref b101)])) _
    refine st188 _ ?_
    refine XS.dup X188.here hx rfl (hb hby at_126) rfl rfl ?_
    refine XS.bipush X188.here hx rfl (hb hby at_127) ?_
    refine st190 _ ?_
    show Steps _ _ _ (T190.setTop (mkF m 132 #[.val (.int p1), .val (.int (p1.toInt8.toInt32)), .unset, .unset, .unset] [(.ref s18), (.int (18 : Int32)), (.ref b101), (.ref b101)])) _
    refine st193 _ ?_
    refine XS.dup X193.here hx rfl (hb hby at_133) rfl rfl ?_
    refine XS.bipush X193.here hx rfl (hb hby at_134) ?_
    refine st195 _ ?_
    show Steps _ _ _ (T195.setTop (mkF m 139 #[.val (.int p1), .val (.int (p1.toInt8.toInt32)), .unset, .unset, .unset] [(.ref s19), (.int (19 : Int32)), (.ref b101), (.ref b101)])) _
    refine st198 _ ?_
    refine XS.dup X198.here hx rfl (hb hby at_140) rfl rfl ?_
    refine XS.bipush X198.here hx rfl (hb hby at_141) ?_
    refine st200 _ ?_
    show Steps _ _ _ (T200.setTop (mkF m 146 #[.val (.int p1), .val (.int (p1.toInt8.toInt32)), .unset, .unset, .unset] [(.ref s20), (.int (20 : Int32)), (.ref b101), (.ref b101)])) _
    refine st203 _ ?_
    refine XS.dup X203.here hx rfl (hb hby at_147) rfl rfl ?_
    refine XS.bipush X203.here hx rfl (hb hby at_148) ?_
    refine st205 _ ?_
    show Steps _ _ _ (T205.setTop (mkF m 153 #[.val (.int p1), .val (.int (p1.toInt8.toInt32)), .unset, .unset, .unset] [(.ref s21), (.int (21 : Int32)), (.ref b101), (.ref b101)])) _
    refine st208 _ ?_
    refine XS.dup X208.here hx rfl (hb hby at_154) rfl rfl ?_
    refine XS.bipush X208.here hx rfl (hb hby at_155) ?_
    refine st210 _ ?_
    show Steps _ _ _ (T210.setTop (mkF m 160 #[.val (.int p1), .val (.int (p1.toInt8.toInt32)), .unset, .unset, .unset] [(.ref s22), (.int (22 : Int32)), (.ref b101), (.ref b101)])) _
    refine st213 _ ?_
    refine XS.dup X213.here hx rfl (hb hby at_161) rfl rfl ?_
    refine XS.bipush X213.here hx rfl (hb hby at_162) ?_
    refine st215 _ ?_
    show Steps _ _ _ (T215.setTop (mkF m 167 #[.val (.int p1), .val (.int (p1.toInt8.toInt32)), .unset, .unset, .unset] [(.ref s23), (.int (23 : Int32)), (.ref b101), (.ref b101)])) _
    refine st218 _ ?_
    refine XS.dup X218.here hx rfl (hb hby at_168) rfl rfl ?_
    refine XS.bipush X218.here hx rfl (hb hby at_169) ?_
    refine st220 _ ?_
    show Steps _ _ _ (T220.setTop (mkF m 174 #[.val (.int p1), .val (.int (p1.toInt8.toInt32)), .unset, .unset, .unset] [(.ref s24), (.int (24 : Int32)), (.ref b101), (.ref b101)])) _
    refine st223 _ ?_
    refine XS.astoreN X223.here hx rfl (hb hby at_175) rfl rfl (l' := #[.val (.int p1), .val (.int (p1.toInt8.toInt32)), .val (.ref b101), .unset, .unset]) rfl ?_
    exact kt)
  rcases own_ways (p1.toInt8.toInt32) with hs251 | hs251 | hs251 | hs251 | hs251 | hs251 | hs251 | hs251 | hs251 | hs251 | hs251 | hs251 | hs251 | hs251 | hs251 | hs251 | hs251 | hs251 | hs251 | hs251 | hs251 | hs251 | hs251 | hs251 | hs251
  · skip
    rw [hs251] at pre250
    obtain ⟨_, _, ⟨T252, L252, k252, n252⟩, -, X252, ⟨Lc252, hQ252, l252, y252, z252⟩, st252⟩ := Jvm.LawKit.callS X223 hx (y := own_m0) hown (mvT hZ (own_w52 hw)) (mvT hZ (own_w53 hw)) (mvT hZ (own_w3 hw)) (mvT hZ (own_w54 hw)) (by decide) (backOf (W := 0) (own_for l Z a0 hw [] (1 : Int32) ka kk s1 s2 s3 s4 s5 s6 s7 s8 s9 s10 s11 s12 s13 s14 s15 s16 s17 s18 s19 s20 s21 s22 s23 s24 h223 n0 Z223 c224 c225 c226 c227 c228 c229 c230 c231 c232 c233 c234 c235 c236 c237 c238 c239 c240 c241 c242 c243 c244 c245 c246 c247 c248 c249) hZ (own_w54 hw) (own_w3 hw) (by decide) (by decide)) (g := (mkF m 177 #[.val (.int p1), .val (.int (1 : Int32)), .val (.ref b101), .unset, .unset] [(.int (1 : Int32))])) rfl (by rw [hml]; rfl) (argsL := [(.int (1 : Int32))]) (rest := []) (lenOf own_pd0 rfl) rfl (by show 2 * 0 + _ ≤ _; exact Nat.le_of_eq rfl) (hb hby at_177) (fun _ _ => ⟨rfl, e223, (by decide : 1 + 0 ≤ _), (by decide : 25 + 0 ≤ _)⟩)
    dsimp only [Pt.U, Pt.locs, Pt.cells, Pt.slots] at X252 l252 y252 z252 st252 hQ252
    rw [l252, y252, z252] at X252
    obtain ⟨hv, N252q, e252⟩ := hQ252
    change _ = some (Value.ref s1) at hv
    subst hv
    have N252 := Fr.app N223 N252q
    obtain ⟨cl253, Ar253, Aq253, As253, An253, Ah253, Ag253⟩ := id V223
    have hin253 : ¬ ((1 : Int32) < 0 ∨ cl253.slots.size ≤ ((1 : Int32)).toNatClampNeg) := inb_of As253 ⟨by decide, by decide⟩
    obtain ⟨fs, hr, hrun, hended, hW, hsame⟩ := X252.leave (v := some (.int (1 : Int32))) (fun h => by rw [Bd.returns] at h; cases h)
    refine ⟨_, _, pre250 _ ?_, hrun, hended, _, _, rfl, ?_, ⟨_, rfl⟩, hW, hsame.mono (by decide) (by decide)⟩
    · show Steps _ _ _ (T223.setTop (mkF m 176 #[.val (.int p1), .val (.int (1 : Int32)), .val (.ref b101), .unset, .unset] [])) _
      refine XS.iloadN X223.here hx rfl (hb hby at_176) rfl ?_
      refine st252 _ ?_
      refine XS.astoreN X252.here hx rfl (hb hby at_180) rfl rfl (l' := #[.val (.int p1), .val (.int (1 : Int32)), .val (.ref b101), .val (.ref s1), .unset]) rfl ?_
      refine XS.iloadN X252.here hx rfl (hb hby at_181) rfl ?_
      show Steps _ _ _ (T252.setTop (mkF m 182 #[.val (.int p1), .val (.int (1 : Int32)), .val (.ref b101), .val (.ref s1), .unset] [(.int (1 : Int32))])) _
      refine XS.istore X252.here hx rfl (hb hby at_182) rfl (l' := #[.val (.int p1), .val (.int (1 : Int32)), .val (.ref b101), .val (.ref s1), .val (.int (1 : Int32))]) rfl ?_
      refine XS.iload X252.here hx rfl (hb hby at_184) rfl ?_
      refine XS.iconst X252.here hx rfl (hb hby at_186) ?_
      refine XS.icmpNo X252.here hx rfl (hb hby at_187) rfl (flt (by decide : ¬ ((1 : Int32) < (1 : Int32)))).1 ?_
      show Steps _ _ _ (T252.setTop (mkF m 190 #[.val (.int p1), .val (.int (1 : Int32)), .val (.ref b101), .val (.ref s1), .val (.int (1 : Int32))] [])) _
      refine XS.iload X252.here hx rfl (hb hby at_190) rfl ?_
      refine XS.bipush X252.here hx rfl (hb hby at_192) ?_
      refine XS.icmpYes X252.here hx rfl (pc0 := 194) (pc' := 207) rfl (hb hby at_194) rfl (flt (by decide : ¬ ((24 : Int32) < (1 : Int32)))).2.2.2 (by decide) (by decide) ?_
      refine XS.aloadN X252.here hx rfl (hb hby at_207) rfl rfl ?_
      show Steps _ _ _ (T252.setTop (mkF m 208 #[.val (.int p1), .val (.int (1 : Int32)), .val (.ref b101), .val (.ref s1), .val (.int (1 : Int32))] [(.ref s1)])) _
      refine XS.aloadN X252.here hx rfl (hb hby at_208) rfl rfl ?_
      refine XS.iload X252.here hx rfl (hb hby at_209) rfl ?_
      refine X252.aaload hx (j := (1 : Int32)) (v := (.ref s1)) (by rw [e252]; exact Ar253.1) (State.isArrayOf_alike hZ.alike Ar253.2.1) rfl Ar253.2.2 hin253 (Ah253.at hin253 rfl) (g := (mkF m 211 #[.val (.int p1), .val (.int (1 : Int32)), .val (.ref b101), .val (.ref s1), .val (.int (1 : Int32))] [(.int (1 : Int32)), (.ref b101), (.ref s1)])) rfl rfl (hb hby at_211) _ ?_
      refine Jvm.RoadKit.acmp (g := (mkF m 212 #[.val (.int p1), .val (.int (1 : Int32)), .val (.ref b101), .val (.ref s1), .val (.int (1 : Int32))] [(.ref s1), (.ref s1)])) X252 hx rfl rfl rfl (pc0 := 212) (pc' := 215) (same := true) rfl (hb hby at_212) rfl (decide_eq_true rfl) (by decide) (by decide) ?_
      show Steps _ _ _ (T252.setTop (mkF m 215 #[.val (.int p1), .val (.int (1 : Int32)), .val (.ref b101), .val (.ref s1), .val (.int (1 : Int32))] [])) _
      refine XS.iconst X252.here hx rfl (hb hby at_215) ?_
      refine XS.goto X252.here hx rfl (pc0 := 216) (pc' := 220) rfl (hb hby at_216) (by decide) (by decide) ?_
      show Steps _ _ _ (T252.setTop (mkF m 220 #[.val (.int p1), .val (.int (1 : Int32)), .val (.ref b101), .val (.ref s1), .val (.int (1 : Int32))] [(.int (1 : Int32))])) _
      exact retN X252 hx (t := .boolean) Bd.returns (by simp) (hb hby at_220) hr
    · show Qown_law Z p1 ka kk s1 s2 s3 s4 s5 s6 s7 s8 s9 s10 s11 s12 s13 s14 s15 s16 s17 s18 s19 s20 s21 s22 s23 s24 h0 n0 _ T252.heap _
      rw [e252]
      exact ⟨rfl, N252⟩
  · skip
    rw [hs251] at pre250
    obtain ⟨_, _, ⟨T254, L254, k254, n254⟩, -, X254, ⟨Lc254, hQ254, l254, y254, z254⟩, st254⟩ := Jvm.LawKit.callS X223 hx (y := own_m0) hown (mvT hZ (own_w52 hw)) (mvT hZ (own_w53 hw)) (mvT hZ (own_w3 hw)) (mvT hZ (own_w54 hw)) (by decide) (backOf (W := 0) (own_for l Z a0 hw [] (2 : Int32) ka kk s1 s2 s3 s4 s5 s6 s7 s8 s9 s10 s11 s12 s13 s14 s15 s16 s17 s18 s19 s20 s21 s22 s23 s24 h223 n0 Z223 c224 c225 c226 c227 c228 c229 c230 c231 c232 c233 c234 c235 c236 c237 c238 c239 c240 c241 c242 c243 c244 c245 c246 c247 c248 c249) hZ (own_w54 hw) (own_w3 hw) (by decide) (by decide)) (g := (mkF m 177 #[.val (.int p1), .val (.int (2 : Int32)), .val (.ref b101), .unset, .unset] [(.int (2 : Int32))])) rfl (by rw [hml]; rfl) (argsL := [(.int (2 : Int32))]) (rest := []) (lenOf own_pd0 rfl) rfl (by show 2 * 0 + _ ≤ _; exact Nat.le_of_eq rfl) (hb hby at_177) (fun _ _ => ⟨rfl, e223, (by decide : 1 + 0 ≤ _), (by decide : 25 + 0 ≤ _)⟩)
    dsimp only [Pt.U, Pt.locs, Pt.cells, Pt.slots] at X254 l254 y254 z254 st254 hQ254
    rw [l254, y254, z254] at X254
    obtain ⟨hv, N254q, e254⟩ := hQ254
    change _ = some (Value.ref s2) at hv
    subst hv
    have N254 := Fr.app N223 N254q
    obtain ⟨cl255, Ar255, Aq255, As255, An255, Ah255, Ag255⟩ := id V223
    have hin255 : ¬ ((2 : Int32) < 0 ∨ cl255.slots.size ≤ ((2 : Int32)).toNatClampNeg) := inb_of As255 ⟨by decide, by decide⟩
    obtain ⟨fs, hr, hrun, hended, hW, hsame⟩ := X254.leave (v := some (.int (1 : Int32))) (fun h => by rw [Bd.returns] at h; cases h)
    refine ⟨_, _, pre250 _ ?_, hrun, hended, _, _, rfl, ?_, ⟨_, rfl⟩, hW, hsame.mono (by decide) (by decide)⟩
    · show Steps _ _ _ (T223.setTop (mkF m 176 #[.val (.int p1), .val (.int (2 : Int32)), .val (.ref b101), .unset, .unset] [])) _
      refine XS.iloadN X223.here hx rfl (hb hby at_176) rfl ?_
      refine st254 _ ?_
      refine XS.astoreN X254.here hx rfl (hb hby at_180) rfl rfl (l' := #[.val (.int p1), .val (.int (2 : Int32)), .val (.ref b101), .val (.ref s2), .unset]) rfl ?_
      refine XS.iloadN X254.here hx rfl (hb hby at_181) rfl ?_
      show Steps _ _ _ (T254.setTop (mkF m 182 #[.val (.int p1), .val (.int (2 : Int32)), .val (.ref b101), .val (.ref s2), .unset] [(.int (2 : Int32))])) _
      refine XS.istore X254.here hx rfl (hb hby at_182) rfl (l' := #[.val (.int p1), .val (.int (2 : Int32)), .val (.ref b101), .val (.ref s2), .val (.int (2 : Int32))]) rfl ?_
      refine XS.iload X254.here hx rfl (hb hby at_184) rfl ?_
      refine XS.iconst X254.here hx rfl (hb hby at_186) ?_
      refine XS.icmpNo X254.here hx rfl (hb hby at_187) rfl (flt (by decide : ¬ ((2 : Int32) < (1 : Int32)))).1 ?_
      show Steps _ _ _ (T254.setTop (mkF m 190 #[.val (.int p1), .val (.int (2 : Int32)), .val (.ref b101), .val (.ref s2), .val (.int (2 : Int32))] [])) _
      refine XS.iload X254.here hx rfl (hb hby at_190) rfl ?_
      refine XS.bipush X254.here hx rfl (hb hby at_192) ?_
      refine XS.icmpYes X254.here hx rfl (pc0 := 194) (pc' := 207) rfl (hb hby at_194) rfl (flt (by decide : ¬ ((24 : Int32) < (2 : Int32)))).2.2.2 (by decide) (by decide) ?_
      refine XS.aloadN X254.here hx rfl (hb hby at_207) rfl rfl ?_
      show Steps _ _ _ (T254.setTop (mkF m 208 #[.val (.int p1), .val (.int (2 : Int32)), .val (.ref b101), .val (.ref s2), .val (.int (2 : Int32))] [(.ref s2)])) _
      refine XS.aloadN X254.here hx rfl (hb hby at_208) rfl rfl ?_
      refine XS.iload X254.here hx rfl (hb hby at_209) rfl ?_
      refine X254.aaload hx (j := (2 : Int32)) (v := (.ref s2)) (by rw [e254]; exact Ar255.1) (State.isArrayOf_alike hZ.alike Ar255.2.1) rfl Ar255.2.2 hin255 (Ah255.at hin255 rfl) (g := (mkF m 211 #[.val (.int p1), .val (.int (2 : Int32)), .val (.ref b101), .val (.ref s2), .val (.int (2 : Int32))] [(.int (2 : Int32)), (.ref b101), (.ref s2)])) rfl rfl (hb hby at_211) _ ?_
      refine Jvm.RoadKit.acmp (g := (mkF m 212 #[.val (.int p1), .val (.int (2 : Int32)), .val (.ref b101), .val (.ref s2), .val (.int (2 : Int32))] [(.ref s2), (.ref s2)])) X254 hx rfl rfl rfl (pc0 := 212) (pc' := 215) (same := true) rfl (hb hby at_212) rfl (decide_eq_true rfl) (by decide) (by decide) ?_
      show Steps _ _ _ (T254.setTop (mkF m 215 #[.val (.int p1), .val (.int (2 : Int32)), .val (.ref b101), .val (.ref s2), .val (.int (2 : Int32))] [])) _
      refine XS.iconst X254.here hx rfl (hb hby at_215) ?_
      refine XS.goto X254.here hx rfl (pc0 := 216) (pc' := 220) rfl (hb hby at_216) (by decide) (by decide) ?_
      show Steps _ _ _ (T254.setTop (mkF m 220 #[.val (.int p1), .val (.int (2 : Int32)), .val (.ref b101), .val (.ref s2), .val (.int (2 : Int32))] [(.int (1 : Int32))])) _
      exact retN X254 hx (t := .boolean) Bd.returns (by simp) (hb hby at_220) hr
    · show Qown_law Z p1 ka kk s1 s2 s3 s4 s5 s6 s7 s8 s9 s10 s11 s12 s13 s14 s15 s16 s17 s18 s19 s20 s21 s22 s23 s24 h0 n0 _ T254.heap _
      rw [e254]
      exact ⟨rfl, N254⟩
  · skip
    rw [hs251] at pre250
    obtain ⟨_, _, ⟨T256, L256, k256, n256⟩, -, X256, ⟨Lc256, hQ256, l256, y256, z256⟩, st256⟩ := Jvm.LawKit.callS X223 hx (y := own_m0) hown (mvT hZ (own_w52 hw)) (mvT hZ (own_w53 hw)) (mvT hZ (own_w3 hw)) (mvT hZ (own_w54 hw)) (by decide) (backOf (W := 0) (own_for l Z a0 hw [] (3 : Int32) ka kk s1 s2 s3 s4 s5 s6 s7 s8 s9 s10 s11 s12 s13 s14 s15 s16 s17 s18 s19 s20 s21 s22 s23 s24 h223 n0 Z223 c224 c225 c226 c227 c228 c229 c230 c231 c232 c233 c234 c235 c236 c237 c238 c239 c240 c241 c242 c243 c244 c245 c246 c247 c248 c249) hZ (own_w54 hw) (own_w3 hw) (by decide) (by decide)) (g := (mkF m 177 #[.val (.int p1), .val (.int (3 : Int32)), .val (.ref b101), .unset, .unset] [(.int (3 : Int32))])) rfl (by rw [hml]; rfl) (argsL := [(.int (3 : Int32))]) (rest := []) (lenOf own_pd0 rfl) rfl (by show 2 * 0 + _ ≤ _; exact Nat.le_of_eq rfl) (hb hby at_177) (fun _ _ => ⟨rfl, e223, (by decide : 1 + 0 ≤ _), (by decide : 25 + 0 ≤ _)⟩)
    dsimp only [Pt.U, Pt.locs, Pt.cells, Pt.slots] at X256 l256 y256 z256 st256 hQ256
    rw [l256, y256, z256] at X256
    obtain ⟨hv, N256q, e256⟩ := hQ256
    change _ = some (Value.ref s3) at hv
    subst hv
    have N256 := Fr.app N223 N256q
    obtain ⟨cl257, Ar257, Aq257, As257, An257, Ah257, Ag257⟩ := id V223
    have hin257 : ¬ ((3 : Int32) < 0 ∨ cl257.slots.size ≤ ((3 : Int32)).toNatClampNeg) := inb_of As257 ⟨by decide, by decide⟩
    obtain ⟨fs, hr, hrun, hended, hW, hsame⟩ := X256.leave (v := some (.int (1 : Int32))) (fun h => by rw [Bd.returns] at h; cases h)
    refine ⟨_, _, pre250 _ ?_, hrun, hended, _, _, rfl, ?_, ⟨_, rfl⟩, hW, hsame.mono (by decide) (by decide)⟩
    · show Steps _ _ _ (T223.setTop (mkF m 176 #[.val (.int p1), .val (.int (3 : Int32)), .val (.ref b101), .unset, .unset] [])) _
      refine XS.iloadN X223.here hx rfl (hb hby at_176) rfl ?_
      refine st256 _ ?_
      refine XS.astoreN X256.here hx rfl (hb hby at_180) rfl rfl (l' := #[.val (.int p1), .val (.int (3 : Int32)), .val (.ref b101), .val (.ref s3), .unset]) rfl ?_
      refine XS.iloadN X256.here hx rfl (hb hby at_181) rfl ?_
      show Steps _ _ _ (T256.setTop (mkF m 182 #[.val (.int p1), .val (.int (3 : Int32)), .val (.ref b101), .val (.ref s3), .unset] [(.int (3 : Int32))])) _
      refine XS.istore X256.here hx rfl (hb hby at_182) rfl (l' := #[.val (.int p1), .val (.int (3 : Int32)), .val (.ref b101), .val (.ref s3), .val (.int (3 : Int32))]) rfl ?_
      refine XS.iload X256.here hx rfl (hb hby at_184) rfl ?_
      refine XS.iconst X256.here hx rfl (hb hby at_186) ?_
      refine XS.icmpNo X256.here hx rfl (hb hby at_187) rfl (flt (by decide : ¬ ((3 : Int32) < (1 : Int32)))).1 ?_
      show Steps _ _ _ (T256.setTop (mkF m 190 #[.val (.int p1), .val (.int (3 : Int32)), .val (.ref b101), .val (.ref s3), .val (.int (3 : Int32))] [])) _
      refine XS.iload X256.here hx rfl (hb hby at_190) rfl ?_
      refine XS.bipush X256.here hx rfl (hb hby at_192) ?_
      refine XS.icmpYes X256.here hx rfl (pc0 := 194) (pc' := 207) rfl (hb hby at_194) rfl (flt (by decide : ¬ ((24 : Int32) < (3 : Int32)))).2.2.2 (by decide) (by decide) ?_
      refine XS.aloadN X256.here hx rfl (hb hby at_207) rfl rfl ?_
      show Steps _ _ _ (T256.setTop (mkF m 208 #[.val (.int p1), .val (.int (3 : Int32)), .val (.ref b101), .val (.ref s3), .val (.int (3 : Int32))] [(.ref s3)])) _
      refine XS.aloadN X256.here hx rfl (hb hby at_208) rfl rfl ?_
      refine XS.iload X256.here hx rfl (hb hby at_209) rfl ?_
      refine X256.aaload hx (j := (3 : Int32)) (v := (.ref s3)) (by rw [e256]; exact Ar257.1) (State.isArrayOf_alike hZ.alike Ar257.2.1) rfl Ar257.2.2 hin257 (Ah257.at hin257 rfl) (g := (mkF m 211 #[.val (.int p1), .val (.int (3 : Int32)), .val (.ref b101), .val (.ref s3), .val (.int (3 : Int32))] [(.int (3 : Int32)), (.ref b101), (.ref s3)])) rfl rfl (hb hby at_211) _ ?_
      refine Jvm.RoadKit.acmp (g := (mkF m 212 #[.val (.int p1), .val (.int (3 : Int32)), .val (.ref b101), .val (.ref s3), .val (.int (3 : Int32))] [(.ref s3), (.ref s3)])) X256 hx rfl rfl rfl (pc0 := 212) (pc' := 215) (same := true) rfl (hb hby at_212) rfl (decide_eq_true rfl) (by decide) (by decide) ?_
      show Steps _ _ _ (T256.setTop (mkF m 215 #[.val (.int p1), .val (.int (3 : Int32)), .val (.ref b101), .val (.ref s3), .val (.int (3 : Int32))] [])) _
      refine XS.iconst X256.here hx rfl (hb hby at_215) ?_
      refine XS.goto X256.here hx rfl (pc0 := 216) (pc' := 220) rfl (hb hby at_216) (by decide) (by decide) ?_
      show Steps _ _ _ (T256.setTop (mkF m 220 #[.val (.int p1), .val (.int (3 : Int32)), .val (.ref b101), .val (.ref s3), .val (.int (3 : Int32))] [(.int (1 : Int32))])) _
      exact retN X256 hx (t := .boolean) Bd.returns (by simp) (hb hby at_220) hr
    · show Qown_law Z p1 ka kk s1 s2 s3 s4 s5 s6 s7 s8 s9 s10 s11 s12 s13 s14 s15 s16 s17 s18 s19 s20 s21 s22 s23 s24 h0 n0 _ T256.heap _
      rw [e256]
      exact ⟨rfl, N256⟩
  · skip
    rw [hs251] at pre250
    obtain ⟨_, _, ⟨T258, L258, k258, n258⟩, -, X258, ⟨Lc258, hQ258, l258, y258, z258⟩, st258⟩ := Jvm.LawKit.callS X223 hx (y := own_m0) hown (mvT hZ (own_w52 hw)) (mvT hZ (own_w53 hw)) (mvT hZ (own_w3 hw)) (mvT hZ (own_w54 hw)) (by decide) (backOf (W := 0) (own_for l Z a0 hw [] (4 : Int32) ka kk s1 s2 s3 s4 s5 s6 s7 s8 s9 s10 s11 s12 s13 s14 s15 s16 s17 s18 s19 s20 s21 s22 s23 s24 h223 n0 Z223 c224 c225 c226 c227 c228 c229 c230 c231 c232 c233 c234 c235 c236 c237 c238 c239 c240 c241 c242 c243 c244 c245 c246 c247 c248 c249) hZ (own_w54 hw) (own_w3 hw) (by decide) (by decide)) (g := (mkF m 177 #[.val (.int p1), .val (.int (4 : Int32)), .val (.ref b101), .unset, .unset] [(.int (4 : Int32))])) rfl (by rw [hml]; rfl) (argsL := [(.int (4 : Int32))]) (rest := []) (lenOf own_pd0 rfl) rfl (by show 2 * 0 + _ ≤ _; exact Nat.le_of_eq rfl) (hb hby at_177) (fun _ _ => ⟨rfl, e223, (by decide : 1 + 0 ≤ _), (by decide : 25 + 0 ≤ _)⟩)
    dsimp only [Pt.U, Pt.locs, Pt.cells, Pt.slots] at X258 l258 y258 z258 st258 hQ258
    rw [l258, y258, z258] at X258
    obtain ⟨hv, N258q, e258⟩ := hQ258
    change _ = some (Value.ref s4) at hv
    subst hv
    have N258 := Fr.app N223 N258q
    obtain ⟨cl259, Ar259, Aq259, As259, An259, Ah259, Ag259⟩ := id V223
    have hin259 : ¬ ((4 : Int32) < 0 ∨ cl259.slots.size ≤ ((4 : Int32)).toNatClampNeg) := inb_of As259 ⟨by decide, by decide⟩
    obtain ⟨fs, hr, hrun, hended, hW, hsame⟩ := X258.leave (v := some (.int (1 : Int32))) (fun h => by rw [Bd.returns] at h; cases h)
    refine ⟨_, _, pre250 _ ?_, hrun, hended, _, _, rfl, ?_, ⟨_, rfl⟩, hW, hsame.mono (by decide) (by decide)⟩
    · show Steps _ _ _ (T223.setTop (mkF m 176 #[.val (.int p1), .val (.int (4 : Int32)), .val (.ref b101), .unset, .unset] [])) _
      refine XS.iloadN X223.here hx rfl (hb hby at_176) rfl ?_
      refine st258 _ ?_
      refine XS.astoreN X258.here hx rfl (hb hby at_180) rfl rfl (l' := #[.val (.int p1), .val (.int (4 : Int32)), .val (.ref b101), .val (.ref s4), .unset]) rfl ?_
      refine XS.iloadN X258.here hx rfl (hb hby at_181) rfl ?_
      show Steps _ _ _ (T258.setTop (mkF m 182 #[.val (.int p1), .val (.int (4 : Int32)), .val (.ref b101), .val (.ref s4), .unset] [(.int (4 : Int32))])) _
      refine XS.istore X258.here hx rfl (hb hby at_182) rfl (l' := #[.val (.int p1), .val (.int (4 : Int32)), .val (.ref b101), .val (.ref s4), .val (.int (4 : Int32))]) rfl ?_
      refine XS.iload X258.here hx rfl (hb hby at_184) rfl ?_
      refine XS.iconst X258.here hx rfl (hb hby at_186) ?_
      refine XS.icmpNo X258.here hx rfl (hb hby at_187) rfl (flt (by decide : ¬ ((4 : Int32) < (1 : Int32)))).1 ?_
      show Steps _ _ _ (T258.setTop (mkF m 190 #[.val (.int p1), .val (.int (4 : Int32)), .val (.ref b101), .val (.ref s4), .val (.int (4 : Int32))] [])) _
      refine XS.iload X258.here hx rfl (hb hby at_190) rfl ?_
      refine XS.bipush X258.here hx rfl (hb hby at_192) ?_
      refine XS.icmpYes X258.here hx rfl (pc0 := 194) (pc' := 207) rfl (hb hby at_194) rfl (flt (by decide : ¬ ((24 : Int32) < (4 : Int32)))).2.2.2 (by decide) (by decide) ?_
      refine XS.aloadN X258.here hx rfl (hb hby at_207) rfl rfl ?_
      show Steps _ _ _ (T258.setTop (mkF m 208 #[.val (.int p1), .val (.int (4 : Int32)), .val (.ref b101), .val (.ref s4), .val (.int (4 : Int32))] [(.ref s4)])) _
      refine XS.aloadN X258.here hx rfl (hb hby at_208) rfl rfl ?_
      refine XS.iload X258.here hx rfl (hb hby at_209) rfl ?_
      refine X258.aaload hx (j := (4 : Int32)) (v := (.ref s4)) (by rw [e258]; exact Ar259.1) (State.isArrayOf_alike hZ.alike Ar259.2.1) rfl Ar259.2.2 hin259 (Ah259.at hin259 rfl) (g := (mkF m 211 #[.val (.int p1), .val (.int (4 : Int32)), .val (.ref b101), .val (.ref s4), .val (.int (4 : Int32))] [(.int (4 : Int32)), (.ref b101), (.ref s4)])) rfl rfl (hb hby at_211) _ ?_
      refine Jvm.RoadKit.acmp (g := (mkF m 212 #[.val (.int p1), .val (.int (4 : Int32)), .val (.ref b101), .val (.ref s4), .val (.int (4 : Int32))] [(.ref s4), (.ref s4)])) X258 hx rfl rfl rfl (pc0 := 212) (pc' := 215) (same := true) rfl (hb hby at_212) rfl (decide_eq_true rfl) (by decide) (by decide) ?_
      show Steps _ _ _ (T258.setTop (mkF m 215 #[.val (.int p1), .val (.int (4 : Int32)), .val (.ref b101), .val (.ref s4), .val (.int (4 : Int32))] [])) _
      refine XS.iconst X258.here hx rfl (hb hby at_215) ?_
      refine XS.goto X258.here hx rfl (pc0 := 216) (pc' := 220) rfl (hb hby at_216) (by decide) (by decide) ?_
      show Steps _ _ _ (T258.setTop (mkF m 220 #[.val (.int p1), .val (.int (4 : Int32)), .val (.ref b101), .val (.ref s4), .val (.int (4 : Int32))] [(.int (1 : Int32))])) _
      exact retN X258 hx (t := .boolean) Bd.returns (by simp) (hb hby at_220) hr
    · show Qown_law Z p1 ka kk s1 s2 s3 s4 s5 s6 s7 s8 s9 s10 s11 s12 s13 s14 s15 s16 s17 s18 s19 s20 s21 s22 s23 s24 h0 n0 _ T258.heap _
      rw [e258]
      exact ⟨rfl, N258⟩
  · skip
    rw [hs251] at pre250
    obtain ⟨_, _, ⟨T260, L260, k260, n260⟩, -, X260, ⟨Lc260, hQ260, l260, y260, z260⟩, st260⟩ := Jvm.LawKit.callS X223 hx (y := own_m0) hown (mvT hZ (own_w52 hw)) (mvT hZ (own_w53 hw)) (mvT hZ (own_w3 hw)) (mvT hZ (own_w54 hw)) (by decide) (backOf (W := 0) (own_for l Z a0 hw [] (5 : Int32) ka kk s1 s2 s3 s4 s5 s6 s7 s8 s9 s10 s11 s12 s13 s14 s15 s16 s17 s18 s19 s20 s21 s22 s23 s24 h223 n0 Z223 c224 c225 c226 c227 c228 c229 c230 c231 c232 c233 c234 c235 c236 c237 c238 c239 c240 c241 c242 c243 c244 c245 c246 c247 c248 c249) hZ (own_w54 hw) (own_w3 hw) (by decide) (by decide)) (g := (mkF m 177 #[.val (.int p1), .val (.int (5 : Int32)), .val (.ref b101), .unset, .unset] [(.int (5 : Int32))])) rfl (by rw [hml]; rfl) (argsL := [(.int (5 : Int32))]) (rest := []) (lenOf own_pd0 rfl) rfl (by show 2 * 0 + _ ≤ _; exact Nat.le_of_eq rfl) (hb hby at_177) (fun _ _ => ⟨rfl, e223, (by decide : 1 + 0 ≤ _), (by decide : 25 + 0 ≤ _)⟩)
    dsimp only [Pt.U, Pt.locs, Pt.cells, Pt.slots] at X260 l260 y260 z260 st260 hQ260
    rw [l260, y260, z260] at X260
    obtain ⟨hv, N260q, e260⟩ := hQ260
    change _ = some (Value.ref s5) at hv
    subst hv
    have N260 := Fr.app N223 N260q
    obtain ⟨cl261, Ar261, Aq261, As261, An261, Ah261, Ag261⟩ := id V223
    have hin261 : ¬ ((5 : Int32) < 0 ∨ cl261.slots.size ≤ ((5 : Int32)).toNatClampNeg) := inb_of As261 ⟨by decide, by decide⟩
    obtain ⟨fs, hr, hrun, hended, hW, hsame⟩ := X260.leave (v := some (.int (1 : Int32))) (fun h => by rw [Bd.returns] at h; cases h)
    refine ⟨_, _, pre250 _ ?_, hrun, hended, _, _, rfl, ?_, ⟨_, rfl⟩, hW, hsame.mono (by decide) (by decide)⟩
    · show Steps _ _ _ (T223.setTop (mkF m 176 #[.val (.int p1), .val (.int (5 : Int32)), .val (.ref b101), .unset, .unset] [])) _
      refine XS.iloadN X223.here hx rfl (hb hby at_176) rfl ?_
      refine st260 _ ?_
      refine XS.astoreN X260.here hx rfl (hb hby at_180) rfl rfl (l' := #[.val (.int p1), .val (.int (5 : Int32)), .val (.ref b101), .val (.ref s5), .unset]) rfl ?_
      refine XS.iloadN X260.here hx rfl (hb hby at_181) rfl ?_
      show Steps _ _ _ (T260.setTop (mkF m 182 #[.val (.int p1), .val (.int (5 : Int32)), .val (.ref b101), .val (.ref s5), .unset] [(.int (5 : Int32))])) _
      refine XS.istore X260.here hx rfl (hb hby at_182) rfl (l' := #[.val (.int p1), .val (.int (5 : Int32)), .val (.ref b101), .val (.ref s5), .val (.int (5 : Int32))]) rfl ?_
      refine XS.iload X260.here hx rfl (hb hby at_184) rfl ?_
      refine XS.iconst X260.here hx rfl (hb hby at_186) ?_
      refine XS.icmpNo X260.here hx rfl (hb hby at_187) rfl (flt (by decide : ¬ ((5 : Int32) < (1 : Int32)))).1 ?_
      show Steps _ _ _ (T260.setTop (mkF m 190 #[.val (.int p1), .val (.int (5 : Int32)), .val (.ref b101), .val (.ref s5), .val (.int (5 : Int32))] [])) _
      refine XS.iload X260.here hx rfl (hb hby at_190) rfl ?_
      refine XS.bipush X260.here hx rfl (hb hby at_192) ?_
      refine XS.icmpYes X260.here hx rfl (pc0 := 194) (pc' := 207) rfl (hb hby at_194) rfl (flt (by decide : ¬ ((24 : Int32) < (5 : Int32)))).2.2.2 (by decide) (by decide) ?_
      refine XS.aloadN X260.here hx rfl (hb hby at_207) rfl rfl ?_
      show Steps _ _ _ (T260.setTop (mkF m 208 #[.val (.int p1), .val (.int (5 : Int32)), .val (.ref b101), .val (.ref s5), .val (.int (5 : Int32))] [(.ref s5)])) _
      refine XS.aloadN X260.here hx rfl (hb hby at_208) rfl rfl ?_
      refine XS.iload X260.here hx rfl (hb hby at_209) rfl ?_
      refine X260.aaload hx (j := (5 : Int32)) (v := (.ref s5)) (by rw [e260]; exact Ar261.1) (State.isArrayOf_alike hZ.alike Ar261.2.1) rfl Ar261.2.2 hin261 (Ah261.at hin261 rfl) (g := (mkF m 211 #[.val (.int p1), .val (.int (5 : Int32)), .val (.ref b101), .val (.ref s5), .val (.int (5 : Int32))] [(.int (5 : Int32)), (.ref b101), (.ref s5)])) rfl rfl (hb hby at_211) _ ?_
      refine Jvm.RoadKit.acmp (g := (mkF m 212 #[.val (.int p1), .val (.int (5 : Int32)), .val (.ref b101), .val (.ref s5), .val (.int (5 : Int32))] [(.ref s5), (.ref s5)])) X260 hx rfl rfl rfl (pc0 := 212) (pc' := 215) (same := true) rfl (hb hby at_212) rfl (decide_eq_true rfl) (by decide) (by decide) ?_
      show Steps _ _ _ (T260.setTop (mkF m 215 #[.val (.int p1), .val (.int (5 : Int32)), .val (.ref b101), .val (.ref s5), .val (.int (5 : Int32))] [])) _
      refine XS.iconst X260.here hx rfl (hb hby at_215) ?_
      refine XS.goto X260.here hx rfl (pc0 := 216) (pc' := 220) rfl (hb hby at_216) (by decide) (by decide) ?_
      show Steps _ _ _ (T260.setTop (mkF m 220 #[.val (.int p1), .val (.int (5 : Int32)), .val (.ref b101), .val (.ref s5), .val (.int (5 : Int32))] [(.int (1 : Int32))])) _
      exact retN X260 hx (t := .boolean) Bd.returns (by simp) (hb hby at_220) hr
    · show Qown_law Z p1 ka kk s1 s2 s3 s4 s5 s6 s7 s8 s9 s10 s11 s12 s13 s14 s15 s16 s17 s18 s19 s20 s21 s22 s23 s24 h0 n0 _ T260.heap _
      rw [e260]
      exact ⟨rfl, N260⟩
  · skip
    rw [hs251] at pre250
    obtain ⟨_, _, ⟨T262, L262, k262, n262⟩, -, X262, ⟨Lc262, hQ262, l262, y262, z262⟩, st262⟩ := Jvm.LawKit.callS X223 hx (y := own_m0) hown (mvT hZ (own_w52 hw)) (mvT hZ (own_w53 hw)) (mvT hZ (own_w3 hw)) (mvT hZ (own_w54 hw)) (by decide) (backOf (W := 0) (own_for l Z a0 hw [] (6 : Int32) ka kk s1 s2 s3 s4 s5 s6 s7 s8 s9 s10 s11 s12 s13 s14 s15 s16 s17 s18 s19 s20 s21 s22 s23 s24 h223 n0 Z223 c224 c225 c226 c227 c228 c229 c230 c231 c232 c233 c234 c235 c236 c237 c238 c239 c240 c241 c242 c243 c244 c245 c246 c247 c248 c249) hZ (own_w54 hw) (own_w3 hw) (by decide) (by decide)) (g := (mkF m 177 #[.val (.int p1), .val (.int (6 : Int32)), .val (.ref b101), .unset, .unset] [(.int (6 : Int32))])) rfl (by rw [hml]; rfl) (argsL := [(.int (6 : Int32))]) (rest := []) (lenOf own_pd0 rfl) rfl (by show 2 * 0 + _ ≤ _; exact Nat.le_of_eq rfl) (hb hby at_177) (fun _ _ => ⟨rfl, e223, (by decide : 1 + 0 ≤ _), (by decide : 25 + 0 ≤ _)⟩)
    dsimp only [Pt.U, Pt.locs, Pt.cells, Pt.slots] at X262 l262 y262 z262 st262 hQ262
    rw [l262, y262, z262] at X262
    obtain ⟨hv, N262q, e262⟩ := hQ262
    change _ = some (Value.ref s6) at hv
    subst hv
    have N262 := Fr.app N223 N262q
    obtain ⟨cl263, Ar263, Aq263, As263, An263, Ah263, Ag263⟩ := id V223
    have hin263 : ¬ ((6 : Int32) < 0 ∨ cl263.slots.size ≤ ((6 : Int32)).toNatClampNeg) := inb_of As263 ⟨by decide, by decide⟩
    obtain ⟨fs, hr, hrun, hended, hW, hsame⟩ := X262.leave (v := some (.int (1 : Int32))) (fun h => by rw [Bd.returns] at h; cases h)
    refine ⟨_, _, pre250 _ ?_, hrun, hended, _, _, rfl, ?_, ⟨_, rfl⟩, hW, hsame.mono (by decide) (by decide)⟩
    · show Steps _ _ _ (T223.setTop (mkF m 176 #[.val (.int p1), .val (.int (6 : Int32)), .val (.ref b101), .unset, .unset] [])) _
      refine XS.iloadN X223.here hx rfl (hb hby at_176) rfl ?_
      refine st262 _ ?_
      refine XS.astoreN X262.here hx rfl (hb hby at_180) rfl rfl (l' := #[.val (.int p1), .val (.int (6 : Int32)), .val (.ref b101), .val (.ref s6), .unset]) rfl ?_
      refine XS.iloadN X262.here hx rfl (hb hby at_181) rfl ?_
      show Steps _ _ _ (T262.setTop (mkF m 182 #[.val (.int p1), .val (.int (6 : Int32)), .val (.ref b101), .val (.ref s6), .unset] [(.int (6 : Int32))])) _
      refine XS.istore X262.here hx rfl (hb hby at_182) rfl (l' := #[.val (.int p1), .val (.int (6 : Int32)), .val (.ref b101), .val (.ref s6), .val (.int (6 : Int32))]) rfl ?_
      refine XS.iload X262.here hx rfl (hb hby at_184) rfl ?_
      refine XS.iconst X262.here hx rfl (hb hby at_186) ?_
      refine XS.icmpNo X262.here hx rfl (hb hby at_187) rfl (flt (by decide : ¬ ((6 : Int32) < (1 : Int32)))).1 ?_
      show Steps _ _ _ (T262.setTop (mkF m 190 #[.val (.int p1), .val (.int (6 : Int32)), .val (.ref b101), .val (.ref s6), .val (.int (6 : Int32))] [])) _
      refine XS.iload X262.here hx rfl (hb hby at_190) rfl ?_
      refine XS.bipush X262.here hx rfl (hb hby at_192) ?_
      refine XS.icmpYes X262.here hx rfl (pc0 := 194) (pc' := 207) rfl (hb hby at_194) rfl (flt (by decide : ¬ ((24 : Int32) < (6 : Int32)))).2.2.2 (by decide) (by decide) ?_
      refine XS.aloadN X262.here hx rfl (hb hby at_207) rfl rfl ?_
      show Steps _ _ _ (T262.setTop (mkF m 208 #[.val (.int p1), .val (.int (6 : Int32)), .val (.ref b101), .val (.ref s6), .val (.int (6 : Int32))] [(.ref s6)])) _
      refine XS.aloadN X262.here hx rfl (hb hby at_208) rfl rfl ?_
      refine XS.iload X262.here hx rfl (hb hby at_209) rfl ?_
      refine X262.aaload hx (j := (6 : Int32)) (v := (.ref s6)) (by rw [e262]; exact Ar263.1) (State.isArrayOf_alike hZ.alike Ar263.2.1) rfl Ar263.2.2 hin263 (Ah263.at hin263 rfl) (g := (mkF m 211 #[.val (.int p1), .val (.int (6 : Int32)), .val (.ref b101), .val (.ref s6), .val (.int (6 : Int32))] [(.int (6 : Int32)), (.ref b101), (.ref s6)])) rfl rfl (hb hby at_211) _ ?_
      refine Jvm.RoadKit.acmp (g := (mkF m 212 #[.val (.int p1), .val (.int (6 : Int32)), .val (.ref b101), .val (.ref s6), .val (.int (6 : Int32))] [(.ref s6), (.ref s6)])) X262 hx rfl rfl rfl (pc0 := 212) (pc' := 215) (same := true) rfl (hb hby at_212) rfl (decide_eq_true rfl) (by decide) (by decide) ?_
      show Steps _ _ _ (T262.setTop (mkF m 215 #[.val (.int p1), .val (.int (6 : Int32)), .val (.ref b101), .val (.ref s6), .val (.int (6 : Int32))] [])) _
      refine XS.iconst X262.here hx rfl (hb hby at_215) ?_
      refine XS.goto X262.here hx rfl (pc0 := 216) (pc' := 220) rfl (hb hby at_216) (by decide) (by decide) ?_
      show Steps _ _ _ (T262.setTop (mkF m 220 #[.val (.int p1), .val (.int (6 : Int32)), .val (.ref b101), .val (.ref s6), .val (.int (6 : Int32))] [(.int (1 : Int32))])) _
      exact retN X262 hx (t := .boolean) Bd.returns (by simp) (hb hby at_220) hr
    · show Qown_law Z p1 ka kk s1 s2 s3 s4 s5 s6 s7 s8 s9 s10 s11 s12 s13 s14 s15 s16 s17 s18 s19 s20 s21 s22 s23 s24 h0 n0 _ T262.heap _
      rw [e262]
      exact ⟨rfl, N262⟩
  · skip
    rw [hs251] at pre250
    obtain ⟨_, _, ⟨T264, L264, k264, n264⟩, -, X264, ⟨Lc264, hQ264, l264, y264, z264⟩, st264⟩ := Jvm.LawKit.callS X223 hx (y := own_m0) hown (mvT hZ (own_w52 hw)) (mvT hZ (own_w53 hw)) (mvT hZ (own_w3 hw)) (mvT hZ (own_w54 hw)) (by decide) (backOf (W := 0) (own_for l Z a0 hw [] (7 : Int32) ka kk s1 s2 s3 s4 s5 s6 s7 s8 s9 s10 s11 s12 s13 s14 s15 s16 s17 s18 s19 s20 s21 s22 s23 s24 h223 n0 Z223 c224 c225 c226 c227 c228 c229 c230 c231 c232 c233 c234 c235 c236 c237 c238 c239 c240 c241 c242 c243 c244 c245 c246 c247 c248 c249) hZ (own_w54 hw) (own_w3 hw) (by decide) (by decide)) (g := (mkF m 177 #[.val (.int p1), .val (.int (7 : Int32)), .val (.ref b101), .unset, .unset] [(.int (7 : Int32))])) rfl (by rw [hml]; rfl) (argsL := [(.int (7 : Int32))]) (rest := []) (lenOf own_pd0 rfl) rfl (by show 2 * 0 + _ ≤ _; exact Nat.le_of_eq rfl) (hb hby at_177) (fun _ _ => ⟨rfl, e223, (by decide : 1 + 0 ≤ _), (by decide : 25 + 0 ≤ _)⟩)
    dsimp only [Pt.U, Pt.locs, Pt.cells, Pt.slots] at X264 l264 y264 z264 st264 hQ264
    rw [l264, y264, z264] at X264
    obtain ⟨hv, N264q, e264⟩ := hQ264
    change _ = some (Value.ref s7) at hv
    subst hv
    have N264 := Fr.app N223 N264q
    obtain ⟨cl265, Ar265, Aq265, As265, An265, Ah265, Ag265⟩ := id V223
    have hin265 : ¬ ((7 : Int32) < 0 ∨ cl265.slots.size ≤ ((7 : Int32)).toNatClampNeg) := inb_of As265 ⟨by decide, by decide⟩
    obtain ⟨fs, hr, hrun, hended, hW, hsame⟩ := X264.leave (v := some (.int (1 : Int32))) (fun h => by rw [Bd.returns] at h; cases h)
    refine ⟨_, _, pre250 _ ?_, hrun, hended, _, _, rfl, ?_, ⟨_, rfl⟩, hW, hsame.mono (by decide) (by decide)⟩
    · show Steps _ _ _ (T223.setTop (mkF m 176 #[.val (.int p1), .val (.int (7 : Int32)), .val (.ref b101), .unset, .unset] [])) _
      refine XS.iloadN X223.here hx rfl (hb hby at_176) rfl ?_
      refine st264 _ ?_
      refine XS.astoreN X264.here hx rfl (hb hby at_180) rfl rfl (l' := #[.val (.int p1), .val (.int (7 : Int32)), .val (.ref b101), .val (.ref s7), .unset]) rfl ?_
      refine XS.iloadN X264.here hx rfl (hb hby at_181) rfl ?_
      show Steps _ _ _ (T264.setTop (mkF m 182 #[.val (.int p1), .val (.int (7 : Int32)), .val (.ref b101), .val (.ref s7), .unset] [(.int (7 : Int32))])) _
      refine XS.istore X264.here hx rfl (hb hby at_182) rfl (l' := #[.val (.int p1), .val (.int (7 : Int32)), .val (.ref b101), .val (.ref s7), .val (.int (7 : Int32))]) rfl ?_
      refine XS.iload X264.here hx rfl (hb hby at_184) rfl ?_
      refine XS.iconst X264.here hx rfl (hb hby at_186) ?_
      refine XS.icmpNo X264.here hx rfl (hb hby at_187) rfl (flt (by decide : ¬ ((7 : Int32) < (1 : Int32)))).1 ?_
      show Steps _ _ _ (T264.setTop (mkF m 190 #[.val (.int p1), .val (.int (7 : Int32)), .val (.ref b101), .val (.ref s7), .val (.int (7 : Int32))] [])) _
      refine XS.iload X264.here hx rfl (hb hby at_190) rfl ?_
      refine XS.bipush X264.here hx rfl (hb hby at_192) ?_
      refine XS.icmpYes X264.here hx rfl (pc0 := 194) (pc' := 207) rfl (hb hby at_194) rfl (flt (by decide : ¬ ((24 : Int32) < (7 : Int32)))).2.2.2 (by decide) (by decide) ?_
      refine XS.aloadN X264.here hx rfl (hb hby at_207) rfl rfl ?_
      show Steps _ _ _ (T264.setTop (mkF m 208 #[.val (.int p1), .val (.int (7 : Int32)), .val (.ref b101), .val (.ref s7), .val (.int (7 : Int32))] [(.ref s7)])) _
      refine XS.aloadN X264.here hx rfl (hb hby at_208) rfl rfl ?_
      refine XS.iload X264.here hx rfl (hb hby at_209) rfl ?_
      refine X264.aaload hx (j := (7 : Int32)) (v := (.ref s7)) (by rw [e264]; exact Ar265.1) (State.isArrayOf_alike hZ.alike Ar265.2.1) rfl Ar265.2.2 hin265 (Ah265.at hin265 rfl) (g := (mkF m 211 #[.val (.int p1), .val (.int (7 : Int32)), .val (.ref b101), .val (.ref s7), .val (.int (7 : Int32))] [(.int (7 : Int32)), (.ref b101), (.ref s7)])) rfl rfl (hb hby at_211) _ ?_
      refine Jvm.RoadKit.acmp (g := (mkF m 212 #[.val (.int p1), .val (.int (7 : Int32)), .val (.ref b101), .val (.ref s7), .val (.int (7 : Int32))] [(.ref s7), (.ref s7)])) X264 hx rfl rfl rfl (pc0 := 212) (pc' := 215) (same := true) rfl (hb hby at_212) rfl (decide_eq_true rfl) (by decide) (by decide) ?_
      show Steps _ _ _ (T264.setTop (mkF m 215 #[.val (.int p1), .val (.int (7 : Int32)), .val (.ref b101), .val (.ref s7), .val (.int (7 : Int32))] [])) _
      refine XS.iconst X264.here hx rfl (hb hby at_215) ?_
      refine XS.goto X264.here hx rfl (pc0 := 216) (pc' := 220) rfl (hb hby at_216) (by decide) (by decide) ?_
      show Steps _ _ _ (T264.setTop (mkF m 220 #[.val (.int p1), .val (.int (7 : Int32)), .val (.ref b101), .val (.ref s7), .val (.int (7 : Int32))] [(.int (1 : Int32))])) _
      exact retN X264 hx (t := .boolean) Bd.returns (by simp) (hb hby at_220) hr
    · show Qown_law Z p1 ka kk s1 s2 s3 s4 s5 s6 s7 s8 s9 s10 s11 s12 s13 s14 s15 s16 s17 s18 s19 s20 s21 s22 s23 s24 h0 n0 _ T264.heap _
      rw [e264]
      exact ⟨rfl, N264⟩
  · skip
    rw [hs251] at pre250
    obtain ⟨_, _, ⟨T266, L266, k266, n266⟩, -, X266, ⟨Lc266, hQ266, l266, y266, z266⟩, st266⟩ := Jvm.LawKit.callS X223 hx (y := own_m0) hown (mvT hZ (own_w52 hw)) (mvT hZ (own_w53 hw)) (mvT hZ (own_w3 hw)) (mvT hZ (own_w54 hw)) (by decide) (backOf (W := 0) (own_for l Z a0 hw [] (8 : Int32) ka kk s1 s2 s3 s4 s5 s6 s7 s8 s9 s10 s11 s12 s13 s14 s15 s16 s17 s18 s19 s20 s21 s22 s23 s24 h223 n0 Z223 c224 c225 c226 c227 c228 c229 c230 c231 c232 c233 c234 c235 c236 c237 c238 c239 c240 c241 c242 c243 c244 c245 c246 c247 c248 c249) hZ (own_w54 hw) (own_w3 hw) (by decide) (by decide)) (g := (mkF m 177 #[.val (.int p1), .val (.int (8 : Int32)), .val (.ref b101), .unset, .unset] [(.int (8 : Int32))])) rfl (by rw [hml]; rfl) (argsL := [(.int (8 : Int32))]) (rest := []) (lenOf own_pd0 rfl) rfl (by show 2 * 0 + _ ≤ _; exact Nat.le_of_eq rfl) (hb hby at_177) (fun _ _ => ⟨rfl, e223, (by decide : 1 + 0 ≤ _), (by decide : 25 + 0 ≤ _)⟩)
    dsimp only [Pt.U, Pt.locs, Pt.cells, Pt.slots] at X266 l266 y266 z266 st266 hQ266
    rw [l266, y266, z266] at X266
    obtain ⟨hv, N266q, e266⟩ := hQ266
    change _ = some (Value.ref s8) at hv
    subst hv
    have N266 := Fr.app N223 N266q
    obtain ⟨cl267, Ar267, Aq267, As267, An267, Ah267, Ag267⟩ := id V223
    have hin267 : ¬ ((8 : Int32) < 0 ∨ cl267.slots.size ≤ ((8 : Int32)).toNatClampNeg) := inb_of As267 ⟨by decide, by decide⟩
    obtain ⟨fs, hr, hrun, hended, hW, hsame⟩ := X266.leave (v := some (.int (1 : Int32))) (fun h => by rw [Bd.returns] at h; cases h)
    refine ⟨_, _, pre250 _ ?_, hrun, hended, _, _, rfl, ?_, ⟨_, rfl⟩, hW, hsame.mono (by decide) (by decide)⟩
    · show Steps _ _ _ (T223.setTop (mkF m 176 #[.val (.int p1), .val (.int (8 : Int32)), .val (.ref b101), .unset, .unset] [])) _
      refine XS.iloadN X223.here hx rfl (hb hby at_176) rfl ?_
      refine st266 _ ?_
      refine XS.astoreN X266.here hx rfl (hb hby at_180) rfl rfl (l' := #[.val (.int p1), .val (.int (8 : Int32)), .val (.ref b101), .val (.ref s8), .unset]) rfl ?_
      refine XS.iloadN X266.here hx rfl (hb hby at_181) rfl ?_
      show Steps _ _ _ (T266.setTop (mkF m 182 #[.val (.int p1), .val (.int (8 : Int32)), .val (.ref b101), .val (.ref s8), .unset] [(.int (8 : Int32))])) _
      refine XS.istore X266.here hx rfl (hb hby at_182) rfl (l' := #[.val (.int p1), .val (.int (8 : Int32)), .val (.ref b101), .val (.ref s8), .val (.int (8 : Int32))]) rfl ?_
      refine XS.iload X266.here hx rfl (hb hby at_184) rfl ?_
      refine XS.iconst X266.here hx rfl (hb hby at_186) ?_
      refine XS.icmpNo X266.here hx rfl (hb hby at_187) rfl (flt (by decide : ¬ ((8 : Int32) < (1 : Int32)))).1 ?_
      show Steps _ _ _ (T266.setTop (mkF m 190 #[.val (.int p1), .val (.int (8 : Int32)), .val (.ref b101), .val (.ref s8), .val (.int (8 : Int32))] [])) _
      refine XS.iload X266.here hx rfl (hb hby at_190) rfl ?_
      refine XS.bipush X266.here hx rfl (hb hby at_192) ?_
      refine XS.icmpYes X266.here hx rfl (pc0 := 194) (pc' := 207) rfl (hb hby at_194) rfl (flt (by decide : ¬ ((24 : Int32) < (8 : Int32)))).2.2.2 (by decide) (by decide) ?_
      refine XS.aloadN X266.here hx rfl (hb hby at_207) rfl rfl ?_
      show Steps _ _ _ (T266.setTop (mkF m 208 #[.val (.int p1), .val (.int (8 : Int32)), .val (.ref b101), .val (.ref s8), .val (.int (8 : Int32))] [(.ref s8)])) _
      refine XS.aloadN X266.here hx rfl (hb hby at_208) rfl rfl ?_
      refine XS.iload X266.here hx rfl (hb hby at_209) rfl ?_
      refine X266.aaload hx (j := (8 : Int32)) (v := (.ref s8)) (by rw [e266]; exact Ar267.1) (State.isArrayOf_alike hZ.alike Ar267.2.1) rfl Ar267.2.2 hin267 (Ah267.at hin267 rfl) (g := (mkF m 211 #[.val (.int p1), .val (.int (8 : Int32)), .val (.ref b101), .val (.ref s8), .val (.int (8 : Int32))] [(.int (8 : Int32)), (.ref b101), (.ref s8)])) rfl rfl (hb hby at_211) _ ?_
      refine Jvm.RoadKit.acmp (g := (mkF m 212 #[.val (.int p1), .val (.int (8 : Int32)), .val (.ref b101), .val (.ref s8), .val (.int (8 : Int32))] [(.ref s8), (.ref s8)])) X266 hx rfl rfl rfl (pc0 := 212) (pc' := 215) (same := true) rfl (hb hby at_212) rfl (decide_eq_true rfl) (by decide) (by decide) ?_
      show Steps _ _ _ (T266.setTop (mkF m 215 #[.val (.int p1), .val (.int (8 : Int32)), .val (.ref b101), .val (.ref s8), .val (.int (8 : Int32))] [])) _
      refine XS.iconst X266.here hx rfl (hb hby at_215) ?_
      refine XS.goto X266.here hx rfl (pc0 := 216) (pc' := 220) rfl (hb hby at_216) (by decide) (by decide) ?_
      show Steps _ _ _ (T266.setTop (mkF m 220 #[.val (.int p1), .val (.int (8 : Int32)), .val (.ref b101), .val (.ref s8), .val (.int (8 : Int32))] [(.int (1 : Int32))])) _
      exact retN X266 hx (t := .boolean) Bd.returns (by simp) (hb hby at_220) hr
    · show Qown_law Z p1 ka kk s1 s2 s3 s4 s5 s6 s7 s8 s9 s10 s11 s12 s13 s14 s15 s16 s17 s18 s19 s20 s21 s22 s23 s24 h0 n0 _ T266.heap _
      rw [e266]
      exact ⟨rfl, N266⟩
  · skip
    rw [hs251] at pre250
    obtain ⟨_, _, ⟨T268, L268, k268, n268⟩, -, X268, ⟨Lc268, hQ268, l268, y268, z268⟩, st268⟩ := Jvm.LawKit.callS X223 hx (y := own_m0) hown (mvT hZ (own_w52 hw)) (mvT hZ (own_w53 hw)) (mvT hZ (own_w3 hw)) (mvT hZ (own_w54 hw)) (by decide) (backOf (W := 0) (own_for l Z a0 hw [] (9 : Int32) ka kk s1 s2 s3 s4 s5 s6 s7 s8 s9 s10 s11 s12 s13 s14 s15 s16 s17 s18 s19 s20 s21 s22 s23 s24 h223 n0 Z223 c224 c225 c226 c227 c228 c229 c230 c231 c232 c233 c234 c235 c236 c237 c238 c239 c240 c241 c242 c243 c244 c245 c246 c247 c248 c249) hZ (own_w54 hw) (own_w3 hw) (by decide) (by decide)) (g := (mkF m 177 #[.val (.int p1), .val (.int (9 : Int32)), .val (.ref b101), .unset, .unset] [(.int (9 : Int32))])) rfl (by rw [hml]; rfl) (argsL := [(.int (9 : Int32))]) (rest := []) (lenOf own_pd0 rfl) rfl (by show 2 * 0 + _ ≤ _; exact Nat.le_of_eq rfl) (hb hby at_177) (fun _ _ => ⟨rfl, e223, (by decide : 1 + 0 ≤ _), (by decide : 25 + 0 ≤ _)⟩)
    dsimp only [Pt.U, Pt.locs, Pt.cells, Pt.slots] at X268 l268 y268 z268 st268 hQ268
    rw [l268, y268, z268] at X268
    obtain ⟨hv, N268q, e268⟩ := hQ268
    change _ = some (Value.ref s9) at hv
    subst hv
    have N268 := Fr.app N223 N268q
    obtain ⟨cl269, Ar269, Aq269, As269, An269, Ah269, Ag269⟩ := id V223
    have hin269 : ¬ ((9 : Int32) < 0 ∨ cl269.slots.size ≤ ((9 : Int32)).toNatClampNeg) := inb_of As269 ⟨by decide, by decide⟩
    obtain ⟨fs, hr, hrun, hended, hW, hsame⟩ := X268.leave (v := some (.int (1 : Int32))) (fun h => by rw [Bd.returns] at h; cases h)
    refine ⟨_, _, pre250 _ ?_, hrun, hended, _, _, rfl, ?_, ⟨_, rfl⟩, hW, hsame.mono (by decide) (by decide)⟩
    · show Steps _ _ _ (T223.setTop (mkF m 176 #[.val (.int p1), .val (.int (9 : Int32)), .val (.ref b101), .unset, .unset] [])) _
      refine XS.iloadN X223.here hx rfl (hb hby at_176) rfl ?_
      refine st268 _ ?_
      refine XS.astoreN X268.here hx rfl (hb hby at_180) rfl rfl (l' := #[.val (.int p1), .val (.int (9 : Int32)), .val (.ref b101), .val (.ref s9), .unset]) rfl ?_
      refine XS.iloadN X268.here hx rfl (hb hby at_181) rfl ?_
      show Steps _ _ _ (T268.setTop (mkF m 182 #[.val (.int p1), .val (.int (9 : Int32)), .val (.ref b101), .val (.ref s9), .unset] [(.int (9 : Int32))])) _
      refine XS.istore X268.here hx rfl (hb hby at_182) rfl (l' := #[.val (.int p1), .val (.int (9 : Int32)), .val (.ref b101), .val (.ref s9), .val (.int (9 : Int32))]) rfl ?_
      refine XS.iload X268.here hx rfl (hb hby at_184) rfl ?_
      refine XS.iconst X268.here hx rfl (hb hby at_186) ?_
      refine XS.icmpNo X268.here hx rfl (hb hby at_187) rfl (flt (by decide : ¬ ((9 : Int32) < (1 : Int32)))).1 ?_
      show Steps _ _ _ (T268.setTop (mkF m 190 #[.val (.int p1), .val (.int (9 : Int32)), .val (.ref b101), .val (.ref s9), .val (.int (9 : Int32))] [])) _
      refine XS.iload X268.here hx rfl (hb hby at_190) rfl ?_
      refine XS.bipush X268.here hx rfl (hb hby at_192) ?_
      refine XS.icmpYes X268.here hx rfl (pc0 := 194) (pc' := 207) rfl (hb hby at_194) rfl (flt (by decide : ¬ ((24 : Int32) < (9 : Int32)))).2.2.2 (by decide) (by decide) ?_
      refine XS.aloadN X268.here hx rfl (hb hby at_207) rfl rfl ?_
      show Steps _ _ _ (T268.setTop (mkF m 208 #[.val (.int p1), .val (.int (9 : Int32)), .val (.ref b101), .val (.ref s9), .val (.int (9 : Int32))] [(.ref s9)])) _
      refine XS.aloadN X268.here hx rfl (hb hby at_208) rfl rfl ?_
      refine XS.iload X268.here hx rfl (hb hby at_209) rfl ?_
      refine X268.aaload hx (j := (9 : Int32)) (v := (.ref s9)) (by rw [e268]; exact Ar269.1) (State.isArrayOf_alike hZ.alike Ar269.2.1) rfl Ar269.2.2 hin269 (Ah269.at hin269 rfl) (g := (mkF m 211 #[.val (.int p1), .val (.int (9 : Int32)), .val (.ref b101), .val (.ref s9), .val (.int (9 : Int32))] [(.int (9 : Int32)), (.ref b101), (.ref s9)])) rfl rfl (hb hby at_211) _ ?_
      refine Jvm.RoadKit.acmp (g := (mkF m 212 #[.val (.int p1), .val (.int (9 : Int32)), .val (.ref b101), .val (.ref s9), .val (.int (9 : Int32))] [(.ref s9), (.ref s9)])) X268 hx rfl rfl rfl (pc0 := 212) (pc' := 215) (same := true) rfl (hb hby at_212) rfl (decide_eq_true rfl) (by decide) (by decide) ?_
      show Steps _ _ _ (T268.setTop (mkF m 215 #[.val (.int p1), .val (.int (9 : Int32)), .val (.ref b101), .val (.ref s9), .val (.int (9 : Int32))] [])) _
      refine XS.iconst X268.here hx rfl (hb hby at_215) ?_
      refine XS.goto X268.here hx rfl (pc0 := 216) (pc' := 220) rfl (hb hby at_216) (by decide) (by decide) ?_
      show Steps _ _ _ (T268.setTop (mkF m 220 #[.val (.int p1), .val (.int (9 : Int32)), .val (.ref b101), .val (.ref s9), .val (.int (9 : Int32))] [(.int (1 : Int32))])) _
      exact retN X268 hx (t := .boolean) Bd.returns (by simp) (hb hby at_220) hr
    · show Qown_law Z p1 ka kk s1 s2 s3 s4 s5 s6 s7 s8 s9 s10 s11 s12 s13 s14 s15 s16 s17 s18 s19 s20 s21 s22 s23 s24 h0 n0 _ T268.heap _
      rw [e268]
      exact ⟨rfl, N268⟩
  · skip
    rw [hs251] at pre250
    obtain ⟨_, _, ⟨T270, L270, k270, n270⟩, -, X270, ⟨Lc270, hQ270, l270, y270, z270⟩, st270⟩ := Jvm.LawKit.callS X223 hx (y := own_m0) hown (mvT hZ (own_w52 hw)) (mvT hZ (own_w53 hw)) (mvT hZ (own_w3 hw)) (mvT hZ (own_w54 hw)) (by decide) (backOf (W := 0) (own_for l Z a0 hw [] (10 : Int32) ka kk s1 s2 s3 s4 s5 s6 s7 s8 s9 s10 s11 s12 s13 s14 s15 s16 s17 s18 s19 s20 s21 s22 s23 s24 h223 n0 Z223 c224 c225 c226 c227 c228 c229 c230 c231 c232 c233 c234 c235 c236 c237 c238 c239 c240 c241 c242 c243 c244 c245 c246 c247 c248 c249) hZ (own_w54 hw) (own_w3 hw) (by decide) (by decide)) (g := (mkF m 177 #[.val (.int p1), .val (.int (10 : Int32)), .val (.ref b101), .unset, .unset] [(.int (10 : Int32))])) rfl (by rw [hml]; rfl) (argsL := [(.int (10 : Int32))]) (rest := []) (lenOf own_pd0 rfl) rfl (by show 2 * 0 + _ ≤ _; exact Nat.le_of_eq rfl) (hb hby at_177) (fun _ _ => ⟨rfl, e223, (by decide : 1 + 0 ≤ _), (by decide : 25 + 0 ≤ _)⟩)
    dsimp only [Pt.U, Pt.locs, Pt.cells, Pt.slots] at X270 l270 y270 z270 st270 hQ270
    rw [l270, y270, z270] at X270
    obtain ⟨hv, N270q, e270⟩ := hQ270
    change _ = some (Value.ref s10) at hv
    subst hv
    have N270 := Fr.app N223 N270q
    obtain ⟨cl271, Ar271, Aq271, As271, An271, Ah271, Ag271⟩ := id V223
    have hin271 : ¬ ((10 : Int32) < 0 ∨ cl271.slots.size ≤ ((10 : Int32)).toNatClampNeg) := inb_of As271 ⟨by decide, by decide⟩
    obtain ⟨fs, hr, hrun, hended, hW, hsame⟩ := X270.leave (v := some (.int (1 : Int32))) (fun h => by rw [Bd.returns] at h; cases h)
    refine ⟨_, _, pre250 _ ?_, hrun, hended, _, _, rfl, ?_, ⟨_, rfl⟩, hW, hsame.mono (by decide) (by decide)⟩
    · show Steps _ _ _ (T223.setTop (mkF m 176 #[.val (.int p1), .val (.int (10 : Int32)), .val (.ref b101), .unset, .unset] [])) _
      refine XS.iloadN X223.here hx rfl (hb hby at_176) rfl ?_
      refine st270 _ ?_
      refine XS.astoreN X270.here hx rfl (hb hby at_180) rfl rfl (l' := #[.val (.int p1), .val (.int (10 : Int32)), .val (.ref b101), .val (.ref s10), .unset]) rfl ?_
      refine XS.iloadN X270.here hx rfl (hb hby at_181) rfl ?_
      show Steps _ _ _ (T270.setTop (mkF m 182 #[.val (.int p1), .val (.int (10 : Int32)), .val (.ref b101), .val (.ref s10), .unset] [(.int (10 : Int32))])) _
      refine XS.istore X270.here hx rfl (hb hby at_182) rfl (l' := #[.val (.int p1), .val (.int (10 : Int32)), .val (.ref b101), .val (.ref s10), .val (.int (10 : Int32))]) rfl ?_
      refine XS.iload X270.here hx rfl (hb hby at_184) rfl ?_
      refine XS.iconst X270.here hx rfl (hb hby at_186) ?_
      refine XS.icmpNo X270.here hx rfl (hb hby at_187) rfl (flt (by decide : ¬ ((10 : Int32) < (1 : Int32)))).1 ?_
      show Steps _ _ _ (T270.setTop (mkF m 190 #[.val (.int p1), .val (.int (10 : Int32)), .val (.ref b101), .val (.ref s10), .val (.int (10 : Int32))] [])) _
      refine XS.iload X270.here hx rfl (hb hby at_190) rfl ?_
      refine XS.bipush X270.here hx rfl (hb hby at_192) ?_
      refine XS.icmpYes X270.here hx rfl (pc0 := 194) (pc' := 207) rfl (hb hby at_194) rfl (flt (by decide : ¬ ((24 : Int32) < (10 : Int32)))).2.2.2 (by decide) (by decide) ?_
      refine XS.aloadN X270.here hx rfl (hb hby at_207) rfl rfl ?_
      show Steps _ _ _ (T270.setTop (mkF m 208 #[.val (.int p1), .val (.int (10 : Int32)), .val (.ref b101), .val (.ref s10), .val (.int (10 : Int32))] [(.ref s10)])) _
      refine XS.aloadN X270.here hx rfl (hb hby at_208) rfl rfl ?_
      refine XS.iload X270.here hx rfl (hb hby at_209) rfl ?_
      refine X270.aaload hx (j := (10 : Int32)) (v := (.ref s10)) (by rw [e270]; exact Ar271.1) (State.isArrayOf_alike hZ.alike Ar271.2.1) rfl Ar271.2.2 hin271 (Ah271.at hin271 rfl) (g := (mkF m 211 #[.val (.int p1), .val (.int (10 : Int32)), .val (.ref b101), .val (.ref s10), .val (.int (10 : Int32))] [(.int (10 : Int32)), (.ref b101), (.ref s10)])) rfl rfl (hb hby at_211) _ ?_
      refine Jvm.RoadKit.acmp (g := (mkF m 212 #[.val (.int p1), .val (.int (10 : Int32)), .val (.ref b101), .val (.ref s10), .val (.int (10 : Int32))] [(.ref s10), (.ref s10)])) X270 hx rfl rfl rfl (pc0 := 212) (pc' := 215) (same := true) rfl (hb hby at_212) rfl (decide_eq_true rfl) (by decide) (by decide) ?_
      show Steps _ _ _ (T270.setTop (mkF m 215 #[.val (.int p1), .val (.int (10 : Int32)), .val (.ref b101), .val (.ref s10), .val (.int (10 : Int32))] [])) _
      refine XS.iconst X270.here hx rfl (hb hby at_215) ?_
      refine XS.goto X270.here hx rfl (pc0 := 216) (pc' := 220) rfl (hb hby at_216) (by decide) (by decide) ?_
      show Steps _ _ _ (T270.setTop (mkF m 220 #[.val (.int p1), .val (.int (10 : Int32)), .val (.ref b101), .val (.ref s10), .val (.int (10 : Int32))] [(.int (1 : Int32))])) _
      exact retN X270 hx (t := .boolean) Bd.returns (by simp) (hb hby at_220) hr
    · show Qown_law Z p1 ka kk s1 s2 s3 s4 s5 s6 s7 s8 s9 s10 s11 s12 s13 s14 s15 s16 s17 s18 s19 s20 s21 s22 s23 s24 h0 n0 _ T270.heap _
      rw [e270]
      exact ⟨rfl, N270⟩
  · skip
    rw [hs251] at pre250
    obtain ⟨_, _, ⟨T272, L272, k272, n272⟩, -, X272, ⟨Lc272, hQ272, l272, y272, z272⟩, st272⟩ := Jvm.LawKit.callS X223 hx (y := own_m0) hown (mvT hZ (own_w52 hw)) (mvT hZ (own_w53 hw)) (mvT hZ (own_w3 hw)) (mvT hZ (own_w54 hw)) (by decide) (backOf (W := 0) (own_for l Z a0 hw [] (11 : Int32) ka kk s1 s2 s3 s4 s5 s6 s7 s8 s9 s10 s11 s12 s13 s14 s15 s16 s17 s18 s19 s20 s21 s22 s23 s24 h223 n0 Z223 c224 c225 c226 c227 c228 c229 c230 c231 c232 c233 c234 c235 c236 c237 c238 c239 c240 c241 c242 c243 c244 c245 c246 c247 c248 c249) hZ (own_w54 hw) (own_w3 hw) (by decide) (by decide)) (g := (mkF m 177 #[.val (.int p1), .val (.int (11 : Int32)), .val (.ref b101), .unset, .unset] [(.int (11 : Int32))])) rfl (by rw [hml]; rfl) (argsL := [(.int (11 : Int32))]) (rest := []) (lenOf own_pd0 rfl) rfl (by show 2 * 0 + _ ≤ _; exact Nat.le_of_eq rfl) (hb hby at_177) (fun _ _ => ⟨rfl, e223, (by decide : 1 + 0 ≤ _), (by decide : 25 + 0 ≤ _)⟩)
    dsimp only [Pt.U, Pt.locs, Pt.cells, Pt.slots] at X272 l272 y272 z272 st272 hQ272
    rw [l272, y272, z272] at X272
    obtain ⟨hv, N272q, e272⟩ := hQ272
    change _ = some (Value.ref s11) at hv
    subst hv
    have N272 := Fr.app N223 N272q
    obtain ⟨cl273, Ar273, Aq273, As273, An273, Ah273, Ag273⟩ := id V223
    have hin273 : ¬ ((11 : Int32) < 0 ∨ cl273.slots.size ≤ ((11 : Int32)).toNatClampNeg) := inb_of As273 ⟨by decide, by decide⟩
    obtain ⟨fs, hr, hrun, hended, hW, hsame⟩ := X272.leave (v := some (.int (1 : Int32))) (fun h => by rw [Bd.returns] at h; cases h)
    refine ⟨_, _, pre250 _ ?_, hrun, hended, _, _, rfl, ?_, ⟨_, rfl⟩, hW, hsame.mono (by decide) (by decide)⟩
    · show Steps _ _ _ (T223.setTop (mkF m 176 #[.val (.int p1), .val (.int (11 : Int32)), .val (.ref b101), .unset, .unset] [])) _
      refine XS.iloadN X223.here hx rfl (hb hby at_176) rfl ?_
      refine st272 _ ?_
      refine XS.astoreN X272.here hx rfl (hb hby at_180) rfl rfl (l' := #[.val (.int p1), .val (.int (11 : Int32)), .val (.ref b101), .val (.ref s11), .unset]) rfl ?_
      refine XS.iloadN X272.here hx rfl (hb hby at_181) rfl ?_
      show Steps _ _ _ (T272.setTop (mkF m 182 #[.val (.int p1), .val (.int (11 : Int32)), .val (.ref b101), .val (.ref s11), .unset] [(.int (11 : Int32))])) _
      refine XS.istore X272.here hx rfl (hb hby at_182) rfl (l' := #[.val (.int p1), .val (.int (11 : Int32)), .val (.ref b101), .val (.ref s11), .val (.int (11 : Int32))]) rfl ?_
      refine XS.iload X272.here hx rfl (hb hby at_184) rfl ?_
      refine XS.iconst X272.here hx rfl (hb hby at_186) ?_
      refine XS.icmpNo X272.here hx rfl (hb hby at_187) rfl (flt (by decide : ¬ ((11 : Int32) < (1 : Int32)))).1 ?_
      show Steps _ _ _ (T272.setTop (mkF m 190 #[.val (.int p1), .val (.int (11 : Int32)), .val (.ref b101), .val (.ref s11), .val (.int (11 : Int32))] [])) _
      refine XS.iload X272.here hx rfl (hb hby at_190) rfl ?_
      refine XS.bipush X272.here hx rfl (hb hby at_192) ?_
      refine XS.icmpYes X272.here hx rfl (pc0 := 194) (pc' := 207) rfl (hb hby at_194) rfl (flt (by decide : ¬ ((24 : Int32) < (11 : Int32)))).2.2.2 (by decide) (by decide) ?_
      refine XS.aloadN X272.here hx rfl (hb hby at_207) rfl rfl ?_
      show Steps _ _ _ (T272.setTop (mkF m 208 #[.val (.int p1), .val (.int (11 : Int32)), .val (.ref b101), .val (.ref s11), .val (.int (11 : Int32))] [(.ref s11)])) _
      refine XS.aloadN X272.here hx rfl (hb hby at_208) rfl rfl ?_
      refine XS.iload X272.here hx rfl (hb hby at_209) rfl ?_
      refine X272.aaload hx (j := (11 : Int32)) (v := (.ref s11)) (by rw [e272]; exact Ar273.1) (State.isArrayOf_alike hZ.alike Ar273.2.1) rfl Ar273.2.2 hin273 (Ah273.at hin273 rfl) (g := (mkF m 211 #[.val (.int p1), .val (.int (11 : Int32)), .val (.ref b101), .val (.ref s11), .val (.int (11 : Int32))] [(.int (11 : Int32)), (.ref b101), (.ref s11)])) rfl rfl (hb hby at_211) _ ?_
      refine Jvm.RoadKit.acmp (g := (mkF m 212 #[.val (.int p1), .val (.int (11 : Int32)), .val (.ref b101), .val (.ref s11), .val (.int (11 : Int32))] [(.ref s11), (.ref s11)])) X272 hx rfl rfl rfl (pc0 := 212) (pc' := 215) (same := true) rfl (hb hby at_212) rfl (decide_eq_true rfl) (by decide) (by decide) ?_
      show Steps _ _ _ (T272.setTop (mkF m 215 #[.val (.int p1), .val (.int (11 : Int32)), .val (.ref b101), .val (.ref s11), .val (.int (11 : Int32))] [])) _
      refine XS.iconst X272.here hx rfl (hb hby at_215) ?_
      refine XS.goto X272.here hx rfl (pc0 := 216) (pc' := 220) rfl (hb hby at_216) (by decide) (by decide) ?_
      show Steps _ _ _ (T272.setTop (mkF m 220 #[.val (.int p1), .val (.int (11 : Int32)), .val (.ref b101), .val (.ref s11), .val (.int (11 : Int32))] [(.int (1 : Int32))])) _
      exact retN X272 hx (t := .boolean) Bd.returns (by simp) (hb hby at_220) hr
    · show Qown_law Z p1 ka kk s1 s2 s3 s4 s5 s6 s7 s8 s9 s10 s11 s12 s13 s14 s15 s16 s17 s18 s19 s20 s21 s22 s23 s24 h0 n0 _ T272.heap _
      rw [e272]
      exact ⟨rfl, N272⟩
  · skip
    rw [hs251] at pre250
    obtain ⟨_, _, ⟨T274, L274, k274, n274⟩, -, X274, ⟨Lc274, hQ274, l274, y274, z274⟩, st274⟩ := Jvm.LawKit.callS X223 hx (y := own_m0) hown (mvT hZ (own_w52 hw)) (mvT hZ (own_w53 hw)) (mvT hZ (own_w3 hw)) (mvT hZ (own_w54 hw)) (by decide) (backOf (W := 0) (own_for l Z a0 hw [] (12 : Int32) ka kk s1 s2 s3 s4 s5 s6 s7 s8 s9 s10 s11 s12 s13 s14 s15 s16 s17 s18 s19 s20 s21 s22 s23 s24 h223 n0 Z223 c224 c225 c226 c227 c228 c229 c230 c231 c232 c233 c234 c235 c236 c237 c238 c239 c240 c241 c242 c243 c244 c245 c246 c247 c248 c249) hZ (own_w54 hw) (own_w3 hw) (by decide) (by decide)) (g := (mkF m 177 #[.val (.int p1), .val (.int (12 : Int32)), .val (.ref b101), .unset, .unset] [(.int (12 : Int32))])) rfl (by rw [hml]; rfl) (argsL := [(.int (12 : Int32))]) (rest := []) (lenOf own_pd0 rfl) rfl (by show 2 * 0 + _ ≤ _; exact Nat.le_of_eq rfl) (hb hby at_177) (fun _ _ => ⟨rfl, e223, (by decide : 1 + 0 ≤ _), (by decide : 25 + 0 ≤ _)⟩)
    dsimp only [Pt.U, Pt.locs, Pt.cells, Pt.slots] at X274 l274 y274 z274 st274 hQ274
    rw [l274, y274, z274] at X274
    obtain ⟨hv, N274q, e274⟩ := hQ274
    change _ = some (Value.ref s12) at hv
    subst hv
    have N274 := Fr.app N223 N274q
    obtain ⟨cl275, Ar275, Aq275, As275, An275, Ah275, Ag275⟩ := id V223
    have hin275 : ¬ ((12 : Int32) < 0 ∨ cl275.slots.size ≤ ((12 : Int32)).toNatClampNeg) := inb_of As275 ⟨by decide, by decide⟩
    obtain ⟨fs, hr, hrun, hended, hW, hsame⟩ := X274.leave (v := some (.int (1 : Int32))) (fun h => by rw [Bd.returns] at h; cases h)
    refine ⟨_, _, pre250 _ ?_, hrun, hended, _, _, rfl, ?_, ⟨_, rfl⟩, hW, hsame.mono (by decide) (by decide)⟩
    · show Steps _ _ _ (T223.setTop (mkF m 176 #[.val (.int p1), .val (.int (12 : Int32)), .val (.ref b101), .unset, .unset] [])) _
      refine XS.iloadN X223.here hx rfl (hb hby at_176) rfl ?_
      refine st274 _ ?_
      refine XS.astoreN X274.here hx rfl (hb hby at_180) rfl rfl (l' := #[.val (.int p1), .val (.int (12 : Int32)), .val (.ref b101), .val (.ref s12), .unset]) rfl ?_
      refine XS.iloadN X274.here hx rfl (hb hby at_181) rfl ?_
      show Steps _ _ _ (T274.setTop (mkF m 182 #[.val (.int p1), .val (.int (12 : Int32)), .val (.ref b101), .val (.ref s12), .unset] [(.int (12 : Int32))])) _
      refine XS.istore X274.here hx rfl (hb hby at_182) rfl (l' := #[.val (.int p1), .val (.int (12 : Int32)), .val (.ref b101), .val (.ref s12), .val (.int (12 : Int32))]) rfl ?_
      refine XS.iload X274.here hx rfl (hb hby at_184) rfl ?_
      refine XS.iconst X274.here hx rfl (hb hby at_186) ?_
      refine XS.icmpNo X274.here hx rfl (hb hby at_187) rfl (flt (by decide : ¬ ((12 : Int32) < (1 : Int32)))).1 ?_
      show Steps _ _ _ (T274.setTop (mkF m 190 #[.val (.int p1), .val (.int (12 : Int32)), .val (.ref b101), .val (.ref s12), .val (.int (12 : Int32))] [])) _
      refine XS.iload X274.here hx rfl (hb hby at_190) rfl ?_
      refine XS.bipush X274.here hx rfl (hb hby at_192) ?_
      refine XS.icmpYes X274.here hx rfl (pc0 := 194) (pc' := 207) rfl (hb hby at_194) rfl (flt (by decide : ¬ ((24 : Int32) < (12 : Int32)))).2.2.2 (by decide) (by decide) ?_
      refine XS.aloadN X274.here hx rfl (hb hby at_207) rfl rfl ?_
      show Steps _ _ _ (T274.setTop (mkF m 208 #[.val (.int p1), .val (.int (12 : Int32)), .val (.ref b101), .val (.ref s12), .val (.int (12 : Int32))] [(.ref s12)])) _
      refine XS.aloadN X274.here hx rfl (hb hby at_208) rfl rfl ?_
      refine XS.iload X274.here hx rfl (hb hby at_209) rfl ?_
      refine X274.aaload hx (j := (12 : Int32)) (v := (.ref s12)) (by rw [e274]; exact Ar275.1) (State.isArrayOf_alike hZ.alike Ar275.2.1) rfl Ar275.2.2 hin275 (Ah275.at hin275 rfl) (g := (mkF m 211 #[.val (.int p1), .val (.int (12 : Int32)), .val (.ref b101), .val (.ref s12), .val (.int (12 : Int32))] [(.int (12 : Int32)), (.ref b101), (.ref s12)])) rfl rfl (hb hby at_211) _ ?_
      refine Jvm.RoadKit.acmp (g := (mkF m 212 #[.val (.int p1), .val (.int (12 : Int32)), .val (.ref b101), .val (.ref s12), .val (.int (12 : Int32))] [(.ref s12), (.ref s12)])) X274 hx rfl rfl rfl (pc0 := 212) (pc' := 215) (same := true) rfl (hb hby at_212) rfl (decide_eq_true rfl) (by decide) (by decide) ?_
      show Steps _ _ _ (T274.setTop (mkF m 215 #[.val (.int p1), .val (.int (12 : Int32)), .val (.ref b101), .val (.ref s12), .val (.int (12 : Int32))] [])) _
      refine XS.iconst X274.here hx rfl (hb hby at_215) ?_
      refine XS.goto X274.here hx rfl (pc0 := 216) (pc' := 220) rfl (hb hby at_216) (by decide) (by decide) ?_
      show Steps _ _ _ (T274.setTop (mkF m 220 #[.val (.int p1), .val (.int (12 : Int32)), .val (.ref b101), .val (.ref s12), .val (.int (12 : Int32))] [(.int (1 : Int32))])) _
      exact retN X274 hx (t := .boolean) Bd.returns (by simp) (hb hby at_220) hr
    · show Qown_law Z p1 ka kk s1 s2 s3 s4 s5 s6 s7 s8 s9 s10 s11 s12 s13 s14 s15 s16 s17 s18 s19 s20 s21 s22 s23 s24 h0 n0 _ T274.heap _
      rw [e274]
      exact ⟨rfl, N274⟩
  · skip
    rw [hs251] at pre250
    obtain ⟨_, _, ⟨T276, L276, k276, n276⟩, -, X276, ⟨Lc276, hQ276, l276, y276, z276⟩, st276⟩ := Jvm.LawKit.callS X223 hx (y := own_m0) hown (mvT hZ (own_w52 hw)) (mvT hZ (own_w53 hw)) (mvT hZ (own_w3 hw)) (mvT hZ (own_w54 hw)) (by decide) (backOf (W := 0) (own_for l Z a0 hw [] (13 : Int32) ka kk s1 s2 s3 s4 s5 s6 s7 s8 s9 s10 s11 s12 s13 s14 s15 s16 s17 s18 s19 s20 s21 s22 s23 s24 h223 n0 Z223 c224 c225 c226 c227 c228 c229 c230 c231 c232 c233 c234 c235 c236 c237 c238 c239 c240 c241 c242 c243 c244 c245 c246 c247 c248 c249) hZ (own_w54 hw) (own_w3 hw) (by decide) (by decide)) (g := (mkF m 177 #[.val (.int p1), .val (.int (13 : Int32)), .val (.ref b101), .unset, .unset] [(.int (13 : Int32))])) rfl (by rw [hml]; rfl) (argsL := [(.int (13 : Int32))]) (rest := []) (lenOf own_pd0 rfl) rfl (by show 2 * 0 + _ ≤ _; exact Nat.le_of_eq rfl) (hb hby at_177) (fun _ _ => ⟨rfl, e223, (by decide : 1 + 0 ≤ _), (by decide : 25 + 0 ≤ _)⟩)
    dsimp only [Pt.U, Pt.locs, Pt.cells, Pt.slots] at X276 l276 y276 z276 st276 hQ276
    rw [l276, y276, z276] at X276
    obtain ⟨hv, N276q, e276⟩ := hQ276
    change _ = some (Value.ref s13) at hv
    subst hv
    have N276 := Fr.app N223 N276q
    obtain ⟨cl277, Ar277, Aq277, As277, An277, Ah277, Ag277⟩ := id V223
    have hin277 : ¬ ((13 : Int32) < 0 ∨ cl277.slots.size ≤ ((13 : Int32)).toNatClampNeg) := inb_of As277 ⟨by decide, by decide⟩
    obtain ⟨fs, hr, hrun, hended, hW, hsame⟩ := X276.leave (v := some (.int (1 : Int32))) (fun h => by rw [Bd.returns] at h; cases h)
    refine ⟨_, _, pre250 _ ?_, hrun, hended, _, _, rfl, ?_, ⟨_, rfl⟩, hW, hsame.mono (by decide) (by decide)⟩
    · show Steps _ _ _ (T223.setTop (mkF m 176 #[.val (.int p1), .val (.int (13 : Int32)), .val (.ref b101), .unset, .unset] [])) _
      refine XS.iloadN X223.here hx rfl (hb hby at_176) rfl ?_
      refine st276 _ ?_
      refine XS.astoreN X276.here hx rfl (hb hby at_180) rfl rfl (l' := #[.val (.int p1), .val (.int (13 : Int32)), .val (.ref b101), .val (.ref s13), .unset]) rfl ?_
      refine XS.iloadN X276.here hx rfl (hb hby at_181) rfl ?_
      show Steps _ _ _ (T276.setTop (mkF m 182 #[.val (.int p1), .val (.int (13 : Int32)), .val (.ref b101), .val (.ref s13), .unset] [(.int (13 : Int32))])) _
      refine XS.istore X276.here hx rfl (hb hby at_182) rfl (l' := #[.val (.int p1), .val (.int (13 : Int32)), .val (.ref b101), .val (.ref s13), .val (.int (13 : Int32))]) rfl ?_
      refine XS.iload X276.here hx rfl (hb hby at_184) rfl ?_
      refine XS.iconst X276.here hx rfl (hb hby at_186) ?_
      refine XS.icmpNo X276.here hx rfl (hb hby at_187) rfl (flt (by decide : ¬ ((13 : Int32) < (1 : Int32)))).1 ?_
      show Steps _ _ _ (T276.setTop (mkF m 190 #[.val (.int p1), .val (.int (13 : Int32)), .val (.ref b101), .val (.ref s13), .val (.int (13 : Int32))] [])) _
      refine XS.iload X276.here hx rfl (hb hby at_190) rfl ?_
      refine XS.bipush X276.here hx rfl (hb hby at_192) ?_
      refine XS.icmpYes X276.here hx rfl (pc0 := 194) (pc' := 207) rfl (hb hby at_194) rfl (flt (by decide : ¬ ((24 : Int32) < (13 : Int32)))).2.2.2 (by decide) (by decide) ?_
      refine XS.aloadN X276.here hx rfl (hb hby at_207) rfl rfl ?_
      show Steps _ _ _ (T276.setTop (mkF m 208 #[.val (.int p1), .val (.int (13 : Int32)), .val (.ref b101), .val (.ref s13), .val (.int (13 : Int32))] [(.ref s13)])) _
      refine XS.aloadN X276.here hx rfl (hb hby at_208) rfl rfl ?_
      refine XS.iload X276.here hx rfl (hb hby at_209) rfl ?_
      refine X276.aaload hx (j := (13 : Int32)) (v := (.ref s13)) (by rw [e276]; exact Ar277.1) (State.isArrayOf_alike hZ.alike Ar277.2.1) rfl Ar277.2.2 hin277 (Ah277.at hin277 rfl) (g := (mkF m 211 #[.val (.int p1), .val (.int (13 : Int32)), .val (.ref b101), .val (.ref s13), .val (.int (13 : Int32))] [(.int (13 : Int32)), (.ref b101), (.ref s13)])) rfl rfl (hb hby at_211) _ ?_
      refine Jvm.RoadKit.acmp (g := (mkF m 212 #[.val (.int p1), .val (.int (13 : Int32)), .val (.ref b101), .val (.ref s13), .val (.int (13 : Int32))] [(.ref s13), (.ref s13)])) X276 hx rfl rfl rfl (pc0 := 212) (pc' := 215) (same := true) rfl (hb hby at_212) rfl (decide_eq_true rfl) (by decide) (by decide) ?_
      show Steps _ _ _ (T276.setTop (mkF m 215 #[.val (.int p1), .val (.int (13 : Int32)), .val (.ref b101), .val (.ref s13), .val (.int (13 : Int32))] [])) _
      refine XS.iconst X276.here hx rfl (hb hby at_215) ?_
      refine XS.goto X276.here hx rfl (pc0 := 216) (pc' := 220) rfl (hb hby at_216) (by decide) (by decide) ?_
      show Steps _ _ _ (T276.setTop (mkF m 220 #[.val (.int p1), .val (.int (13 : Int32)), .val (.ref b101), .val (.ref s13), .val (.int (13 : Int32))] [(.int (1 : Int32))])) _
      exact retN X276 hx (t := .boolean) Bd.returns (by simp) (hb hby at_220) hr
    · show Qown_law Z p1 ka kk s1 s2 s3 s4 s5 s6 s7 s8 s9 s10 s11 s12 s13 s14 s15 s16 s17 s18 s19 s20 s21 s22 s23 s24 h0 n0 _ T276.heap _
      rw [e276]
      exact ⟨rfl, N276⟩
  · skip
    rw [hs251] at pre250
    obtain ⟨_, _, ⟨T278, L278, k278, n278⟩, -, X278, ⟨Lc278, hQ278, l278, y278, z278⟩, st278⟩ := Jvm.LawKit.callS X223 hx (y := own_m0) hown (mvT hZ (own_w52 hw)) (mvT hZ (own_w53 hw)) (mvT hZ (own_w3 hw)) (mvT hZ (own_w54 hw)) (by decide) (backOf (W := 0) (own_for l Z a0 hw [] (14 : Int32) ka kk s1 s2 s3 s4 s5 s6 s7 s8 s9 s10 s11 s12 s13 s14 s15 s16 s17 s18 s19 s20 s21 s22 s23 s24 h223 n0 Z223 c224 c225 c226 c227 c228 c229 c230 c231 c232 c233 c234 c235 c236 c237 c238 c239 c240 c241 c242 c243 c244 c245 c246 c247 c248 c249) hZ (own_w54 hw) (own_w3 hw) (by decide) (by decide)) (g := (mkF m 177 #[.val (.int p1), .val (.int (14 : Int32)), .val (.ref b101), .unset, .unset] [(.int (14 : Int32))])) rfl (by rw [hml]; rfl) (argsL := [(.int (14 : Int32))]) (rest := []) (lenOf own_pd0 rfl) rfl (by show 2 * 0 + _ ≤ _; exact Nat.le_of_eq rfl) (hb hby at_177) (fun _ _ => ⟨rfl, e223, (by decide : 1 + 0 ≤ _), (by decide : 25 + 0 ≤ _)⟩)
    dsimp only [Pt.U, Pt.locs, Pt.cells, Pt.slots] at X278 l278 y278 z278 st278 hQ278
    rw [l278, y278, z278] at X278
    obtain ⟨hv, N278q, e278⟩ := hQ278
    change _ = some (Value.ref s14) at hv
    subst hv
    have N278 := Fr.app N223 N278q
    obtain ⟨cl279, Ar279, Aq279, As279, An279, Ah279, Ag279⟩ := id V223
    have hin279 : ¬ ((14 : Int32) < 0 ∨ cl279.slots.size ≤ ((14 : Int32)).toNatClampNeg) := inb_of As279 ⟨by decide, by decide⟩
    obtain ⟨fs, hr, hrun, hended, hW, hsame⟩ := X278.leave (v := some (.int (1 : Int32))) (fun h => by rw [Bd.returns] at h; cases h)
    refine ⟨_, _, pre250 _ ?_, hrun, hended, _, _, rfl, ?_, ⟨_, rfl⟩, hW, hsame.mono (by decide) (by decide)⟩
    · show Steps _ _ _ (T223.setTop (mkF m 176 #[.val (.int p1), .val (.int (14 : Int32)), .val (.ref b101), .unset, .unset] [])) _
      refine XS.iloadN X223.here hx rfl (hb hby at_176) rfl ?_
      refine st278 _ ?_
      refine XS.astoreN X278.here hx rfl (hb hby at_180) rfl rfl (l' := #[.val (.int p1), .val (.int (14 : Int32)), .val (.ref b101), .val (.ref s14), .unset]) rfl ?_
      refine XS.iloadN X278.here hx rfl (hb hby at_181) rfl ?_
      show Steps _ _ _ (T278.setTop (mkF m 182 #[.val (.int p1), .val (.int (14 : Int32)), .val (.ref b101), .val (.ref s14), .unset] [(.int (14 : Int32))])) _
      refine XS.istore X278.here hx rfl (hb hby at_182) rfl (l' := #[.val (.int p1), .val (.int (14 : Int32)), .val (.ref b101), .val (.ref s14), .val (.int (14 : Int32))]) rfl ?_
      refine XS.iload X278.here hx rfl (hb hby at_184) rfl ?_
      refine XS.iconst X278.here hx rfl (hb hby at_186) ?_
      refine XS.icmpNo X278.here hx rfl (hb hby at_187) rfl (flt (by decide : ¬ ((14 : Int32) < (1 : Int32)))).1 ?_
      show Steps _ _ _ (T278.setTop (mkF m 190 #[.val (.int p1), .val (.int (14 : Int32)), .val (.ref b101), .val (.ref s14), .val (.int (14 : Int32))] [])) _
      refine XS.iload X278.here hx rfl (hb hby at_190) rfl ?_
      refine XS.bipush X278.here hx rfl (hb hby at_192) ?_
      refine XS.icmpYes X278.here hx rfl (pc0 := 194) (pc' := 207) rfl (hb hby at_194) rfl (flt (by decide : ¬ ((24 : Int32) < (14 : Int32)))).2.2.2 (by decide) (by decide) ?_
      refine XS.aloadN X278.here hx rfl (hb hby at_207) rfl rfl ?_
      show Steps _ _ _ (T278.setTop (mkF m 208 #[.val (.int p1), .val (.int (14 : Int32)), .val (.ref b101), .val (.ref s14), .val (.int (14 : Int32))] [(.ref s14)])) _
      refine XS.aloadN X278.here hx rfl (hb hby at_208) rfl rfl ?_
      refine XS.iload X278.here hx rfl (hb hby at_209) rfl ?_
      refine X278.aaload hx (j := (14 : Int32)) (v := (.ref s14)) (by rw [e278]; exact Ar279.1) (State.isArrayOf_alike hZ.alike Ar279.2.1) rfl Ar279.2.2 hin279 (Ah279.at hin279 rfl) (g := (mkF m 211 #[.val (.int p1), .val (.int (14 : Int32)), .val (.ref b101), .val (.ref s14), .val (.int (14 : Int32))] [(.int (14 : Int32)), (.ref b101), (.ref s14)])) rfl rfl (hb hby at_211) _ ?_
      refine Jvm.RoadKit.acmp (g := (mkF m 212 #[.val (.int p1), .val (.int (14 : Int32)), .val (.ref b101), .val (.ref s14), .val (.int (14 : Int32))] [(.ref s14), (.ref s14)])) X278 hx rfl rfl rfl (pc0 := 212) (pc' := 215) (same := true) rfl (hb hby at_212) rfl (decide_eq_true rfl) (by decide) (by decide) ?_
      show Steps _ _ _ (T278.setTop (mkF m 215 #[.val (.int p1), .val (.int (14 : Int32)), .val (.ref b101), .val (.ref s14), .val (.int (14 : Int32))] [])) _
      refine XS.iconst X278.here hx rfl (hb hby at_215) ?_
      refine XS.goto X278.here hx rfl (pc0 := 216) (pc' := 220) rfl (hb hby at_216) (by decide) (by decide) ?_
      show Steps _ _ _ (T278.setTop (mkF m 220 #[.val (.int p1), .val (.int (14 : Int32)), .val (.ref b101), .val (.ref s14), .val (.int (14 : Int32))] [(.int (1 : Int32))])) _
      exact retN X278 hx (t := .boolean) Bd.returns (by simp) (hb hby at_220) hr
    · show Qown_law Z p1 ka kk s1 s2 s3 s4 s5 s6 s7 s8 s9 s10 s11 s12 s13 s14 s15 s16 s17 s18 s19 s20 s21 s22 s23 s24 h0 n0 _ T278.heap _
      rw [e278]
      exact ⟨rfl, N278⟩
  · skip
    rw [hs251] at pre250
    obtain ⟨_, _, ⟨T280, L280, k280, n280⟩, -, X280, ⟨Lc280, hQ280, l280, y280, z280⟩, st280⟩ := Jvm.LawKit.callS X223 hx (y := own_m0) hown (mvT hZ (own_w52 hw)) (mvT hZ (own_w53 hw)) (mvT hZ (own_w3 hw)) (mvT hZ (own_w54 hw)) (by decide) (backOf (W := 0) (own_for l Z a0 hw [] (15 : Int32) ka kk s1 s2 s3 s4 s5 s6 s7 s8 s9 s10 s11 s12 s13 s14 s15 s16 s17 s18 s19 s20 s21 s22 s23 s24 h223 n0 Z223 c224 c225 c226 c227 c228 c229 c230 c231 c232 c233 c234 c235 c236 c237 c238 c239 c240 c241 c242 c243 c244 c245 c246 c247 c248 c249) hZ (own_w54 hw) (own_w3 hw) (by decide) (by decide)) (g := (mkF m 177 #[.val (.int p1), .val (.int (15 : Int32)), .val (.ref b101), .unset, .unset] [(.int (15 : Int32))])) rfl (by rw [hml]; rfl) (argsL := [(.int (15 : Int32))]) (rest := []) (lenOf own_pd0 rfl) rfl (by show 2 * 0 + _ ≤ _; exact Nat.le_of_eq rfl) (hb hby at_177) (fun _ _ => ⟨rfl, e223, (by decide : 1 + 0 ≤ _), (by decide : 25 + 0 ≤ _)⟩)
    dsimp only [Pt.U, Pt.locs, Pt.cells, Pt.slots] at X280 l280 y280 z280 st280 hQ280
    rw [l280, y280, z280] at X280
    obtain ⟨hv, N280q, e280⟩ := hQ280
    change _ = some (Value.ref s15) at hv
    subst hv
    have N280 := Fr.app N223 N280q
    obtain ⟨cl281, Ar281, Aq281, As281, An281, Ah281, Ag281⟩ := id V223
    have hin281 : ¬ ((15 : Int32) < 0 ∨ cl281.slots.size ≤ ((15 : Int32)).toNatClampNeg) := inb_of As281 ⟨by decide, by decide⟩
    obtain ⟨fs, hr, hrun, hended, hW, hsame⟩ := X280.leave (v := some (.int (1 : Int32))) (fun h => by rw [Bd.returns] at h; cases h)
    refine ⟨_, _, pre250 _ ?_, hrun, hended, _, _, rfl, ?_, ⟨_, rfl⟩, hW, hsame.mono (by decide) (by decide)⟩
    · show Steps _ _ _ (T223.setTop (mkF m 176 #[.val (.int p1), .val (.int (15 : Int32)), .val (.ref b101), .unset, .unset] [])) _
      refine XS.iloadN X223.here hx rfl (hb hby at_176) rfl ?_
      refine st280 _ ?_
      refine XS.astoreN X280.here hx rfl (hb hby at_180) rfl rfl (l' := #[.val (.int p1), .val (.int (15 : Int32)), .val (.ref b101), .val (.ref s15), .unset]) rfl ?_
      refine XS.iloadN X280.here hx rfl (hb hby at_181) rfl ?_
      show Steps _ _ _ (T280.setTop (mkF m 182 #[.val (.int p1), .val (.int (15 : Int32)), .val (.ref b101), .val (.ref s15), .unset] [(.int (15 : Int32))])) _
      refine XS.istore X280.here hx rfl (hb hby at_182) rfl (l' := #[.val (.int p1), .val (.int (15 : Int32)), .val (.ref b101), .val (.ref s15), .val (.int (15 : Int32))]) rfl ?_
      refine XS.iload X280.here hx rfl (hb hby at_184) rfl ?_
      refine XS.iconst X280.here hx rfl (hb hby at_186) ?_
      refine XS.icmpNo X280.here hx rfl (hb hby at_187) rfl (flt (by decide : ¬ ((15 : Int32) < (1 : Int32)))).1 ?_
      show Steps _ _ _ (T280.setTop (mkF m 190 #[.val (.int p1), .val (.int (15 : Int32)), .val (.ref b101), .val (.ref s15), .val (.int (15 : Int32))] [])) _
      refine XS.iload X280.here hx rfl (hb hby at_190) rfl ?_
      refine XS.bipush X280.here hx rfl (hb hby at_192) ?_
      refine XS.icmpYes X280.here hx rfl (pc0 := 194) (pc' := 207) rfl (hb hby at_194) rfl (flt (by decide : ¬ ((24 : Int32) < (15 : Int32)))).2.2.2 (by decide) (by decide) ?_
      refine XS.aloadN X280.here hx rfl (hb hby at_207) rfl rfl ?_
      show Steps _ _ _ (T280.setTop (mkF m 208 #[.val (.int p1), .val (.int (15 : Int32)), .val (.ref b101), .val (.ref s15), .val (.int (15 : Int32))] [(.ref s15)])) _
      refine XS.aloadN X280.here hx rfl (hb hby at_208) rfl rfl ?_
      refine XS.iload X280.here hx rfl (hb hby at_209) rfl ?_
      refine X280.aaload hx (j := (15 : Int32)) (v := (.ref s15)) (by rw [e280]; exact Ar281.1) (State.isArrayOf_alike hZ.alike Ar281.2.1) rfl Ar281.2.2 hin281 (Ah281.at hin281 rfl) (g := (mkF m 211 #[.val (.int p1), .val (.int (15 : Int32)), .val (.ref b101), .val (.ref s15), .val (.int (15 : Int32))] [(.int (15 : Int32)), (.ref b101), (.ref s15)])) rfl rfl (hb hby at_211) _ ?_
      refine Jvm.RoadKit.acmp (g := (mkF m 212 #[.val (.int p1), .val (.int (15 : Int32)), .val (.ref b101), .val (.ref s15), .val (.int (15 : Int32))] [(.ref s15), (.ref s15)])) X280 hx rfl rfl rfl (pc0 := 212) (pc' := 215) (same := true) rfl (hb hby at_212) rfl (decide_eq_true rfl) (by decide) (by decide) ?_
      show Steps _ _ _ (T280.setTop (mkF m 215 #[.val (.int p1), .val (.int (15 : Int32)), .val (.ref b101), .val (.ref s15), .val (.int (15 : Int32))] [])) _
      refine XS.iconst X280.here hx rfl (hb hby at_215) ?_
      refine XS.goto X280.here hx rfl (pc0 := 216) (pc' := 220) rfl (hb hby at_216) (by decide) (by decide) ?_
      show Steps _ _ _ (T280.setTop (mkF m 220 #[.val (.int p1), .val (.int (15 : Int32)), .val (.ref b101), .val (.ref s15), .val (.int (15 : Int32))] [(.int (1 : Int32))])) _
      exact retN X280 hx (t := .boolean) Bd.returns (by simp) (hb hby at_220) hr
    · show Qown_law Z p1 ka kk s1 s2 s3 s4 s5 s6 s7 s8 s9 s10 s11 s12 s13 s14 s15 s16 s17 s18 s19 s20 s21 s22 s23 s24 h0 n0 _ T280.heap _
      rw [e280]
      exact ⟨rfl, N280⟩
  · skip
    rw [hs251] at pre250
    obtain ⟨_, _, ⟨T282, L282, k282, n282⟩, -, X282, ⟨Lc282, hQ282, l282, y282, z282⟩, st282⟩ := Jvm.LawKit.callS X223 hx (y := own_m0) hown (mvT hZ (own_w52 hw)) (mvT hZ (own_w53 hw)) (mvT hZ (own_w3 hw)) (mvT hZ (own_w54 hw)) (by decide) (backOf (W := 0) (own_for l Z a0 hw [] (16 : Int32) ka kk s1 s2 s3 s4 s5 s6 s7 s8 s9 s10 s11 s12 s13 s14 s15 s16 s17 s18 s19 s20 s21 s22 s23 s24 h223 n0 Z223 c224 c225 c226 c227 c228 c229 c230 c231 c232 c233 c234 c235 c236 c237 c238 c239 c240 c241 c242 c243 c244 c245 c246 c247 c248 c249) hZ (own_w54 hw) (own_w3 hw) (by decide) (by decide)) (g := (mkF m 177 #[.val (.int p1), .val (.int (16 : Int32)), .val (.ref b101), .unset, .unset] [(.int (16 : Int32))])) rfl (by rw [hml]; rfl) (argsL := [(.int (16 : Int32))]) (rest := []) (lenOf own_pd0 rfl) rfl (by show 2 * 0 + _ ≤ _; exact Nat.le_of_eq rfl) (hb hby at_177) (fun _ _ => ⟨rfl, e223, (by decide : 1 + 0 ≤ _), (by decide : 25 + 0 ≤ _)⟩)
    dsimp only [Pt.U, Pt.locs, Pt.cells, Pt.slots] at X282 l282 y282 z282 st282 hQ282
    rw [l282, y282, z282] at X282
    obtain ⟨hv, N282q, e282⟩ := hQ282
    change _ = some (Value.ref s16) at hv
    subst hv
    have N282 := Fr.app N223 N282q
    obtain ⟨cl283, Ar283, Aq283, As283, An283, Ah283, Ag283⟩ := id V223
    have hin283 : ¬ ((16 : Int32) < 0 ∨ cl283.slots.size ≤ ((16 : Int32)).toNatClampNeg) := inb_of As283 ⟨by decide, by decide⟩
    obtain ⟨fs, hr, hrun, hended, hW, hsame⟩ := X282.leave (v := some (.int (1 : Int32))) (fun h => by rw [Bd.returns] at h; cases h)
    refine ⟨_, _, pre250 _ ?_, hrun, hended, _, _, rfl, ?_, ⟨_, rfl⟩, hW, hsame.mono (by decide) (by decide)⟩
    · show Steps _ _ _ (T223.setTop (mkF m 176 #[.val (.int p1), .val (.int (16 : Int32)), .val (.ref b101), .unset, .unset] [])) _
      refine XS.iloadN X223.here hx rfl (hb hby at_176) rfl ?_
      refine st282 _ ?_
      refine XS.astoreN X282.here hx rfl (hb hby at_180) rfl rfl (l' := #[.val (.int p1), .val (.int (16 : Int32)), .val (.ref b101), .val (.ref s16), .unset]) rfl ?_
      refine XS.iloadN X282.here hx rfl (hb hby at_181) rfl ?_
      show Steps _ _ _ (T282.setTop (mkF m 182 #[.val (.int p1), .val (.int (16 : Int32)), .val (.ref b101), .val (.ref s16), .unset] [(.int (16 : Int32))])) _
      refine XS.istore X282.here hx rfl (hb hby at_182) rfl (l' := #[.val (.int p1), .val (.int (16 : Int32)), .val (.ref b101), .val (.ref s16), .val (.int (16 : Int32))]) rfl ?_
      refine XS.iload X282.here hx rfl (hb hby at_184) rfl ?_
      refine XS.iconst X282.here hx rfl (hb hby at_186) ?_
      refine XS.icmpNo X282.here hx rfl (hb hby at_187) rfl (flt (by decide : ¬ ((16 : Int32) < (1 : Int32)))).1 ?_
      show Steps _ _ _ (T282.setTop (mkF m 190 #[.val (.int p1), .val (.int (16 : Int32)), .val (.ref b101), .val (.ref s16), .val (.int (16 : Int32))] [])) _
      refine XS.iload X282.here hx rfl (hb hby at_190) rfl ?_
      refine XS.bipush X282.here hx rfl (hb hby at_192) ?_
      refine XS.icmpYes X282.here hx rfl (pc0 := 194) (pc' := 207) rfl (hb hby at_194) rfl (flt (by decide : ¬ ((24 : Int32) < (16 : Int32)))).2.2.2 (by decide) (by decide) ?_
      refine XS.aloadN X282.here hx rfl (hb hby at_207) rfl rfl ?_
      show Steps _ _ _ (T282.setTop (mkF m 208 #[.val (.int p1), .val (.int (16 : Int32)), .val (.ref b101), .val (.ref s16), .val (.int (16 : Int32))] [(.ref s16)])) _
      refine XS.aloadN X282.here hx rfl (hb hby at_208) rfl rfl ?_
      refine XS.iload X282.here hx rfl (hb hby at_209) rfl ?_
      refine X282.aaload hx (j := (16 : Int32)) (v := (.ref s16)) (by rw [e282]; exact Ar283.1) (State.isArrayOf_alike hZ.alike Ar283.2.1) rfl Ar283.2.2 hin283 (Ah283.at hin283 rfl) (g := (mkF m 211 #[.val (.int p1), .val (.int (16 : Int32)), .val (.ref b101), .val (.ref s16), .val (.int (16 : Int32))] [(.int (16 : Int32)), (.ref b101), (.ref s16)])) rfl rfl (hb hby at_211) _ ?_
      refine Jvm.RoadKit.acmp (g := (mkF m 212 #[.val (.int p1), .val (.int (16 : Int32)), .val (.ref b101), .val (.ref s16), .val (.int (16 : Int32))] [(.ref s16), (.ref s16)])) X282 hx rfl rfl rfl (pc0 := 212) (pc' := 215) (same := true) rfl (hb hby at_212) rfl (decide_eq_true rfl) (by decide) (by decide) ?_
      show Steps _ _ _ (T282.setTop (mkF m 215 #[.val (.int p1), .val (.int (16 : Int32)), .val (.ref b101), .val (.ref s16), .val (.int (16 : Int32))] [])) _
      refine XS.iconst X282.here hx rfl (hb hby at_215) ?_
      refine XS.goto X282.here hx rfl (pc0 := 216) (pc' := 220) rfl (hb hby at_216) (by decide) (by decide) ?_
      show Steps _ _ _ (T282.setTop (mkF m 220 #[.val (.int p1), .val (.int (16 : Int32)), .val (.ref b101), .val (.ref s16), .val (.int (16 : Int32))] [(.int (1 : Int32))])) _
      exact retN X282 hx (t := .boolean) Bd.returns (by simp) (hb hby at_220) hr
    · show Qown_law Z p1 ka kk s1 s2 s3 s4 s5 s6 s7 s8 s9 s10 s11 s12 s13 s14 s15 s16 s17 s18 s19 s20 s21 s22 s23 s24 h0 n0 _ T282.heap _
      rw [e282]
      exact ⟨rfl, N282⟩
  · skip
    rw [hs251] at pre250
    obtain ⟨_, _, ⟨T284, L284, k284, n284⟩, -, X284, ⟨Lc284, hQ284, l284, y284, z284⟩, st284⟩ := Jvm.LawKit.callS X223 hx (y := own_m0) hown (mvT hZ (own_w52 hw)) (mvT hZ (own_w53 hw)) (mvT hZ (own_w3 hw)) (mvT hZ (own_w54 hw)) (by decide) (backOf (W := 0) (own_for l Z a0 hw [] (17 : Int32) ka kk s1 s2 s3 s4 s5 s6 s7 s8 s9 s10 s11 s12 s13 s14 s15 s16 s17 s18 s19 s20 s21 s22 s23 s24 h223 n0 Z223 c224 c225 c226 c227 c228 c229 c230 c231 c232 c233 c234 c235 c236 c237 c238 c239 c240 c241 c242 c243 c244 c245 c246 c247 c248 c249) hZ (own_w54 hw) (own_w3 hw) (by decide) (by decide)) (g := (mkF m 177 #[.val (.int p1), .val (.int (17 : Int32)), .val (.ref b101), .unset, .unset] [(.int (17 : Int32))])) rfl (by rw [hml]; rfl) (argsL := [(.int (17 : Int32))]) (rest := []) (lenOf own_pd0 rfl) rfl (by show 2 * 0 + _ ≤ _; exact Nat.le_of_eq rfl) (hb hby at_177) (fun _ _ => ⟨rfl, e223, (by decide : 1 + 0 ≤ _), (by decide : 25 + 0 ≤ _)⟩)
    dsimp only [Pt.U, Pt.locs, Pt.cells, Pt.slots] at X284 l284 y284 z284 st284 hQ284
    rw [l284, y284, z284] at X284
    obtain ⟨hv, N284q, e284⟩ := hQ284
    change _ = some (Value.ref s17) at hv
    subst hv
    have N284 := Fr.app N223 N284q
    obtain ⟨cl285, Ar285, Aq285, As285, An285, Ah285, Ag285⟩ := id V223
    have hin285 : ¬ ((17 : Int32) < 0 ∨ cl285.slots.size ≤ ((17 : Int32)).toNatClampNeg) := inb_of As285 ⟨by decide, by decide⟩
    obtain ⟨fs, hr, hrun, hended, hW, hsame⟩ := X284.leave (v := some (.int (1 : Int32))) (fun h => by rw [Bd.returns] at h; cases h)
    refine ⟨_, _, pre250 _ ?_, hrun, hended, _, _, rfl, ?_, ⟨_, rfl⟩, hW, hsame.mono (by decide) (by decide)⟩
    · show Steps _ _ _ (T223.setTop (mkF m 176 #[.val (.int p1), .val (.int (17 : Int32)), .val (.ref b101), .unset, .unset] [])) _
      refine XS.iloadN X223.here hx rfl (hb hby at_176) rfl ?_
      refine st284 _ ?_
      refine XS.astoreN X284.here hx rfl (hb hby at_180) rfl rfl (l' := #[.val (.int p1), .val (.int (17 : Int32)), .val (.ref b101), .val (.ref s17), .unset]) rfl ?_
      refine XS.iloadN X284.here hx rfl (hb hby at_181) rfl ?_
      show Steps _ _ _ (T284.setTop (mkF m 182 #[.val (.int p1), .val (.int (17 : Int32)), .val (.ref b101), .val (.ref s17), .unset] [(.int (17 : Int32))])) _
      refine XS.istore X284.here hx rfl (hb hby at_182) rfl (l' := #[.val (.int p1), .val (.int (17 : Int32)), .val (.ref b101), .val (.ref s17), .val (.int (17 : Int32))]) rfl ?_
      refine XS.iload X284.here hx rfl (hb hby at_184) rfl ?_
      refine XS.iconst X284.here hx rfl (hb hby at_186) ?_
      refine XS.icmpNo X284.here hx rfl (hb hby at_187) rfl (flt (by decide : ¬ ((17 : Int32) < (1 : Int32)))).1 ?_
      show Steps _ _ _ (T284.setTop (mkF m 190 #[.val (.int p1), .val (.int (17 : Int32)), .val (.ref b101), .val (.ref s17), .val (.int (17 : Int32))] [])) _
      refine XS.iload X284.here hx rfl (hb hby at_190) rfl ?_
      refine XS.bipush X284.here hx rfl (hb hby at_192) ?_
      refine XS.icmpYes X284.here hx rfl (pc0 := 194) (pc' := 207) rfl (hb hby at_194) rfl (flt (by decide : ¬ ((24 : Int32) < (17 : Int32)))).2.2.2 (by decide) (by decide) ?_
      refine XS.aloadN X284.here hx rfl (hb hby at_207) rfl rfl ?_
      show Steps _ _ _ (T284.setTop (mkF m 208 #[.val (.int p1), .val (.int (17 : Int32)), .val (.ref b101), .val (.ref s17), .val (.int (17 : Int32))] [(.ref s17)])) _
      refine XS.aloadN X284.here hx rfl (hb hby at_208) rfl rfl ?_
      refine XS.iload X284.here hx rfl (hb hby at_209) rfl ?_
      refine X284.aaload hx (j := (17 : Int32)) (v := (.ref s17)) (by rw [e284]; exact Ar285.1) (State.isArrayOf_alike hZ.alike Ar285.2.1) rfl Ar285.2.2 hin285 (Ah285.at hin285 rfl) (g := (mkF m 211 #[.val (.int p1), .val (.int (17 : Int32)), .val (.ref b101), .val (.ref s17), .val (.int (17 : Int32))] [(.int (17 : Int32)), (.ref b101), (.ref s17)])) rfl rfl (hb hby at_211) _ ?_
      refine Jvm.RoadKit.acmp (g := (mkF m 212 #[.val (.int p1), .val (.int (17 : Int32)), .val (.ref b101), .val (.ref s17), .val (.int (17 : Int32))] [(.ref s17), (.ref s17)])) X284 hx rfl rfl rfl (pc0 := 212) (pc' := 215) (same := true) rfl (hb hby at_212) rfl (decide_eq_true rfl) (by decide) (by decide) ?_
      show Steps _ _ _ (T284.setTop (mkF m 215 #[.val (.int p1), .val (.int (17 : Int32)), .val (.ref b101), .val (.ref s17), .val (.int (17 : Int32))] [])) _
      refine XS.iconst X284.here hx rfl (hb hby at_215) ?_
      refine XS.goto X284.here hx rfl (pc0 := 216) (pc' := 220) rfl (hb hby at_216) (by decide) (by decide) ?_
      show Steps _ _ _ (T284.setTop (mkF m 220 #[.val (.int p1), .val (.int (17 : Int32)), .val (.ref b101), .val (.ref s17), .val (.int (17 : Int32))] [(.int (1 : Int32))])) _
      exact retN X284 hx (t := .boolean) Bd.returns (by simp) (hb hby at_220) hr
    · show Qown_law Z p1 ka kk s1 s2 s3 s4 s5 s6 s7 s8 s9 s10 s11 s12 s13 s14 s15 s16 s17 s18 s19 s20 s21 s22 s23 s24 h0 n0 _ T284.heap _
      rw [e284]
      exact ⟨rfl, N284⟩
  · skip
    rw [hs251] at pre250
    obtain ⟨_, _, ⟨T286, L286, k286, n286⟩, -, X286, ⟨Lc286, hQ286, l286, y286, z286⟩, st286⟩ := Jvm.LawKit.callS X223 hx (y := own_m0) hown (mvT hZ (own_w52 hw)) (mvT hZ (own_w53 hw)) (mvT hZ (own_w3 hw)) (mvT hZ (own_w54 hw)) (by decide) (backOf (W := 0) (own_for l Z a0 hw [] (18 : Int32) ka kk s1 s2 s3 s4 s5 s6 s7 s8 s9 s10 s11 s12 s13 s14 s15 s16 s17 s18 s19 s20 s21 s22 s23 s24 h223 n0 Z223 c224 c225 c226 c227 c228 c229 c230 c231 c232 c233 c234 c235 c236 c237 c238 c239 c240 c241 c242 c243 c244 c245 c246 c247 c248 c249) hZ (own_w54 hw) (own_w3 hw) (by decide) (by decide)) (g := (mkF m 177 #[.val (.int p1), .val (.int (18 : Int32)), .val (.ref b101), .unset, .unset] [(.int (18 : Int32))])) rfl (by rw [hml]; rfl) (argsL := [(.int (18 : Int32))]) (rest := []) (lenOf own_pd0 rfl) rfl (by show 2 * 0 + _ ≤ _; exact Nat.le_of_eq rfl) (hb hby at_177) (fun _ _ => ⟨rfl, e223, (by decide : 1 + 0 ≤ _), (by decide : 25 + 0 ≤ _)⟩)
    dsimp only [Pt.U, Pt.locs, Pt.cells, Pt.slots] at X286 l286 y286 z286 st286 hQ286
    rw [l286, y286, z286] at X286
    obtain ⟨hv, N286q, e286⟩ := hQ286
    change _ = some (Value.ref s18) at hv
    subst hv
    have N286 := Fr.app N223 N286q
    obtain ⟨cl287, Ar287, Aq287, As287, An287, Ah287, Ag287⟩ := id V223
    have hin287 : ¬ ((18 : Int32) < 0 ∨ cl287.slots.size ≤ ((18 : Int32)).toNatClampNeg) := inb_of As287 ⟨by decide, by decide⟩
    obtain ⟨fs, hr, hrun, hended, hW, hsame⟩ := X286.leave (v := some (.int (1 : Int32))) (fun h => by rw [Bd.returns] at h; cases h)
    refine ⟨_, _, pre250 _ ?_, hrun, hended, _, _, rfl, ?_, ⟨_, rfl⟩, hW, hsame.mono (by decide) (by decide)⟩
    · show Steps _ _ _ (T223.setTop (mkF m 176 #[.val (.int p1), .val (.int (18 : Int32)), .val (.ref b101), .unset, .unset] [])) _
      refine XS.iloadN X223.here hx rfl (hb hby at_176) rfl ?_
      refine st286 _ ?_
      refine XS.astoreN X286.here hx rfl (hb hby at_180) rfl rfl (l' := #[.val (.int p1), .val (.int (18 : Int32)), .val (.ref b101), .val (.ref s18), .unset]) rfl ?_
      refine XS.iloadN X286.here hx rfl (hb hby at_181) rfl ?_
      show Steps _ _ _ (T286.setTop (mkF m 182 #[.val (.int p1), .val (.int (18 : Int32)), .val (.ref b101), .val (.ref s18), .unset] [(.int (18 : Int32))])) _
      refine XS.istore X286.here hx rfl (hb hby at_182) rfl (l' := #[.val (.int p1), .val (.int (18 : Int32)), .val (.ref b101), .val (.ref s18), .val (.int (18 : Int32))]) rfl ?_
      refine XS.iload X286.here hx rfl (hb hby at_184) rfl ?_
      refine XS.iconst X286.here hx rfl (hb hby at_186) ?_
      refine XS.icmpNo X286.here hx rfl (hb hby at_187) rfl (flt (by decide : ¬ ((18 : Int32) < (1 : Int32)))).1 ?_
      show Steps _ _ _ (T286.setTop (mkF m 190 #[.val (.int p1), .val (.int (18 : Int32)), .val (.ref b101), .val (.ref s18), .val (.int (18 : Int32))] [])) _
      refine XS.iload X286.here hx rfl (hb hby at_190) rfl ?_
      refine XS.bipush X286.here hx rfl (hb hby at_192) ?_
      refine XS.icmpYes X286.here hx rfl (pc0 := 194) (pc' := 207) rfl (hb hby at_194) rfl (flt (by decide : ¬ ((24 : Int32) < (18 : Int32)))).2.2.2 (by decide) (by decide) ?_
      refine XS.aloadN X286.here hx rfl (hb hby at_207) rfl rfl ?_
      show Steps _ _ _ (T286.setTop (mkF m 208 #[.val (.int p1), .val (.int (18 : Int32)), .val (.ref b101), .val (.ref s18), .val (.int (18 : Int32))] [(.ref s18)])) _
      refine XS.aloadN X286.here hx rfl (hb hby at_208) rfl rfl ?_
      refine XS.iload X286.here hx rfl (hb hby at_209) rfl ?_
      refine X286.aaload hx (j := (18 : Int32)) (v := (.ref s18)) (by rw [e286]; exact Ar287.1) (State.isArrayOf_alike hZ.alike Ar287.2.1) rfl Ar287.2.2 hin287 (Ah287.at hin287 rfl) (g := (mkF m 211 #[.val (.int p1), .val (.int (18 : Int32)), .val (.ref b101), .val (.ref s18), .val (.int (18 : Int32))] [(.int (18 : Int32)), (.ref b101), (.ref s18)])) rfl rfl (hb hby at_211) _ ?_
      refine Jvm.RoadKit.acmp (g := (mkF m 212 #[.val (.int p1), .val (.int (18 : Int32)), .val (.ref b101), .val (.ref s18), .val (.int (18 : Int32))] [(.ref s18), (.ref s18)])) X286 hx rfl rfl rfl (pc0 := 212) (pc' := 215) (same := true) rfl (hb hby at_212) rfl (decide_eq_true rfl) (by decide) (by decide) ?_
      show Steps _ _ _ (T286.setTop (mkF m 215 #[.val (.int p1), .val (.int (18 : Int32)), .val (.ref b101), .val (.ref s18), .val (.int (18 : Int32))] [])) _
      refine XS.iconst X286.here hx rfl (hb hby at_215) ?_
      refine XS.goto X286.here hx rfl (pc0 := 216) (pc' := 220) rfl (hb hby at_216) (by decide) (by decide) ?_
      show Steps _ _ _ (T286.setTop (mkF m 220 #[.val (.int p1), .val (.int (18 : Int32)), .val (.ref b101), .val (.ref s18), .val (.int (18 : Int32))] [(.int (1 : Int32))])) _
      exact retN X286 hx (t := .boolean) Bd.returns (by simp) (hb hby at_220) hr
    · show Qown_law Z p1 ka kk s1 s2 s3 s4 s5 s6 s7 s8 s9 s10 s11 s12 s13 s14 s15 s16 s17 s18 s19 s20 s21 s22 s23 s24 h0 n0 _ T286.heap _
      rw [e286]
      exact ⟨rfl, N286⟩
  · skip
    rw [hs251] at pre250
    obtain ⟨_, _, ⟨T288, L288, k288, n288⟩, -, X288, ⟨Lc288, hQ288, l288, y288, z288⟩, st288⟩ := Jvm.LawKit.callS X223 hx (y := own_m0) hown (mvT hZ (own_w52 hw)) (mvT hZ (own_w53 hw)) (mvT hZ (own_w3 hw)) (mvT hZ (own_w54 hw)) (by decide) (backOf (W := 0) (own_for l Z a0 hw [] (19 : Int32) ka kk s1 s2 s3 s4 s5 s6 s7 s8 s9 s10 s11 s12 s13 s14 s15 s16 s17 s18 s19 s20 s21 s22 s23 s24 h223 n0 Z223 c224 c225 c226 c227 c228 c229 c230 c231 c232 c233 c234 c235 c236 c237 c238 c239 c240 c241 c242 c243 c244 c245 c246 c247 c248 c249) hZ (own_w54 hw) (own_w3 hw) (by decide) (by decide)) (g := (mkF m 177 #[.val (.int p1), .val (.int (19 : Int32)), .val (.ref b101), .unset, .unset] [(.int (19 : Int32))])) rfl (by rw [hml]; rfl) (argsL := [(.int (19 : Int32))]) (rest := []) (lenOf own_pd0 rfl) rfl (by show 2 * 0 + _ ≤ _; exact Nat.le_of_eq rfl) (hb hby at_177) (fun _ _ => ⟨rfl, e223, (by decide : 1 + 0 ≤ _), (by decide : 25 + 0 ≤ _)⟩)
    dsimp only [Pt.U, Pt.locs, Pt.cells, Pt.slots] at X288 l288 y288 z288 st288 hQ288
    rw [l288, y288, z288] at X288
    obtain ⟨hv, N288q, e288⟩ := hQ288
    change _ = some (Value.ref s19) at hv
    subst hv
    have N288 := Fr.app N223 N288q
    obtain ⟨cl289, Ar289, Aq289, As289, An289, Ah289, Ag289⟩ := id V223
    have hin289 : ¬ ((19 : Int32) < 0 ∨ cl289.slots.size ≤ ((19 : Int32)).toNatClampNeg) := inb_of As289 ⟨by decide, by decide⟩
    obtain ⟨fs, hr, hrun, hended, hW, hsame⟩ := X288.leave (v := some (.int (1 : Int32))) (fun h => by rw [Bd.returns] at h; cases h)
    refine ⟨_, _, pre250 _ ?_, hrun, hended, _, _, rfl, ?_, ⟨_, rfl⟩, hW, hsame.mono (by decide) (by decide)⟩
    · show Steps _ _ _ (T223.setTop (mkF m 176 #[.val (.int p1), .val (.int (19 : Int32)), .val (.ref b101), .unset, .unset] [])) _
      refine XS.iloadN X223.here hx rfl (hb hby at_176) rfl ?_
      refine st288 _ ?_
      refine XS.astoreN X288.here hx rfl (hb hby at_180) rfl rfl (l' := #[.val (.int p1), .val (.int (19 : Int32)), .val (.ref b101), .val (.ref s19), .unset]) rfl ?_
      refine XS.iloadN X288.here hx rfl (hb hby at_181) rfl ?_
      show Steps _ _ _ (T288.setTop (mkF m 182 #[.val (.int p1), .val (.int (19 : Int32)), .val (.ref b101), .val (.ref s19), .unset] [(.int (19 : Int32))])) _
      refine XS.istore X288.here hx rfl (hb hby at_182) rfl (l' := #[.val (.int p1), .val (.int (19 : Int32)), .val (.ref b101), .val (.ref s19), .val (.int (19 : Int32))]) rfl ?_
      refine XS.iload X288.here hx rfl (hb hby at_184) rfl ?_
      refine XS.iconst X288.here hx rfl (hb hby at_186) ?_
      refine XS.icmpNo X288.here hx rfl (hb hby at_187) rfl (flt (by decide : ¬ ((19 : Int32) < (1 : Int32)))).1 ?_
      show Steps _ _ _ (T288.setTop (mkF m 190 #[.val (.int p1), .val (.int (19 : Int32)), .val (.ref b101), .val (.ref s19), .val (.int (19 : Int32))] [])) _
      refine XS.iload X288.here hx rfl (hb hby at_190) rfl ?_
      refine XS.bipush X288.here hx rfl (hb hby at_192) ?_
      refine XS.icmpYes X288.here hx rfl (pc0 := 194) (pc' := 207) rfl (hb hby at_194) rfl (flt (by decide : ¬ ((24 : Int32) < (19 : Int32)))).2.2.2 (by decide) (by decide) ?_
      refine XS.aloadN X288.here hx rfl (hb hby at_207) rfl rfl ?_
      show Steps _ _ _ (T288.setTop (mkF m 208 #[.val (.int p1), .val (.int (19 : Int32)), .val (.ref b101), .val (.ref s19), .val (.int (19 : Int32))] [(.ref s19)])) _
      refine XS.aloadN X288.here hx rfl (hb hby at_208) rfl rfl ?_
      refine XS.iload X288.here hx rfl (hb hby at_209) rfl ?_
      refine X288.aaload hx (j := (19 : Int32)) (v := (.ref s19)) (by rw [e288]; exact Ar289.1) (State.isArrayOf_alike hZ.alike Ar289.2.1) rfl Ar289.2.2 hin289 (Ah289.at hin289 rfl) (g := (mkF m 211 #[.val (.int p1), .val (.int (19 : Int32)), .val (.ref b101), .val (.ref s19), .val (.int (19 : Int32))] [(.int (19 : Int32)), (.ref b101), (.ref s19)])) rfl rfl (hb hby at_211) _ ?_
      refine Jvm.RoadKit.acmp (g := (mkF m 212 #[.val (.int p1), .val (.int (19 : Int32)), .val (.ref b101), .val (.ref s19), .val (.int (19 : Int32))] [(.ref s19), (.ref s19)])) X288 hx rfl rfl rfl (pc0 := 212) (pc' := 215) (same := true) rfl (hb hby at_212) rfl (decide_eq_true rfl) (by decide) (by decide) ?_
      show Steps _ _ _ (T288.setTop (mkF m 215 #[.val (.int p1), .val (.int (19 : Int32)), .val (.ref b101), .val (.ref s19), .val (.int (19 : Int32))] [])) _
      refine XS.iconst X288.here hx rfl (hb hby at_215) ?_
      refine XS.goto X288.here hx rfl (pc0 := 216) (pc' := 220) rfl (hb hby at_216) (by decide) (by decide) ?_
      show Steps _ _ _ (T288.setTop (mkF m 220 #[.val (.int p1), .val (.int (19 : Int32)), .val (.ref b101), .val (.ref s19), .val (.int (19 : Int32))] [(.int (1 : Int32))])) _
      exact retN X288 hx (t := .boolean) Bd.returns (by simp) (hb hby at_220) hr
    · show Qown_law Z p1 ka kk s1 s2 s3 s4 s5 s6 s7 s8 s9 s10 s11 s12 s13 s14 s15 s16 s17 s18 s19 s20 s21 s22 s23 s24 h0 n0 _ T288.heap _
      rw [e288]
      exact ⟨rfl, N288⟩
  · skip
    rw [hs251] at pre250
    obtain ⟨_, _, ⟨T290, L290, k290, n290⟩, -, X290, ⟨Lc290, hQ290, l290, y290, z290⟩, st290⟩ := Jvm.LawKit.callS X223 hx (y := own_m0) hown (mvT hZ (own_w52 hw)) (mvT hZ (own_w53 hw)) (mvT hZ (own_w3 hw)) (mvT hZ (own_w54 hw)) (by decide) (backOf (W := 0) (own_for l Z a0 hw [] (20 : Int32) ka kk s1 s2 s3 s4 s5 s6 s7 s8 s9 s10 s11 s12 s13 s14 s15 s16 s17 s18 s19 s20 s21 s22 s23 s24 h223 n0 Z223 c224 c225 c226 c227 c228 c229 c230 c231 c232 c233 c234 c235 c236 c237 c238 c239 c240 c241 c242 c243 c244 c245 c246 c247 c248 c249) hZ (own_w54 hw) (own_w3 hw) (by decide) (by decide)) (g := (mkF m 177 #[.val (.int p1), .val (.int (20 : Int32)), .val (.ref b101), .unset, .unset] [(.int (20 : Int32))])) rfl (by rw [hml]; rfl) (argsL := [(.int (20 : Int32))]) (rest := []) (lenOf own_pd0 rfl) rfl (by show 2 * 0 + _ ≤ _; exact Nat.le_of_eq rfl) (hb hby at_177) (fun _ _ => ⟨rfl, e223, (by decide : 1 + 0 ≤ _), (by decide : 25 + 0 ≤ _)⟩)
    dsimp only [Pt.U, Pt.locs, Pt.cells, Pt.slots] at X290 l290 y290 z290 st290 hQ290
    rw [l290, y290, z290] at X290
    obtain ⟨hv, N290q, e290⟩ := hQ290
    change _ = some (Value.ref s20) at hv
    subst hv
    have N290 := Fr.app N223 N290q
    obtain ⟨cl291, Ar291, Aq291, As291, An291, Ah291, Ag291⟩ := id V223
    have hin291 : ¬ ((20 : Int32) < 0 ∨ cl291.slots.size ≤ ((20 : Int32)).toNatClampNeg) := inb_of As291 ⟨by decide, by decide⟩
    obtain ⟨fs, hr, hrun, hended, hW, hsame⟩ := X290.leave (v := some (.int (1 : Int32))) (fun h => by rw [Bd.returns] at h; cases h)
    refine ⟨_, _, pre250 _ ?_, hrun, hended, _, _, rfl, ?_, ⟨_, rfl⟩, hW, hsame.mono (by decide) (by decide)⟩
    · show Steps _ _ _ (T223.setTop (mkF m 176 #[.val (.int p1), .val (.int (20 : Int32)), .val (.ref b101), .unset, .unset] [])) _
      refine XS.iloadN X223.here hx rfl (hb hby at_176) rfl ?_
      refine st290 _ ?_
      refine XS.astoreN X290.here hx rfl (hb hby at_180) rfl rfl (l' := #[.val (.int p1), .val (.int (20 : Int32)), .val (.ref b101), .val (.ref s20), .unset]) rfl ?_
      refine XS.iloadN X290.here hx rfl (hb hby at_181) rfl ?_
      show Steps _ _ _ (T290.setTop (mkF m 182 #[.val (.int p1), .val (.int (20 : Int32)), .val (.ref b101), .val (.ref s20), .unset] [(.int (20 : Int32))])) _
      refine XS.istore X290.here hx rfl (hb hby at_182) rfl (l' := #[.val (.int p1), .val (.int (20 : Int32)), .val (.ref b101), .val (.ref s20), .val (.int (20 : Int32))]) rfl ?_
      refine XS.iload X290.here hx rfl (hb hby at_184) rfl ?_
      refine XS.iconst X290.here hx rfl (hb hby at_186) ?_
      refine XS.icmpNo X290.here hx rfl (hb hby at_187) rfl (flt (by decide : ¬ ((20 : Int32) < (1 : Int32)))).1 ?_
      show Steps _ _ _ (T290.setTop (mkF m 190 #[.val (.int p1), .val (.int (20 : Int32)), .val (.ref b101), .val (.ref s20), .val (.int (20 : Int32))] [])) _
      refine XS.iload X290.here hx rfl (hb hby at_190) rfl ?_
      refine XS.bipush X290.here hx rfl (hb hby at_192) ?_
      refine XS.icmpYes X290.here hx rfl (pc0 := 194) (pc' := 207) rfl (hb hby at_194) rfl (flt (by decide : ¬ ((24 : Int32) < (20 : Int32)))).2.2.2 (by decide) (by decide) ?_
      refine XS.aloadN X290.here hx rfl (hb hby at_207) rfl rfl ?_
      show Steps _ _ _ (T290.setTop (mkF m 208 #[.val (.int p1), .val (.int (20 : Int32)), .val (.ref b101), .val (.ref s20), .val (.int (20 : Int32))] [(.ref s20)])) _
      refine XS.aloadN X290.here hx rfl (hb hby at_208) rfl rfl ?_
      refine XS.iload X290.here hx rfl (hb hby at_209) rfl ?_
      refine X290.aaload hx (j := (20 : Int32)) (v := (.ref s20)) (by rw [e290]; exact Ar291.1) (State.isArrayOf_alike hZ.alike Ar291.2.1) rfl Ar291.2.2 hin291 (Ah291.at hin291 rfl) (g := (mkF m 211 #[.val (.int p1), .val (.int (20 : Int32)), .val (.ref b101), .val (.ref s20), .val (.int (20 : Int32))] [(.int (20 : Int32)), (.ref b101), (.ref s20)])) rfl rfl (hb hby at_211) _ ?_
      refine Jvm.RoadKit.acmp (g := (mkF m 212 #[.val (.int p1), .val (.int (20 : Int32)), .val (.ref b101), .val (.ref s20), .val (.int (20 : Int32))] [(.ref s20), (.ref s20)])) X290 hx rfl rfl rfl (pc0 := 212) (pc' := 215) (same := true) rfl (hb hby at_212) rfl (decide_eq_true rfl) (by decide) (by decide) ?_
      show Steps _ _ _ (T290.setTop (mkF m 215 #[.val (.int p1), .val (.int (20 : Int32)), .val (.ref b101), .val (.ref s20), .val (.int (20 : Int32))] [])) _
      refine XS.iconst X290.here hx rfl (hb hby at_215) ?_
      refine XS.goto X290.here hx rfl (pc0 := 216) (pc' := 220) rfl (hb hby at_216) (by decide) (by decide) ?_
      show Steps _ _ _ (T290.setTop (mkF m 220 #[.val (.int p1), .val (.int (20 : Int32)), .val (.ref b101), .val (.ref s20), .val (.int (20 : Int32))] [(.int (1 : Int32))])) _
      exact retN X290 hx (t := .boolean) Bd.returns (by simp) (hb hby at_220) hr
    · show Qown_law Z p1 ka kk s1 s2 s3 s4 s5 s6 s7 s8 s9 s10 s11 s12 s13 s14 s15 s16 s17 s18 s19 s20 s21 s22 s23 s24 h0 n0 _ T290.heap _
      rw [e290]
      exact ⟨rfl, N290⟩
  · skip
    rw [hs251] at pre250
    obtain ⟨_, _, ⟨T292, L292, k292, n292⟩, -, X292, ⟨Lc292, hQ292, l292, y292, z292⟩, st292⟩ := Jvm.LawKit.callS X223 hx (y := own_m0) hown (mvT hZ (own_w52 hw)) (mvT hZ (own_w53 hw)) (mvT hZ (own_w3 hw)) (mvT hZ (own_w54 hw)) (by decide) (backOf (W := 0) (own_for l Z a0 hw [] (21 : Int32) ka kk s1 s2 s3 s4 s5 s6 s7 s8 s9 s10 s11 s12 s13 s14 s15 s16 s17 s18 s19 s20 s21 s22 s23 s24 h223 n0 Z223 c224 c225 c226 c227 c228 c229 c230 c231 c232 c233 c234 c235 c236 c237 c238 c239 c240 c241 c242 c243 c244 c245 c246 c247 c248 c249) hZ (own_w54 hw) (own_w3 hw) (by decide) (by decide)) (g := (mkF m 177 #[.val (.int p1), .val (.int (21 : Int32)), .val (.ref b101), .unset, .unset] [(.int (21 : Int32))])) rfl (by rw [hml]; rfl) (argsL := [(.int (21 : Int32))]) (rest := []) (lenOf own_pd0 rfl) rfl (by show 2 * 0 + _ ≤ _; exact Nat.le_of_eq rfl) (hb hby at_177) (fun _ _ => ⟨rfl, e223, (by decide : 1 + 0 ≤ _), (by decide : 25 + 0 ≤ _)⟩)
    dsimp only [Pt.U, Pt.locs, Pt.cells, Pt.slots] at X292 l292 y292 z292 st292 hQ292
    rw [l292, y292, z292] at X292
    obtain ⟨hv, N292q, e292⟩ := hQ292
    change _ = some (Value.ref s21) at hv
    subst hv
    have N292 := Fr.app N223 N292q
    obtain ⟨cl293, Ar293, Aq293, As293, An293, Ah293, Ag293⟩ := id V223
    have hin293 : ¬ ((21 : Int32) < 0 ∨ cl293.slots.size ≤ ((21 : Int32)).toNatClampNeg) := inb_of As293 ⟨by decide, by decide⟩
    obtain ⟨fs, hr, hrun, hended, hW, hsame⟩ := X292.leave (v := some (.int (1 : Int32))) (fun h => by rw [Bd.returns] at h; cases h)
    refine ⟨_, _, pre250 _ ?_, hrun, hended, _, _, rfl, ?_, ⟨_, rfl⟩, hW, hsame.mono (by decide) (by decide)⟩
    · show Steps _ _ _ (T223.setTop (mkF m 176 #[.val (.int p1), .val (.int (21 : Int32)), .val (.ref b101), .unset, .unset] [])) _
      refine XS.iloadN X223.here hx rfl (hb hby at_176) rfl ?_
      refine st292 _ ?_
      refine XS.astoreN X292.here hx rfl (hb hby at_180) rfl rfl (l' := #[.val (.int p1), .val (.int (21 : Int32)), .val (.ref b101), .val (.ref s21), .unset]) rfl ?_
      refine XS.iloadN X292.here hx rfl (hb hby at_181) rfl ?_
      show Steps _ _ _ (T292.setTop (mkF m 182 #[.val (.int p1), .val (.int (21 : Int32)), .val (.ref b101), .val (.ref s21), .unset] [(.int (21 : Int32))])) _
      refine XS.istore X292.here hx rfl (hb hby at_182) rfl (l' := #[.val (.int p1), .val (.int (21 : Int32)), .val (.ref b101), .val (.ref s21), .val (.int (21 : Int32))]) rfl ?_
      refine XS.iload X292.here hx rfl (hb hby at_184) rfl ?_
      refine XS.iconst X292.here hx rfl (hb hby at_186) ?_
      refine XS.icmpNo X292.here hx rfl (hb hby at_187) rfl (flt (by decide : ¬ ((21 : Int32) < (1 : Int32)))).1 ?_
      show Steps _ _ _ (T292.setTop (mkF m 190 #[.val (.int p1), .val (.int (21 : Int32)), .val (.ref b101), .val (.ref s21), .val (.int (21 : Int32))] [])) _
      refine XS.iload X292.here hx rfl (hb hby at_190) rfl ?_
      refine XS.bipush X292.here hx rfl (hb hby at_192) ?_
      refine XS.icmpYes X292.here hx rfl (pc0 := 194) (pc' := 207) rfl (hb hby at_194) rfl (flt (by decide : ¬ ((24 : Int32) < (21 : Int32)))).2.2.2 (by decide) (by decide) ?_
      refine XS.aloadN X292.here hx rfl (hb hby at_207) rfl rfl ?_
      show Steps _ _ _ (T292.setTop (mkF m 208 #[.val (.int p1), .val (.int (21 : Int32)), .val (.ref b101), .val (.ref s21), .val (.int (21 : Int32))] [(.ref s21)])) _
      refine XS.aloadN X292.here hx rfl (hb hby at_208) rfl rfl ?_
      refine XS.iload X292.here hx rfl (hb hby at_209) rfl ?_
      refine X292.aaload hx (j := (21 : Int32)) (v := (.ref s21)) (by rw [e292]; exact Ar293.1) (State.isArrayOf_alike hZ.alike Ar293.2.1) rfl Ar293.2.2 hin293 (Ah293.at hin293 rfl) (g := (mkF m 211 #[.val (.int p1), .val (.int (21 : Int32)), .val (.ref b101), .val (.ref s21), .val (.int (21 : Int32))] [(.int (21 : Int32)), (.ref b101), (.ref s21)])) rfl rfl (hb hby at_211) _ ?_
      refine Jvm.RoadKit.acmp (g := (mkF m 212 #[.val (.int p1), .val (.int (21 : Int32)), .val (.ref b101), .val (.ref s21), .val (.int (21 : Int32))] [(.ref s21), (.ref s21)])) X292 hx rfl rfl rfl (pc0 := 212) (pc' := 215) (same := true) rfl (hb hby at_212) rfl (decide_eq_true rfl) (by decide) (by decide) ?_
      show Steps _ _ _ (T292.setTop (mkF m 215 #[.val (.int p1), .val (.int (21 : Int32)), .val (.ref b101), .val (.ref s21), .val (.int (21 : Int32))] [])) _
      refine XS.iconst X292.here hx rfl (hb hby at_215) ?_
      refine XS.goto X292.here hx rfl (pc0 := 216) (pc' := 220) rfl (hb hby at_216) (by decide) (by decide) ?_
      show Steps _ _ _ (T292.setTop (mkF m 220 #[.val (.int p1), .val (.int (21 : Int32)), .val (.ref b101), .val (.ref s21), .val (.int (21 : Int32))] [(.int (1 : Int32))])) _
      exact retN X292 hx (t := .boolean) Bd.returns (by simp) (hb hby at_220) hr
    · show Qown_law Z p1 ka kk s1 s2 s3 s4 s5 s6 s7 s8 s9 s10 s11 s12 s13 s14 s15 s16 s17 s18 s19 s20 s21 s22 s23 s24 h0 n0 _ T292.heap _
      rw [e292]
      exact ⟨rfl, N292⟩
  · skip
    rw [hs251] at pre250
    obtain ⟨_, _, ⟨T294, L294, k294, n294⟩, -, X294, ⟨Lc294, hQ294, l294, y294, z294⟩, st294⟩ := Jvm.LawKit.callS X223 hx (y := own_m0) hown (mvT hZ (own_w52 hw)) (mvT hZ (own_w53 hw)) (mvT hZ (own_w3 hw)) (mvT hZ (own_w54 hw)) (by decide) (backOf (W := 0) (own_for l Z a0 hw [] (22 : Int32) ka kk s1 s2 s3 s4 s5 s6 s7 s8 s9 s10 s11 s12 s13 s14 s15 s16 s17 s18 s19 s20 s21 s22 s23 s24 h223 n0 Z223 c224 c225 c226 c227 c228 c229 c230 c231 c232 c233 c234 c235 c236 c237 c238 c239 c240 c241 c242 c243 c244 c245 c246 c247 c248 c249) hZ (own_w54 hw) (own_w3 hw) (by decide) (by decide)) (g := (mkF m 177 #[.val (.int p1), .val (.int (22 : Int32)), .val (.ref b101), .unset, .unset] [(.int (22 : Int32))])) rfl (by rw [hml]; rfl) (argsL := [(.int (22 : Int32))]) (rest := []) (lenOf own_pd0 rfl) rfl (by show 2 * 0 + _ ≤ _; exact Nat.le_of_eq rfl) (hb hby at_177) (fun _ _ => ⟨rfl, e223, (by decide : 1 + 0 ≤ _), (by decide : 25 + 0 ≤ _)⟩)
    dsimp only [Pt.U, Pt.locs, Pt.cells, Pt.slots] at X294 l294 y294 z294 st294 hQ294
    rw [l294, y294, z294] at X294
    obtain ⟨hv, N294q, e294⟩ := hQ294
    change _ = some (Value.ref s22) at hv
    subst hv
    have N294 := Fr.app N223 N294q
    obtain ⟨cl295, Ar295, Aq295, As295, An295, Ah295, Ag295⟩ := id V223
    have hin295 : ¬ ((22 : Int32) < 0 ∨ cl295.slots.size ≤ ((22 : Int32)).toNatClampNeg) := inb_of As295 ⟨by decide, by decide⟩
    obtain ⟨fs, hr, hrun, hended, hW, hsame⟩ := X294.leave (v := some (.int (1 : Int32))) (fun h => by rw [Bd.returns] at h; cases h)
    refine ⟨_, _, pre250 _ ?_, hrun, hended, _, _, rfl, ?_, ⟨_, rfl⟩, hW, hsame.mono (by decide) (by decide)⟩
    · show Steps _ _ _ (T223.setTop (mkF m 176 #[.val (.int p1), .val (.int (22 : Int32)), .val (.ref b101), .unset, .unset] [])) _
      refine XS.iloadN X223.here hx rfl (hb hby at_176) rfl ?_
      refine st294 _ ?_
      refine XS.astoreN X294.here hx rfl (hb hby at_180) rfl rfl (l' := #[.val (.int p1), .val (.int (22 : Int32)), .val (.ref b101), .val (.ref s22), .unset]) rfl ?_
      refine XS.iloadN X294.here hx rfl (hb hby at_181) rfl ?_
      show Steps _ _ _ (T294.setTop (mkF m 182 #[.val (.int p1), .val (.int (22 : Int32)), .val (.ref b101), .val (.ref s22), .unset] [(.int (22 : Int32))])) _
      refine XS.istore X294.here hx rfl (hb hby at_182) rfl (l' := #[.val (.int p1), .val (.int (22 : Int32)), .val (.ref b101), .val (.ref s22), .val (.int (22 : Int32))]) rfl ?_
      refine XS.iload X294.here hx rfl (hb hby at_184) rfl ?_
      refine XS.iconst X294.here hx rfl (hb hby at_186) ?_
      refine XS.icmpNo X294.here hx rfl (hb hby at_187) rfl (flt (by decide : ¬ ((22 : Int32) < (1 : Int32)))).1 ?_
      show Steps _ _ _ (T294.setTop (mkF m 190 #[.val (.int p1), .val (.int (22 : Int32)), .val (.ref b101), .val (.ref s22), .val (.int (22 : Int32))] [])) _
      refine XS.iload X294.here hx rfl (hb hby at_190) rfl ?_
      refine XS.bipush X294.here hx rfl (hb hby at_192) ?_
      refine XS.icmpYes X294.here hx rfl (pc0 := 194) (pc' := 207) rfl (hb hby at_194) rfl (flt (by decide : ¬ ((24 : Int32) < (22 : Int32)))).2.2.2 (by decide) (by decide) ?_
      refine XS.aloadN X294.here hx rfl (hb hby at_207) rfl rfl ?_
      show Steps _ _ _ (T294.setTop (mkF m 208 #[.val (.int p1), .val (.int (22 : Int32)), .val (.ref b101), .val (.ref s22), .val (.int (22 : Int32))] [(.ref s22)])) _
      refine XS.aloadN X294.here hx rfl (hb hby at_208) rfl rfl ?_
      refine XS.iload X294.here hx rfl (hb hby at_209) rfl ?_
      refine X294.aaload hx (j := (22 : Int32)) (v := (.ref s22)) (by rw [e294]; exact Ar295.1) (State.isArrayOf_alike hZ.alike Ar295.2.1) rfl Ar295.2.2 hin295 (Ah295.at hin295 rfl) (g := (mkF m 211 #[.val (.int p1), .val (.int (22 : Int32)), .val (.ref b101), .val (.ref s22), .val (.int (22 : Int32))] [(.int (22 : Int32)), (.ref b101), (.ref s22)])) rfl rfl (hb hby at_211) _ ?_
      refine Jvm.RoadKit.acmp (g := (mkF m 212 #[.val (.int p1), .val (.int (22 : Int32)), .val (.ref b101), .val (.ref s22), .val (.int (22 : Int32))] [(.ref s22), (.ref s22)])) X294 hx rfl rfl rfl (pc0 := 212) (pc' := 215) (same := true) rfl (hb hby at_212) rfl (decide_eq_true rfl) (by decide) (by decide) ?_
      show Steps _ _ _ (T294.setTop (mkF m 215 #[.val (.int p1), .val (.int (22 : Int32)), .val (.ref b101), .val (.ref s22), .val (.int (22 : Int32))] [])) _
      refine XS.iconst X294.here hx rfl (hb hby at_215) ?_
      refine XS.goto X294.here hx rfl (pc0 := 216) (pc' := 220) rfl (hb hby at_216) (by decide) (by decide) ?_
      show Steps _ _ _ (T294.setTop (mkF m 220 #[.val (.int p1), .val (.int (22 : Int32)), .val (.ref b101), .val (.ref s22), .val (.int (22 : Int32))] [(.int (1 : Int32))])) _
      exact retN X294 hx (t := .boolean) Bd.returns (by simp) (hb hby at_220) hr
    · show Qown_law Z p1 ka kk s1 s2 s3 s4 s5 s6 s7 s8 s9 s10 s11 s12 s13 s14 s15 s16 s17 s18 s19 s20 s21 s22 s23 s24 h0 n0 _ T294.heap _
      rw [e294]
      exact ⟨rfl, N294⟩
  · skip
    rw [hs251] at pre250
    obtain ⟨_, _, ⟨T296, L296, k296, n296⟩, -, X296, ⟨Lc296, hQ296, l296, y296, z296⟩, st296⟩ := Jvm.LawKit.callS X223 hx (y := own_m0) hown (mvT hZ (own_w52 hw)) (mvT hZ (own_w53 hw)) (mvT hZ (own_w3 hw)) (mvT hZ (own_w54 hw)) (by decide) (backOf (W := 0) (own_for l Z a0 hw [] (23 : Int32) ka kk s1 s2 s3 s4 s5 s6 s7 s8 s9 s10 s11 s12 s13 s14 s15 s16 s17 s18 s19 s20 s21 s22 s23 s24 h223 n0 Z223 c224 c225 c226 c227 c228 c229 c230 c231 c232 c233 c234 c235 c236 c237 c238 c239 c240 c241 c242 c243 c244 c245 c246 c247 c248 c249) hZ (own_w54 hw) (own_w3 hw) (by decide) (by decide)) (g := (mkF m 177 #[.val (.int p1), .val (.int (23 : Int32)), .val (.ref b101), .unset, .unset] [(.int (23 : Int32))])) rfl (by rw [hml]; rfl) (argsL := [(.int (23 : Int32))]) (rest := []) (lenOf own_pd0 rfl) rfl (by show 2 * 0 + _ ≤ _; exact Nat.le_of_eq rfl) (hb hby at_177) (fun _ _ => ⟨rfl, e223, (by decide : 1 + 0 ≤ _), (by decide : 25 + 0 ≤ _)⟩)
    dsimp only [Pt.U, Pt.locs, Pt.cells, Pt.slots] at X296 l296 y296 z296 st296 hQ296
    rw [l296, y296, z296] at X296
    obtain ⟨hv, N296q, e296⟩ := hQ296
    change _ = some (Value.ref s23) at hv
    subst hv
    have N296 := Fr.app N223 N296q
    obtain ⟨cl297, Ar297, Aq297, As297, An297, Ah297, Ag297⟩ := id V223
    have hin297 : ¬ ((23 : Int32) < 0 ∨ cl297.slots.size ≤ ((23 : Int32)).toNatClampNeg) := inb_of As297 ⟨by decide, by decide⟩
    obtain ⟨fs, hr, hrun, hended, hW, hsame⟩ := X296.leave (v := some (.int (1 : Int32))) (fun h => by rw [Bd.returns] at h; cases h)
    refine ⟨_, _, pre250 _ ?_, hrun, hended, _, _, rfl, ?_, ⟨_, rfl⟩, hW, hsame.mono (by decide) (by decide)⟩
    · show Steps _ _ _ (T223.setTop (mkF m 176 #[.val (.int p1), .val (.int (23 : Int32)), .val (.ref b101), .unset, .unset] [])) _
      refine XS.iloadN X223.here hx rfl (hb hby at_176) rfl ?_
      refine st296 _ ?_
      refine XS.astoreN X296.here hx rfl (hb hby at_180) rfl rfl (l' := #[.val (.int p1), .val (.int (23 : Int32)), .val (.ref b101), .val (.ref s23), .unset]) rfl ?_
      refine XS.iloadN X296.here hx rfl (hb hby at_181) rfl ?_
      show Steps _ _ _ (T296.setTop (mkF m 182 #[.val (.int p1), .val (.int (23 : Int32)), .val (.ref b101), .val (.ref s23), .unset] [(.int (23 : Int32))])) _
      refine XS.istore X296.here hx rfl (hb hby at_182) rfl (l' := #[.val (.int p1), .val (.int (23 : Int32)), .val (.ref b101), .val (.ref s23), .val (.int (23 : Int32))]) rfl ?_
      refine XS.iload X296.here hx rfl (hb hby at_184) rfl ?_
      refine XS.iconst X296.here hx rfl (hb hby at_186) ?_
      refine XS.icmpNo X296.here hx rfl (hb hby at_187) rfl (flt (by decide : ¬ ((23 : Int32) < (1 : Int32)))).1 ?_
      show Steps _ _ _ (T296.setTop (mkF m 190 #[.val (.int p1), .val (.int (23 : Int32)), .val (.ref b101), .val (.ref s23), .val (.int (23 : Int32))] [])) _
      refine XS.iload X296.here hx rfl (hb hby at_190) rfl ?_
      refine XS.bipush X296.here hx rfl (hb hby at_192) ?_
      refine XS.icmpYes X296.here hx rfl (pc0 := 194) (pc' := 207) rfl (hb hby at_194) rfl (flt (by decide : ¬ ((24 : Int32) < (23 : Int32)))).2.2.2 (by decide) (by decide) ?_
      refine XS.aloadN X296.here hx rfl (hb hby at_207) rfl rfl ?_
      show Steps _ _ _ (T296.setTop (mkF m 208 #[.val (.int p1), .val (.int (23 : Int32)), .val (.ref b101), .val (.ref s23), .val (.int (23 : Int32))] [(.ref s23)])) _
      refine XS.aloadN X296.here hx rfl (hb hby at_208) rfl rfl ?_
      refine XS.iload X296.here hx rfl (hb hby at_209) rfl ?_
      refine X296.aaload hx (j := (23 : Int32)) (v := (.ref s23)) (by rw [e296]; exact Ar297.1) (State.isArrayOf_alike hZ.alike Ar297.2.1) rfl Ar297.2.2 hin297 (Ah297.at hin297 rfl) (g := (mkF m 211 #[.val (.int p1), .val (.int (23 : Int32)), .val (.ref b101), .val (.ref s23), .val (.int (23 : Int32))] [(.int (23 : Int32)), (.ref b101), (.ref s23)])) rfl rfl (hb hby at_211) _ ?_
      refine Jvm.RoadKit.acmp (g := (mkF m 212 #[.val (.int p1), .val (.int (23 : Int32)), .val (.ref b101), .val (.ref s23), .val (.int (23 : Int32))] [(.ref s23), (.ref s23)])) X296 hx rfl rfl rfl (pc0 := 212) (pc' := 215) (same := true) rfl (hb hby at_212) rfl (decide_eq_true rfl) (by decide) (by decide) ?_
      show Steps _ _ _ (T296.setTop (mkF m 215 #[.val (.int p1), .val (.int (23 : Int32)), .val (.ref b101), .val (.ref s23), .val (.int (23 : Int32))] [])) _
      refine XS.iconst X296.here hx rfl (hb hby at_215) ?_
      refine XS.goto X296.here hx rfl (pc0 := 216) (pc' := 220) rfl (hb hby at_216) (by decide) (by decide) ?_
      show Steps _ _ _ (T296.setTop (mkF m 220 #[.val (.int p1), .val (.int (23 : Int32)), .val (.ref b101), .val (.ref s23), .val (.int (23 : Int32))] [(.int (1 : Int32))])) _
      exact retN X296 hx (t := .boolean) Bd.returns (by simp) (hb hby at_220) hr
    · show Qown_law Z p1 ka kk s1 s2 s3 s4 s5 s6 s7 s8 s9 s10 s11 s12 s13 s14 s15 s16 s17 s18 s19 s20 s21 s22 s23 s24 h0 n0 _ T296.heap _
      rw [e296]
      exact ⟨rfl, N296⟩
  · skip
    rw [hs251] at pre250
    obtain ⟨_, _, ⟨T298, L298, k298, n298⟩, -, X298, ⟨Lc298, hQ298, l298, y298, z298⟩, st298⟩ := Jvm.LawKit.callS X223 hx (y := own_m0) hown (mvT hZ (own_w52 hw)) (mvT hZ (own_w53 hw)) (mvT hZ (own_w3 hw)) (mvT hZ (own_w54 hw)) (by decide) (backOf (W := 0) (own_for l Z a0 hw [] (24 : Int32) ka kk s1 s2 s3 s4 s5 s6 s7 s8 s9 s10 s11 s12 s13 s14 s15 s16 s17 s18 s19 s20 s21 s22 s23 s24 h223 n0 Z223 c224 c225 c226 c227 c228 c229 c230 c231 c232 c233 c234 c235 c236 c237 c238 c239 c240 c241 c242 c243 c244 c245 c246 c247 c248 c249) hZ (own_w54 hw) (own_w3 hw) (by decide) (by decide)) (g := (mkF m 177 #[.val (.int p1), .val (.int (24 : Int32)), .val (.ref b101), .unset, .unset] [(.int (24 : Int32))])) rfl (by rw [hml]; rfl) (argsL := [(.int (24 : Int32))]) (rest := []) (lenOf own_pd0 rfl) rfl (by show 2 * 0 + _ ≤ _; exact Nat.le_of_eq rfl) (hb hby at_177) (fun _ _ => ⟨rfl, e223, (by decide : 1 + 0 ≤ _), (by decide : 25 + 0 ≤ _)⟩)
    dsimp only [Pt.U, Pt.locs, Pt.cells, Pt.slots] at X298 l298 y298 z298 st298 hQ298
    rw [l298, y298, z298] at X298
    obtain ⟨hv, N298q, e298⟩ := hQ298
    change _ = some (Value.ref s24) at hv
    subst hv
    have N298 := Fr.app N223 N298q
    obtain ⟨cl299, Ar299, Aq299, As299, An299, Ah299, Ag299⟩ := id V223
    have hin299 : ¬ ((24 : Int32) < 0 ∨ cl299.slots.size ≤ ((24 : Int32)).toNatClampNeg) := inb_of As299 ⟨by decide, by decide⟩
    obtain ⟨fs, hr, hrun, hended, hW, hsame⟩ := X298.leave (v := some (.int (1 : Int32))) (fun h => by rw [Bd.returns] at h; cases h)
    refine ⟨_, _, pre250 _ ?_, hrun, hended, _, _, rfl, ?_, ⟨_, rfl⟩, hW, hsame.mono (by decide) (by decide)⟩
    · show Steps _ _ _ (T223.setTop (mkF m 176 #[.val (.int p1), .val (.int (24 : Int32)), .val (.ref b101), .unset, .unset] [])) _
      refine XS.iloadN X223.here hx rfl (hb hby at_176) rfl ?_
      refine st298 _ ?_
      refine XS.astoreN X298.here hx rfl (hb hby at_180) rfl rfl (l' := #[.val (.int p1), .val (.int (24 : Int32)), .val (.ref b101), .val (.ref s24), .unset]) rfl ?_
      refine XS.iloadN X298.here hx rfl (hb hby at_181) rfl ?_
      show Steps _ _ _ (T298.setTop (mkF m 182 #[.val (.int p1), .val (.int (24 : Int32)), .val (.ref b101), .val (.ref s24), .unset] [(.int (24 : Int32))])) _
      refine XS.istore X298.here hx rfl (hb hby at_182) rfl (l' := #[.val (.int p1), .val (.int (24 : Int32)), .val (.ref b101), .val (.ref s24), .val (.int (24 : Int32))]) rfl ?_
      refine XS.iload X298.here hx rfl (hb hby at_184) rfl ?_
      refine XS.iconst X298.here hx rfl (hb hby at_186) ?_
      refine XS.icmpNo X298.here hx rfl (hb hby at_187) rfl (flt (by decide : ¬ ((24 : Int32) < (1 : Int32)))).1 ?_
      show Steps _ _ _ (T298.setTop (mkF m 190 #[.val (.int p1), .val (.int (24 : Int32)), .val (.ref b101), .val (.ref s24), .val (.int (24 : Int32))] [])) _
      refine XS.iload X298.here hx rfl (hb hby at_190) rfl ?_
      refine XS.bipush X298.here hx rfl (hb hby at_192) ?_
      refine XS.icmpYes X298.here hx rfl (pc0 := 194) (pc' := 207) rfl (hb hby at_194) rfl (flt (by decide : ¬ ((24 : Int32) < (24 : Int32)))).2.2.2 (by decide) (by decide) ?_
      refine XS.aloadN X298.here hx rfl (hb hby at_207) rfl rfl ?_
      show Steps _ _ _ (T298.setTop (mkF m 208 #[.val (.int p1), .val (.int (24 : Int32)), .val (.ref b101), .val (.ref s24), .val (.int (24 : Int32))] [(.ref s24)])) _
      refine XS.aloadN X298.here hx rfl (hb hby at_208) rfl rfl ?_
      refine XS.iload X298.here hx rfl (hb hby at_209) rfl ?_
      refine X298.aaload hx (j := (24 : Int32)) (v := (.ref s24)) (by rw [e298]; exact Ar299.1) (State.isArrayOf_alike hZ.alike Ar299.2.1) rfl Ar299.2.2 hin299 (Ah299.at hin299 rfl) (g := (mkF m 211 #[.val (.int p1), .val (.int (24 : Int32)), .val (.ref b101), .val (.ref s24), .val (.int (24 : Int32))] [(.int (24 : Int32)), (.ref b101), (.ref s24)])) rfl rfl (hb hby at_211) _ ?_
      refine Jvm.RoadKit.acmp (g := (mkF m 212 #[.val (.int p1), .val (.int (24 : Int32)), .val (.ref b101), .val (.ref s24), .val (.int (24 : Int32))] [(.ref s24), (.ref s24)])) X298 hx rfl rfl rfl (pc0 := 212) (pc' := 215) (same := true) rfl (hb hby at_212) rfl (decide_eq_true rfl) (by decide) (by decide) ?_
      show Steps _ _ _ (T298.setTop (mkF m 215 #[.val (.int p1), .val (.int (24 : Int32)), .val (.ref b101), .val (.ref s24), .val (.int (24 : Int32))] [])) _
      refine XS.iconst X298.here hx rfl (hb hby at_215) ?_
      refine XS.goto X298.here hx rfl (pc0 := 216) (pc' := 220) rfl (hb hby at_216) (by decide) (by decide) ?_
      show Steps _ _ _ (T298.setTop (mkF m 220 #[.val (.int p1), .val (.int (24 : Int32)), .val (.ref b101), .val (.ref s24), .val (.int (24 : Int32))] [(.int (1 : Int32))])) _
      exact retN X298 hx (t := .boolean) Bd.returns (by simp) (hb hby at_220) hr
    · show Qown_law Z p1 ka kk s1 s2 s3 s4 s5 s6 s7 s8 s9 s10 s11 s12 s13 s14 s15 s16 s17 s18 s19 s20 s21 s22 s23 s24 h0 n0 _ T298.heap _
      rw [e298]
      exact ⟨rfl, N298⟩
  · skip
    obtain ⟨_, _, ⟨T300, L300, k300, n300⟩, -, X300, ⟨Lc300, hQ300, l300, y300, z300⟩, st300⟩ := Jvm.LawKit.callS X223 hx (y := own_m0) hown (mvT hZ (own_w52 hw)) (mvT hZ (own_w53 hw)) (mvT hZ (own_w3 hw)) (mvT hZ (own_w54 hw)) (by decide) (backOf (W := 0) (own_for l Z a0 hw [] (p1.toInt8.toInt32) ka kk s1 s2 s3 s4 s5 s6 s7 s8 s9 s10 s11 s12 s13 s14 s15 s16 s17 s18 s19 s20 s21 s22 s23 s24 h223 n0 Z223 c224 c225 c226 c227 c228 c229 c230 c231 c232 c233 c234 c235 c236 c237 c238 c239 c240 c241 c242 c243 c244 c245 c246 c247 c248 c249) hZ (own_w54 hw) (own_w3 hw) (by decide) (by decide)) (g := (mkF m 177 #[.val (.int p1), .val (.int (p1.toInt8.toInt32)), .val (.ref b101), .unset, .unset] [(.int (p1.toInt8.toInt32))])) rfl (by rw [hml]; rfl) (argsL := [(.int (p1.toInt8.toInt32))]) (rest := []) (lenOf own_pd0 rfl) rfl (by show 2 * 0 + _ ≤ _; exact Nat.le_of_eq rfl) (hb hby at_177) (fun _ _ => ⟨rfl, e223, (by decide : 1 + 0 ≤ _), (by decide : 25 + 0 ≤ _)⟩)
    dsimp only [Pt.U, Pt.locs, Pt.cells, Pt.slots] at X300 l300 y300 z300 st300 hQ300
    rw [l300, y300, z300] at X300
    obtain ⟨hv, N300q, e300⟩ := hQ300
    rw [own_none hs251] at hv
    subst hv
    have N300 := Fr.app N223 N300q
    have pre301 : ∀ t, Steps p.tables e below (T300.setTop (mkF m 187 #[.val (.int p1), .val (.int (p1.toInt8.toInt32)), .val (.ref b101), .val .null, .val (.int (p1.toInt8.toInt32))] [(.int (1 : Int32)), (.int (p1.toInt8.toInt32))])) t → Steps p.tables e below (s₁.setTop (entryFrame m #[(.int p1)] maxLocals)) t := fun t kt => pre250 t (by
      show Steps _ _ _ (T223.setTop (mkF m 176 #[.val (.int p1), .val (.int (p1.toInt8.toInt32)), .val (.ref b101), .unset, .unset] [])) _
      refine XS.iloadN X223.here hx rfl (hb hby at_176) rfl ?_
      refine st300 _ ?_
      refine XS.astoreN X300.here hx rfl (hb hby at_180) rfl rfl (l' := #[.val (.int p1), .val (.int (p1.toInt8.toInt32)), .val (.ref b101), .val .null, .unset]) rfl ?_
      refine XS.iloadN X300.here hx rfl (hb hby at_181) rfl ?_
      show Steps _ _ _ (T300.setTop (mkF m 182 #[.val (.int p1), .val (.int (p1.toInt8.toInt32)), .val (.ref b101), .val .null, .unset] [(.int (p1.toInt8.toInt32))])) _
      refine XS.istore X300.here hx rfl (hb hby at_182) rfl (l' := #[.val (.int p1), .val (.int (p1.toInt8.toInt32)), .val (.ref b101), .val .null, .val (.int (p1.toInt8.toInt32))]) rfl ?_
      refine XS.iload X300.here hx rfl (hb hby at_184) rfl ?_
      refine XS.iconst X300.here hx rfl (hb hby at_186) ?_
      exact kt)
    by_cases hc187_302 : (p1.toInt8.toInt32) < (1 : Int32)
    · skip
      have ihc187_302 := (own_lt (b := (1 : Int32)) (k := 1) rfl).mp hc187_302
      obtain ⟨fs, hr, hrun, hended, hW, hsame⟩ := X300.leave (v := some (.int (1 : Int32))) (fun h => by rw [Bd.returns] at h; cases h)
      refine ⟨_, _, pre301 _ ?_, hrun, hended, _, _, rfl, ?_, ⟨_, rfl⟩, hW, hsame.mono (by decide) (by decide)⟩
      · show Steps _ _ _ (T300.setTop (mkF m 187 #[.val (.int p1), .val (.int (p1.toInt8.toInt32)), .val (.ref b101), .val .null, .val (.int (p1.toInt8.toInt32))] [(.int (1 : Int32)), (.int (p1.toInt8.toInt32))])) _
        refine XS.icmpYes X300.here hx rfl (pc0 := 187) (pc' := 197) rfl (hb hby at_187) rfl (tlt hc187_302).1 (by decide) (by decide) ?_
        refine XS.aloadN X300.here hx rfl (hb hby at_197) rfl rfl ?_
        refine XS.ifnonnullNo X300.here hx rfl (hb hby at_198) rfl ?_
        refine XS.iconst X300.here hx rfl (hb hby at_201) ?_
        show Steps _ _ _ (T300.setTop (mkF m 202 #[.val (.int p1), .val (.int (p1.toInt8.toInt32)), .val (.ref b101), .val .null, .val (.int (p1.toInt8.toInt32))] [(.int (1 : Int32))])) _
        refine XS.goto X300.here hx rfl (pc0 := 202) (pc' := 206) rfl (hb hby at_202) (by decide) (by decide) ?_
        show Steps _ _ _ (T300.setTop (mkF m 206 #[.val (.int p1), .val (.int (p1.toInt8.toInt32)), .val (.ref b101), .val .null, .val (.int (p1.toInt8.toInt32))] [(.int (1 : Int32))])) _
        exact retN X300 hx (t := .boolean) Bd.returns (by simp) (hb hby at_206) hr
      · show Qown_law Z p1 ka kk s1 s2 s3 s4 s5 s6 s7 s8 s9 s10 s11 s12 s13 s14 s15 s16 s17 s18 s19 s20 s21 s22 s23 s24 h0 n0 _ T300.heap _
        rw [e300]
        exact ⟨rfl, N300⟩
    · skip
      have ihc187_302 := (mt (own_lt (b := (1 : Int32)) (k := 1) rfl).mpr hc187_302)
      obtain ⟨fs, hr, hrun, hended, hW, hsame⟩ := X300.leave (v := some (.int (1 : Int32))) (fun h => by rw [Bd.returns] at h; cases h)
      refine ⟨_, _, pre301 _ ?_, hrun, hended, _, _, rfl, ?_, ⟨_, rfl⟩, hW, hsame.mono (by decide) (by decide)⟩
      · show Steps _ _ _ (T300.setTop (mkF m 187 #[.val (.int p1), .val (.int (p1.toInt8.toInt32)), .val (.ref b101), .val .null, .val (.int (p1.toInt8.toInt32))] [(.int (1 : Int32)), (.int (p1.toInt8.toInt32))])) _
        refine XS.icmpNo X300.here hx rfl (hb hby at_187) rfl (flt hc187_302).1 ?_
        refine XS.iload X300.here hx rfl (hb hby at_190) rfl ?_
        refine XS.bipush X300.here hx rfl (hb hby at_192) ?_
        refine XS.icmpNo X300.here hx rfl (hb hby at_194) rfl (tlt (own_gt_of (a := (24 : Int32)) (k := 24) rfl (by have := hs251; omega))).2.2.2 ?_
        show Steps _ _ _ (T300.setTop (mkF m 197 #[.val (.int p1), .val (.int (p1.toInt8.toInt32)), .val (.ref b101), .val .null, .val (.int (p1.toInt8.toInt32))] [])) _
        refine XS.aloadN X300.here hx rfl (hb hby at_197) rfl rfl ?_
        refine XS.ifnonnullNo X300.here hx rfl (hb hby at_198) rfl ?_
        refine XS.iconst X300.here hx rfl (hb hby at_201) ?_
        refine XS.goto X300.here hx rfl (pc0 := 202) (pc' := 206) rfl (hb hby at_202) (by decide) (by decide) ?_
        show Steps _ _ _ (T300.setTop (mkF m 206 #[.val (.int p1), .val (.int (p1.toInt8.toInt32)), .val (.ref b101), .val .null, .val (.int (p1.toInt8.toInt32))] [(.int (1 : Int32))])) _
        exact retN X300 hx (t := .boolean) Bd.returns (by simp) (hb hby at_206) hr
      · show Qown_law Z p1 ka kk s1 s2 s3 s4 s5 s6 s7 s8 s9 s10 s11 s12 s13 s14 s15 s16 s17 s18 s19 s20 s21 s22 s23 s24 h0 n0 _ T300.heap _
        rw [e300]
        exact ⟨rfl, N300⟩
set_option maxRecDepth 65536 in
set_option maxHeartbeats 40000000 in
theorem comes_1 {Post : Tables → Env → Array Value → State → Outcome → State → Prop} (hpost : ∀ tb e args s v u, (limb_1_1.after args s (.returned v) u = true ∧ limb_1_2.after args s (.returned v) u = true ∧ True) → FrameEnd s (.returned v) u (Jvm.fieldLocs frame_1_writes args s ++ Jvm.arrayLocs frame_1_arrays args s ++ Jvm.staticLocs frame_1_statics s) 16 128 → Post tb e args s (.returned v) u) :
    ArmFor flags0 classFile x code maxLocals ret World_1 tables_1 room_1 Calls_1 rest_1 Pre_1 Post := by
  intro l hfl _ _ p e ha hc hk s m args below hf hA hF happ hP
  obtain ⟨hcalls, hrest, hpre⟩ := hP
  obtain ⟨-, -, -, hnamed, -, -, -, hat⟩ := (Spec.applies_iff hf).mp happ
  obtain ⟨hg, hn⟩ := and_e (Cond.before_iff.mp (show (Jvm.Cond.and given_1 narrow_1).before args s = true from hpre))
  obtain ⟨gc, gr0⟩ := and_e hg
  have ga0 := gr0
  obtain ⟨w0, rfl⟩ : ∃ w0 : Value, args = #[w0] := by
    have hs : args.size = 1 := by simpa [Cond.value, given_1] using gc
    obtain ⟨L⟩ := args
    match L, hs with
    | [w0], _ => exact ⟨w0, rfl⟩
  have hw := fun d (hd : d ∈ tables_1) => atoms_spec (ws := Jvm.Cond.code x code maxLocals ret :: tables_1) hat d (List.mem_cons_of_mem _ hd)
  have hfit : Fit s := fun {y c} hc i hi => by
    obtain ⟨ha, rfl⟩ := Array.getElem?_eq_some_iff.mp hc
    have q := List.all_eq_true.mp ((Array.all_eq_true_iff_forall_mem.mp hF) _ (Array.getElem_mem ha)) i (List.mem_range.mpr hi)
    simpa [Array.getElem?_eq_getElem hi] using q
  obtain ⟨i0, ei0⟩ := is_v ga0
  obtain rfl : w0 = (.int i0) := Option.some.inj ei0
  obtain ⟨na0, nr0⟩ := and_e hn
  obtain ⟨na1, nr1⟩ := and_e nr0
  obtain ⟨na2, nr2⟩ := and_e nr1
  obtain ⟨na3, nr3⟩ := and_e nr2
  obtain ⟨na4, nr4⟩ := and_e nr3
  obtain ⟨na5, nr5⟩ := and_e nr4
  obtain ⟨na6, nr6⟩ := and_e nr5
  obtain ⟨na7, nr7⟩ := and_e nr6
  obtain ⟨na8, nr8⟩ := and_e nr7
  obtain ⟨na9, nr9⟩ := and_e nr8
  obtain ⟨na10, nr10⟩ := and_e nr9
  obtain ⟨na11, nr11⟩ := and_e nr10
  obtain ⟨na12, nr12⟩ := and_e nr11
  obtain ⟨na13, nr13⟩ := and_e nr12
  obtain ⟨na14, nr14⟩ := and_e nr13
  obtain ⟨na15, nr15⟩ := and_e nr14
  obtain ⟨na16, nr16⟩ := and_e nr15
  obtain ⟨na17, nr17⟩ := and_e nr16
  obtain ⟨na18, nr18⟩ := and_e nr17
  obtain ⟨na19, nr19⟩ := and_e nr18
  obtain ⟨na20, nr20⟩ := and_e nr19
  obtain ⟨na21, nr21⟩ := and_e nr20
  obtain ⟨na22, nr22⟩ := and_e nr21
  obtain ⟨na23, nr23⟩ := and_e nr22
  obtain ⟨na24, nr24⟩ := and_e nr23
  obtain ⟨na25, nr25⟩ := and_e nr24
  obtain ⟨na26, nr26⟩ := and_e nr25
  obtain ⟨na27, nr27⟩ := and_e nr26
  obtain ⟨na28, nr28⟩ := and_e nr27
  obtain ⟨na29, nr29⟩ := and_e nr28
  obtain ⟨na30, nr30⟩ := and_e nr29
  obtain ⟨na31, nr31⟩ := and_e nr30
  obtain ⟨na32, nr32⟩ := and_e nr31
  obtain ⟨na33, nr33⟩ := and_e nr32
  obtain ⟨na34, nr34⟩ := and_e nr33
  obtain ⟨na35, nr35⟩ := and_e nr34
  obtain ⟨na36, nr36⟩ := and_e nr35
  obtain ⟨na37, nr37⟩ := and_e nr36
  obtain ⟨na38, nr38⟩ := and_e nr37
  obtain ⟨na39, nr39⟩ := and_e nr38
  obtain ⟨na40, nr40⟩ := and_e nr39
  obtain ⟨na41, nr41⟩ := and_e nr40
  obtain ⟨na42, nr42⟩ := and_e nr41
  obtain ⟨na43, nr43⟩ := and_e nr42
  obtain ⟨na44, nr44⟩ := and_e nr43
  obtain ⟨na45, nr45⟩ := and_e nr44
  obtain ⟨na46, nr46⟩ := and_e nr45
  obtain ⟨na47, nr47⟩ := and_e nr46
  obtain ⟨na48, nr48⟩ := and_e nr47
  obtain ⟨na49, nr49⟩ := and_e nr48
  obtain ⟨na50, nr50⟩ := and_e nr49
  obtain ⟨na51, nr51⟩ := and_e nr50
  obtain ⟨na52, nr52⟩ := and_e nr51
  obtain ⟨na53, nr53⟩ := and_e nr52
  obtain ⟨na54, nr54⟩ := and_e nr53
  obtain ⟨na55, nr55⟩ := and_e nr54
  obtain ⟨na56, nr56⟩ := and_e nr55
  obtain ⟨na57, nr57⟩ := and_e nr56
  obtain ⟨na58, nr58⟩ := and_e nr57
  obtain ⟨na59, nr59⟩ := and_e nr58
  obtain ⟨na60, nr60⟩ := and_e nr59
  obtain ⟨na61, nr61⟩ := and_e nr60
  obtain ⟨na62, nr62⟩ := and_e nr61
  obtain ⟨na63, nr63⟩ := and_e nr62
  obtain ⟨na64, nr64⟩ := and_e nr63
  obtain ⟨na65, nr65⟩ := and_e nr64
  obtain ⟨na66, nr66⟩ := and_e nr65
  obtain ⟨na67, nr67⟩ := and_e nr66
  obtain ⟨na68, nr68⟩ := and_e nr67
  obtain ⟨na69, nr69⟩ := and_e nr68
  obtain ⟨na70, nr70⟩ := and_e nr69
  obtain ⟨na71, nr71⟩ := and_e nr70
  obtain ⟨na72, nr72⟩ := and_e nr71
  have na73 := nr72
  obtain ⟨s1, v1, E1⟩ := own_exa na0
  have F1 := own_fldint v1 na27
  have S1 := Sta.start v1 (Or.inr ⟨hw _ (List.mem_of_getElem? (i := 3) rfl), hw _ (List.mem_of_getElem? (i := 4) rfl)⟩)
  obtain ⟨s2, v2, E2⟩ := own_exa na1
  have F2 := own_fldint v2 na29
  have S2 := Sta.start v2 (Or.inr ⟨hw _ (List.mem_of_getElem? (i := 3) rfl), hw _ (List.mem_of_getElem? (i := 7) rfl)⟩)
  obtain ⟨s3, v3, E3⟩ := own_exa na2
  have F3 := own_fldint v3 na31
  have S3 := Sta.start v3 (Or.inr ⟨hw _ (List.mem_of_getElem? (i := 3) rfl), hw _ (List.mem_of_getElem? (i := 9) rfl)⟩)
  obtain ⟨s4, v4, E4⟩ := own_exa na3
  have F4 := own_fldint v4 na33
  have S4 := Sta.start v4 (Or.inr ⟨hw _ (List.mem_of_getElem? (i := 3) rfl), hw _ (List.mem_of_getElem? (i := 11) rfl)⟩)
  obtain ⟨s5, v5, E5⟩ := own_exa na4
  have F5 := own_fldint v5 na35
  have S5 := Sta.start v5 (Or.inr ⟨hw _ (List.mem_of_getElem? (i := 3) rfl), hw _ (List.mem_of_getElem? (i := 13) rfl)⟩)
  obtain ⟨s6, v6, E6⟩ := own_exa na5
  have F6 := own_fldint v6 na37
  have S6 := Sta.start v6 (Or.inr ⟨hw _ (List.mem_of_getElem? (i := 3) rfl), hw _ (List.mem_of_getElem? (i := 15) rfl)⟩)
  obtain ⟨s7, v7, E7⟩ := own_exa na6
  have F7 := own_fldint v7 na39
  have S7 := Sta.start v7 (Or.inr ⟨hw _ (List.mem_of_getElem? (i := 3) rfl), hw _ (List.mem_of_getElem? (i := 17) rfl)⟩)
  obtain ⟨s8, v8, E8⟩ := own_exa na7
  have F8 := own_fldint v8 na41
  have S8 := Sta.start v8 (Or.inr ⟨hw _ (List.mem_of_getElem? (i := 3) rfl), hw _ (List.mem_of_getElem? (i := 19) rfl)⟩)
  obtain ⟨s9, v9, E9⟩ := own_exa na8
  have F9 := own_fldint v9 na43
  have S9 := Sta.start v9 (Or.inr ⟨hw _ (List.mem_of_getElem? (i := 3) rfl), hw _ (List.mem_of_getElem? (i := 21) rfl)⟩)
  obtain ⟨s10, v10, E10⟩ := own_exa na9
  have F10 := own_fldint v10 na45
  have S10 := Sta.start v10 (Or.inr ⟨hw _ (List.mem_of_getElem? (i := 3) rfl), hw _ (List.mem_of_getElem? (i := 23) rfl)⟩)
  obtain ⟨s11, v11, E11⟩ := own_exa na10
  have F11 := own_fldint v11 na47
  have S11 := Sta.start v11 (Or.inr ⟨hw _ (List.mem_of_getElem? (i := 3) rfl), hw _ (List.mem_of_getElem? (i := 25) rfl)⟩)
  obtain ⟨s12, v12, E12⟩ := own_exa na11
  have F12 := own_fldint v12 na49
  have S12 := Sta.start v12 (Or.inr ⟨hw _ (List.mem_of_getElem? (i := 3) rfl), hw _ (List.mem_of_getElem? (i := 27) rfl)⟩)
  obtain ⟨s13, v13, E13⟩ := own_exa na12
  have F13 := own_fldint v13 na51
  have S13 := Sta.start v13 (Or.inr ⟨hw _ (List.mem_of_getElem? (i := 3) rfl), hw _ (List.mem_of_getElem? (i := 29) rfl)⟩)
  obtain ⟨s14, v14, E14⟩ := own_exa na13
  have F14 := own_fldint v14 na53
  have S14 := Sta.start v14 (Or.inr ⟨hw _ (List.mem_of_getElem? (i := 3) rfl), hw _ (List.mem_of_getElem? (i := 31) rfl)⟩)
  obtain ⟨s15, v15, E15⟩ := own_exa na14
  have F15 := own_fldint v15 na55
  have S15 := Sta.start v15 (Or.inr ⟨hw _ (List.mem_of_getElem? (i := 3) rfl), hw _ (List.mem_of_getElem? (i := 33) rfl)⟩)
  obtain ⟨s16, v16, E16⟩ := own_exa na15
  have F16 := own_fldint v16 na57
  have S16 := Sta.start v16 (Or.inr ⟨hw _ (List.mem_of_getElem? (i := 3) rfl), hw _ (List.mem_of_getElem? (i := 35) rfl)⟩)
  obtain ⟨s17, v17, E17⟩ := own_exa na16
  have F17 := own_fldint v17 na59
  have S17 := Sta.start v17 (Or.inr ⟨hw _ (List.mem_of_getElem? (i := 3) rfl), hw _ (List.mem_of_getElem? (i := 37) rfl)⟩)
  obtain ⟨s18, v18, E18⟩ := own_exa na17
  have F18 := own_fldint v18 na61
  have S18 := Sta.start v18 (Or.inr ⟨hw _ (List.mem_of_getElem? (i := 3) rfl), hw _ (List.mem_of_getElem? (i := 39) rfl)⟩)
  obtain ⟨s19, v19, E19⟩ := own_exa na18
  have F19 := own_fldint v19 na63
  have S19 := Sta.start v19 (Or.inr ⟨hw _ (List.mem_of_getElem? (i := 3) rfl), hw _ (List.mem_of_getElem? (i := 41) rfl)⟩)
  obtain ⟨s20, v20, E20⟩ := own_exa na19
  have F20 := own_fldint v20 na65
  have S20 := Sta.start v20 (Or.inr ⟨hw _ (List.mem_of_getElem? (i := 3) rfl), hw _ (List.mem_of_getElem? (i := 43) rfl)⟩)
  obtain ⟨s21, v21, E21⟩ := own_exa na20
  have F21 := own_fldint v21 na67
  have S21 := Sta.start v21 (Or.inr ⟨hw _ (List.mem_of_getElem? (i := 3) rfl), hw _ (List.mem_of_getElem? (i := 45) rfl)⟩)
  obtain ⟨s22, v22, E22⟩ := own_exa na21
  have F22 := own_fldint v22 na69
  have S22 := Sta.start v22 (Or.inr ⟨hw _ (List.mem_of_getElem? (i := 3) rfl), hw _ (List.mem_of_getElem? (i := 47) rfl)⟩)
  obtain ⟨s23, v23, E23⟩ := own_exa na22
  have F23 := own_fldint v23 na71
  have S23 := Sta.start v23 (Or.inr ⟨hw _ (List.mem_of_getElem? (i := 3) rfl), hw _ (List.mem_of_getElem? (i := 49) rfl)⟩)
  obtain ⟨s24, v24, E24⟩ := own_exa na23
  have F24 := own_fldint v24 na73
  have S24 := Sta.start v24 (Or.inr ⟨hw _ (List.mem_of_getElem? (i := 3) rfl), hw _ (List.mem_of_getElem? (i := 51) rfl)⟩)
  obtain ⟨ka, kcl, vK, AK, zK, lK⟩ := own_arr na24 na25
  have SK := Sta.start vK (Or.inr ⟨hw _ (List.mem_of_getElem? (i := 3) rfl), hw _ (List.mem_of_getElem? (i := 56) rfl)⟩)
  have VK : Arv s s.heap ka kcl.cls (.object "com/example/don_valley/donvalley/protocol/Frame$Kind") (24 : Int32) [(.ref s1), (.ref s2), (.ref s3), (.ref s4), (.ref s5), (.ref s6), (.ref s7), (.ref s8), (.ref s9), (.ref s10), (.ref s11), (.ref s12), (.ref s13), (.ref s14), (.ref s15), (.ref s16), (.ref s17), (.ref s18), (.ref s19), (.ref s20), (.ref s21), (.ref s22), (.ref s23), (.ref s24)] .null := Arv.start hfit AK zK lK (by decide) rfl ⟨own_elemR vK AK v1 na26, own_elemR vK AK v2 na28, own_elemR vK AK v3 na30, own_elemR vK AK v4 na32, own_elemR vK AK v5 na34, own_elemR vK AK v6 na36, own_elemR vK AK v7 na38, own_elemR vK AK v8 na40, own_elemR vK AK v9 na42, own_elemR vK AK v10 na44, own_elemR vK AK v11 na46, own_elemR vK AK v12 na48, own_elemR vK AK v13 na50, own_elemR vK AK v14 na52, own_elemR vK AK v15 na54, own_elemR vK AK v16 na56, own_elemR vK AK v17 na58, own_elemR vK AK v18 na60, own_elemR vK AK v19 na62, own_elemR vK AK v20 na64, own_elemR vK AK v21 na66, own_elemR vK AK v22 na68, own_elemR vK AK v23 na70, own_elemR vK AK v24 na72, trivial⟩
  obtain ⟨n, o, h1, h2, h3, _, L, rfl, ⟨rfl, N⟩, hq⟩ := own_law l s _ hw tables_1 i0 ka kcl.cls s1 s2 s3 s4 s5 s6 s7 s8 s9 s10 s11 s12 s13 s14 s15 s16 s17 s18 s19 s20 s21 s22 s23 s24 s.heap s.heap.size (Nat.le_refl _) SK VK F1 F2 F3 F4 F5 F6 F7 F8 F9 F10 F11 F12 F13 F14 F15 F16 F17 F18 F19 F20 F21 F22 F23 F24 S1 S2 S3 S4 S5 S6 S7 S8 S9 S10 S11 S12 S13 S14 S15 S16 S17 S18 S19 S20 S21 S22 S23 S24 E1 E2 E3 E4 E5 E6 E7 E8 E9 E10 E11 E12 E13 E14 E15 E16 E17 E18 E19 E20 E21 E22 E23 E24 p e ha hc hk s m _ below hf ((Spec.applies_iff_loose hf).mp happ).1 ⟨rfl, State.Warmed39.refl s, rfl⟩ trivial
  refine ⟨n, _, h1, h2, h3, hpost _ _ _ _ _ _ ⟨Cond.after_iff.mpr rfl, Cond.after_iff.mpr (eq_i res_at (Term.int_eval (1)) rfl), trivial⟩ ⟨hq.1, hq.2.1, (hq.2.2.sift fun y hy => Or.inr (N y hy)).mono (by decide) (by decide)⟩⟩
theorem main_1_1 : Claimed_1_1 := comes_1 fun _ _ _ _ _ _ h hF => ⟨h.1, hF⟩
theorem main_1_2 : Claimed_1_2 := comes_1 fun _ _ _ _ _ _ h hF => ⟨h.2.1, hF⟩
end Jvm.Pilot.@@N@@
namespace Jvm.Pilot.@@N@@
open Jvm Jvm.ClassFile Sem Op Lib Jvm.Free Jvm.Stand Jvm.Pilot.@@N@@.Jvm.D
/-! MADE BY PROGRAM (witnessworld.py) out of the Statement's table words and the real class files: 13 classes; the members and pool entries that the words name. The judged class is class 1, her method 1. -/
namespace start1
open Jvm.ClassFile
def u (s : String) : CpInfo := .utf8 (stringToUtf16 s)
/-- a pool by its gaps: so many unusable entries, then the entry; so many at the end -/
def gap : Nat → List CpInfo → List CpInfo
  | 0, r => r
  | n + 1, r => .unusable :: gap n r
def poolList (es : List (Nat × CpInfo)) (last : Nat) : List CpInfo := es.foldr (fun e r => gap e.1 (e.2 :: r)) (gap last [])
def pool (es : List (Nat × CpInfo)) (last : Nat) : Array CpInfo := ⟨poolList es last⟩
def fileOf (pool : Array CpInfo) (this : Nat) (attrs : Array Attribute := #[]) (ms : Array MethodInfo := #[]) (fl : Nat := 33) (sup : Nat := 0) (ifs : Array Nat := #[]) (fds : Array FieldInfo := #[]) : ClassFile where
  minorVersion := 0
  majorVersion := 65
  constantPool := pool
  accessFlags := fl
  thisClass := this
  superClass := sup
  interfaces := ifs
  fields := fds
  methods := ms
  attributes := attrs
def plain (name : String) (sup : Option ClassId) : Class where
  name := name
  kind := .ordinary
  loader := none
  accessFlags := 33
  super := sup
  interfaces := #[]
  cf := none
  fields := #[]
  methods := #[]
  instanceTypes := #[]
  staticTypes := #[]
  resolved := #[]
  callSites := []
  init := .initialized
  statics := none
  mirror := none

def pool0 : Array CpInfo := pool [(5, u "<init>"), (0, u "()V"), (1, .class_ 10), (1, u "java/lang/Object")] 113

def k0m0 : Method := { name := "<init>", desc := "()V", sig := { parameters := [], returnType := none }, accessFlags := 1, code := none }
/-- java/lang/Object -/
def k0 : Class := { plain "java/lang/Object" none with
  accessFlags := 33
  interfaces := #[]
  cf := some (fileOf pool0 8 #[] #[{ accessFlags := 1, nameIndex := 5, descriptorIndex := 6, attributes := #[] }] 33 0 #[] #[])
  fields := #[]
  methods := #[k0m0]
  instanceTypes := #[]
  staticTypes := #[]
  resolved := Array.replicate 124 none
  statics := none }

def pool1 : Array CpInfo := pool [(2, .class_ 4), (1, u "java/lang/Object"), (0, u "<init>"), (0, u "()V"), (0, .class_ 8), (0, u "com/example/don_valley/donvalley/protocol/Frame$Kind"), (0, .fieldref 7 10), (0, .nameAndType 11 12), (0, u "SUBSCRIBE"), (0, u "Lcom/example/don_valley/donvalley/protocol/Frame$Kind;"), (0, .fieldref 7 14), (0, .nameAndType 15 12), (0, u "ADVERTISE"), (0, .fieldref 7 17), (0, .nameAndType 18 12), (0, u "PUBLISH"), (0, .fieldref 7 20), (0, .nameAndType 21 12), (0, u "SYNC"), (0, .fieldref 7 23), (0, .nameAndType 24 12), (0, u "ACCEPTED"), (0, .fieldref 7 26), (0, .nameAndType 27 12), (0, u "REFUSED"), (0, .fieldref 7 29), (0, .nameAndType 30 12), (0, u "PUBLICATION"), (0, .fieldref 7 32), (0, .nameAndType 33 12), (0, u "LINK"), (0, .fieldref 7 35), (0, .nameAndType 36 12), (0, u "UNSUBSCRIBE"), (0, .fieldref 7 38), (0, .nameAndType 39 12), (0, u "UNADVERTISE"), (0, .fieldref 7 41), (0, .nameAndType 42 12), (0, u "STATUS"), (0, .fieldref 7 44), (0, .nameAndType 45 12), (0, u "ADVERTISED"), (0, .fieldref 7 47), (0, .nameAndType 48 12), (0, u "SUBSCRIBED"), (0, .fieldref 7 50), (0, .nameAndType 51 12), (0, u "MOVE"), (0, .fieldref 7 53), (0, .nameAndType 54 12), (0, u "MOVED"), (0, .fieldref 7 56), (0, .nameAndType 57 12), (0, u "ARRIVE"), (0, .fieldref 7 59), (0, .nameAndType 60 12), (0, u "TRACE_PUBLISH"), (0, .fieldref 7 62), (0, .nameAndType 63 12), (0, u "TRACE"), (0, .fieldref 7 65), (0, .nameAndType 66 12), (0, u "TRACED"), (0, .fieldref 7 68), (0, .nameAndType 69 12), (0, u "PLACEMENT"), (0, .fieldref 7 71), (0, .nameAndType 72 12), (0, u "SETTLE"), (0, .fieldref 7 74), (0, .nameAndType 75 12), (0, u "SETTLED"), (0, .fieldref 7 77), (0, .nameAndType 78 12), (0, u "LOAD"), (0, .fieldref 7 80), (0, .nameAndType 81 12), (0, u "TAKING"), (0, .methodref 7 83), (0, .nameAndType 84 85), (0, u "forCode"), (0, u "(B)Lcom/example/don_valley/donvalley/protocol/Frame$Kind;"), (0, .class_ 87), (0, u "com/example/don_valley/donvalley/protocol/KindForCodePinLaw"), (2, u "law"), (0, u "(I)Z")] 9

def k1m0 : Method := { name := "<init>", desc := "()V", sig := { parameters := [], returnType := none }, accessFlags := 1, code := none }
def k1c1 : Code := { maxStack := 4, maxLocals := 5, code := code, exceptionTable := #[], attributes := #[] }
def k1m1 : Method := { name := "law", desc := "(I)Z", sig := { parameters := [.int], returnType := some .boolean }, accessFlags := 9, code := some k1c1 }
/-- com/example/don_valley/donvalley/protocol/KindForCodePinLaw -/
def k1 : Class := { plain "com/example/don_valley/donvalley/protocol/KindForCodePinLaw" (some 0) with
  accessFlags := 49
  interfaces := #[]
  cf := some (fileOf pool1 86 #[] #[{ accessFlags := 1, nameIndex := 5, descriptorIndex := 6, attributes := #[] }, { accessFlags := 9, nameIndex := 90, descriptorIndex := 91, attributes := #[] }] 49 2 #[] #[])
  fields := #[]
  methods := #[k1m0, k1m1]
  instanceTypes := #[]
  staticTypes := #[]
  resolved := Array.replicate 101 none
  statics := none }

def pool2 : Array CpInfo := pool [(1, .class_ 2), (0, u "java/lang/constant/Constable"), (0, .class_ 4), (0, u "java/lang/Object")] 6

/-- java/lang/constant/Constable -/
def k2 : Class := { plain "java/lang/constant/Constable" (some 0) with
  accessFlags := 1537
  interfaces := #[]
  cf := some (fileOf pool2 1 #[] #[] 1537 3 #[] #[])
  fields := #[]
  methods := #[]
  instanceTypes := #[]
  staticTypes := #[]
  resolved := Array.replicate 11 none
  statics := none }

def pool3 : Array CpInfo := pool [(1, .class_ 2), (0, u "java/lang/Comparable"), (0, .class_ 4), (0, u "java/lang/Object")] 7

/-- java/lang/Comparable -/
def k3 : Class := { plain "java/lang/Comparable" (some 0) with
  accessFlags := 1537
  interfaces := #[]
  cf := some (fileOf pool3 1 #[] #[] 1537 3 #[] #[])
  fields := #[]
  methods := #[]
  instanceTypes := #[]
  staticTypes := #[]
  resolved := Array.replicate 12 none
  statics := none }

def pool4 : Array CpInfo := pool [(1, .class_ 2), (0, u "java/io/Serializable"), (0, .class_ 4), (0, u "java/lang/Object")] 2

/-- java/io/Serializable -/
def k4 : Class := { plain "java/io/Serializable" (some 0) with
  accessFlags := 1537
  interfaces := #[]
  cf := some (fileOf pool4 1 #[] #[] 1537 3 #[] #[])
  fields := #[]
  methods := #[]
  instanceTypes := #[]
  staticTypes := #[]
  resolved := Array.replicate 7 none
  statics := none }

def pool5 : Array CpInfo := pool [(2, .class_ 4), (1, u "java/lang/Enum"), (0, u "name"), (0, u "Ljava/lang/String;"), (2, u "ordinal"), (0, u "I"), (1, .class_ 14), (1, u "java/lang/Object"), (4, u "hash"), (86, .class_ 108), (1, u "java/lang/Enum$EnumDesc"), (2, .class_ 112), (0, u "java/lang/constant/Constable"), (0, .class_ 114), (0, u "java/lang/Comparable"), (0, .class_ 116), (0, u "java/io/Serializable")] 87

/-- java/lang/Enum -/
def k5 : Class := { plain "java/lang/Enum" (some 0) with
  accessFlags := 1057
  interfaces := #[2, 3, 4]
  cf := some (fileOf pool5 2 #[.nestMembers #[106]] #[] 1057 12 #[111, 113, 115] #[{ accessFlags := 18, nameIndex := 5, descriptorIndex := 6, attributes := #[] }, { accessFlags := 18, nameIndex := 9, descriptorIndex := 10, attributes := #[] }, { accessFlags := 2, nameIndex := 19, descriptorIndex := 10, attributes := #[] }])
  fields := #[{ name := "name", type := (.object "java/lang/String"), accessFlags := 18, slot := 0, constantValue := 0 }, { name := "ordinal", type := .int, accessFlags := 18, slot := 1, constantValue := 0 }, { name := "hash", type := .int, accessFlags := 2, slot := 2, constantValue := 0 }]
  methods := #[]
  instanceTypes := #[(.object "java/lang/String"), .int, .int]
  staticTypes := #[]
  resolved := Array.replicate 204 none
  statics := none }

def pool6 : Array CpInfo := pool [(1, .class_ 2), (0, u "com/example/don_valley/donvalley/protocol/Frame$Kind"), (2, u "SUBSCRIBE"), (0, u "Lcom/example/don_valley/donvalley/protocol/Frame$Kind;"), (2, u "ADVERTISE"), (2, u "PUBLISH"), (2, u "SYNC"), (2, u "ACCEPTED"), (2, u "REFUSED"), (2, u "PUBLICATION"), (2, u "LINK"), (2, u "UNSUBSCRIBE"), (2, u "UNADVERTISE"), (2, u "STATUS"), (2, u "ADVERTISED"), (2, u "SUBSCRIBED"), (2, u "MOVE"), (2, u "MOVED"), (2, u "ARRIVE"), (2, u "TRACE_PUBLISH"), (2, u "TRACE"), (2, u "TRACED"), (2, u "PLACEMENT"), (2, u "SETTLE"), (2, u "SETTLED"), (2, u "LOAD"), (2, u "TAKING"), (2, u "$VALUES"), (0, u "[Lcom/example/don_valley/donvalley/protocol/Frame$Kind;"), (6, .class_ 88), (1, u "java/lang/Enum"), (9, .fieldref 1 99), (0, .nameAndType 100 101), (0, u "code"), (0, u "B"), (2, u "answered"), (2, u "carriesText"), (0, u "Z"), (4, .fieldref 1 114), (0, .nameAndType 115 79), (0, u "KINDS"), (41, u "TAKING_AFTER"), (0, u "Ljava/time/Duration;"), (3, u "LOADS_HELD"), (0, u "I"), (15, u "forCode"), (0, u "(B)Lcom/example/don_valley/donvalley/protocol/Frame$Kind;"), (6, .class_ 188), (0, u "com/example/don_valley/donvalley/protocol/Frame")] 2

def k6c0 : Code := { maxStack := 2, maxLocals := 5, code := prog_60_method_9_code, exceptionTable := #[], attributes := #[] }
def k6m0 : Method := { name := "forCode", desc := "(B)Lcom/example/don_valley/donvalley/protocol/Frame$Kind;", sig := { parameters := [.byte], returnType := some (.object "com/example/don_valley/donvalley/protocol/Frame$Kind") }, accessFlags := 8, code := some k6c0 }
/-- com/example/don_valley/donvalley/protocol/Frame$Kind -/
def k6 : Class := { plain "com/example/don_valley/donvalley/protocol/Frame$Kind" (some 5) with
  accessFlags := 16433
  interfaces := #[]
  cf := some (fileOf pool6 1 #[.nestHost 187] #[{ accessFlags := 8, nameIndex := 179, descriptorIndex := 180, attributes := #[] }] 16433 86 #[] #[{ accessFlags := 16409, nameIndex := 5, descriptorIndex := 6, attributes := #[] }, { accessFlags := 16409, nameIndex := 9, descriptorIndex := 6, attributes := #[] }, { accessFlags := 16409, nameIndex := 12, descriptorIndex := 6, attributes := #[] }, { accessFlags := 16409, nameIndex := 15, descriptorIndex := 6, attributes := #[] }, { accessFlags := 16409, nameIndex := 18, descriptorIndex := 6, attributes := #[] }, { accessFlags := 16409, nameIndex := 21, descriptorIndex := 6, attributes := #[] }, { accessFlags := 16409, nameIndex := 24, descriptorIndex := 6, attributes := #[] }, { accessFlags := 16409, nameIndex := 27, descriptorIndex := 6, attributes := #[] }, { accessFlags := 16409, nameIndex := 30, descriptorIndex := 6, attributes := #[] }, { accessFlags := 16409, nameIndex := 33, descriptorIndex := 6, attributes := #[] }, { accessFlags := 16409, nameIndex := 36, descriptorIndex := 6, attributes := #[] }, { accessFlags := 16409, nameIndex := 39, descriptorIndex := 6, attributes := #[] }, { accessFlags := 16409, nameIndex := 42, descriptorIndex := 6, attributes := #[] }, { accessFlags := 16409, nameIndex := 45, descriptorIndex := 6, attributes := #[] }, { accessFlags := 16409, nameIndex := 48, descriptorIndex := 6, attributes := #[] }, { accessFlags := 16409, nameIndex := 51, descriptorIndex := 6, attributes := #[] }, { accessFlags := 16409, nameIndex := 54, descriptorIndex := 6, attributes := #[] }, { accessFlags := 16409, nameIndex := 57, descriptorIndex := 6, attributes := #[] }, { accessFlags := 16409, nameIndex := 60, descriptorIndex := 6, attributes := #[] }, { accessFlags := 16409, nameIndex := 63, descriptorIndex := 6, attributes := #[] }, { accessFlags := 16409, nameIndex := 66, descriptorIndex := 6, attributes := #[] }, { accessFlags := 16409, nameIndex := 69, descriptorIndex := 6, attributes := #[] }, { accessFlags := 16409, nameIndex := 72, descriptorIndex := 6, attributes := #[] }, { accessFlags := 16409, nameIndex := 75, descriptorIndex := 6, attributes := #[] }, { accessFlags := 25, nameIndex := 162, descriptorIndex := 163, attributes := #[] }, { accessFlags := 25, nameIndex := 157, descriptorIndex := 158, attributes := #[] }, { accessFlags := 26, nameIndex := 115, descriptorIndex := 79, attributes := #[] }, { accessFlags := 18, nameIndex := 100, descriptorIndex := 101, attributes := #[] }, { accessFlags := 18, nameIndex := 104, descriptorIndex := 6, attributes := #[] }, { accessFlags := 18, nameIndex := 107, descriptorIndex := 108, attributes := #[] }, { accessFlags := 4122, nameIndex := 78, descriptorIndex := 79, attributes := #[] }])
  fields := #[{ name := "SUBSCRIBE", type := (.object "com/example/don_valley/donvalley/protocol/Frame$Kind"), accessFlags := 16409, slot := 0, constantValue := 0 }, { name := "ADVERTISE", type := (.object "com/example/don_valley/donvalley/protocol/Frame$Kind"), accessFlags := 16409, slot := 1, constantValue := 0 }, { name := "PUBLISH", type := (.object "com/example/don_valley/donvalley/protocol/Frame$Kind"), accessFlags := 16409, slot := 2, constantValue := 0 }, { name := "SYNC", type := (.object "com/example/don_valley/donvalley/protocol/Frame$Kind"), accessFlags := 16409, slot := 3, constantValue := 0 }, { name := "ACCEPTED", type := (.object "com/example/don_valley/donvalley/protocol/Frame$Kind"), accessFlags := 16409, slot := 4, constantValue := 0 }, { name := "REFUSED", type := (.object "com/example/don_valley/donvalley/protocol/Frame$Kind"), accessFlags := 16409, slot := 5, constantValue := 0 }, { name := "PUBLICATION", type := (.object "com/example/don_valley/donvalley/protocol/Frame$Kind"), accessFlags := 16409, slot := 6, constantValue := 0 }, { name := "LINK", type := (.object "com/example/don_valley/donvalley/protocol/Frame$Kind"), accessFlags := 16409, slot := 7, constantValue := 0 }, { name := "UNSUBSCRIBE", type := (.object "com/example/don_valley/donvalley/protocol/Frame$Kind"), accessFlags := 16409, slot := 8, constantValue := 0 }, { name := "UNADVERTISE", type := (.object "com/example/don_valley/donvalley/protocol/Frame$Kind"), accessFlags := 16409, slot := 9, constantValue := 0 }, { name := "STATUS", type := (.object "com/example/don_valley/donvalley/protocol/Frame$Kind"), accessFlags := 16409, slot := 10, constantValue := 0 }, { name := "ADVERTISED", type := (.object "com/example/don_valley/donvalley/protocol/Frame$Kind"), accessFlags := 16409, slot := 11, constantValue := 0 }, { name := "SUBSCRIBED", type := (.object "com/example/don_valley/donvalley/protocol/Frame$Kind"), accessFlags := 16409, slot := 12, constantValue := 0 }, { name := "MOVE", type := (.object "com/example/don_valley/donvalley/protocol/Frame$Kind"), accessFlags := 16409, slot := 13, constantValue := 0 }, { name := "MOVED", type := (.object "com/example/don_valley/donvalley/protocol/Frame$Kind"), accessFlags := 16409, slot := 14, constantValue := 0 }, { name := "ARRIVE", type := (.object "com/example/don_valley/donvalley/protocol/Frame$Kind"), accessFlags := 16409, slot := 15, constantValue := 0 }, { name := "TRACE_PUBLISH", type := (.object "com/example/don_valley/donvalley/protocol/Frame$Kind"), accessFlags := 16409, slot := 16, constantValue := 0 }, { name := "TRACE", type := (.object "com/example/don_valley/donvalley/protocol/Frame$Kind"), accessFlags := 16409, slot := 17, constantValue := 0 }, { name := "TRACED", type := (.object "com/example/don_valley/donvalley/protocol/Frame$Kind"), accessFlags := 16409, slot := 18, constantValue := 0 }, { name := "PLACEMENT", type := (.object "com/example/don_valley/donvalley/protocol/Frame$Kind"), accessFlags := 16409, slot := 19, constantValue := 0 }, { name := "SETTLE", type := (.object "com/example/don_valley/donvalley/protocol/Frame$Kind"), accessFlags := 16409, slot := 20, constantValue := 0 }, { name := "SETTLED", type := (.object "com/example/don_valley/donvalley/protocol/Frame$Kind"), accessFlags := 16409, slot := 21, constantValue := 0 }, { name := "LOAD", type := (.object "com/example/don_valley/donvalley/protocol/Frame$Kind"), accessFlags := 16409, slot := 22, constantValue := 0 }, { name := "TAKING", type := (.object "com/example/don_valley/donvalley/protocol/Frame$Kind"), accessFlags := 16409, slot := 23, constantValue := 0 }, { name := "LOADS_HELD", type := .int, accessFlags := 25, slot := 24, constantValue := 0 }, { name := "TAKING_AFTER", type := (.object "java/time/Duration"), accessFlags := 25, slot := 25, constantValue := 0 }, { name := "KINDS", type := (.array (.object "com/example/don_valley/donvalley/protocol/Frame$Kind")), accessFlags := 26, slot := 26, constantValue := 0 }, { name := "code", type := .byte, accessFlags := 18, slot := 3, constantValue := 0 }, { name := "answered", type := (.object "com/example/don_valley/donvalley/protocol/Frame$Kind"), accessFlags := 18, slot := 4, constantValue := 0 }, { name := "carriesText", type := .boolean, accessFlags := 18, slot := 5, constantValue := 0 }, { name := "$VALUES", type := (.array (.object "com/example/don_valley/donvalley/protocol/Frame$Kind")), accessFlags := 4122, slot := 27, constantValue := 0 }]
  methods := #[k6m0]
  instanceTypes := #[(.object "java/lang/String"), .int, .int, .byte, (.object "com/example/don_valley/donvalley/protocol/Frame$Kind"), .boolean]
  staticTypes := #[(.object "com/example/don_valley/donvalley/protocol/Frame$Kind"), (.object "com/example/don_valley/donvalley/protocol/Frame$Kind"), (.object "com/example/don_valley/donvalley/protocol/Frame$Kind"), (.object "com/example/don_valley/donvalley/protocol/Frame$Kind"), (.object "com/example/don_valley/donvalley/protocol/Frame$Kind"), (.object "com/example/don_valley/donvalley/protocol/Frame$Kind"), (.object "com/example/don_valley/donvalley/protocol/Frame$Kind"), (.object "com/example/don_valley/donvalley/protocol/Frame$Kind"), (.object "com/example/don_valley/donvalley/protocol/Frame$Kind"), (.object "com/example/don_valley/donvalley/protocol/Frame$Kind"), (.object "com/example/don_valley/donvalley/protocol/Frame$Kind"), (.object "com/example/don_valley/donvalley/protocol/Frame$Kind"), (.object "com/example/don_valley/donvalley/protocol/Frame$Kind"), (.object "com/example/don_valley/donvalley/protocol/Frame$Kind"), (.object "com/example/don_valley/donvalley/protocol/Frame$Kind"), (.object "com/example/don_valley/donvalley/protocol/Frame$Kind"), (.object "com/example/don_valley/donvalley/protocol/Frame$Kind"), (.object "com/example/don_valley/donvalley/protocol/Frame$Kind"), (.object "com/example/don_valley/donvalley/protocol/Frame$Kind"), (.object "com/example/don_valley/donvalley/protocol/Frame$Kind"), (.object "com/example/don_valley/donvalley/protocol/Frame$Kind"), (.object "com/example/don_valley/donvalley/protocol/Frame$Kind"), (.object "com/example/don_valley/donvalley/protocol/Frame$Kind"), (.object "com/example/don_valley/donvalley/protocol/Frame$Kind"), .int, (.object "java/time/Duration"), (.array (.object "com/example/don_valley/donvalley/protocol/Frame$Kind")), (.array (.object "com/example/don_valley/donvalley/protocol/Frame$Kind"))]
  resolved := Array.replicate 191 none
  statics := some 0 }

def pool7 : Array CpInfo := pool [(1, u "java/lang/Cloneable"), (0, .class_ 1), (0, u "java/lang/Object"), (0, .class_ 3)] 3

/-- java/lang/Cloneable -/
def k7 : Class := { plain "java/lang/Cloneable" (some 0) with
  accessFlags := 1537
  interfaces := #[]
  cf := some (fileOf pool7 2 #[] #[] 1537 4 #[] #[])
  fields := #[]
  methods := #[]
  instanceTypes := #[]
  staticTypes := #[]
  resolved := Array.replicate 8 none
  statics := none }

/-- the primitive byte -/
def k8 : Class := { plain "byte" none with kind := .primitive 'B', accessFlags := 0x411 }
/-- [B -/
def k9 : Class := { plain "[B" (some 0) with kind := .array 8 .byte, interfaces := #[7, 4], accessFlags := 1041 }

/-- the primitive int -/
def k10 : Class := { plain "int" none with kind := .primitive 'I', accessFlags := 0x411 }
/-- [I -/
def k11 : Class := { plain "[I" (some 0) with kind := .array 10 .int, interfaces := #[7, 4], accessFlags := 1041 }

/-- [Lcom/example/don_valley/donvalley/protocol/Frame$Kind; -/
def k12 : Class := { plain "[Lcom/example/don_valley/donvalley/protocol/Frame$Kind;" (some 0) with kind := .array 6 (.object "com/example/don_valley/donvalley/protocol/Frame$Kind"), interfaces := #[7, 4], accessFlags := 1041 }

def heap : Heap := #[{ cls := 6, slots := #[.ref 2, .ref 3, .ref 4, .ref 5, .ref 6, .ref 7, .ref 8, .ref 9, .ref 10, .ref 11, .ref 12, .ref 13, .ref 14, .ref 15, .ref 16, .ref 17, .ref 18, .ref 19, .ref 20, .ref 21, .ref 22, .ref 23, .ref 24, .ref 25, .int 0, .null, .ref 1, .null], vm := .statics 6 },
  { cls := 12, slots := #[.ref 2, .ref 3, .ref 4, .ref 5, .ref 6, .ref 7, .ref 8, .ref 9, .ref 10, .ref 11, .ref 12, .ref 13, .ref 14, .ref 15, .ref 16, .ref 17, .ref 18, .ref 19, .ref 20, .ref 21, .ref 22, .ref 23, .ref 24, .ref 25], vm := .none },
  { cls := 6, slots := #[.null, .int 0, .int 0, .int 1, .null, .int 0], vm := .none },
  { cls := 6, slots := #[.null, .int 1, .int 0, .int 2, .null, .int 0], vm := .none },
  { cls := 6, slots := #[.null, .int 2, .int 0, .int 3, .null, .int 0], vm := .none },
  { cls := 6, slots := #[.null, .int 3, .int 0, .int 4, .null, .int 0], vm := .none },
  { cls := 6, slots := #[.null, .int 4, .int 0, .int 5, .null, .int 0], vm := .none },
  { cls := 6, slots := #[.null, .int 5, .int 0, .int 6, .null, .int 0], vm := .none },
  { cls := 6, slots := #[.null, .int 6, .int 0, .int 7, .null, .int 0], vm := .none },
  { cls := 6, slots := #[.null, .int 7, .int 0, .int 8, .null, .int 0], vm := .none },
  { cls := 6, slots := #[.null, .int 8, .int 0, .int 9, .null, .int 0], vm := .none },
  { cls := 6, slots := #[.null, .int 9, .int 0, .int 10, .null, .int 0], vm := .none },
  { cls := 6, slots := #[.null, .int 10, .int 0, .int 11, .null, .int 0], vm := .none },
  { cls := 6, slots := #[.null, .int 11, .int 0, .int 12, .null, .int 0], vm := .none },
  { cls := 6, slots := #[.null, .int 12, .int 0, .int 13, .null, .int 0], vm := .none },
  { cls := 6, slots := #[.null, .int 13, .int 0, .int 14, .null, .int 0], vm := .none },
  { cls := 6, slots := #[.null, .int 14, .int 0, .int 15, .null, .int 0], vm := .none },
  { cls := 6, slots := #[.null, .int 15, .int 0, .int 16, .null, .int 0], vm := .none },
  { cls := 6, slots := #[.null, .int 16, .int 0, .int 17, .null, .int 0], vm := .none },
  { cls := 6, slots := #[.null, .int 17, .int 0, .int 18, .null, .int 0], vm := .none },
  { cls := 6, slots := #[.null, .int 18, .int 0, .int 19, .null, .int 0], vm := .none },
  { cls := 6, slots := #[.null, .int 19, .int 0, .int 20, .null, .int 0], vm := .none },
  { cls := 6, slots := #[.null, .int 20, .int 0, .int 21, .null, .int 0], vm := .none },
  { cls := 6, slots := #[.null, .int 21, .int 0, .int 22, .null, .int 0], vm := .none },
  { cls := 6, slots := #[.null, .int 22, .int 0, .int 23, .null, .int 0], vm := .none },
  { cls := 6, slots := #[.null, .int 23, .int 0, .int 24, .null, .int 0], vm := .none }]
def classes : Array Class := #[k0, k1, k2, k3, k4, k5, k6, k7, k8, k9, k10, k11, k12]
def interned : List (Array UInt16 × Addr) := []
def slotsUsed : Nat := 196
def theMethod : MethodId := ⟨1, 1⟩
def args0 : Array Value := #[.int 5]
def aboutOver (below : List Frame) : State where
  vm := { classes := classes, interned := interned.toArray }
  heap := heap
  slotsUsed := slotsUsed
  threads := #[{ frames := .invoking theMethod args0 :: below }]
def below0 : List Frame := [.native { method := ⟨0, 0⟩, args := #[] }]
def about1 : State := aboutOver below0
def p0 : Program := .bare "" "" ""
def e0 : Env := launch0.env 0 0 0
theorem w_frames : about1.frames = Frame.invoking theMethod args0 :: below0 := rfl
set_option maxRecDepth 65536 in
theorem w_args : argsFit about1.vm theMethod args0 = true := by decide +kernel
set_option maxRecDepth 65536 in
theorem w_heap : heapFits about1 = true := by decide +kernel
set_option maxRecDepth 65536 in
theorem w_runnable : about1.curStatus? = some .runnable := by decide +kernel
set_option maxRecDepth 65536 in
theorem w_alone : about1.alone = true := by decide +kernel
set_option maxRecDepth 65536 in
theorem w_named : about1.methodNamed? x = some theMethod := by decide +kernel
set_option maxRecDepth 65536 in
theorem w_hears : about1.hears theMethod below0 = true := by decide +kernel
set_option maxRecDepth 65536 in
theorem w_ripe : about1.ripe theMethod args0 below0 = true := by decide +kernel
theorem w_running : about1.status = .running := rfl
set_option maxRecDepth 65536 in
theorem w_room : about1.hasRoom e0.platform room_1 = true :=
  launch0.hasRoom_least _ room_1 (by decide +kernel) (by decide +kernel) (by decide +kernel) (by decide +kernel) (by decide +kernel) (by decide +kernel)
theorem allAtoms_all (ts : List Jvm.Cond) (a : Array Jvm.Value) (st : Jvm.State) : (allAtoms ts).before a st = ts.all (fun c => c.before a st) := by
  induction ts with
  | nil => rfl
  | cons c t ih =>
    show (Jvm.Cond.and c (allAtoms t)).before a st = _
    rw [Jvm.Cond.before_and, ih, List.all_cons]
def words1 : List Jvm.Cond := Jvm.Cond.code x code maxLocals ret :: tables_1
/-- a 'code' word, met by the world's own term for the bytes: nothing is compared byte by byte -/
theorem code_word {y : MethodName} {bytes : ByteArray} {mx : Nat} {rt : Option FieldType} {a : Array Value} {s : State} {m : MethodId} {meth : Method} {c : Code} (h1 : s.methodNamed? y = some m) (h2 : s.vm.method? m = some meth) (h3 : meth.code = some c) (h4 : c.code = bytes)
    (h5 : (c.maxLocals == mx && c.exceptionTable.isEmpty && decide (c.maxStack ≤ mostOperands) && decide (meth.sig.returnType = rt) && !meth.locks && decide (parseMethodDescriptor y.desc = some meth.sig)) = true) : (Jvm.Cond.code y bytes mx rt).before a s = true := by
  simp only [Bool.and_eq_true, beq_iff_eq, Bool.not_eq_true', decide_eq_true_eq] at h5
  obtain ⟨⟨⟨⟨⟨g1, g2⟩, g3⟩, g4⟩, g5⟩, g6⟩ := h5
  simp [Cond.before, Cond.holds, Cond.value, h1, h2, h3, h4, g1, g2, g3, g4, g5, g6]
def isCode : Jvm.Cond → Bool
  | .code _ _ _ _ => true
  | _ => false
theorem all_split {L : List Jvm.Cond} {P : Jvm.Cond → Bool} (h1 : L.all (fun c => isCode c || P c) = true) (h2 : ∀ c ∈ L.filter isCode, P c = true) : L.all P = true := by
  refine List.all_eq_true.mpr fun c hc => ?_
  have h := List.all_eq_true.mp h1 c hc
  rcases Bool.eq_false_or_eq_true (isCode c) with hi | hi
  · exact h2 c (List.mem_filter.mpr ⟨hc, hi⟩)
  · simpa [hi] using h
set_option maxRecDepth 65536 in
theorem w_c0 : (Jvm.Cond.code x code maxLocals ret).before args0 about1 = true := code_word (m := ⟨1, 1⟩) (meth := k1m1) (c := k1c1) (by decide +kernel) rfl rfl rfl (by decide +kernel)
set_option maxRecDepth 65536 in
theorem w_c1 : (Jvm.Cond.code ({ cls := "com/example/don_valley/donvalley/protocol/Frame$Kind", name := "forCode", desc := "(B)Lcom/example/don_valley/donvalley/protocol/Frame$Kind;" } : Jvm.MethodName) prog_60_method_9_code (5 : Nat) (Option.some (Jvm.ClassFile.FieldType.object "com/example/don_valley/donvalley/protocol/Frame$Kind"))).before args0 about1 = true := code_word (m := ⟨6, 0⟩) (meth := k6m0) (c := k6c0) (by decide +kernel) rfl rfl rfl (by decide +kernel)
def codes1 : List Jvm.Cond := [Jvm.Cond.code x code maxLocals ret, Jvm.Cond.code ({ cls := "com/example/don_valley/donvalley/protocol/Frame$Kind", name := "forCode", desc := "(B)Lcom/example/don_valley/donvalley/protocol/Frame$Kind;" } : Jvm.MethodName) prog_60_method_9_code (5 : Nat) (Option.some (Jvm.ClassFile.FieldType.object "com/example/don_valley/donvalley/protocol/Frame$Kind"))]
set_option maxRecDepth 65536 in
theorem codes_eq : words1.filter isCode = codes1 := rfl
theorem w_codes : ∀ c ∈ words1.filter isCode, c.before args0 about1 = true := by
  rw [codes_eq]
  intro c hc
  simp only [codes1, List.mem_cons, List.not_mem_nil, or_false] at hc
  rcases hc with rfl | rfl
  · exact w_c0
  · exact w_c1
set_option maxRecDepth 65536 in
theorem w_t1 : (words1.take 24).all (fun c => isCode c || c.before args0 about1) = true := by decide +kernel
set_option maxRecDepth 65536 in
theorem w_t2 : ((words1.drop 24).take 24).all (fun c => isCode c || c.before args0 about1) = true := by decide +kernel
set_option maxRecDepth 65536 in
theorem w_t3 : ((words1.drop 24).drop 24).all (fun c => isCode c || c.before args0 about1) = true := by decide +kernel
theorem w_tables : (allAtoms (Jvm.Cond.code x code maxLocals ret :: tables_1)).before args0 about1 = true := by
  rw [allAtoms_all]
  show words1.all (fun c => c.before args0 about1) = true
  refine all_split ?_ w_codes
  rw [← List.take_append_drop 24 words1, List.all_append, w_t1, ← List.take_append_drop 24 (words1.drop 24), List.all_append, w_t2, w_t3]
  rfl
set_option maxRecDepth 65536 in
theorem w_case : (Jvm.Cond.and given_1 narrow_1).before args0 about1 = true := by decide +kernel
theorem w_applies : (headSpec (Jvm.Cond.code x code maxLocals ret :: tables_1) room_1).applies x e0.platform about1 = true :=
  (Spec.applies_iff w_frames).mpr ⟨w_running, w_runnable, w_alone, w_named, w_hears, w_ripe, w_room, w_tables⟩
theorem atStart : AtStart classFile x code maxLocals ret World_1 tables_1 room_1 Calls_1 rest_1 Pre_1 launch0 p0 e0 about1 theMethod args0 below0 :=
  ⟨lists_1, trivial, launch0.admits_env _ _ _, launch0.least_env, fairChoices_fair.cas, fairChoices_fair.clock, w_frames, w_args, w_heap, w_applies, trivial, trivial, w_case⟩
end start1
theorem witness_1 : WitnessClaimed_1 := ⟨start1.p0, start1.e0, start1.about1, start1.theMethod, start1.args0, start1.below0, start1.atStart⟩
end Jvm.Pilot.@@N@@
