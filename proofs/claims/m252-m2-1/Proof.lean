import JvmDerived
import JvmDerived.Pilot.@@N@@Statement
import JvmDerived.Pilot.@@N@@Code
set_option linter.unusedVariables false
set_option linter.unusedSimpArgs false
namespace Jvm.RoadKit
open Sem ClassFile Op Lib Jvm.Stand Jvm.Free Jvm.LawKit
section New
variable {p : Program} {l : Launch} {e : Env} {R : Room} {s : State} {m : MethodId} {args : Array Value} {below : List Frame} {meth : Method} {c : Code} {T : State} {locs : List Loc} {cells slots : Nat}
theorem retI (X : Stand p l e R s m args below meth c T locs cells slots) (hx : p.tables.exec = Jvm.exec) {pc : Nat} {Ls : Array Slot} {z : Int32} {rest : List Value} (hret : meth.sig.returnType = some .int) (hd : decode c.code pc = .ok (.ireturn, 1)) {fs : List Frame}
    (hl : ∀ (f : JFrame) (acts : List Action), f.method = m → f.locked = none → f.entered = [] → (doReturn e (T.setTop f) acts (some (.int z))).1 = T.setFrames fs) : Steps p.tables e below (T.setTop (mkF m pc Ls (.int z :: rest))) (T.setFrames fs) := by
  have hm' : T.vm.method? m = some meth := X.method'
  have hn : narrow .int (.int z) = .int z := rfl
  show Steps p.tables e below (T.setTop { method := m, pc := pc, locals := Ls, stack := _ :: rest, locked := none }) _
  jvm_step X.here [X.here.top, hx, hd, hm', hret, hn]
  first | (intro acts; rw [hl _ acts rfl rfl rfl]) | rw [hl _ _ rfl rfl rfl]
  exact Steps.refl _
end New
end Jvm.RoadKit
namespace Jvm.Pilot.@@N@@
open Jvm Jvm.ClassFile Sem Op Lib Jvm.Free Jvm.Stand Jvm.LawKit Jvm.RoadKit Bundle Jvm.Pilot.@@N@@.Jvm.D
abbrev own_m0 : MethodName := ⟨"infixion/language/FunctionTakesPinLaw", "pick", "(I)Linfixion/language/Function;"⟩
abbrev own_m1 : MethodName := ⟨"infixion/language/Function", "takes", "(I)Z"⟩
theorem own_w0 {Z : State} {a0 : Array Value} (hw : ∀ d ∈ tables_1, d.before a0 Z = true) : (Jvm.Cond.constant "infixion/language/FunctionTakesPinLaw" (40 : Nat) (2147483647 : Int32)).before a0 Z = true := hw _ (List.mem_of_getElem? (i := 0) rfl)
theorem own_w1 {Z : State} {a0 : Array Value} (hw : ∀ d ∈ tables_1, d.before a0 Z = true) : (Jvm.Cond.methodLink "infixion/language/FunctionTakesPinLaw" (41 : Nat) ({ cls := "infixion/language/FunctionTakesPinLaw", name := "pick", desc := "(I)Linfixion/language/Function;" } : Jvm.MethodName)).before a0 Z = true := hw _ (List.mem_of_getElem? (i := 1) rfl)
theorem own_w2 {Z : State} {a0 : Array Value} (hw : ∀ d ∈ tables_1, d.before a0 Z = true) : (Jvm.Cond.static ({ cls := "infixion/language/FunctionTakesPinLaw", name := "pick", desc := "(I)Linfixion/language/Function;" } : Jvm.MethodName)).before a0 Z = true := hw _ (List.mem_of_getElem? (i := 2) rfl)
theorem own_w3 {Z : State} {a0 : Array Value} (hw : ∀ d ∈ tables_1, d.before a0 Z = true) : (Jvm.Cond.initialized "infixion/language/FunctionTakesPinLaw").before a0 Z = true := hw _ (List.mem_of_getElem? (i := 3) rfl)
theorem own_w4 {Z : State} {a0 : Array Value} (hw : ∀ d ∈ tables_1, d.before a0 Z = true) : (Jvm.Cond.code ({ cls := "infixion/language/FunctionTakesPinLaw", name := "pick", desc := "(I)Linfixion/language/Function;" } : Jvm.MethodName) method_2_code (1 : Nat) (Option.some (Jvm.ClassFile.FieldType.object "infixion/language/Function"))).before a0 Z = true := hw _ (List.mem_of_getElem? (i := 4) rfl)
theorem own_w5 {Z : State} {a0 : Array Value} (hw : ∀ d ∈ tables_1, d.before a0 Z = true) : (Jvm.Cond.fieldLink "infixion/language/FunctionTakesPinLaw" (7 : Nat) "infixion/language/Function" "MAX" "Linfixion/language/Function;").before a0 Z = true := hw _ (List.mem_of_getElem? (i := 5) rfl)
theorem own_w6 {Z : State} {a0 : Array Value} (hw : ∀ d ∈ tables_1, d.before a0 Z = true) : (Jvm.Cond.initialized "infixion/language/Function").before a0 Z = true := hw _ (List.mem_of_getElem? (i := 6) rfl)
theorem own_w8 {Z : State} {a0 : Array Value} (hw : ∀ d ∈ tables_1, d.before a0 Z = true) : (Jvm.Cond.methodLink "infixion/language/FunctionTakesPinLaw" (47 : Nat) ({ cls := "infixion/language/Function", name := "takes", desc := "(I)Z" } : Jvm.MethodName)).before a0 Z = true := hw _ (List.mem_of_getElem? (i := 8) rfl)
theorem own_w9 {Z : State} {a0 : Array Value} (hw : ∀ d ∈ tables_1, d.before a0 Z = true) : (Jvm.Cond.declares ({ cls := "infixion/language/Function", name := "takes", desc := "(I)Z" } : Jvm.MethodName)).before a0 Z = true := hw _ (List.mem_of_getElem? (i := 9) rfl)
theorem own_w10 {Z : State} {a0 : Array Value} (hw : ∀ d ∈ tables_1, d.before a0 Z = true) : (Jvm.Cond.instanceMethod ({ cls := "infixion/language/Function", name := "takes", desc := "(I)Z" } : Jvm.MethodName)).before a0 Z = true := hw _ (List.mem_of_getElem? (i := 10) rfl)
theorem own_w11 {Z : State} {a0 : Array Value} (hw : ∀ d ∈ tables_1, d.before a0 Z = true) : (Jvm.Cond.selects "infixion/language/Function" ({ cls := "infixion/language/Function", name := "takes", desc := "(I)Z" } : Jvm.MethodName) ({ cls := "infixion/language/Function", name := "takes", desc := "(I)Z" } : Jvm.MethodName)).before a0 Z = true := hw _ (List.mem_of_getElem? (i := 11) rfl)
theorem own_w12 {Z : State} {a0 : Array Value} (hw : ∀ d ∈ tables_1, d.before a0 Z = true) : (Jvm.Cond.code ({ cls := "infixion/language/Function", name := "takes", desc := "(I)Z" } : Jvm.MethodName) prog_14_method_6_code (2 : Nat) (Option.some Jvm.ClassFile.FieldType.boolean)).before a0 Z = true := hw _ (List.mem_of_getElem? (i := 12) rfl)
theorem own_w13 {Z : State} {a0 : Array Value} (hw : ∀ d ∈ tables_1, d.before a0 Z = true) : (Jvm.Cond.fieldLink "infixion/language/Function" (57 : Nat) "infixion/language/Function" "fewest" "I").before a0 Z = true := hw _ (List.mem_of_getElem? (i := 13) rfl)
theorem own_w15 {Z : State} {a0 : Array Value} (hw : ∀ d ∈ tables_1, d.before a0 Z = true) : (Jvm.Cond.fieldLink "infixion/language/Function" (61 : Nat) "infixion/language/Function" "most" "I").before a0 Z = true := hw _ (List.mem_of_getElem? (i := 15) rfl)
theorem own_w17 {Z : State} {a0 : Array Value} (hw : ∀ d ∈ tables_1, d.before a0 Z = true) : (Jvm.Cond.fieldLink "infixion/language/FunctionTakesPinLaw" (22 : Nat) "infixion/language/Function" "SIN" "Linfixion/language/Function;").before a0 Z = true := hw _ (List.mem_of_getElem? (i := 17) rfl)
theorem own_w19 {Z : State} {a0 : Array Value} (hw : ∀ d ∈ tables_1, d.before a0 Z = true) : (Jvm.Cond.fieldLink "infixion/language/FunctionTakesPinLaw" (34 : Nat) "infixion/language/Function" "PERM" "Linfixion/language/Function;").before a0 Z = true := hw _ (List.mem_of_getElem? (i := 19) rfl)
theorem own_w21 {Z : State} {a0 : Array Value} (hw : ∀ d ∈ tables_1, d.before a0 Z = true) : (Jvm.Cond.fieldLink "infixion/language/FunctionTakesPinLaw" (28 : Nat) "infixion/language/Function" "ROUND" "Linfixion/language/Function;").before a0 Z = true := hw _ (List.mem_of_getElem? (i := 21) rfl)
theorem own_w23 {Z : State} {a0 : Array Value} (hw : ∀ d ∈ tables_1, d.before a0 Z = true) : (Jvm.Cond.fieldLink "infixion/language/FunctionTakesPinLaw" (37 : Nat) "infixion/language/Function" "COMB" "Linfixion/language/Function;").before a0 Z = true := hw _ (List.mem_of_getElem? (i := 23) rfl)
theorem own_w25 {Z : State} {a0 : Array Value} (hw : ∀ d ∈ tables_1, d.before a0 Z = true) : (Jvm.Cond.fieldLink "infixion/language/FunctionTakesPinLaw" (16 : Nat) "infixion/language/Function" "ABS" "Linfixion/language/Function;").before a0 Z = true := hw _ (List.mem_of_getElem? (i := 25) rfl)
theorem own_w27 {Z : State} {a0 : Array Value} (hw : ∀ d ∈ tables_1, d.before a0 Z = true) : (Jvm.Cond.fieldLink "infixion/language/FunctionTakesPinLaw" (19 : Nat) "infixion/language/Function" "SQRT" "Linfixion/language/Function;").before a0 Z = true := hw _ (List.mem_of_getElem? (i := 27) rfl)
theorem own_w29 {Z : State} {a0 : Array Value} (hw : ∀ d ∈ tables_1, d.before a0 Z = true) : (Jvm.Cond.fieldLink "infixion/language/FunctionTakesPinLaw" (13 : Nat) "infixion/language/Function" "MIN" "Linfixion/language/Function;").before a0 Z = true := hw _ (List.mem_of_getElem? (i := 29) rfl)
theorem own_w31 {Z : State} {a0 : Array Value} (hw : ∀ d ∈ tables_1, d.before a0 Z = true) : (Jvm.Cond.fieldLink "infixion/language/FunctionTakesPinLaw" (25 : Nat) "infixion/language/Function" "COS" "Linfixion/language/Function;").before a0 Z = true := hw _ (List.mem_of_getElem? (i := 31) rfl)
theorem own_w33 {Z : State} {a0 : Array Value} (hw : ∀ d ∈ tables_1, d.before a0 Z = true) : (Jvm.Cond.fieldLink "infixion/language/FunctionTakesPinLaw" (31 : Nat) "infixion/language/Function" "FACT" "Linfixion/language/Function;").before a0 Z = true := hw _ (List.mem_of_getElem? (i := 33) rfl)
theorem own_d1_0 : decode method_2_code 0 = .ok (.iload_n 0, 1) := by decide +kernel
theorem own_d1_1 : decode method_2_code 1 = .ok (.ifCond .ne 7, 3) := by decide +kernel
theorem own_d1_4 : decode method_2_code 4 = .ok (.getstatic 7, 3) := by decide +kernel
theorem own_d1_7 : decode method_2_code 7 = .ok (.areturn, 1) := by decide +kernel
theorem own_d1_8 : decode method_2_code 8 = .ok (.iload_n 0, 1) := by decide +kernel
theorem own_d1_9 : decode method_2_code 9 = .ok (.iconst 1, 1) := by decide +kernel
theorem own_d1_10 : decode method_2_code 10 = .ok (.if_icmp .ne 7, 3) := by decide +kernel
theorem own_d1_13 : decode method_2_code 13 = .ok (.getstatic 13, 3) := by decide +kernel
theorem own_d1_16 : decode method_2_code 16 = .ok (.areturn, 1) := by decide +kernel
theorem own_d1_17 : decode method_2_code 17 = .ok (.iload_n 0, 1) := by decide +kernel
theorem own_d1_18 : decode method_2_code 18 = .ok (.iconst 2, 1) := by decide +kernel
theorem own_d1_19 : decode method_2_code 19 = .ok (.if_icmp .ne 7, 3) := by decide +kernel
theorem own_d1_22 : decode method_2_code 22 = .ok (.getstatic 16, 3) := by decide +kernel
theorem own_d1_25 : decode method_2_code 25 = .ok (.areturn, 1) := by decide +kernel
theorem own_d1_26 : decode method_2_code 26 = .ok (.iload_n 0, 1) := by decide +kernel
theorem own_d1_27 : decode method_2_code 27 = .ok (.iconst 3, 1) := by decide +kernel
theorem own_d1_28 : decode method_2_code 28 = .ok (.if_icmp .ne 7, 3) := by decide +kernel
theorem own_d1_31 : decode method_2_code 31 = .ok (.getstatic 19, 3) := by decide +kernel
theorem own_d1_34 : decode method_2_code 34 = .ok (.areturn, 1) := by decide +kernel
theorem own_d1_35 : decode method_2_code 35 = .ok (.iload_n 0, 1) := by decide +kernel
theorem own_d1_36 : decode method_2_code 36 = .ok (.iconst 4, 1) := by decide +kernel
theorem own_d1_37 : decode method_2_code 37 = .ok (.if_icmp .ne 7, 3) := by decide +kernel
theorem own_d1_40 : decode method_2_code 40 = .ok (.getstatic 22, 3) := by decide +kernel
theorem own_d1_43 : decode method_2_code 43 = .ok (.areturn, 1) := by decide +kernel
theorem own_d1_44 : decode method_2_code 44 = .ok (.iload_n 0, 1) := by decide +kernel
theorem own_d1_45 : decode method_2_code 45 = .ok (.iconst 5, 1) := by decide +kernel
theorem own_d1_46 : decode method_2_code 46 = .ok (.if_icmp .ne 7, 3) := by decide +kernel
theorem own_d1_49 : decode method_2_code 49 = .ok (.getstatic 25, 3) := by decide +kernel
theorem own_d1_52 : decode method_2_code 52 = .ok (.areturn, 1) := by decide +kernel
theorem own_d1_53 : decode method_2_code 53 = .ok (.iload_n 0, 1) := by decide +kernel
theorem own_d1_54 : decode method_2_code 54 = .ok (.bipush 6, 2) := by decide +kernel
theorem own_d1_56 : decode method_2_code 56 = .ok (.if_icmp .ne 7, 3) := by decide +kernel
theorem own_d1_59 : decode method_2_code 59 = .ok (.getstatic 28, 3) := by decide +kernel
theorem own_d1_62 : decode method_2_code 62 = .ok (.areturn, 1) := by decide +kernel
theorem own_d1_63 : decode method_2_code 63 = .ok (.iload_n 0, 1) := by decide +kernel
theorem own_d1_64 : decode method_2_code 64 = .ok (.bipush 7, 2) := by decide +kernel
theorem own_d1_66 : decode method_2_code 66 = .ok (.if_icmp .ne 7, 3) := by decide +kernel
theorem own_d1_69 : decode method_2_code 69 = .ok (.getstatic 31, 3) := by decide +kernel
theorem own_d1_72 : decode method_2_code 72 = .ok (.areturn, 1) := by decide +kernel
theorem own_d1_73 : decode method_2_code 73 = .ok (.iload_n 0, 1) := by decide +kernel
theorem own_d1_74 : decode method_2_code 74 = .ok (.bipush 8, 2) := by decide +kernel
theorem own_d1_76 : decode method_2_code 76 = .ok (.if_icmp .ne 7, 3) := by decide +kernel
theorem own_d1_79 : decode method_2_code 79 = .ok (.getstatic 34, 3) := by decide +kernel
theorem own_d1_82 : decode method_2_code 82 = .ok (.areturn, 1) := by decide +kernel
theorem own_d1_83 : decode method_2_code 83 = .ok (.getstatic 37, 3) := by decide +kernel
theorem own_d1_86 : decode method_2_code 86 = .ok (.areturn, 1) := by decide +kernel
theorem own_d2_0 : decode prog_14_method_6_code 0 = .ok (.iload_n 1, 1) := by decide +kernel
theorem own_d2_1 : decode prog_14_method_6_code 1 = .ok (.aload_n 0, 1) := by decide +kernel
theorem own_d2_2 : decode prog_14_method_6_code 2 = .ok (.getfield 57, 3) := by decide +kernel
theorem own_d2_5 : decode prog_14_method_6_code 5 = .ok (.if_icmp .lt 15, 3) := by decide +kernel
theorem own_d2_8 : decode prog_14_method_6_code 8 = .ok (.iload_n 1, 1) := by decide +kernel
theorem own_d2_9 : decode prog_14_method_6_code 9 = .ok (.aload_n 0, 1) := by decide +kernel
theorem own_d2_10 : decode prog_14_method_6_code 10 = .ok (.getfield 61, 3) := by decide +kernel
theorem own_d2_13 : decode prog_14_method_6_code 13 = .ok (.if_icmp .gt 7, 3) := by decide +kernel
theorem own_d2_16 : decode prog_14_method_6_code 16 = .ok (.iconst 1, 1) := by decide +kernel
theorem own_d2_17 : decode prog_14_method_6_code 17 = .ok (.goto 4, 3) := by decide +kernel
theorem own_d2_20 : decode prog_14_method_6_code 20 = .ok (.iconst 0, 1) := by decide +kernel
theorem own_d2_21 : decode prog_14_method_6_code 21 = .ok (.ireturn, 1) := by decide +kernel
theorem own_pn0 : plainName "infixion/language/FunctionTakesPinLaw" = true := by first | (simp [plainName, overriddenIn]; done) | decide +kernel
theorem own_pn1 : plainName "infixion/language/Function" = true := by first | (simp [plainName, overriddenIn]; done) | decide +kernel
theorem own_pd0 : parseMethodDescriptor "(I)Linfixion/language/Function;" = some ⟨[.int], some (.object "infixion/language/Function")⟩ := by decide +kernel
theorem own_pd1 : parseMethodDescriptor "(I)Z" = some ⟨[.int], some .boolean⟩ := by decide +kernel
theorem own_lt {a b : Int32} {k : Int} (hb : b.toInt = k) : a < b ↔ a.toInt < k := by rw [Int32.lt_iff_toInt_lt, hb]
theorem own_gt {a b : Int32} {k : Int} (ha : a.toInt = k) : a < b ↔ k < b.toInt := by rw [Int32.lt_iff_toInt_lt, ha]
theorem own_eq {a b : Int32} {k : Int} (hb : b.toInt = k) : a = b ↔ a.toInt = k := by rw [← Int32.toInt_inj, hb]
theorem own_lt_of {a b : Int32} {k : Int} (hb : b.toInt = k) (h : a.toInt < k) : a < b := (own_lt hb).mpr h
theorem own_nlt_of {a b : Int32} {k : Int} (hb : b.toInt = k) (h : k ≤ a.toInt) : ¬ a < b := fun q => by have := (own_lt hb).mp q; omega
theorem own_gt_of {a b : Int32} {k : Int} (ha : a.toInt = k) (h : k < b.toInt) : a < b := (own_gt ha).mpr h
theorem own_ngt_of {a b : Int32} {k : Int} (ha : a.toInt = k) (h : b.toInt ≤ k) : ¬ a < b := fun q => by have := (own_gt ha).mp q; omega
theorem own_eq_of {a b : Int32} {k : Int} (hb : b.toInt = k) (h : a.toInt = k) : a = b := (own_eq hb).mpr h
theorem own_ne_of {a b : Int32} {k : Int} (hb : b.toInt = k) (h : a.toInt ≠ k) : ¬ a = b := fun q => h ((own_eq hb).mp q)
theorem own_eqint {t : Term} {n : Int32} {args : Array Value} {s : State} (h : (Jvm.Cond.eq t (.int n)).value args s none s [] = some true) : t.eval args s none [] s = some (.int n) := by
  obtain ⟨a, b, ha, hb, k1, k2⟩ := cmp_v (Or.inl h)
  have hb' : (Term.int n).eval args s none [] s = some (.int n) := rfl
  cases hb.symm.trans hb'
  obtain ⟨z, rfl⟩ := k2
  have : z = n := by simpa [Cond.value, ha, hb'] using h
  rw [ha, this]
theorem own_exa {args : Array Value} {s : State} {t : Term} {C : String} (h1 : (Jvm.Cond.exactly t C).value args s none s [] = some true) : ∃ x, t.eval args s none [] s = some (.ref x) ∧ Exa s s.heap x C := by
  obtain ⟨x, hx⟩ := exa_v h1
  exact ⟨x, hx, Exa.start hx h1⟩
theorem own_fldint {args : Array Value} {s : State} {t : Term} {C n d : String} {x : Addr} {k : Int32} (hx : t.eval args s none [] s = some (.ref x)) (h2 : (Jvm.Cond.eq (.field t C n d) (.int k)).value args s none s [] = some true) : Fld s s.heap x C n d (.int k) :=
  Fld.start ((fld_at hx).symm.trans (own_eqint h2))
def own_t (lo hi : Int) (c : Int32) : Int32 := if lo ≤ c.toInt ∧ c.toInt ≤ hi then 1 else 0
theorem own_mod (p : Int32) : (p &&& (2147483647 : Int32)) % (10 : Int32) = (0 : Int32) ∨ (p &&& (2147483647 : Int32)) % (10 : Int32) = (1 : Int32) ∨ (p &&& (2147483647 : Int32)) % (10 : Int32) = (2 : Int32) ∨ (p &&& (2147483647 : Int32)) % (10 : Int32) = (3 : Int32) ∨ (p &&& (2147483647 : Int32)) % (10 : Int32) = (4 : Int32) ∨ (p &&& (2147483647 : Int32)) % (10 : Int32) = (5 : Int32) ∨ (p &&& (2147483647 : Int32)) % (10 : Int32) = (6 : Int32) ∨ (p &&& (2147483647 : Int32)) % (10 : Int32) = (7 : Int32) ∨ (p &&& (2147483647 : Int32)) % (10 : Int32) = (8 : Int32) ∨ (p &&& (2147483647 : Int32)) % (10 : Int32) = (9 : Int32) := by
  have h1 := c_and p 2147483647 (by decide)
  have h2 := (c_irem (p &&& 2147483647) 10 10 rfl).1 h1.1
  have h3 : 0 ≤ ((p &&& (2147483647 : Int32)) % (10 : Int32)).toInt ∧ ((p &&& (2147483647 : Int32)) % (10 : Int32)).toInt < 10 := by rw [h2]; omega
  generalize (p &&& (2147483647 : Int32)) % (10 : Int32) = z at h3 ⊢
  rw [own_eq (b := 0) (k := 0) rfl, own_eq (b := 1) (k := 1) rfl, own_eq (b := 2) (k := 2) rfl, own_eq (b := 3) (k := 3) rfl, own_eq (b := 4) (k := 4) rfl, own_eq (b := 5) (k := 5) rfl, own_eq (b := 6) (k := 6) rfl, own_eq (b := 7) (k := 7) rfl, own_eq (b := 8) (k := 8) rfl, own_eq (b := 9) (k := 9) rfl]
  omega
def Qown_pick0 (Z : State) (s0 s1 s2 s3 s4 s5 s6 s7 s8 s9 : Addr) (h0 : Heap) (n0 : Nat) (v : Option Value) (h : Heap) (L : List Loc) : Prop := v = some (.ref s0) ∧ Fr n0 L ∧ h = h0
set_option maxRecDepth 65536 in
set_option maxHeartbeats 40000000 in
theorem own_pick0 (l : Launch) (Z : State) (a0 : Array Value) (hw : ∀ d ∈ tables_1, d.before a0 Z = true) (ws : List Jvm.Cond) (s0 s1 s2 s3 s4 s5 s6 s7 s8 s9 : Addr) (h0 : Heap) (n0 : Nat) (Z0 : n0 ≤ h0.size) (S0 : Sta Z h0 "infixion/language/Function" "MAX" "Linfixion/language/Function;" (.ref s0)) (S1 : Sta Z h0 "infixion/language/Function" "MIN" "Linfixion/language/Function;" (.ref s1)) (S2 : Sta Z h0 "infixion/language/Function" "ABS" "Linfixion/language/Function;" (.ref s2)) (S3 : Sta Z h0 "infixion/language/Function" "SQRT" "Linfixion/language/Function;" (.ref s3)) (S4 : Sta Z h0 "infixion/language/Function" "SIN" "Linfixion/language/Function;" (.ref s4)) (S5 : Sta Z h0 "infixion/language/Function" "COS" "Linfixion/language/Function;" (.ref s5)) (S6 : Sta Z h0 "infixion/language/Function" "ROUND" "Linfixion/language/Function;" (.ref s6)) (S7 : Sta Z h0 "infixion/language/Function" "FACT" "Linfixion/language/Function;" (.ref s7)) (S8 : Sta Z h0 "infixion/language/Function" "PERM" "Linfixion/language/Function;" (.ref s8)) (S9 : Sta Z h0 "infixion/language/Function" "COMB" "Linfixion/language/Function;" (.ref s9)) :
    MetFree l own_m0 (head1 (Jvm.Cond.code own_m0 method_2_code 1 (some (.object "infixion/language/Function")) :: ws) ({ frames := 0, cells := 0, slots := 0, locals := 0 } : Room)) (fun a U => a = #[(.int (0 : Int32))] ∧ Z.Warmed39 U.vm ∧ U.heap = h0) (fun _ _ _ _ _ => True) (fun _ U o U' => ∃ v L, o = .returned v ∧ Qown_pick0 Z s0 s1 s2 s3 s4 s5 s6 s7 s8 s9 h0 n0 v U'.heap L ∧ FrameEnd U o U' L ({ frames := 0, cells := 0, slots := 0, locals := 0 } : Room).cells ({ frames := 0, cells := 0, slots := 0, locals := 0 } : Room).slots) := by
  refine MetFree.of_bodySF (plainFor_of_name own_pn0) hisR ?_
  intro p e s m args below meth c s₁ Bd hml0 hP hK
  obtain ⟨rfl, hZ, hh⟩ := hP
  have hx := Bd.exec
  have hby := Bd.bytes
  have hml : c.maxLocals = 1 := hml0
  have hown : s.vm.findClass "infixion/language/FunctionTakesPinLaw" = some m.cls := findClass_of_methodNamed Bd.named
  have hnm := (name_of_methodNamed Bd.named Bd.method).1
  have X0 : Stand p l e ({ frames := 0, cells := 0, slots := 0, locals := 0 } : Room) s m #[(.int (0 : Int32))] below meth c s₁ [] 0 0 := Stand.of_body Bd
  have e0 : s₁.heap = h0 := by rw [← hh, Bd.state]; rfl
  have N0 := Fr.nil n0
  have pre0 : ∀ t, Steps p.tables e below (s₁.setTop (mkF m 0 #[.val (.int (0 : Int32))] [])) t → Steps p.tables e below (s₁.setTop (entryFrame m #[(.int (0 : Int32))] 1)) t := fun t k => castTop (by first | (simp [entryFrame, mkF, argsToLocals, Value.category, maxLocals]; done) | rfl) k
  obtain ⟨T1, X1, e1, st1⟩ := getS2 X0 hx hZ hown (host := "") (Or.inl (own_w5 hw)) Via.refl e0 S0 (g := (mkF m 4 #[.val (.int (0 : Int32))] [])) rfl (hb hby own_d1_4)
  obtain ⟨fs, hr, hrun, hended, hW, hsame⟩ := X1.leave (v := some (.ref s0)) (fun h => by rw [Bd.returns] at h; cases h)
  refine ⟨_, _, pre0 _ ?_, hrun, hended, _, _, rfl, ?_, ⟨_, rfl⟩, hW, hsame.mono (by decide) (by decide)⟩
  · show Steps _ _ _ (s₁.setTop (mkF m 0 #[.val (.int (0 : Int32))] [])) _
    refine XS.iloadN X0.here hx rfl (hb hby own_d1_0) rfl ?_
    refine XS.ifNo X0.here hx rfl (hb hby own_d1_1) rfl ((if0 _ _).trans (teq (by decide : (0 : Int32) = (0 : Int32))).2) ?_
    refine st1 _ ?_
    show Steps _ _ _ (T1.setTop (mkF m 7 #[.val (.int (0 : Int32))] [(.ref s0)])) _
    jvm_step X1.here [X1.here.top, hx, (hb hby own_d1_7), X1.method', Bd.returns, Value.isRef, FieldType.isReference]
    first | (intro acts; rw [hr _ acts rfl rfl rfl]) | rw [hr _ _ rfl rfl rfl]
    exact Steps.refl _
  · show Qown_pick0 Z s0 s1 s2 s3 s4 s5 s6 s7 s8 s9 h0 n0 _ T1.heap _
    rw [e1]
    exact ⟨rfl, N0, rfl⟩
def Qown_pick1 (Z : State) (s0 s1 s2 s3 s4 s5 s6 s7 s8 s9 : Addr) (h0 : Heap) (n0 : Nat) (v : Option Value) (h : Heap) (L : List Loc) : Prop := v = some (.ref s1) ∧ Fr n0 L ∧ h = h0
set_option maxRecDepth 65536 in
set_option maxHeartbeats 40000000 in
theorem own_pick1 (l : Launch) (Z : State) (a0 : Array Value) (hw : ∀ d ∈ tables_1, d.before a0 Z = true) (ws : List Jvm.Cond) (s0 s1 s2 s3 s4 s5 s6 s7 s8 s9 : Addr) (h0 : Heap) (n0 : Nat) (Z0 : n0 ≤ h0.size) (S0 : Sta Z h0 "infixion/language/Function" "MAX" "Linfixion/language/Function;" (.ref s0)) (S1 : Sta Z h0 "infixion/language/Function" "MIN" "Linfixion/language/Function;" (.ref s1)) (S2 : Sta Z h0 "infixion/language/Function" "ABS" "Linfixion/language/Function;" (.ref s2)) (S3 : Sta Z h0 "infixion/language/Function" "SQRT" "Linfixion/language/Function;" (.ref s3)) (S4 : Sta Z h0 "infixion/language/Function" "SIN" "Linfixion/language/Function;" (.ref s4)) (S5 : Sta Z h0 "infixion/language/Function" "COS" "Linfixion/language/Function;" (.ref s5)) (S6 : Sta Z h0 "infixion/language/Function" "ROUND" "Linfixion/language/Function;" (.ref s6)) (S7 : Sta Z h0 "infixion/language/Function" "FACT" "Linfixion/language/Function;" (.ref s7)) (S8 : Sta Z h0 "infixion/language/Function" "PERM" "Linfixion/language/Function;" (.ref s8)) (S9 : Sta Z h0 "infixion/language/Function" "COMB" "Linfixion/language/Function;" (.ref s9)) :
    MetFree l own_m0 (head1 (Jvm.Cond.code own_m0 method_2_code 1 (some (.object "infixion/language/Function")) :: ws) ({ frames := 0, cells := 0, slots := 0, locals := 0 } : Room)) (fun a U => a = #[(.int (1 : Int32))] ∧ Z.Warmed39 U.vm ∧ U.heap = h0) (fun _ _ _ _ _ => True) (fun _ U o U' => ∃ v L, o = .returned v ∧ Qown_pick1 Z s0 s1 s2 s3 s4 s5 s6 s7 s8 s9 h0 n0 v U'.heap L ∧ FrameEnd U o U' L ({ frames := 0, cells := 0, slots := 0, locals := 0 } : Room).cells ({ frames := 0, cells := 0, slots := 0, locals := 0 } : Room).slots) := by
  refine MetFree.of_bodySF (plainFor_of_name own_pn0) hisR ?_
  intro p e s m args below meth c s₁ Bd hml0 hP hK
  obtain ⟨rfl, hZ, hh⟩ := hP
  have hx := Bd.exec
  have hby := Bd.bytes
  have hml : c.maxLocals = 1 := hml0
  have hown : s.vm.findClass "infixion/language/FunctionTakesPinLaw" = some m.cls := findClass_of_methodNamed Bd.named
  have hnm := (name_of_methodNamed Bd.named Bd.method).1
  have X0 : Stand p l e ({ frames := 0, cells := 0, slots := 0, locals := 0 } : Room) s m #[(.int (1 : Int32))] below meth c s₁ [] 0 0 := Stand.of_body Bd
  have e0 : s₁.heap = h0 := by rw [← hh, Bd.state]; rfl
  have N0 := Fr.nil n0
  have pre0 : ∀ t, Steps p.tables e below (s₁.setTop (mkF m 0 #[.val (.int (1 : Int32))] [])) t → Steps p.tables e below (s₁.setTop (entryFrame m #[(.int (1 : Int32))] 1)) t := fun t k => castTop (by first | (simp [entryFrame, mkF, argsToLocals, Value.category, maxLocals]; done) | rfl) k
  obtain ⟨T1, X1, e1, st1⟩ := getS2 X0 hx hZ hown (host := "") (Or.inl (own_w29 hw)) Via.refl e0 S1 (g := (mkF m 13 #[.val (.int (1 : Int32))] [])) rfl (hb hby own_d1_13)
  obtain ⟨fs, hr, hrun, hended, hW, hsame⟩ := X1.leave (v := some (.ref s1)) (fun h => by rw [Bd.returns] at h; cases h)
  refine ⟨_, _, pre0 _ ?_, hrun, hended, _, _, rfl, ?_, ⟨_, rfl⟩, hW, hsame.mono (by decide) (by decide)⟩
  · show Steps _ _ _ (s₁.setTop (mkF m 0 #[.val (.int (1 : Int32))] [])) _
    refine XS.iloadN X0.here hx rfl (hb hby own_d1_0) rfl ?_
    refine XS.ifYes X0.here hx rfl (pc0 := 1) (pc' := 8) rfl (hb hby own_d1_1) rfl ((if0 _ _).trans (feq (by decide : ¬ ((1 : Int32) = (0 : Int32)))).2) (by decide) (by decide) ?_
    refine XS.iloadN X0.here hx rfl (hb hby own_d1_8) rfl ?_
    refine XS.iconst X0.here hx rfl (hb hby own_d1_9) ?_
    show Steps _ _ _ (s₁.setTop (mkF m 10 #[.val (.int (1 : Int32))] [(.int (1 : Int32)), (.int (1 : Int32))])) _
    refine XS.icmpNo X0.here hx rfl (hb hby own_d1_10) rfl (teq (by decide : (1 : Int32) = (1 : Int32))).2 ?_
    refine st1 _ ?_
    show Steps _ _ _ (T1.setTop (mkF m 16 #[.val (.int (1 : Int32))] [(.ref s1)])) _
    jvm_step X1.here [X1.here.top, hx, (hb hby own_d1_16), X1.method', Bd.returns, Value.isRef, FieldType.isReference]
    first | (intro acts; rw [hr _ acts rfl rfl rfl]) | rw [hr _ _ rfl rfl rfl]
    exact Steps.refl _
  · show Qown_pick1 Z s0 s1 s2 s3 s4 s5 s6 s7 s8 s9 h0 n0 _ T1.heap _
    rw [e1]
    exact ⟨rfl, N0, rfl⟩
def Qown_pick2 (Z : State) (s0 s1 s2 s3 s4 s5 s6 s7 s8 s9 : Addr) (h0 : Heap) (n0 : Nat) (v : Option Value) (h : Heap) (L : List Loc) : Prop := v = some (.ref s2) ∧ Fr n0 L ∧ h = h0
set_option maxRecDepth 65536 in
set_option maxHeartbeats 40000000 in
theorem own_pick2 (l : Launch) (Z : State) (a0 : Array Value) (hw : ∀ d ∈ tables_1, d.before a0 Z = true) (ws : List Jvm.Cond) (s0 s1 s2 s3 s4 s5 s6 s7 s8 s9 : Addr) (h0 : Heap) (n0 : Nat) (Z0 : n0 ≤ h0.size) (S0 : Sta Z h0 "infixion/language/Function" "MAX" "Linfixion/language/Function;" (.ref s0)) (S1 : Sta Z h0 "infixion/language/Function" "MIN" "Linfixion/language/Function;" (.ref s1)) (S2 : Sta Z h0 "infixion/language/Function" "ABS" "Linfixion/language/Function;" (.ref s2)) (S3 : Sta Z h0 "infixion/language/Function" "SQRT" "Linfixion/language/Function;" (.ref s3)) (S4 : Sta Z h0 "infixion/language/Function" "SIN" "Linfixion/language/Function;" (.ref s4)) (S5 : Sta Z h0 "infixion/language/Function" "COS" "Linfixion/language/Function;" (.ref s5)) (S6 : Sta Z h0 "infixion/language/Function" "ROUND" "Linfixion/language/Function;" (.ref s6)) (S7 : Sta Z h0 "infixion/language/Function" "FACT" "Linfixion/language/Function;" (.ref s7)) (S8 : Sta Z h0 "infixion/language/Function" "PERM" "Linfixion/language/Function;" (.ref s8)) (S9 : Sta Z h0 "infixion/language/Function" "COMB" "Linfixion/language/Function;" (.ref s9)) :
    MetFree l own_m0 (head1 (Jvm.Cond.code own_m0 method_2_code 1 (some (.object "infixion/language/Function")) :: ws) ({ frames := 0, cells := 0, slots := 0, locals := 0 } : Room)) (fun a U => a = #[(.int (2 : Int32))] ∧ Z.Warmed39 U.vm ∧ U.heap = h0) (fun _ _ _ _ _ => True) (fun _ U o U' => ∃ v L, o = .returned v ∧ Qown_pick2 Z s0 s1 s2 s3 s4 s5 s6 s7 s8 s9 h0 n0 v U'.heap L ∧ FrameEnd U o U' L ({ frames := 0, cells := 0, slots := 0, locals := 0 } : Room).cells ({ frames := 0, cells := 0, slots := 0, locals := 0 } : Room).slots) := by
  refine MetFree.of_bodySF (plainFor_of_name own_pn0) hisR ?_
  intro p e s m args below meth c s₁ Bd hml0 hP hK
  obtain ⟨rfl, hZ, hh⟩ := hP
  have hx := Bd.exec
  have hby := Bd.bytes
  have hml : c.maxLocals = 1 := hml0
  have hown : s.vm.findClass "infixion/language/FunctionTakesPinLaw" = some m.cls := findClass_of_methodNamed Bd.named
  have hnm := (name_of_methodNamed Bd.named Bd.method).1
  have X0 : Stand p l e ({ frames := 0, cells := 0, slots := 0, locals := 0 } : Room) s m #[(.int (2 : Int32))] below meth c s₁ [] 0 0 := Stand.of_body Bd
  have e0 : s₁.heap = h0 := by rw [← hh, Bd.state]; rfl
  have N0 := Fr.nil n0
  have pre0 : ∀ t, Steps p.tables e below (s₁.setTop (mkF m 0 #[.val (.int (2 : Int32))] [])) t → Steps p.tables e below (s₁.setTop (entryFrame m #[(.int (2 : Int32))] 1)) t := fun t k => castTop (by first | (simp [entryFrame, mkF, argsToLocals, Value.category, maxLocals]; done) | rfl) k
  obtain ⟨T1, X1, e1, st1⟩ := getS2 X0 hx hZ hown (host := "") (Or.inl (own_w25 hw)) Via.refl e0 S2 (g := (mkF m 22 #[.val (.int (2 : Int32))] [])) rfl (hb hby own_d1_22)
  obtain ⟨fs, hr, hrun, hended, hW, hsame⟩ := X1.leave (v := some (.ref s2)) (fun h => by rw [Bd.returns] at h; cases h)
  refine ⟨_, _, pre0 _ ?_, hrun, hended, _, _, rfl, ?_, ⟨_, rfl⟩, hW, hsame.mono (by decide) (by decide)⟩
  · show Steps _ _ _ (s₁.setTop (mkF m 0 #[.val (.int (2 : Int32))] [])) _
    refine XS.iloadN X0.here hx rfl (hb hby own_d1_0) rfl ?_
    refine XS.ifYes X0.here hx rfl (pc0 := 1) (pc' := 8) rfl (hb hby own_d1_1) rfl ((if0 _ _).trans (feq (by decide : ¬ ((2 : Int32) = (0 : Int32)))).2) (by decide) (by decide) ?_
    refine XS.iloadN X0.here hx rfl (hb hby own_d1_8) rfl ?_
    refine XS.iconst X0.here hx rfl (hb hby own_d1_9) ?_
    show Steps _ _ _ (s₁.setTop (mkF m 10 #[.val (.int (2 : Int32))] [(.int (1 : Int32)), (.int (2 : Int32))])) _
    refine XS.icmpYes X0.here hx rfl (pc0 := 10) (pc' := 17) rfl (hb hby own_d1_10) rfl (feq (by decide : ¬ ((2 : Int32) = (1 : Int32)))).2 (by decide) (by decide) ?_
    refine XS.iloadN X0.here hx rfl (hb hby own_d1_17) rfl ?_
    refine XS.iconst X0.here hx rfl (hb hby own_d1_18) ?_
    refine XS.icmpNo X0.here hx rfl (hb hby own_d1_19) rfl (teq (by decide : (2 : Int32) = (2 : Int32))).2 ?_
    show Steps _ _ _ (s₁.setTop (mkF m 22 #[.val (.int (2 : Int32))] [])) _
    refine st1 _ ?_
    show Steps _ _ _ (T1.setTop (mkF m 25 #[.val (.int (2 : Int32))] [(.ref s2)])) _
    jvm_step X1.here [X1.here.top, hx, (hb hby own_d1_25), X1.method', Bd.returns, Value.isRef, FieldType.isReference]
    first | (intro acts; rw [hr _ acts rfl rfl rfl]) | rw [hr _ _ rfl rfl rfl]
    exact Steps.refl _
  · show Qown_pick2 Z s0 s1 s2 s3 s4 s5 s6 s7 s8 s9 h0 n0 _ T1.heap _
    rw [e1]
    exact ⟨rfl, N0, rfl⟩
def Qown_pick3 (Z : State) (s0 s1 s2 s3 s4 s5 s6 s7 s8 s9 : Addr) (h0 : Heap) (n0 : Nat) (v : Option Value) (h : Heap) (L : List Loc) : Prop := v = some (.ref s3) ∧ Fr n0 L ∧ h = h0
set_option maxRecDepth 65536 in
set_option maxHeartbeats 40000000 in
theorem own_pick3 (l : Launch) (Z : State) (a0 : Array Value) (hw : ∀ d ∈ tables_1, d.before a0 Z = true) (ws : List Jvm.Cond) (s0 s1 s2 s3 s4 s5 s6 s7 s8 s9 : Addr) (h0 : Heap) (n0 : Nat) (Z0 : n0 ≤ h0.size) (S0 : Sta Z h0 "infixion/language/Function" "MAX" "Linfixion/language/Function;" (.ref s0)) (S1 : Sta Z h0 "infixion/language/Function" "MIN" "Linfixion/language/Function;" (.ref s1)) (S2 : Sta Z h0 "infixion/language/Function" "ABS" "Linfixion/language/Function;" (.ref s2)) (S3 : Sta Z h0 "infixion/language/Function" "SQRT" "Linfixion/language/Function;" (.ref s3)) (S4 : Sta Z h0 "infixion/language/Function" "SIN" "Linfixion/language/Function;" (.ref s4)) (S5 : Sta Z h0 "infixion/language/Function" "COS" "Linfixion/language/Function;" (.ref s5)) (S6 : Sta Z h0 "infixion/language/Function" "ROUND" "Linfixion/language/Function;" (.ref s6)) (S7 : Sta Z h0 "infixion/language/Function" "FACT" "Linfixion/language/Function;" (.ref s7)) (S8 : Sta Z h0 "infixion/language/Function" "PERM" "Linfixion/language/Function;" (.ref s8)) (S9 : Sta Z h0 "infixion/language/Function" "COMB" "Linfixion/language/Function;" (.ref s9)) :
    MetFree l own_m0 (head1 (Jvm.Cond.code own_m0 method_2_code 1 (some (.object "infixion/language/Function")) :: ws) ({ frames := 0, cells := 0, slots := 0, locals := 0 } : Room)) (fun a U => a = #[(.int (3 : Int32))] ∧ Z.Warmed39 U.vm ∧ U.heap = h0) (fun _ _ _ _ _ => True) (fun _ U o U' => ∃ v L, o = .returned v ∧ Qown_pick3 Z s0 s1 s2 s3 s4 s5 s6 s7 s8 s9 h0 n0 v U'.heap L ∧ FrameEnd U o U' L ({ frames := 0, cells := 0, slots := 0, locals := 0 } : Room).cells ({ frames := 0, cells := 0, slots := 0, locals := 0 } : Room).slots) := by
  refine MetFree.of_bodySF (plainFor_of_name own_pn0) hisR ?_
  intro p e s m args below meth c s₁ Bd hml0 hP hK
  obtain ⟨rfl, hZ, hh⟩ := hP
  have hx := Bd.exec
  have hby := Bd.bytes
  have hml : c.maxLocals = 1 := hml0
  have hown : s.vm.findClass "infixion/language/FunctionTakesPinLaw" = some m.cls := findClass_of_methodNamed Bd.named
  have hnm := (name_of_methodNamed Bd.named Bd.method).1
  have X0 : Stand p l e ({ frames := 0, cells := 0, slots := 0, locals := 0 } : Room) s m #[(.int (3 : Int32))] below meth c s₁ [] 0 0 := Stand.of_body Bd
  have e0 : s₁.heap = h0 := by rw [← hh, Bd.state]; rfl
  have N0 := Fr.nil n0
  have pre0 : ∀ t, Steps p.tables e below (s₁.setTop (mkF m 0 #[.val (.int (3 : Int32))] [])) t → Steps p.tables e below (s₁.setTop (entryFrame m #[(.int (3 : Int32))] 1)) t := fun t k => castTop (by first | (simp [entryFrame, mkF, argsToLocals, Value.category, maxLocals]; done) | rfl) k
  obtain ⟨T1, X1, e1, st1⟩ := getS2 X0 hx hZ hown (host := "") (Or.inl (own_w27 hw)) Via.refl e0 S3 (g := (mkF m 31 #[.val (.int (3 : Int32))] [])) rfl (hb hby own_d1_31)
  obtain ⟨fs, hr, hrun, hended, hW, hsame⟩ := X1.leave (v := some (.ref s3)) (fun h => by rw [Bd.returns] at h; cases h)
  refine ⟨_, _, pre0 _ ?_, hrun, hended, _, _, rfl, ?_, ⟨_, rfl⟩, hW, hsame.mono (by decide) (by decide)⟩
  · show Steps _ _ _ (s₁.setTop (mkF m 0 #[.val (.int (3 : Int32))] [])) _
    refine XS.iloadN X0.here hx rfl (hb hby own_d1_0) rfl ?_
    refine XS.ifYes X0.here hx rfl (pc0 := 1) (pc' := 8) rfl (hb hby own_d1_1) rfl ((if0 _ _).trans (feq (by decide : ¬ ((3 : Int32) = (0 : Int32)))).2) (by decide) (by decide) ?_
    refine XS.iloadN X0.here hx rfl (hb hby own_d1_8) rfl ?_
    refine XS.iconst X0.here hx rfl (hb hby own_d1_9) ?_
    show Steps _ _ _ (s₁.setTop (mkF m 10 #[.val (.int (3 : Int32))] [(.int (1 : Int32)), (.int (3 : Int32))])) _
    refine XS.icmpYes X0.here hx rfl (pc0 := 10) (pc' := 17) rfl (hb hby own_d1_10) rfl (feq (by decide : ¬ ((3 : Int32) = (1 : Int32)))).2 (by decide) (by decide) ?_
    refine XS.iloadN X0.here hx rfl (hb hby own_d1_17) rfl ?_
    refine XS.iconst X0.here hx rfl (hb hby own_d1_18) ?_
    refine XS.icmpYes X0.here hx rfl (pc0 := 19) (pc' := 26) rfl (hb hby own_d1_19) rfl (feq (by decide : ¬ ((3 : Int32) = (2 : Int32)))).2 (by decide) (by decide) ?_
    show Steps _ _ _ (s₁.setTop (mkF m 26 #[.val (.int (3 : Int32))] [])) _
    refine XS.iloadN X0.here hx rfl (hb hby own_d1_26) rfl ?_
    refine XS.iconst X0.here hx rfl (hb hby own_d1_27) ?_
    refine XS.icmpNo X0.here hx rfl (hb hby own_d1_28) rfl (teq (by decide : (3 : Int32) = (3 : Int32))).2 ?_
    refine st1 _ ?_
    show Steps _ _ _ (T1.setTop (mkF m 34 #[.val (.int (3 : Int32))] [(.ref s3)])) _
    jvm_step X1.here [X1.here.top, hx, (hb hby own_d1_34), X1.method', Bd.returns, Value.isRef, FieldType.isReference]
    first | (intro acts; rw [hr _ acts rfl rfl rfl]) | rw [hr _ _ rfl rfl rfl]
    exact Steps.refl _
  · show Qown_pick3 Z s0 s1 s2 s3 s4 s5 s6 s7 s8 s9 h0 n0 _ T1.heap _
    rw [e1]
    exact ⟨rfl, N0, rfl⟩
def Qown_pick4 (Z : State) (s0 s1 s2 s3 s4 s5 s6 s7 s8 s9 : Addr) (h0 : Heap) (n0 : Nat) (v : Option Value) (h : Heap) (L : List Loc) : Prop := v = some (.ref s4) ∧ Fr n0 L ∧ h = h0
set_option maxRecDepth 65536 in
set_option maxHeartbeats 40000000 in
theorem own_pick4 (l : Launch) (Z : State) (a0 : Array Value) (hw : ∀ d ∈ tables_1, d.before a0 Z = true) (ws : List Jvm.Cond) (s0 s1 s2 s3 s4 s5 s6 s7 s8 s9 : Addr) (h0 : Heap) (n0 : Nat) (Z0 : n0 ≤ h0.size) (S0 : Sta Z h0 "infixion/language/Function" "MAX" "Linfixion/language/Function;" (.ref s0)) (S1 : Sta Z h0 "infixion/language/Function" "MIN" "Linfixion/language/Function;" (.ref s1)) (S2 : Sta Z h0 "infixion/language/Function" "ABS" "Linfixion/language/Function;" (.ref s2)) (S3 : Sta Z h0 "infixion/language/Function" "SQRT" "Linfixion/language/Function;" (.ref s3)) (S4 : Sta Z h0 "infixion/language/Function" "SIN" "Linfixion/language/Function;" (.ref s4)) (S5 : Sta Z h0 "infixion/language/Function" "COS" "Linfixion/language/Function;" (.ref s5)) (S6 : Sta Z h0 "infixion/language/Function" "ROUND" "Linfixion/language/Function;" (.ref s6)) (S7 : Sta Z h0 "infixion/language/Function" "FACT" "Linfixion/language/Function;" (.ref s7)) (S8 : Sta Z h0 "infixion/language/Function" "PERM" "Linfixion/language/Function;" (.ref s8)) (S9 : Sta Z h0 "infixion/language/Function" "COMB" "Linfixion/language/Function;" (.ref s9)) :
    MetFree l own_m0 (head1 (Jvm.Cond.code own_m0 method_2_code 1 (some (.object "infixion/language/Function")) :: ws) ({ frames := 0, cells := 0, slots := 0, locals := 0 } : Room)) (fun a U => a = #[(.int (4 : Int32))] ∧ Z.Warmed39 U.vm ∧ U.heap = h0) (fun _ _ _ _ _ => True) (fun _ U o U' => ∃ v L, o = .returned v ∧ Qown_pick4 Z s0 s1 s2 s3 s4 s5 s6 s7 s8 s9 h0 n0 v U'.heap L ∧ FrameEnd U o U' L ({ frames := 0, cells := 0, slots := 0, locals := 0 } : Room).cells ({ frames := 0, cells := 0, slots := 0, locals := 0 } : Room).slots) := by
  refine MetFree.of_bodySF (plainFor_of_name own_pn0) hisR ?_
  intro p e s m args below meth c s₁ Bd hml0 hP hK
  obtain ⟨rfl, hZ, hh⟩ := hP
  have hx := Bd.exec
  have hby := Bd.bytes
  have hml : c.maxLocals = 1 := hml0
  have hown : s.vm.findClass "infixion/language/FunctionTakesPinLaw" = some m.cls := findClass_of_methodNamed Bd.named
  have hnm := (name_of_methodNamed Bd.named Bd.method).1
  have X0 : Stand p l e ({ frames := 0, cells := 0, slots := 0, locals := 0 } : Room) s m #[(.int (4 : Int32))] below meth c s₁ [] 0 0 := Stand.of_body Bd
  have e0 : s₁.heap = h0 := by rw [← hh, Bd.state]; rfl
  have N0 := Fr.nil n0
  have pre0 : ∀ t, Steps p.tables e below (s₁.setTop (mkF m 0 #[.val (.int (4 : Int32))] [])) t → Steps p.tables e below (s₁.setTop (entryFrame m #[(.int (4 : Int32))] 1)) t := fun t k => castTop (by first | (simp [entryFrame, mkF, argsToLocals, Value.category, maxLocals]; done) | rfl) k
  obtain ⟨T1, X1, e1, st1⟩ := getS2 X0 hx hZ hown (host := "") (Or.inl (own_w17 hw)) Via.refl e0 S4 (g := (mkF m 40 #[.val (.int (4 : Int32))] [])) rfl (hb hby own_d1_40)
  obtain ⟨fs, hr, hrun, hended, hW, hsame⟩ := X1.leave (v := some (.ref s4)) (fun h => by rw [Bd.returns] at h; cases h)
  refine ⟨_, _, pre0 _ ?_, hrun, hended, _, _, rfl, ?_, ⟨_, rfl⟩, hW, hsame.mono (by decide) (by decide)⟩
  · show Steps _ _ _ (s₁.setTop (mkF m 0 #[.val (.int (4 : Int32))] [])) _
    refine XS.iloadN X0.here hx rfl (hb hby own_d1_0) rfl ?_
    refine XS.ifYes X0.here hx rfl (pc0 := 1) (pc' := 8) rfl (hb hby own_d1_1) rfl ((if0 _ _).trans (feq (by decide : ¬ ((4 : Int32) = (0 : Int32)))).2) (by decide) (by decide) ?_
    refine XS.iloadN X0.here hx rfl (hb hby own_d1_8) rfl ?_
    refine XS.iconst X0.here hx rfl (hb hby own_d1_9) ?_
    show Steps _ _ _ (s₁.setTop (mkF m 10 #[.val (.int (4 : Int32))] [(.int (1 : Int32)), (.int (4 : Int32))])) _
    refine XS.icmpYes X0.here hx rfl (pc0 := 10) (pc' := 17) rfl (hb hby own_d1_10) rfl (feq (by decide : ¬ ((4 : Int32) = (1 : Int32)))).2 (by decide) (by decide) ?_
    refine XS.iloadN X0.here hx rfl (hb hby own_d1_17) rfl ?_
    refine XS.iconst X0.here hx rfl (hb hby own_d1_18) ?_
    refine XS.icmpYes X0.here hx rfl (pc0 := 19) (pc' := 26) rfl (hb hby own_d1_19) rfl (feq (by decide : ¬ ((4 : Int32) = (2 : Int32)))).2 (by decide) (by decide) ?_
    show Steps _ _ _ (s₁.setTop (mkF m 26 #[.val (.int (4 : Int32))] [])) _
    refine XS.iloadN X0.here hx rfl (hb hby own_d1_26) rfl ?_
    refine XS.iconst X0.here hx rfl (hb hby own_d1_27) ?_
    refine XS.icmpYes X0.here hx rfl (pc0 := 28) (pc' := 35) rfl (hb hby own_d1_28) rfl (feq (by decide : ¬ ((4 : Int32) = (3 : Int32)))).2 (by decide) (by decide) ?_
    refine XS.iloadN X0.here hx rfl (hb hby own_d1_35) rfl ?_
    show Steps _ _ _ (s₁.setTop (mkF m 36 #[.val (.int (4 : Int32))] [(.int (4 : Int32))])) _
    refine XS.iconst X0.here hx rfl (hb hby own_d1_36) ?_
    refine XS.icmpNo X0.here hx rfl (hb hby own_d1_37) rfl (teq (by decide : (4 : Int32) = (4 : Int32))).2 ?_
    refine st1 _ ?_
    show Steps _ _ _ (T1.setTop (mkF m 43 #[.val (.int (4 : Int32))] [(.ref s4)])) _
    jvm_step X1.here [X1.here.top, hx, (hb hby own_d1_43), X1.method', Bd.returns, Value.isRef, FieldType.isReference]
    first | (intro acts; rw [hr _ acts rfl rfl rfl]) | rw [hr _ _ rfl rfl rfl]
    exact Steps.refl _
  · show Qown_pick4 Z s0 s1 s2 s3 s4 s5 s6 s7 s8 s9 h0 n0 _ T1.heap _
    rw [e1]
    exact ⟨rfl, N0, rfl⟩
def Qown_pick5 (Z : State) (s0 s1 s2 s3 s4 s5 s6 s7 s8 s9 : Addr) (h0 : Heap) (n0 : Nat) (v : Option Value) (h : Heap) (L : List Loc) : Prop := v = some (.ref s5) ∧ Fr n0 L ∧ h = h0
set_option maxRecDepth 65536 in
set_option maxHeartbeats 40000000 in
theorem own_pick5 (l : Launch) (Z : State) (a0 : Array Value) (hw : ∀ d ∈ tables_1, d.before a0 Z = true) (ws : List Jvm.Cond) (s0 s1 s2 s3 s4 s5 s6 s7 s8 s9 : Addr) (h0 : Heap) (n0 : Nat) (Z0 : n0 ≤ h0.size) (S0 : Sta Z h0 "infixion/language/Function" "MAX" "Linfixion/language/Function;" (.ref s0)) (S1 : Sta Z h0 "infixion/language/Function" "MIN" "Linfixion/language/Function;" (.ref s1)) (S2 : Sta Z h0 "infixion/language/Function" "ABS" "Linfixion/language/Function;" (.ref s2)) (S3 : Sta Z h0 "infixion/language/Function" "SQRT" "Linfixion/language/Function;" (.ref s3)) (S4 : Sta Z h0 "infixion/language/Function" "SIN" "Linfixion/language/Function;" (.ref s4)) (S5 : Sta Z h0 "infixion/language/Function" "COS" "Linfixion/language/Function;" (.ref s5)) (S6 : Sta Z h0 "infixion/language/Function" "ROUND" "Linfixion/language/Function;" (.ref s6)) (S7 : Sta Z h0 "infixion/language/Function" "FACT" "Linfixion/language/Function;" (.ref s7)) (S8 : Sta Z h0 "infixion/language/Function" "PERM" "Linfixion/language/Function;" (.ref s8)) (S9 : Sta Z h0 "infixion/language/Function" "COMB" "Linfixion/language/Function;" (.ref s9)) :
    MetFree l own_m0 (head1 (Jvm.Cond.code own_m0 method_2_code 1 (some (.object "infixion/language/Function")) :: ws) ({ frames := 0, cells := 0, slots := 0, locals := 0 } : Room)) (fun a U => a = #[(.int (5 : Int32))] ∧ Z.Warmed39 U.vm ∧ U.heap = h0) (fun _ _ _ _ _ => True) (fun _ U o U' => ∃ v L, o = .returned v ∧ Qown_pick5 Z s0 s1 s2 s3 s4 s5 s6 s7 s8 s9 h0 n0 v U'.heap L ∧ FrameEnd U o U' L ({ frames := 0, cells := 0, slots := 0, locals := 0 } : Room).cells ({ frames := 0, cells := 0, slots := 0, locals := 0 } : Room).slots) := by
  refine MetFree.of_bodySF (plainFor_of_name own_pn0) hisR ?_
  intro p e s m args below meth c s₁ Bd hml0 hP hK
  obtain ⟨rfl, hZ, hh⟩ := hP
  have hx := Bd.exec
  have hby := Bd.bytes
  have hml : c.maxLocals = 1 := hml0
  have hown : s.vm.findClass "infixion/language/FunctionTakesPinLaw" = some m.cls := findClass_of_methodNamed Bd.named
  have hnm := (name_of_methodNamed Bd.named Bd.method).1
  have X0 : Stand p l e ({ frames := 0, cells := 0, slots := 0, locals := 0 } : Room) s m #[(.int (5 : Int32))] below meth c s₁ [] 0 0 := Stand.of_body Bd
  have e0 : s₁.heap = h0 := by rw [← hh, Bd.state]; rfl
  have N0 := Fr.nil n0
  have pre0 : ∀ t, Steps p.tables e below (s₁.setTop (mkF m 0 #[.val (.int (5 : Int32))] [])) t → Steps p.tables e below (s₁.setTop (entryFrame m #[(.int (5 : Int32))] 1)) t := fun t k => castTop (by first | (simp [entryFrame, mkF, argsToLocals, Value.category, maxLocals]; done) | rfl) k
  obtain ⟨T1, X1, e1, st1⟩ := getS2 X0 hx hZ hown (host := "") (Or.inl (own_w31 hw)) Via.refl e0 S5 (g := (mkF m 49 #[.val (.int (5 : Int32))] [])) rfl (hb hby own_d1_49)
  obtain ⟨fs, hr, hrun, hended, hW, hsame⟩ := X1.leave (v := some (.ref s5)) (fun h => by rw [Bd.returns] at h; cases h)
  refine ⟨_, _, pre0 _ ?_, hrun, hended, _, _, rfl, ?_, ⟨_, rfl⟩, hW, hsame.mono (by decide) (by decide)⟩
  · show Steps _ _ _ (s₁.setTop (mkF m 0 #[.val (.int (5 : Int32))] [])) _
    refine XS.iloadN X0.here hx rfl (hb hby own_d1_0) rfl ?_
    refine XS.ifYes X0.here hx rfl (pc0 := 1) (pc' := 8) rfl (hb hby own_d1_1) rfl ((if0 _ _).trans (feq (by decide : ¬ ((5 : Int32) = (0 : Int32)))).2) (by decide) (by decide) ?_
    refine XS.iloadN X0.here hx rfl (hb hby own_d1_8) rfl ?_
    refine XS.iconst X0.here hx rfl (hb hby own_d1_9) ?_
    show Steps _ _ _ (s₁.setTop (mkF m 10 #[.val (.int (5 : Int32))] [(.int (1 : Int32)), (.int (5 : Int32))])) _
    refine XS.icmpYes X0.here hx rfl (pc0 := 10) (pc' := 17) rfl (hb hby own_d1_10) rfl (feq (by decide : ¬ ((5 : Int32) = (1 : Int32)))).2 (by decide) (by decide) ?_
    refine XS.iloadN X0.here hx rfl (hb hby own_d1_17) rfl ?_
    refine XS.iconst X0.here hx rfl (hb hby own_d1_18) ?_
    refine XS.icmpYes X0.here hx rfl (pc0 := 19) (pc' := 26) rfl (hb hby own_d1_19) rfl (feq (by decide : ¬ ((5 : Int32) = (2 : Int32)))).2 (by decide) (by decide) ?_
    show Steps _ _ _ (s₁.setTop (mkF m 26 #[.val (.int (5 : Int32))] [])) _
    refine XS.iloadN X0.here hx rfl (hb hby own_d1_26) rfl ?_
    refine XS.iconst X0.here hx rfl (hb hby own_d1_27) ?_
    refine XS.icmpYes X0.here hx rfl (pc0 := 28) (pc' := 35) rfl (hb hby own_d1_28) rfl (feq (by decide : ¬ ((5 : Int32) = (3 : Int32)))).2 (by decide) (by decide) ?_
    refine XS.iloadN X0.here hx rfl (hb hby own_d1_35) rfl ?_
    show Steps _ _ _ (s₁.setTop (mkF m 36 #[.val (.int (5 : Int32))] [(.int (5 : Int32))])) _
    refine XS.iconst X0.here hx rfl (hb hby own_d1_36) ?_
    refine XS.icmpYes X0.here hx rfl (pc0 := 37) (pc' := 44) rfl (hb hby own_d1_37) rfl (feq (by decide : ¬ ((5 : Int32) = (4 : Int32)))).2 (by decide) (by decide) ?_
    refine XS.iloadN X0.here hx rfl (hb hby own_d1_44) rfl ?_
    refine XS.iconst X0.here hx rfl (hb hby own_d1_45) ?_
    show Steps _ _ _ (s₁.setTop (mkF m 46 #[.val (.int (5 : Int32))] [(.int (5 : Int32)), (.int (5 : Int32))])) _
    refine XS.icmpNo X0.here hx rfl (hb hby own_d1_46) rfl (teq (by decide : (5 : Int32) = (5 : Int32))).2 ?_
    refine st1 _ ?_
    show Steps _ _ _ (T1.setTop (mkF m 52 #[.val (.int (5 : Int32))] [(.ref s5)])) _
    jvm_step X1.here [X1.here.top, hx, (hb hby own_d1_52), X1.method', Bd.returns, Value.isRef, FieldType.isReference]
    first | (intro acts; rw [hr _ acts rfl rfl rfl]) | rw [hr _ _ rfl rfl rfl]
    exact Steps.refl _
  · show Qown_pick5 Z s0 s1 s2 s3 s4 s5 s6 s7 s8 s9 h0 n0 _ T1.heap _
    rw [e1]
    exact ⟨rfl, N0, rfl⟩
def Qown_pick6 (Z : State) (s0 s1 s2 s3 s4 s5 s6 s7 s8 s9 : Addr) (h0 : Heap) (n0 : Nat) (v : Option Value) (h : Heap) (L : List Loc) : Prop := v = some (.ref s6) ∧ Fr n0 L ∧ h = h0
set_option maxRecDepth 65536 in
set_option maxHeartbeats 40000000 in
theorem own_pick6 (l : Launch) (Z : State) (a0 : Array Value) (hw : ∀ d ∈ tables_1, d.before a0 Z = true) (ws : List Jvm.Cond) (s0 s1 s2 s3 s4 s5 s6 s7 s8 s9 : Addr) (h0 : Heap) (n0 : Nat) (Z0 : n0 ≤ h0.size) (S0 : Sta Z h0 "infixion/language/Function" "MAX" "Linfixion/language/Function;" (.ref s0)) (S1 : Sta Z h0 "infixion/language/Function" "MIN" "Linfixion/language/Function;" (.ref s1)) (S2 : Sta Z h0 "infixion/language/Function" "ABS" "Linfixion/language/Function;" (.ref s2)) (S3 : Sta Z h0 "infixion/language/Function" "SQRT" "Linfixion/language/Function;" (.ref s3)) (S4 : Sta Z h0 "infixion/language/Function" "SIN" "Linfixion/language/Function;" (.ref s4)) (S5 : Sta Z h0 "infixion/language/Function" "COS" "Linfixion/language/Function;" (.ref s5)) (S6 : Sta Z h0 "infixion/language/Function" "ROUND" "Linfixion/language/Function;" (.ref s6)) (S7 : Sta Z h0 "infixion/language/Function" "FACT" "Linfixion/language/Function;" (.ref s7)) (S8 : Sta Z h0 "infixion/language/Function" "PERM" "Linfixion/language/Function;" (.ref s8)) (S9 : Sta Z h0 "infixion/language/Function" "COMB" "Linfixion/language/Function;" (.ref s9)) :
    MetFree l own_m0 (head1 (Jvm.Cond.code own_m0 method_2_code 1 (some (.object "infixion/language/Function")) :: ws) ({ frames := 0, cells := 0, slots := 0, locals := 0 } : Room)) (fun a U => a = #[(.int (6 : Int32))] ∧ Z.Warmed39 U.vm ∧ U.heap = h0) (fun _ _ _ _ _ => True) (fun _ U o U' => ∃ v L, o = .returned v ∧ Qown_pick6 Z s0 s1 s2 s3 s4 s5 s6 s7 s8 s9 h0 n0 v U'.heap L ∧ FrameEnd U o U' L ({ frames := 0, cells := 0, slots := 0, locals := 0 } : Room).cells ({ frames := 0, cells := 0, slots := 0, locals := 0 } : Room).slots) := by
  refine MetFree.of_bodySF (plainFor_of_name own_pn0) hisR ?_
  intro p e s m args below meth c s₁ Bd hml0 hP hK
  obtain ⟨rfl, hZ, hh⟩ := hP
  have hx := Bd.exec
  have hby := Bd.bytes
  have hml : c.maxLocals = 1 := hml0
  have hown : s.vm.findClass "infixion/language/FunctionTakesPinLaw" = some m.cls := findClass_of_methodNamed Bd.named
  have hnm := (name_of_methodNamed Bd.named Bd.method).1
  have X0 : Stand p l e ({ frames := 0, cells := 0, slots := 0, locals := 0 } : Room) s m #[(.int (6 : Int32))] below meth c s₁ [] 0 0 := Stand.of_body Bd
  have e0 : s₁.heap = h0 := by rw [← hh, Bd.state]; rfl
  have N0 := Fr.nil n0
  have pre0 : ∀ t, Steps p.tables e below (s₁.setTop (mkF m 0 #[.val (.int (6 : Int32))] [])) t → Steps p.tables e below (s₁.setTop (entryFrame m #[(.int (6 : Int32))] 1)) t := fun t k => castTop (by first | (simp [entryFrame, mkF, argsToLocals, Value.category, maxLocals]; done) | rfl) k
  obtain ⟨T1, X1, e1, st1⟩ := getS2 X0 hx hZ hown (host := "") (Or.inl (own_w21 hw)) Via.refl e0 S6 (g := (mkF m 59 #[.val (.int (6 : Int32))] [])) rfl (hb hby own_d1_59)
  obtain ⟨fs, hr, hrun, hended, hW, hsame⟩ := X1.leave (v := some (.ref s6)) (fun h => by rw [Bd.returns] at h; cases h)
  refine ⟨_, _, pre0 _ ?_, hrun, hended, _, _, rfl, ?_, ⟨_, rfl⟩, hW, hsame.mono (by decide) (by decide)⟩
  · show Steps _ _ _ (s₁.setTop (mkF m 0 #[.val (.int (6 : Int32))] [])) _
    refine XS.iloadN X0.here hx rfl (hb hby own_d1_0) rfl ?_
    refine XS.ifYes X0.here hx rfl (pc0 := 1) (pc' := 8) rfl (hb hby own_d1_1) rfl ((if0 _ _).trans (feq (by decide : ¬ ((6 : Int32) = (0 : Int32)))).2) (by decide) (by decide) ?_
    refine XS.iloadN X0.here hx rfl (hb hby own_d1_8) rfl ?_
    refine XS.iconst X0.here hx rfl (hb hby own_d1_9) ?_
    show Steps _ _ _ (s₁.setTop (mkF m 10 #[.val (.int (6 : Int32))] [(.int (1 : Int32)), (.int (6 : Int32))])) _
    refine XS.icmpYes X0.here hx rfl (pc0 := 10) (pc' := 17) rfl (hb hby own_d1_10) rfl (feq (by decide : ¬ ((6 : Int32) = (1 : Int32)))).2 (by decide) (by decide) ?_
    refine XS.iloadN X0.here hx rfl (hb hby own_d1_17) rfl ?_
    refine XS.iconst X0.here hx rfl (hb hby own_d1_18) ?_
    refine XS.icmpYes X0.here hx rfl (pc0 := 19) (pc' := 26) rfl (hb hby own_d1_19) rfl (feq (by decide : ¬ ((6 : Int32) = (2 : Int32)))).2 (by decide) (by decide) ?_
    show Steps _ _ _ (s₁.setTop (mkF m 26 #[.val (.int (6 : Int32))] [])) _
    refine XS.iloadN X0.here hx rfl (hb hby own_d1_26) rfl ?_
    refine XS.iconst X0.here hx rfl (hb hby own_d1_27) ?_
    refine XS.icmpYes X0.here hx rfl (pc0 := 28) (pc' := 35) rfl (hb hby own_d1_28) rfl (feq (by decide : ¬ ((6 : Int32) = (3 : Int32)))).2 (by decide) (by decide) ?_
    refine XS.iloadN X0.here hx rfl (hb hby own_d1_35) rfl ?_
    show Steps _ _ _ (s₁.setTop (mkF m 36 #[.val (.int (6 : Int32))] [(.int (6 : Int32))])) _
    refine XS.iconst X0.here hx rfl (hb hby own_d1_36) ?_
    refine XS.icmpYes X0.here hx rfl (pc0 := 37) (pc' := 44) rfl (hb hby own_d1_37) rfl (feq (by decide : ¬ ((6 : Int32) = (4 : Int32)))).2 (by decide) (by decide) ?_
    refine XS.iloadN X0.here hx rfl (hb hby own_d1_44) rfl ?_
    refine XS.iconst X0.here hx rfl (hb hby own_d1_45) ?_
    show Steps _ _ _ (s₁.setTop (mkF m 46 #[.val (.int (6 : Int32))] [(.int (5 : Int32)), (.int (6 : Int32))])) _
    refine XS.icmpYes X0.here hx rfl (pc0 := 46) (pc' := 53) rfl (hb hby own_d1_46) rfl (feq (by decide : ¬ ((6 : Int32) = (5 : Int32)))).2 (by decide) (by decide) ?_
    refine XS.iloadN X0.here hx rfl (hb hby own_d1_53) rfl ?_
    refine XS.bipush X0.here hx rfl (hb hby own_d1_54) ?_
    refine XS.icmpNo X0.here hx rfl (hb hby own_d1_56) rfl (teq (by decide : (6 : Int32) = (6 : Int32))).2 ?_
    show Steps _ _ _ (s₁.setTop (mkF m 59 #[.val (.int (6 : Int32))] [])) _
    refine st1 _ ?_
    show Steps _ _ _ (T1.setTop (mkF m 62 #[.val (.int (6 : Int32))] [(.ref s6)])) _
    jvm_step X1.here [X1.here.top, hx, (hb hby own_d1_62), X1.method', Bd.returns, Value.isRef, FieldType.isReference]
    first | (intro acts; rw [hr _ acts rfl rfl rfl]) | rw [hr _ _ rfl rfl rfl]
    exact Steps.refl _
  · show Qown_pick6 Z s0 s1 s2 s3 s4 s5 s6 s7 s8 s9 h0 n0 _ T1.heap _
    rw [e1]
    exact ⟨rfl, N0, rfl⟩
def Qown_pick7 (Z : State) (s0 s1 s2 s3 s4 s5 s6 s7 s8 s9 : Addr) (h0 : Heap) (n0 : Nat) (v : Option Value) (h : Heap) (L : List Loc) : Prop := v = some (.ref s7) ∧ Fr n0 L ∧ h = h0
set_option maxRecDepth 65536 in
set_option maxHeartbeats 40000000 in
theorem own_pick7 (l : Launch) (Z : State) (a0 : Array Value) (hw : ∀ d ∈ tables_1, d.before a0 Z = true) (ws : List Jvm.Cond) (s0 s1 s2 s3 s4 s5 s6 s7 s8 s9 : Addr) (h0 : Heap) (n0 : Nat) (Z0 : n0 ≤ h0.size) (S0 : Sta Z h0 "infixion/language/Function" "MAX" "Linfixion/language/Function;" (.ref s0)) (S1 : Sta Z h0 "infixion/language/Function" "MIN" "Linfixion/language/Function;" (.ref s1)) (S2 : Sta Z h0 "infixion/language/Function" "ABS" "Linfixion/language/Function;" (.ref s2)) (S3 : Sta Z h0 "infixion/language/Function" "SQRT" "Linfixion/language/Function;" (.ref s3)) (S4 : Sta Z h0 "infixion/language/Function" "SIN" "Linfixion/language/Function;" (.ref s4)) (S5 : Sta Z h0 "infixion/language/Function" "COS" "Linfixion/language/Function;" (.ref s5)) (S6 : Sta Z h0 "infixion/language/Function" "ROUND" "Linfixion/language/Function;" (.ref s6)) (S7 : Sta Z h0 "infixion/language/Function" "FACT" "Linfixion/language/Function;" (.ref s7)) (S8 : Sta Z h0 "infixion/language/Function" "PERM" "Linfixion/language/Function;" (.ref s8)) (S9 : Sta Z h0 "infixion/language/Function" "COMB" "Linfixion/language/Function;" (.ref s9)) :
    MetFree l own_m0 (head1 (Jvm.Cond.code own_m0 method_2_code 1 (some (.object "infixion/language/Function")) :: ws) ({ frames := 0, cells := 0, slots := 0, locals := 0 } : Room)) (fun a U => a = #[(.int (7 : Int32))] ∧ Z.Warmed39 U.vm ∧ U.heap = h0) (fun _ _ _ _ _ => True) (fun _ U o U' => ∃ v L, o = .returned v ∧ Qown_pick7 Z s0 s1 s2 s3 s4 s5 s6 s7 s8 s9 h0 n0 v U'.heap L ∧ FrameEnd U o U' L ({ frames := 0, cells := 0, slots := 0, locals := 0 } : Room).cells ({ frames := 0, cells := 0, slots := 0, locals := 0 } : Room).slots) := by
  refine MetFree.of_bodySF (plainFor_of_name own_pn0) hisR ?_
  intro p e s m args below meth c s₁ Bd hml0 hP hK
  obtain ⟨rfl, hZ, hh⟩ := hP
  have hx := Bd.exec
  have hby := Bd.bytes
  have hml : c.maxLocals = 1 := hml0
  have hown : s.vm.findClass "infixion/language/FunctionTakesPinLaw" = some m.cls := findClass_of_methodNamed Bd.named
  have hnm := (name_of_methodNamed Bd.named Bd.method).1
  have X0 : Stand p l e ({ frames := 0, cells := 0, slots := 0, locals := 0 } : Room) s m #[(.int (7 : Int32))] below meth c s₁ [] 0 0 := Stand.of_body Bd
  have e0 : s₁.heap = h0 := by rw [← hh, Bd.state]; rfl
  have N0 := Fr.nil n0
  have pre0 : ∀ t, Steps p.tables e below (s₁.setTop (mkF m 0 #[.val (.int (7 : Int32))] [])) t → Steps p.tables e below (s₁.setTop (entryFrame m #[(.int (7 : Int32))] 1)) t := fun t k => castTop (by first | (simp [entryFrame, mkF, argsToLocals, Value.category, maxLocals]; done) | rfl) k
  obtain ⟨T1, X1, e1, st1⟩ := getS2 X0 hx hZ hown (host := "") (Or.inl (own_w33 hw)) Via.refl e0 S7 (g := (mkF m 69 #[.val (.int (7 : Int32))] [])) rfl (hb hby own_d1_69)
  obtain ⟨fs, hr, hrun, hended, hW, hsame⟩ := X1.leave (v := some (.ref s7)) (fun h => by rw [Bd.returns] at h; cases h)
  refine ⟨_, _, pre0 _ ?_, hrun, hended, _, _, rfl, ?_, ⟨_, rfl⟩, hW, hsame.mono (by decide) (by decide)⟩
  · show Steps _ _ _ (s₁.setTop (mkF m 0 #[.val (.int (7 : Int32))] [])) _
    refine XS.iloadN X0.here hx rfl (hb hby own_d1_0) rfl ?_
    refine XS.ifYes X0.here hx rfl (pc0 := 1) (pc' := 8) rfl (hb hby own_d1_1) rfl ((if0 _ _).trans (feq (by decide : ¬ ((7 : Int32) = (0 : Int32)))).2) (by decide) (by decide) ?_
    refine XS.iloadN X0.here hx rfl (hb hby own_d1_8) rfl ?_
    refine XS.iconst X0.here hx rfl (hb hby own_d1_9) ?_
    show Steps _ _ _ (s₁.setTop (mkF m 10 #[.val (.int (7 : Int32))] [(.int (1 : Int32)), (.int (7 : Int32))])) _
    refine XS.icmpYes X0.here hx rfl (pc0 := 10) (pc' := 17) rfl (hb hby own_d1_10) rfl (feq (by decide : ¬ ((7 : Int32) = (1 : Int32)))).2 (by decide) (by decide) ?_
    refine XS.iloadN X0.here hx rfl (hb hby own_d1_17) rfl ?_
    refine XS.iconst X0.here hx rfl (hb hby own_d1_18) ?_
    refine XS.icmpYes X0.here hx rfl (pc0 := 19) (pc' := 26) rfl (hb hby own_d1_19) rfl (feq (by decide : ¬ ((7 : Int32) = (2 : Int32)))).2 (by decide) (by decide) ?_
    show Steps _ _ _ (s₁.setTop (mkF m 26 #[.val (.int (7 : Int32))] [])) _
    refine XS.iloadN X0.here hx rfl (hb hby own_d1_26) rfl ?_
    refine XS.iconst X0.here hx rfl (hb hby own_d1_27) ?_
    refine XS.icmpYes X0.here hx rfl (pc0 := 28) (pc' := 35) rfl (hb hby own_d1_28) rfl (feq (by decide : ¬ ((7 : Int32) = (3 : Int32)))).2 (by decide) (by decide) ?_
    refine XS.iloadN X0.here hx rfl (hb hby own_d1_35) rfl ?_
    show Steps _ _ _ (s₁.setTop (mkF m 36 #[.val (.int (7 : Int32))] [(.int (7 : Int32))])) _
    refine XS.iconst X0.here hx rfl (hb hby own_d1_36) ?_
    refine XS.icmpYes X0.here hx rfl (pc0 := 37) (pc' := 44) rfl (hb hby own_d1_37) rfl (feq (by decide : ¬ ((7 : Int32) = (4 : Int32)))).2 (by decide) (by decide) ?_
    refine XS.iloadN X0.here hx rfl (hb hby own_d1_44) rfl ?_
    refine XS.iconst X0.here hx rfl (hb hby own_d1_45) ?_
    show Steps _ _ _ (s₁.setTop (mkF m 46 #[.val (.int (7 : Int32))] [(.int (5 : Int32)), (.int (7 : Int32))])) _
    refine XS.icmpYes X0.here hx rfl (pc0 := 46) (pc' := 53) rfl (hb hby own_d1_46) rfl (feq (by decide : ¬ ((7 : Int32) = (5 : Int32)))).2 (by decide) (by decide) ?_
    refine XS.iloadN X0.here hx rfl (hb hby own_d1_53) rfl ?_
    refine XS.bipush X0.here hx rfl (hb hby own_d1_54) ?_
    refine XS.icmpYes X0.here hx rfl (pc0 := 56) (pc' := 63) rfl (hb hby own_d1_56) rfl (feq (by decide : ¬ ((7 : Int32) = (6 : Int32)))).2 (by decide) (by decide) ?_
    show Steps _ _ _ (s₁.setTop (mkF m 63 #[.val (.int (7 : Int32))] [])) _
    refine XS.iloadN X0.here hx rfl (hb hby own_d1_63) rfl ?_
    refine XS.bipush X0.here hx rfl (hb hby own_d1_64) ?_
    refine XS.icmpNo X0.here hx rfl (hb hby own_d1_66) rfl (teq (by decide : (7 : Int32) = (7 : Int32))).2 ?_
    refine st1 _ ?_
    show Steps _ _ _ (T1.setTop (mkF m 72 #[.val (.int (7 : Int32))] [(.ref s7)])) _
    jvm_step X1.here [X1.here.top, hx, (hb hby own_d1_72), X1.method', Bd.returns, Value.isRef, FieldType.isReference]
    first | (intro acts; rw [hr _ acts rfl rfl rfl]) | rw [hr _ _ rfl rfl rfl]
    exact Steps.refl _
  · show Qown_pick7 Z s0 s1 s2 s3 s4 s5 s6 s7 s8 s9 h0 n0 _ T1.heap _
    rw [e1]
    exact ⟨rfl, N0, rfl⟩
def Qown_pick8 (Z : State) (s0 s1 s2 s3 s4 s5 s6 s7 s8 s9 : Addr) (h0 : Heap) (n0 : Nat) (v : Option Value) (h : Heap) (L : List Loc) : Prop := v = some (.ref s8) ∧ Fr n0 L ∧ h = h0
set_option maxRecDepth 65536 in
set_option maxHeartbeats 40000000 in
theorem own_pick8 (l : Launch) (Z : State) (a0 : Array Value) (hw : ∀ d ∈ tables_1, d.before a0 Z = true) (ws : List Jvm.Cond) (s0 s1 s2 s3 s4 s5 s6 s7 s8 s9 : Addr) (h0 : Heap) (n0 : Nat) (Z0 : n0 ≤ h0.size) (S0 : Sta Z h0 "infixion/language/Function" "MAX" "Linfixion/language/Function;" (.ref s0)) (S1 : Sta Z h0 "infixion/language/Function" "MIN" "Linfixion/language/Function;" (.ref s1)) (S2 : Sta Z h0 "infixion/language/Function" "ABS" "Linfixion/language/Function;" (.ref s2)) (S3 : Sta Z h0 "infixion/language/Function" "SQRT" "Linfixion/language/Function;" (.ref s3)) (S4 : Sta Z h0 "infixion/language/Function" "SIN" "Linfixion/language/Function;" (.ref s4)) (S5 : Sta Z h0 "infixion/language/Function" "COS" "Linfixion/language/Function;" (.ref s5)) (S6 : Sta Z h0 "infixion/language/Function" "ROUND" "Linfixion/language/Function;" (.ref s6)) (S7 : Sta Z h0 "infixion/language/Function" "FACT" "Linfixion/language/Function;" (.ref s7)) (S8 : Sta Z h0 "infixion/language/Function" "PERM" "Linfixion/language/Function;" (.ref s8)) (S9 : Sta Z h0 "infixion/language/Function" "COMB" "Linfixion/language/Function;" (.ref s9)) :
    MetFree l own_m0 (head1 (Jvm.Cond.code own_m0 method_2_code 1 (some (.object "infixion/language/Function")) :: ws) ({ frames := 0, cells := 0, slots := 0, locals := 0 } : Room)) (fun a U => a = #[(.int (8 : Int32))] ∧ Z.Warmed39 U.vm ∧ U.heap = h0) (fun _ _ _ _ _ => True) (fun _ U o U' => ∃ v L, o = .returned v ∧ Qown_pick8 Z s0 s1 s2 s3 s4 s5 s6 s7 s8 s9 h0 n0 v U'.heap L ∧ FrameEnd U o U' L ({ frames := 0, cells := 0, slots := 0, locals := 0 } : Room).cells ({ frames := 0, cells := 0, slots := 0, locals := 0 } : Room).slots) := by
  refine MetFree.of_bodySF (plainFor_of_name own_pn0) hisR ?_
  intro p e s m args below meth c s₁ Bd hml0 hP hK
  obtain ⟨rfl, hZ, hh⟩ := hP
  have hx := Bd.exec
  have hby := Bd.bytes
  have hml : c.maxLocals = 1 := hml0
  have hown : s.vm.findClass "infixion/language/FunctionTakesPinLaw" = some m.cls := findClass_of_methodNamed Bd.named
  have hnm := (name_of_methodNamed Bd.named Bd.method).1
  have X0 : Stand p l e ({ frames := 0, cells := 0, slots := 0, locals := 0 } : Room) s m #[(.int (8 : Int32))] below meth c s₁ [] 0 0 := Stand.of_body Bd
  have e0 : s₁.heap = h0 := by rw [← hh, Bd.state]; rfl
  have N0 := Fr.nil n0
  have pre0 : ∀ t, Steps p.tables e below (s₁.setTop (mkF m 0 #[.val (.int (8 : Int32))] [])) t → Steps p.tables e below (s₁.setTop (entryFrame m #[(.int (8 : Int32))] 1)) t := fun t k => castTop (by first | (simp [entryFrame, mkF, argsToLocals, Value.category, maxLocals]; done) | rfl) k
  obtain ⟨T1, X1, e1, st1⟩ := getS2 X0 hx hZ hown (host := "") (Or.inl (own_w19 hw)) Via.refl e0 S8 (g := (mkF m 79 #[.val (.int (8 : Int32))] [])) rfl (hb hby own_d1_79)
  obtain ⟨fs, hr, hrun, hended, hW, hsame⟩ := X1.leave (v := some (.ref s8)) (fun h => by rw [Bd.returns] at h; cases h)
  refine ⟨_, _, pre0 _ ?_, hrun, hended, _, _, rfl, ?_, ⟨_, rfl⟩, hW, hsame.mono (by decide) (by decide)⟩
  · show Steps _ _ _ (s₁.setTop (mkF m 0 #[.val (.int (8 : Int32))] [])) _
    refine XS.iloadN X0.here hx rfl (hb hby own_d1_0) rfl ?_
    refine XS.ifYes X0.here hx rfl (pc0 := 1) (pc' := 8) rfl (hb hby own_d1_1) rfl ((if0 _ _).trans (feq (by decide : ¬ ((8 : Int32) = (0 : Int32)))).2) (by decide) (by decide) ?_
    refine XS.iloadN X0.here hx rfl (hb hby own_d1_8) rfl ?_
    refine XS.iconst X0.here hx rfl (hb hby own_d1_9) ?_
    show Steps _ _ _ (s₁.setTop (mkF m 10 #[.val (.int (8 : Int32))] [(.int (1 : Int32)), (.int (8 : Int32))])) _
    refine XS.icmpYes X0.here hx rfl (pc0 := 10) (pc' := 17) rfl (hb hby own_d1_10) rfl (feq (by decide : ¬ ((8 : Int32) = (1 : Int32)))).2 (by decide) (by decide) ?_
    refine XS.iloadN X0.here hx rfl (hb hby own_d1_17) rfl ?_
    refine XS.iconst X0.here hx rfl (hb hby own_d1_18) ?_
    refine XS.icmpYes X0.here hx rfl (pc0 := 19) (pc' := 26) rfl (hb hby own_d1_19) rfl (feq (by decide : ¬ ((8 : Int32) = (2 : Int32)))).2 (by decide) (by decide) ?_
    show Steps _ _ _ (s₁.setTop (mkF m 26 #[.val (.int (8 : Int32))] [])) _
    refine XS.iloadN X0.here hx rfl (hb hby own_d1_26) rfl ?_
    refine XS.iconst X0.here hx rfl (hb hby own_d1_27) ?_
    refine XS.icmpYes X0.here hx rfl (pc0 := 28) (pc' := 35) rfl (hb hby own_d1_28) rfl (feq (by decide : ¬ ((8 : Int32) = (3 : Int32)))).2 (by decide) (by decide) ?_
    refine XS.iloadN X0.here hx rfl (hb hby own_d1_35) rfl ?_
    show Steps _ _ _ (s₁.setTop (mkF m 36 #[.val (.int (8 : Int32))] [(.int (8 : Int32))])) _
    refine XS.iconst X0.here hx rfl (hb hby own_d1_36) ?_
    refine XS.icmpYes X0.here hx rfl (pc0 := 37) (pc' := 44) rfl (hb hby own_d1_37) rfl (feq (by decide : ¬ ((8 : Int32) = (4 : Int32)))).2 (by decide) (by decide) ?_
    refine XS.iloadN X0.here hx rfl (hb hby own_d1_44) rfl ?_
    refine XS.iconst X0.here hx rfl (hb hby own_d1_45) ?_
    show Steps _ _ _ (s₁.setTop (mkF m 46 #[.val (.int (8 : Int32))] [(.int (5 : Int32)), (.int (8 : Int32))])) _
    refine XS.icmpYes X0.here hx rfl (pc0 := 46) (pc' := 53) rfl (hb hby own_d1_46) rfl (feq (by decide : ¬ ((8 : Int32) = (5 : Int32)))).2 (by decide) (by decide) ?_
    refine XS.iloadN X0.here hx rfl (hb hby own_d1_53) rfl ?_
    refine XS.bipush X0.here hx rfl (hb hby own_d1_54) ?_
    refine XS.icmpYes X0.here hx rfl (pc0 := 56) (pc' := 63) rfl (hb hby own_d1_56) rfl (feq (by decide : ¬ ((8 : Int32) = (6 : Int32)))).2 (by decide) (by decide) ?_
    show Steps _ _ _ (s₁.setTop (mkF m 63 #[.val (.int (8 : Int32))] [])) _
    refine XS.iloadN X0.here hx rfl (hb hby own_d1_63) rfl ?_
    refine XS.bipush X0.here hx rfl (hb hby own_d1_64) ?_
    refine XS.icmpYes X0.here hx rfl (pc0 := 66) (pc' := 73) rfl (hb hby own_d1_66) rfl (feq (by decide : ¬ ((8 : Int32) = (7 : Int32)))).2 (by decide) (by decide) ?_
    refine XS.iloadN X0.here hx rfl (hb hby own_d1_73) rfl ?_
    show Steps _ _ _ (s₁.setTop (mkF m 74 #[.val (.int (8 : Int32))] [(.int (8 : Int32))])) _
    refine XS.bipush X0.here hx rfl (hb hby own_d1_74) ?_
    refine XS.icmpNo X0.here hx rfl (hb hby own_d1_76) rfl (teq (by decide : (8 : Int32) = (8 : Int32))).2 ?_
    refine st1 _ ?_
    show Steps _ _ _ (T1.setTop (mkF m 82 #[.val (.int (8 : Int32))] [(.ref s8)])) _
    jvm_step X1.here [X1.here.top, hx, (hb hby own_d1_82), X1.method', Bd.returns, Value.isRef, FieldType.isReference]
    first | (intro acts; rw [hr _ acts rfl rfl rfl]) | rw [hr _ _ rfl rfl rfl]
    exact Steps.refl _
  · show Qown_pick8 Z s0 s1 s2 s3 s4 s5 s6 s7 s8 s9 h0 n0 _ T1.heap _
    rw [e1]
    exact ⟨rfl, N0, rfl⟩
def Qown_pick9 (Z : State) (s0 s1 s2 s3 s4 s5 s6 s7 s8 s9 : Addr) (h0 : Heap) (n0 : Nat) (v : Option Value) (h : Heap) (L : List Loc) : Prop := v = some (.ref s9) ∧ Fr n0 L ∧ h = h0
set_option maxRecDepth 65536 in
set_option maxHeartbeats 40000000 in
theorem own_pick9 (l : Launch) (Z : State) (a0 : Array Value) (hw : ∀ d ∈ tables_1, d.before a0 Z = true) (ws : List Jvm.Cond) (s0 s1 s2 s3 s4 s5 s6 s7 s8 s9 : Addr) (h0 : Heap) (n0 : Nat) (Z0 : n0 ≤ h0.size) (S0 : Sta Z h0 "infixion/language/Function" "MAX" "Linfixion/language/Function;" (.ref s0)) (S1 : Sta Z h0 "infixion/language/Function" "MIN" "Linfixion/language/Function;" (.ref s1)) (S2 : Sta Z h0 "infixion/language/Function" "ABS" "Linfixion/language/Function;" (.ref s2)) (S3 : Sta Z h0 "infixion/language/Function" "SQRT" "Linfixion/language/Function;" (.ref s3)) (S4 : Sta Z h0 "infixion/language/Function" "SIN" "Linfixion/language/Function;" (.ref s4)) (S5 : Sta Z h0 "infixion/language/Function" "COS" "Linfixion/language/Function;" (.ref s5)) (S6 : Sta Z h0 "infixion/language/Function" "ROUND" "Linfixion/language/Function;" (.ref s6)) (S7 : Sta Z h0 "infixion/language/Function" "FACT" "Linfixion/language/Function;" (.ref s7)) (S8 : Sta Z h0 "infixion/language/Function" "PERM" "Linfixion/language/Function;" (.ref s8)) (S9 : Sta Z h0 "infixion/language/Function" "COMB" "Linfixion/language/Function;" (.ref s9)) :
    MetFree l own_m0 (head1 (Jvm.Cond.code own_m0 method_2_code 1 (some (.object "infixion/language/Function")) :: ws) ({ frames := 0, cells := 0, slots := 0, locals := 0 } : Room)) (fun a U => a = #[(.int (9 : Int32))] ∧ Z.Warmed39 U.vm ∧ U.heap = h0) (fun _ _ _ _ _ => True) (fun _ U o U' => ∃ v L, o = .returned v ∧ Qown_pick9 Z s0 s1 s2 s3 s4 s5 s6 s7 s8 s9 h0 n0 v U'.heap L ∧ FrameEnd U o U' L ({ frames := 0, cells := 0, slots := 0, locals := 0 } : Room).cells ({ frames := 0, cells := 0, slots := 0, locals := 0 } : Room).slots) := by
  refine MetFree.of_bodySF (plainFor_of_name own_pn0) hisR ?_
  intro p e s m args below meth c s₁ Bd hml0 hP hK
  obtain ⟨rfl, hZ, hh⟩ := hP
  have hx := Bd.exec
  have hby := Bd.bytes
  have hml : c.maxLocals = 1 := hml0
  have hown : s.vm.findClass "infixion/language/FunctionTakesPinLaw" = some m.cls := findClass_of_methodNamed Bd.named
  have hnm := (name_of_methodNamed Bd.named Bd.method).1
  have X0 : Stand p l e ({ frames := 0, cells := 0, slots := 0, locals := 0 } : Room) s m #[(.int (9 : Int32))] below meth c s₁ [] 0 0 := Stand.of_body Bd
  have e0 : s₁.heap = h0 := by rw [← hh, Bd.state]; rfl
  have N0 := Fr.nil n0
  have pre0 : ∀ t, Steps p.tables e below (s₁.setTop (mkF m 0 #[.val (.int (9 : Int32))] [])) t → Steps p.tables e below (s₁.setTop (entryFrame m #[(.int (9 : Int32))] 1)) t := fun t k => castTop (by first | (simp [entryFrame, mkF, argsToLocals, Value.category, maxLocals]; done) | rfl) k
  obtain ⟨T1, X1, e1, st1⟩ := getS2 X0 hx hZ hown (host := "") (Or.inl (own_w23 hw)) Via.refl e0 S9 (g := (mkF m 83 #[.val (.int (9 : Int32))] [])) rfl (hb hby own_d1_83)
  obtain ⟨fs, hr, hrun, hended, hW, hsame⟩ := X1.leave (v := some (.ref s9)) (fun h => by rw [Bd.returns] at h; cases h)
  refine ⟨_, _, pre0 _ ?_, hrun, hended, _, _, rfl, ?_, ⟨_, rfl⟩, hW, hsame.mono (by decide) (by decide)⟩
  · show Steps _ _ _ (s₁.setTop (mkF m 0 #[.val (.int (9 : Int32))] [])) _
    refine XS.iloadN X0.here hx rfl (hb hby own_d1_0) rfl ?_
    refine XS.ifYes X0.here hx rfl (pc0 := 1) (pc' := 8) rfl (hb hby own_d1_1) rfl ((if0 _ _).trans (feq (by decide : ¬ ((9 : Int32) = (0 : Int32)))).2) (by decide) (by decide) ?_
    refine XS.iloadN X0.here hx rfl (hb hby own_d1_8) rfl ?_
    refine XS.iconst X0.here hx rfl (hb hby own_d1_9) ?_
    show Steps _ _ _ (s₁.setTop (mkF m 10 #[.val (.int (9 : Int32))] [(.int (1 : Int32)), (.int (9 : Int32))])) _
    refine XS.icmpYes X0.here hx rfl (pc0 := 10) (pc' := 17) rfl (hb hby own_d1_10) rfl (feq (by decide : ¬ ((9 : Int32) = (1 : Int32)))).2 (by decide) (by decide) ?_
    refine XS.iloadN X0.here hx rfl (hb hby own_d1_17) rfl ?_
    refine XS.iconst X0.here hx rfl (hb hby own_d1_18) ?_
    refine XS.icmpYes X0.here hx rfl (pc0 := 19) (pc' := 26) rfl (hb hby own_d1_19) rfl (feq (by decide : ¬ ((9 : Int32) = (2 : Int32)))).2 (by decide) (by decide) ?_
    show Steps _ _ _ (s₁.setTop (mkF m 26 #[.val (.int (9 : Int32))] [])) _
    refine XS.iloadN X0.here hx rfl (hb hby own_d1_26) rfl ?_
    refine XS.iconst X0.here hx rfl (hb hby own_d1_27) ?_
    refine XS.icmpYes X0.here hx rfl (pc0 := 28) (pc' := 35) rfl (hb hby own_d1_28) rfl (feq (by decide : ¬ ((9 : Int32) = (3 : Int32)))).2 (by decide) (by decide) ?_
    refine XS.iloadN X0.here hx rfl (hb hby own_d1_35) rfl ?_
    show Steps _ _ _ (s₁.setTop (mkF m 36 #[.val (.int (9 : Int32))] [(.int (9 : Int32))])) _
    refine XS.iconst X0.here hx rfl (hb hby own_d1_36) ?_
    refine XS.icmpYes X0.here hx rfl (pc0 := 37) (pc' := 44) rfl (hb hby own_d1_37) rfl (feq (by decide : ¬ ((9 : Int32) = (4 : Int32)))).2 (by decide) (by decide) ?_
    refine XS.iloadN X0.here hx rfl (hb hby own_d1_44) rfl ?_
    refine XS.iconst X0.here hx rfl (hb hby own_d1_45) ?_
    show Steps _ _ _ (s₁.setTop (mkF m 46 #[.val (.int (9 : Int32))] [(.int (5 : Int32)), (.int (9 : Int32))])) _
    refine XS.icmpYes X0.here hx rfl (pc0 := 46) (pc' := 53) rfl (hb hby own_d1_46) rfl (feq (by decide : ¬ ((9 : Int32) = (5 : Int32)))).2 (by decide) (by decide) ?_
    refine XS.iloadN X0.here hx rfl (hb hby own_d1_53) rfl ?_
    refine XS.bipush X0.here hx rfl (hb hby own_d1_54) ?_
    refine XS.icmpYes X0.here hx rfl (pc0 := 56) (pc' := 63) rfl (hb hby own_d1_56) rfl (feq (by decide : ¬ ((9 : Int32) = (6 : Int32)))).2 (by decide) (by decide) ?_
    show Steps _ _ _ (s₁.setTop (mkF m 63 #[.val (.int (9 : Int32))] [])) _
    refine XS.iloadN X0.here hx rfl (hb hby own_d1_63) rfl ?_
    refine XS.bipush X0.here hx rfl (hb hby own_d1_64) ?_
    refine XS.icmpYes X0.here hx rfl (pc0 := 66) (pc' := 73) rfl (hb hby own_d1_66) rfl (feq (by decide : ¬ ((9 : Int32) = (7 : Int32)))).2 (by decide) (by decide) ?_
    refine XS.iloadN X0.here hx rfl (hb hby own_d1_73) rfl ?_
    show Steps _ _ _ (s₁.setTop (mkF m 74 #[.val (.int (9 : Int32))] [(.int (9 : Int32))])) _
    refine XS.bipush X0.here hx rfl (hb hby own_d1_74) ?_
    refine XS.icmpYes X0.here hx rfl (pc0 := 76) (pc' := 83) rfl (hb hby own_d1_76) rfl (feq (by decide : ¬ ((9 : Int32) = (8 : Int32)))).2 (by decide) (by decide) ?_
    refine st1 _ ?_
    show Steps _ _ _ (T1.setTop (mkF m 86 #[.val (.int (9 : Int32))] [(.ref s9)])) _
    jvm_step X1.here [X1.here.top, hx, (hb hby own_d1_86), X1.method', Bd.returns, Value.isRef, FieldType.isReference]
    first | (intro acts; rw [hr _ acts rfl rfl rfl]) | rw [hr _ _ rfl rfl rfl]
    exact Steps.refl _
  · show Qown_pick9 Z s0 s1 s2 s3 s4 s5 s6 s7 s8 s9 h0 n0 _ T1.heap _
    rw [e1]
    exact ⟨rfl, N0, rfl⟩
def Qown_takesa (Z : State) (a1 : Addr) (p1 : Int32) (h0 : Heap) (n0 : Nat) (v : Option Value) (h : Heap) (L : List Loc) : Prop := v = some (.int (own_t 1 2147483647 p1)) ∧ Fr n0 L ∧ h = h0
set_option maxRecDepth 65536 in
set_option maxHeartbeats 40000000 in
theorem own_takesa (l : Launch) (Z : State) (a0 : Array Value) (hw : ∀ d ∈ tables_1, d.before a0 Z = true) (ws : List Jvm.Cond) (a1 : Addr) (p1 : Int32) (h0 : Heap) (n0 : Nat) (Z0 : n0 ≤ h0.size) (A1 : Fld Z h0 a1 "infixion/language/Function" "fewest" "I" (.int (1 : Int32))) (B1 : Fld Z h0 a1 "infixion/language/Function" "most" "I" (.int (2147483647 : Int32))) :
    MetFree l own_m1 (head1 (Jvm.Cond.code own_m1 prog_14_method_6_code 2 (some .boolean) :: ws) ({ frames := 0, cells := 0, slots := 0, locals := 0 } : Room)) (fun a U => a = #[(.ref a1), (.int p1)] ∧ Z.Warmed39 U.vm ∧ U.heap = h0) (fun _ _ _ _ _ => True) (fun _ U o U' => ∃ v L, o = .returned v ∧ Qown_takesa Z a1 p1 h0 n0 v U'.heap L ∧ FrameEnd U o U' L ({ frames := 0, cells := 0, slots := 0, locals := 0 } : Room).cells ({ frames := 0, cells := 0, slots := 0, locals := 0 } : Room).slots) := by
  refine MetFree.of_bodySF (plainFor_of_name own_pn1) hisR ?_
  intro p e s m args below meth c s₁ Bd hml0 hP hK
  obtain ⟨rfl, hZ, hh⟩ := hP
  have hx := Bd.exec
  have hby := Bd.bytes
  have hml : c.maxLocals = 2 := hml0
  have hown : s.vm.findClass "infixion/language/Function" = some m.cls := findClass_of_methodNamed Bd.named
  have hnm := (name_of_methodNamed Bd.named Bd.method).1
  have X0 : Stand p l e ({ frames := 0, cells := 0, slots := 0, locals := 0 } : Room) s m #[(.ref a1), (.int p1)] below meth c s₁ [] 0 0 := Stand.of_body Bd
  have e0 : s₁.heap = h0 := by rw [← hh, Bd.state]; rfl
  have N0 := Fr.nil n0
  have pre0 : ∀ t, Steps p.tables e below (s₁.setTop (mkF m 0 #[.val (.ref a1), .val (.int p1)] [])) t → Steps p.tables e below (s₁.setTop (entryFrame m #[(.ref a1), (.int p1)] 2)) t := fun t k => castTop (by first | (simp [entryFrame, mkF, argsToLocals, Value.category, maxLocals]; done) | rfl) k
  obtain ⟨T1, X1, e1, st1⟩ := getF X0 hx hZ hown (host := "") (Or.inl (own_w13 hw)) Via.refl e0 A1 (g := (mkF m 2 #[.val (.ref a1), .val (.int p1)] [(.ref a1), (.int p1)])) rfl rfl (hb hby own_d2_2)
  have pre2 : ∀ t, Steps p.tables e below (T1.setTop (mkF m 5 #[.val (.ref a1), .val (.int p1)] [(.int (1 : Int32)), (.int p1)])) t → Steps p.tables e below (s₁.setTop (entryFrame m #[(.ref a1), (.int p1)] 2)) t := fun t kt => pre0 t (by
    show Steps _ _ _ (s₁.setTop (mkF m 0 #[.val (.ref a1), .val (.int p1)] [])) _
    refine XS.iloadN X0.here hx rfl (hb hby own_d2_0) rfl ?_
    refine XS.aloadN X0.here hx rfl (hb hby own_d2_1) rfl rfl ?_
    refine st1 _ ?_
    exact kt)
  by_cases hc5_3 : p1 < (1 : Int32)
  · skip
    have ihc5_3 := (own_lt (b := (1 : Int32)) (k := 1) rfl).mp hc5_3
    obtain ⟨fs, hr, hrun, hended, hW, hsame⟩ := X1.leave (v := some (.int (0 : Int32))) (fun h => by rw [Bd.returns] at h; cases h)
    refine ⟨_, _, pre2 _ ?_, hrun, hended, _, _, rfl, ?_, ⟨_, rfl⟩, hW, hsame.mono (by decide) (by decide)⟩
    · show Steps _ _ _ (T1.setTop (mkF m 5 #[.val (.ref a1), .val (.int p1)] [(.int (1 : Int32)), (.int p1)])) _
      refine XS.icmpYes X1.here hx rfl (pc0 := 5) (pc' := 20) rfl (hb hby own_d2_5) rfl (tlt hc5_3).1 (by decide) (by decide) ?_
      refine XS.iconst X1.here hx rfl (hb hby own_d2_20) ?_
      show Steps _ _ _ (T1.setTop (mkF m 21 #[.val (.ref a1), .val (.int p1)] [(.int (0 : Int32))])) _
      exact retN X1 hx (t := .boolean) Bd.returns (by simp) (hb hby own_d2_21) hr
    · show Qown_takesa Z a1 p1 h0 n0 _ T1.heap _
      rw [e1]
      exact ⟨congrArg (fun z => some (Value.int z)) (by unfold own_t; exact (if_neg (by have := rng32 p1; omega)).symm), N0, rfl⟩
  · skip
    have ihc5_3 := (mt (own_lt (b := (1 : Int32)) (k := 1) rfl).mpr hc5_3)
    obtain ⟨T4, X4, e4, st4⟩ := getF X1 hx hZ hown (host := "") (Or.inl (own_w15 hw)) Via.refl e1 B1 (g := (mkF m 10 #[.val (.ref a1), .val (.int p1)] [(.ref a1), (.int p1)])) rfl rfl (hb hby own_d2_10)
    obtain ⟨fs, hr, hrun, hended, hW, hsame⟩ := X4.leave (v := some (.int (1 : Int32))) (fun h => by rw [Bd.returns] at h; cases h)
    refine ⟨_, _, pre2 _ ?_, hrun, hended, _, _, rfl, ?_, ⟨_, rfl⟩, hW, hsame.mono (by decide) (by decide)⟩
    · show Steps _ _ _ (T1.setTop (mkF m 5 #[.val (.ref a1), .val (.int p1)] [(.int (1 : Int32)), (.int p1)])) _
      refine XS.icmpNo X1.here hx rfl (hb hby own_d2_5) rfl (flt hc5_3).1 ?_
      refine XS.iloadN X1.here hx rfl (hb hby own_d2_8) rfl ?_
      refine XS.aloadN X1.here hx rfl (hb hby own_d2_9) rfl rfl ?_
      refine st4 _ ?_
      show Steps _ _ _ (T4.setTop (mkF m 13 #[.val (.ref a1), .val (.int p1)] [(.int (2147483647 : Int32)), (.int p1)])) _
      refine XS.icmpNo X4.here hx rfl (hb hby own_d2_13) rfl (flt (own_ngt_of (a := (2147483647 : Int32)) (k := 2147483647) rfl (by have := rng32 p1; omega))).2.2.1 ?_
      refine XS.iconst X4.here hx rfl (hb hby own_d2_16) ?_
      refine XS.goto X4.here hx rfl (pc0 := 17) (pc' := 21) rfl (hb hby own_d2_17) (by decide) (by decide) ?_
      show Steps _ _ _ (T4.setTop (mkF m 21 #[.val (.ref a1), .val (.int p1)] [(.int (1 : Int32))])) _
      exact retN X4 hx (t := .boolean) Bd.returns (by simp) (hb hby own_d2_21) hr
    · show Qown_takesa Z a1 p1 h0 n0 _ T4.heap _
      rw [e4]
      exact ⟨congrArg (fun z => some (Value.int z)) (by unfold own_t; exact (if_pos (by have := rng32 p1; omega)).symm), N0, rfl⟩
def Qown_takesb (Z : State) (a1 : Addr) (p1 : Int32) (h0 : Heap) (n0 : Nat) (v : Option Value) (h : Heap) (L : List Loc) : Prop := v = some (.int (own_t 1 1 p1)) ∧ Fr n0 L ∧ h = h0
set_option maxRecDepth 65536 in
set_option maxHeartbeats 40000000 in
theorem own_takesb (l : Launch) (Z : State) (a0 : Array Value) (hw : ∀ d ∈ tables_1, d.before a0 Z = true) (ws : List Jvm.Cond) (a1 : Addr) (p1 : Int32) (h0 : Heap) (n0 : Nat) (Z0 : n0 ≤ h0.size) (A1 : Fld Z h0 a1 "infixion/language/Function" "fewest" "I" (.int (1 : Int32))) (B1 : Fld Z h0 a1 "infixion/language/Function" "most" "I" (.int (1 : Int32))) :
    MetFree l own_m1 (head1 (Jvm.Cond.code own_m1 prog_14_method_6_code 2 (some .boolean) :: ws) ({ frames := 0, cells := 0, slots := 0, locals := 0 } : Room)) (fun a U => a = #[(.ref a1), (.int p1)] ∧ Z.Warmed39 U.vm ∧ U.heap = h0) (fun _ _ _ _ _ => True) (fun _ U o U' => ∃ v L, o = .returned v ∧ Qown_takesb Z a1 p1 h0 n0 v U'.heap L ∧ FrameEnd U o U' L ({ frames := 0, cells := 0, slots := 0, locals := 0 } : Room).cells ({ frames := 0, cells := 0, slots := 0, locals := 0 } : Room).slots) := by
  refine MetFree.of_bodySF (plainFor_of_name own_pn1) hisR ?_
  intro p e s m args below meth c s₁ Bd hml0 hP hK
  obtain ⟨rfl, hZ, hh⟩ := hP
  have hx := Bd.exec
  have hby := Bd.bytes
  have hml : c.maxLocals = 2 := hml0
  have hown : s.vm.findClass "infixion/language/Function" = some m.cls := findClass_of_methodNamed Bd.named
  have hnm := (name_of_methodNamed Bd.named Bd.method).1
  have X0 : Stand p l e ({ frames := 0, cells := 0, slots := 0, locals := 0 } : Room) s m #[(.ref a1), (.int p1)] below meth c s₁ [] 0 0 := Stand.of_body Bd
  have e0 : s₁.heap = h0 := by rw [← hh, Bd.state]; rfl
  have N0 := Fr.nil n0
  have pre0 : ∀ t, Steps p.tables e below (s₁.setTop (mkF m 0 #[.val (.ref a1), .val (.int p1)] [])) t → Steps p.tables e below (s₁.setTop (entryFrame m #[(.ref a1), (.int p1)] 2)) t := fun t k => castTop (by first | (simp [entryFrame, mkF, argsToLocals, Value.category, maxLocals]; done) | rfl) k
  obtain ⟨T1, X1, e1, st1⟩ := getF X0 hx hZ hown (host := "") (Or.inl (own_w13 hw)) Via.refl e0 A1 (g := (mkF m 2 #[.val (.ref a1), .val (.int p1)] [(.ref a1), (.int p1)])) rfl rfl (hb hby own_d2_2)
  have pre2 : ∀ t, Steps p.tables e below (T1.setTop (mkF m 5 #[.val (.ref a1), .val (.int p1)] [(.int (1 : Int32)), (.int p1)])) t → Steps p.tables e below (s₁.setTop (entryFrame m #[(.ref a1), (.int p1)] 2)) t := fun t kt => pre0 t (by
    show Steps _ _ _ (s₁.setTop (mkF m 0 #[.val (.ref a1), .val (.int p1)] [])) _
    refine XS.iloadN X0.here hx rfl (hb hby own_d2_0) rfl ?_
    refine XS.aloadN X0.here hx rfl (hb hby own_d2_1) rfl rfl ?_
    refine st1 _ ?_
    exact kt)
  by_cases hc5_3 : p1 < (1 : Int32)
  · skip
    have ihc5_3 := (own_lt (b := (1 : Int32)) (k := 1) rfl).mp hc5_3
    obtain ⟨fs, hr, hrun, hended, hW, hsame⟩ := X1.leave (v := some (.int (0 : Int32))) (fun h => by rw [Bd.returns] at h; cases h)
    refine ⟨_, _, pre2 _ ?_, hrun, hended, _, _, rfl, ?_, ⟨_, rfl⟩, hW, hsame.mono (by decide) (by decide)⟩
    · show Steps _ _ _ (T1.setTop (mkF m 5 #[.val (.ref a1), .val (.int p1)] [(.int (1 : Int32)), (.int p1)])) _
      refine XS.icmpYes X1.here hx rfl (pc0 := 5) (pc' := 20) rfl (hb hby own_d2_5) rfl (tlt hc5_3).1 (by decide) (by decide) ?_
      refine XS.iconst X1.here hx rfl (hb hby own_d2_20) ?_
      show Steps _ _ _ (T1.setTop (mkF m 21 #[.val (.ref a1), .val (.int p1)] [(.int (0 : Int32))])) _
      exact retN X1 hx (t := .boolean) Bd.returns (by simp) (hb hby own_d2_21) hr
    · show Qown_takesb Z a1 p1 h0 n0 _ T1.heap _
      rw [e1]
      exact ⟨congrArg (fun z => some (Value.int z)) (by unfold own_t; exact (if_neg (by have := rng32 p1; omega)).symm), N0, rfl⟩
  · skip
    have ihc5_3 := (mt (own_lt (b := (1 : Int32)) (k := 1) rfl).mpr hc5_3)
    obtain ⟨T4, X4, e4, st4⟩ := getF X1 hx hZ hown (host := "") (Or.inl (own_w15 hw)) Via.refl e1 B1 (g := (mkF m 10 #[.val (.ref a1), .val (.int p1)] [(.ref a1), (.int p1)])) rfl rfl (hb hby own_d2_10)
    have pre5 : ∀ t, Steps p.tables e below (T4.setTop (mkF m 13 #[.val (.ref a1), .val (.int p1)] [(.int (1 : Int32)), (.int p1)])) t → Steps p.tables e below (s₁.setTop (entryFrame m #[(.ref a1), (.int p1)] 2)) t := fun t kt => pre2 t (by
      show Steps _ _ _ (T1.setTop (mkF m 5 #[.val (.ref a1), .val (.int p1)] [(.int (1 : Int32)), (.int p1)])) _
      refine XS.icmpNo X1.here hx rfl (hb hby own_d2_5) rfl (flt hc5_3).1 ?_
      refine XS.iloadN X1.here hx rfl (hb hby own_d2_8) rfl ?_
      refine XS.aloadN X1.here hx rfl (hb hby own_d2_9) rfl rfl ?_
      refine st4 _ ?_
      exact kt)
    by_cases hc13_6 : (1 : Int32) < p1
    · skip
      have ihc13_6 := (own_gt (a := (1 : Int32)) (k := 1) rfl).mp hc13_6
      obtain ⟨fs, hr, hrun, hended, hW, hsame⟩ := X4.leave (v := some (.int (0 : Int32))) (fun h => by rw [Bd.returns] at h; cases h)
      refine ⟨_, _, pre5 _ ?_, hrun, hended, _, _, rfl, ?_, ⟨_, rfl⟩, hW, hsame.mono (by decide) (by decide)⟩
      · show Steps _ _ _ (T4.setTop (mkF m 13 #[.val (.ref a1), .val (.int p1)] [(.int (1 : Int32)), (.int p1)])) _
        refine XS.icmpYes X4.here hx rfl (pc0 := 13) (pc' := 20) rfl (hb hby own_d2_13) rfl (tlt hc13_6).2.2.1 (by decide) (by decide) ?_
        refine XS.iconst X4.here hx rfl (hb hby own_d2_20) ?_
        show Steps _ _ _ (T4.setTop (mkF m 21 #[.val (.ref a1), .val (.int p1)] [(.int (0 : Int32))])) _
        exact retN X4 hx (t := .boolean) Bd.returns (by simp) (hb hby own_d2_21) hr
      · show Qown_takesb Z a1 p1 h0 n0 _ T4.heap _
        rw [e4]
        exact ⟨congrArg (fun z => some (Value.int z)) (by unfold own_t; exact (if_neg (by have := rng32 p1; omega)).symm), N0, rfl⟩
    · skip
      have ihc13_6 := (mt (own_gt (a := (1 : Int32)) (k := 1) rfl).mpr hc13_6)
      obtain ⟨fs, hr, hrun, hended, hW, hsame⟩ := X4.leave (v := some (.int (1 : Int32))) (fun h => by rw [Bd.returns] at h; cases h)
      refine ⟨_, _, pre5 _ ?_, hrun, hended, _, _, rfl, ?_, ⟨_, rfl⟩, hW, hsame.mono (by decide) (by decide)⟩
      · show Steps _ _ _ (T4.setTop (mkF m 13 #[.val (.ref a1), .val (.int p1)] [(.int (1 : Int32)), (.int p1)])) _
        refine XS.icmpNo X4.here hx rfl (hb hby own_d2_13) rfl (flt hc13_6).2.2.1 ?_
        refine XS.iconst X4.here hx rfl (hb hby own_d2_16) ?_
        refine XS.goto X4.here hx rfl (pc0 := 17) (pc' := 21) rfl (hb hby own_d2_17) (by decide) (by decide) ?_
        show Steps _ _ _ (T4.setTop (mkF m 21 #[.val (.ref a1), .val (.int p1)] [(.int (1 : Int32))])) _
        exact retN X4 hx (t := .boolean) Bd.returns (by simp) (hb hby own_d2_21) hr
      · show Qown_takesb Z a1 p1 h0 n0 _ T4.heap _
        rw [e4]
        exact ⟨congrArg (fun z => some (Value.int z)) (by unfold own_t; exact (if_pos (by have := rng32 p1; omega)).symm), N0, rfl⟩
def Qown_takesc (Z : State) (a1 : Addr) (p1 : Int32) (h0 : Heap) (n0 : Nat) (v : Option Value) (h : Heap) (L : List Loc) : Prop := v = some (.int (own_t 2 2 p1)) ∧ Fr n0 L ∧ h = h0
set_option maxRecDepth 65536 in
set_option maxHeartbeats 40000000 in
theorem own_takesc (l : Launch) (Z : State) (a0 : Array Value) (hw : ∀ d ∈ tables_1, d.before a0 Z = true) (ws : List Jvm.Cond) (a1 : Addr) (p1 : Int32) (h0 : Heap) (n0 : Nat) (Z0 : n0 ≤ h0.size) (A1 : Fld Z h0 a1 "infixion/language/Function" "fewest" "I" (.int (2 : Int32))) (B1 : Fld Z h0 a1 "infixion/language/Function" "most" "I" (.int (2 : Int32))) :
    MetFree l own_m1 (head1 (Jvm.Cond.code own_m1 prog_14_method_6_code 2 (some .boolean) :: ws) ({ frames := 0, cells := 0, slots := 0, locals := 0 } : Room)) (fun a U => a = #[(.ref a1), (.int p1)] ∧ Z.Warmed39 U.vm ∧ U.heap = h0) (fun _ _ _ _ _ => True) (fun _ U o U' => ∃ v L, o = .returned v ∧ Qown_takesc Z a1 p1 h0 n0 v U'.heap L ∧ FrameEnd U o U' L ({ frames := 0, cells := 0, slots := 0, locals := 0 } : Room).cells ({ frames := 0, cells := 0, slots := 0, locals := 0 } : Room).slots) := by
  refine MetFree.of_bodySF (plainFor_of_name own_pn1) hisR ?_
  intro p e s m args below meth c s₁ Bd hml0 hP hK
  obtain ⟨rfl, hZ, hh⟩ := hP
  have hx := Bd.exec
  have hby := Bd.bytes
  have hml : c.maxLocals = 2 := hml0
  have hown : s.vm.findClass "infixion/language/Function" = some m.cls := findClass_of_methodNamed Bd.named
  have hnm := (name_of_methodNamed Bd.named Bd.method).1
  have X0 : Stand p l e ({ frames := 0, cells := 0, slots := 0, locals := 0 } : Room) s m #[(.ref a1), (.int p1)] below meth c s₁ [] 0 0 := Stand.of_body Bd
  have e0 : s₁.heap = h0 := by rw [← hh, Bd.state]; rfl
  have N0 := Fr.nil n0
  have pre0 : ∀ t, Steps p.tables e below (s₁.setTop (mkF m 0 #[.val (.ref a1), .val (.int p1)] [])) t → Steps p.tables e below (s₁.setTop (entryFrame m #[(.ref a1), (.int p1)] 2)) t := fun t k => castTop (by first | (simp [entryFrame, mkF, argsToLocals, Value.category, maxLocals]; done) | rfl) k
  obtain ⟨T1, X1, e1, st1⟩ := getF X0 hx hZ hown (host := "") (Or.inl (own_w13 hw)) Via.refl e0 A1 (g := (mkF m 2 #[.val (.ref a1), .val (.int p1)] [(.ref a1), (.int p1)])) rfl rfl (hb hby own_d2_2)
  have pre2 : ∀ t, Steps p.tables e below (T1.setTop (mkF m 5 #[.val (.ref a1), .val (.int p1)] [(.int (2 : Int32)), (.int p1)])) t → Steps p.tables e below (s₁.setTop (entryFrame m #[(.ref a1), (.int p1)] 2)) t := fun t kt => pre0 t (by
    show Steps _ _ _ (s₁.setTop (mkF m 0 #[.val (.ref a1), .val (.int p1)] [])) _
    refine XS.iloadN X0.here hx rfl (hb hby own_d2_0) rfl ?_
    refine XS.aloadN X0.here hx rfl (hb hby own_d2_1) rfl rfl ?_
    refine st1 _ ?_
    exact kt)
  by_cases hc5_3 : p1 < (2 : Int32)
  · skip
    have ihc5_3 := (own_lt (b := (2 : Int32)) (k := 2) rfl).mp hc5_3
    obtain ⟨fs, hr, hrun, hended, hW, hsame⟩ := X1.leave (v := some (.int (0 : Int32))) (fun h => by rw [Bd.returns] at h; cases h)
    refine ⟨_, _, pre2 _ ?_, hrun, hended, _, _, rfl, ?_, ⟨_, rfl⟩, hW, hsame.mono (by decide) (by decide)⟩
    · show Steps _ _ _ (T1.setTop (mkF m 5 #[.val (.ref a1), .val (.int p1)] [(.int (2 : Int32)), (.int p1)])) _
      refine XS.icmpYes X1.here hx rfl (pc0 := 5) (pc' := 20) rfl (hb hby own_d2_5) rfl (tlt hc5_3).1 (by decide) (by decide) ?_
      refine XS.iconst X1.here hx rfl (hb hby own_d2_20) ?_
      show Steps _ _ _ (T1.setTop (mkF m 21 #[.val (.ref a1), .val (.int p1)] [(.int (0 : Int32))])) _
      exact retN X1 hx (t := .boolean) Bd.returns (by simp) (hb hby own_d2_21) hr
    · show Qown_takesc Z a1 p1 h0 n0 _ T1.heap _
      rw [e1]
      exact ⟨congrArg (fun z => some (Value.int z)) (by unfold own_t; exact (if_neg (by have := rng32 p1; omega)).symm), N0, rfl⟩
  · skip
    have ihc5_3 := (mt (own_lt (b := (2 : Int32)) (k := 2) rfl).mpr hc5_3)
    obtain ⟨T4, X4, e4, st4⟩ := getF X1 hx hZ hown (host := "") (Or.inl (own_w15 hw)) Via.refl e1 B1 (g := (mkF m 10 #[.val (.ref a1), .val (.int p1)] [(.ref a1), (.int p1)])) rfl rfl (hb hby own_d2_10)
    have pre5 : ∀ t, Steps p.tables e below (T4.setTop (mkF m 13 #[.val (.ref a1), .val (.int p1)] [(.int (2 : Int32)), (.int p1)])) t → Steps p.tables e below (s₁.setTop (entryFrame m #[(.ref a1), (.int p1)] 2)) t := fun t kt => pre2 t (by
      show Steps _ _ _ (T1.setTop (mkF m 5 #[.val (.ref a1), .val (.int p1)] [(.int (2 : Int32)), (.int p1)])) _
      refine XS.icmpNo X1.here hx rfl (hb hby own_d2_5) rfl (flt hc5_3).1 ?_
      refine XS.iloadN X1.here hx rfl (hb hby own_d2_8) rfl ?_
      refine XS.aloadN X1.here hx rfl (hb hby own_d2_9) rfl rfl ?_
      refine st4 _ ?_
      exact kt)
    by_cases hc13_6 : (2 : Int32) < p1
    · skip
      have ihc13_6 := (own_gt (a := (2 : Int32)) (k := 2) rfl).mp hc13_6
      obtain ⟨fs, hr, hrun, hended, hW, hsame⟩ := X4.leave (v := some (.int (0 : Int32))) (fun h => by rw [Bd.returns] at h; cases h)
      refine ⟨_, _, pre5 _ ?_, hrun, hended, _, _, rfl, ?_, ⟨_, rfl⟩, hW, hsame.mono (by decide) (by decide)⟩
      · show Steps _ _ _ (T4.setTop (mkF m 13 #[.val (.ref a1), .val (.int p1)] [(.int (2 : Int32)), (.int p1)])) _
        refine XS.icmpYes X4.here hx rfl (pc0 := 13) (pc' := 20) rfl (hb hby own_d2_13) rfl (tlt hc13_6).2.2.1 (by decide) (by decide) ?_
        refine XS.iconst X4.here hx rfl (hb hby own_d2_20) ?_
        show Steps _ _ _ (T4.setTop (mkF m 21 #[.val (.ref a1), .val (.int p1)] [(.int (0 : Int32))])) _
        exact retN X4 hx (t := .boolean) Bd.returns (by simp) (hb hby own_d2_21) hr
      · show Qown_takesc Z a1 p1 h0 n0 _ T4.heap _
        rw [e4]
        exact ⟨congrArg (fun z => some (Value.int z)) (by unfold own_t; exact (if_neg (by have := rng32 p1; omega)).symm), N0, rfl⟩
    · skip
      have ihc13_6 := (mt (own_gt (a := (2 : Int32)) (k := 2) rfl).mpr hc13_6)
      obtain ⟨fs, hr, hrun, hended, hW, hsame⟩ := X4.leave (v := some (.int (1 : Int32))) (fun h => by rw [Bd.returns] at h; cases h)
      refine ⟨_, _, pre5 _ ?_, hrun, hended, _, _, rfl, ?_, ⟨_, rfl⟩, hW, hsame.mono (by decide) (by decide)⟩
      · show Steps _ _ _ (T4.setTop (mkF m 13 #[.val (.ref a1), .val (.int p1)] [(.int (2 : Int32)), (.int p1)])) _
        refine XS.icmpNo X4.here hx rfl (hb hby own_d2_13) rfl (flt hc13_6).2.2.1 ?_
        refine XS.iconst X4.here hx rfl (hb hby own_d2_16) ?_
        refine XS.goto X4.here hx rfl (pc0 := 17) (pc' := 21) rfl (hb hby own_d2_17) (by decide) (by decide) ?_
        show Steps _ _ _ (T4.setTop (mkF m 21 #[.val (.ref a1), .val (.int p1)] [(.int (1 : Int32))])) _
        exact retN X4 hx (t := .boolean) Bd.returns (by simp) (hb hby own_d2_21) hr
      · show Qown_takesc Z a1 p1 h0 n0 _ T4.heap _
        rw [e4]
        exact ⟨congrArg (fun z => some (Value.int z)) (by unfold own_t; exact (if_pos (by have := rng32 p1; omega)).symm), N0, rfl⟩
def Qown_law (Z : State) (p1 p2 : Int32) (s0 s1 s2 s3 s4 s5 s6 s7 s8 s9 : Addr) (h0 : Heap) (n0 : Nat) (v : Option Value) (h : Heap) (L : List Loc) : Prop := v = some (.int (1 : Int32)) ∧ Fr n0 L
set_option maxRecDepth 65536 in
set_option maxHeartbeats 40000000 in
theorem own_law (l : Launch) (Z : State) (a0 : Array Value) (hw : ∀ d ∈ tables_1, d.before a0 Z = true) (ws : List Jvm.Cond) (p1 p2 : Int32) (s0 s1 s2 s3 s4 s5 s6 s7 s8 s9 : Addr) (h0 : Heap) (n0 : Nat) (Z0 : n0 ≤ h0.size) (S0 : Sta Z h0 "infixion/language/Function" "MAX" "Linfixion/language/Function;" (.ref s0)) (S1 : Sta Z h0 "infixion/language/Function" "MIN" "Linfixion/language/Function;" (.ref s1)) (S2 : Sta Z h0 "infixion/language/Function" "ABS" "Linfixion/language/Function;" (.ref s2)) (S3 : Sta Z h0 "infixion/language/Function" "SQRT" "Linfixion/language/Function;" (.ref s3)) (S4 : Sta Z h0 "infixion/language/Function" "SIN" "Linfixion/language/Function;" (.ref s4)) (S5 : Sta Z h0 "infixion/language/Function" "COS" "Linfixion/language/Function;" (.ref s5)) (S6 : Sta Z h0 "infixion/language/Function" "ROUND" "Linfixion/language/Function;" (.ref s6)) (S7 : Sta Z h0 "infixion/language/Function" "FACT" "Linfixion/language/Function;" (.ref s7)) (S8 : Sta Z h0 "infixion/language/Function" "PERM" "Linfixion/language/Function;" (.ref s8)) (S9 : Sta Z h0 "infixion/language/Function" "COMB" "Linfixion/language/Function;" (.ref s9)) (E0 : Exa Z h0 s0 "infixion/language/Function") (A0 : Fld Z h0 s0 "infixion/language/Function" "fewest" "I" (.int (1 : Int32))) (B0 : Fld Z h0 s0 "infixion/language/Function" "most" "I" (.int (2147483647 : Int32))) (E1 : Exa Z h0 s1 "infixion/language/Function") (A1 : Fld Z h0 s1 "infixion/language/Function" "fewest" "I" (.int (1 : Int32))) (B1 : Fld Z h0 s1 "infixion/language/Function" "most" "I" (.int (2147483647 : Int32))) (E2 : Exa Z h0 s2 "infixion/language/Function") (A2 : Fld Z h0 s2 "infixion/language/Function" "fewest" "I" (.int (1 : Int32))) (B2 : Fld Z h0 s2 "infixion/language/Function" "most" "I" (.int (1 : Int32))) (E3 : Exa Z h0 s3 "infixion/language/Function") (A3 : Fld Z h0 s3 "infixion/language/Function" "fewest" "I" (.int (1 : Int32))) (B3 : Fld Z h0 s3 "infixion/language/Function" "most" "I" (.int (1 : Int32))) (E4 : Exa Z h0 s4 "infixion/language/Function") (A4 : Fld Z h0 s4 "infixion/language/Function" "fewest" "I" (.int (1 : Int32))) (B4 : Fld Z h0 s4 "infixion/language/Function" "most" "I" (.int (1 : Int32))) (E5 : Exa Z h0 s5 "infixion/language/Function") (A5 : Fld Z h0 s5 "infixion/language/Function" "fewest" "I" (.int (1 : Int32))) (B5 : Fld Z h0 s5 "infixion/language/Function" "most" "I" (.int (1 : Int32))) (E6 : Exa Z h0 s6 "infixion/language/Function") (A6 : Fld Z h0 s6 "infixion/language/Function" "fewest" "I" (.int (1 : Int32))) (B6 : Fld Z h0 s6 "infixion/language/Function" "most" "I" (.int (1 : Int32))) (E7 : Exa Z h0 s7 "infixion/language/Function") (A7 : Fld Z h0 s7 "infixion/language/Function" "fewest" "I" (.int (1 : Int32))) (B7 : Fld Z h0 s7 "infixion/language/Function" "most" "I" (.int (1 : Int32))) (E8 : Exa Z h0 s8 "infixion/language/Function") (A8 : Fld Z h0 s8 "infixion/language/Function" "fewest" "I" (.int (2 : Int32))) (B8 : Fld Z h0 s8 "infixion/language/Function" "most" "I" (.int (2 : Int32))) (E9 : Exa Z h0 s9 "infixion/language/Function") (A9 : Fld Z h0 s9 "infixion/language/Function" "fewest" "I" (.int (2 : Int32))) (B9 : Fld Z h0 s9 "infixion/language/Function" "most" "I" (.int (2 : Int32))) :
    MetFree l x (head1 (Jvm.Cond.code x code maxLocals ret :: ws) room_1) (fun a U => a = #[(.int p1), (.int p2)] ∧ Z.Warmed39 U.vm ∧ U.heap = h0) (fun _ _ _ _ _ => True) (fun _ U o U' => ∃ v L, o = .returned v ∧ Qown_law Z p1 p2 s0 s1 s2 s3 s4 s5 s6 s7 s8 s9 h0 n0 v U'.heap L ∧ FrameEnd U o U' L room_1.cells room_1.slots) := by
  refine MetFree.of_bodySF (plainFor_of_name own_pn0) hisR ?_
  intro p e s m args below meth c s₁ Bd hml0 hP hK
  obtain ⟨rfl, hZ, hh⟩ := hP
  have hx := Bd.exec
  have hby := Bd.bytes
  have hml : c.maxLocals = 5 := hml0
  have hown : s.vm.findClass "infixion/language/FunctionTakesPinLaw" = some m.cls := findClass_of_methodNamed Bd.named
  have hnm := (name_of_methodNamed Bd.named Bd.method).1
  have X0 : Stand p l e room_1 s m #[(.int p1), (.int p2)] below meth c s₁ [] 0 0 := Stand.of_body Bd
  have e0 : s₁.heap = h0 := by rw [← hh, Bd.state]; rfl
  have N0 := Fr.nil n0
  have pre0 : ∀ t, Steps p.tables e below (s₁.setTop (mkF m 0 #[.val (.int p1), .val (.int p2), .unset, .unset, .unset] [])) t → Steps p.tables e below (s₁.setTop (entryFrame m #[(.int p1), (.int p2)] maxLocals)) t := fun t k => castTop (by first | (simp [entryFrame, mkF, argsToLocals, Value.category, maxLocals]; done) | rfl) k
  have pre1 : ∀ t, Steps p.tables e below (s₁.setTop (mkF m 8 #[.val (.int p1), .val (.int p2), .val (.int ((p1 &&& (2147483647 : Int32)) % (10 : Int32))), .unset, .unset] [])) t → Steps p.tables e below (s₁.setTop (entryFrame m #[(.int p1), (.int p2)] maxLocals)) t := fun t kt => pre0 t (by
    show Steps _ _ _ (s₁.setTop (mkF m 0 #[.val (.int p1), .val (.int p2), .unset, .unset, .unset] [])) _
    refine XS.iloadN X0.here hx rfl (hb hby at_0) rfl ?_
    refine X0.ldcInt hx hown (mvT hZ (own_w0 hw)) (g := (mkF m 1 #[.val (.int p1), .val (.int p2), .unset, .unset, .unset] [(.int p1)])) rfl (hb hby at_1) _ ?_
    refine XS.iand X0.here hx rfl (hb hby at_3) rfl ?_
    refine XS.bipush X0.here hx rfl (hb hby at_4) ?_
    show Steps _ _ _ (s₁.setTop (mkF m 6 #[.val (.int p1), .val (.int p2), .unset, .unset, .unset] [(.int (10 : Int32)), (.int (p1 &&& (2147483647 : Int32)))])) _
    refine iremM X0 hx rfl (hb hby at_6) rfl (by decide) ?_
    refine XS.istoreN X0.here hx rfl (hb hby at_7) rfl (l' := #[.val (.int p1), .val (.int p2), .val (.int ((p1 &&& (2147483647 : Int32)) % (10 : Int32))), .unset, .unset]) rfl ?_
    exact kt)
  rcases own_mod p1 with hs2 | hs2 | hs2 | hs2 | hs2 | hs2 | hs2 | hs2 | hs2 | hs2
  · skip
    rw [hs2] at pre1
    obtain ⟨_, _, ⟨T3, L3, k3, n3⟩, -, X3, ⟨Lc3, hQ3, l3, y3, z3⟩, st3⟩ := Jvm.LawKit.callS X0 hx (y := own_m0) hown (mvT hZ (own_w1 hw)) (mvT hZ (own_w2 hw)) (mvT hZ (own_w3 hw)) (mvT hZ (own_w4 hw)) (by decide) (backOf (W := 0) (own_pick0 l Z a0 hw [] s0 s1 s2 s3 s4 s5 s6 s7 s8 s9 h0 n0 Z0 S0 S1 S2 S3 S4 S5 S6 S7 S8 S9) hZ (own_w4 hw) (own_w3 hw) (by decide) (by decide)) (g := (mkF m 9 #[.val (.int p1), .val (.int p2), .val (.int (0 : Int32)), .unset, .unset] [(.int (0 : Int32))])) rfl (by rw [hml]; rfl) (argsL := [(.int (0 : Int32))]) (rest := []) (lenOf own_pd0 rfl) rfl (by show 2 * 0 + _ ≤ _; exact Nat.le_of_eq rfl) (hb hby at_9) (fun _ _ => ⟨rfl, e0, (by decide : 0 + 0 ≤ _), (by decide : 0 + 0 ≤ _)⟩)
    dsimp only [Pt.U, Pt.locs, Pt.cells, Pt.slots] at X3 l3 y3 z3 st3 hQ3
    subst l3 y3 z3
    obtain ⟨rfl, N3q, e3⟩ := hQ3
    have N3 := Fr.app N0 N3q
    have pre4 : ∀ t, Steps p.tables e below (T3.setTop (mkF m 20 #[.val (.int p1), .val (.int p2), .val (.int (0 : Int32)), .val (.ref s0), .unset] [(.int (1 : Int32)), (.int p2)])) t → Steps p.tables e below (s₁.setTop (entryFrame m #[(.int p1), (.int p2)] maxLocals)) t := fun t kt => pre1 t (by
      show Steps _ _ _ (s₁.setTop (mkF m 8 #[.val (.int p1), .val (.int p2), .val (.int (0 : Int32)), .unset, .unset] [])) _
      refine XS.iloadN X0.here hx rfl (hb hby at_8) rfl ?_
      refine st3 _ ?_
      refine XS.astoreN X3.here hx rfl (hb hby at_12) rfl rfl (l' := #[.val (.int p1), .val (.int p2), .val (.int (0 : Int32)), .val (.ref s0), .unset]) rfl ?_
      refine XS.iloadN X3.here hx rfl (hb hby at_13) rfl ?_
      show Steps _ _ _ (T3.setTop (mkF m 14 #[.val (.int p1), .val (.int p2), .val (.int (0 : Int32)), .val (.ref s0), .unset] [(.int (0 : Int32))])) _
      refine XS.iconst X3.here hx rfl (hb hby at_14) ?_
      refine XS.icmpNo X3.here hx rfl (hb hby at_15) rfl (flt (by decide : ¬ ((1 : Int32) < (0 : Int32)))).2.2.1 ?_
      refine XS.iloadN X3.here hx rfl (hb hby at_18) rfl ?_
      refine XS.iconst X3.here hx rfl (hb hby at_19) ?_
      exact kt)
    by_cases hc20_5 : p2 < (1 : Int32)
    · skip
      have ihc20_5 := (own_lt (b := (1 : Int32)) (k := 1) rfl).mp hc20_5
      obtain ⟨cq6, kq6, q6a, q6b, q6c⟩ := isOf hZ e3 E0
      obtain ⟨_, _, ⟨T6, L6, k6, n6⟩, -, X6, ⟨Lc6, hQ6, l6, y6, z6⟩, st6⟩ := X3.virtualBack hx (y := own_m1) (z := own_m1) hown (mvT hZ (own_w8 hw)) (mvT hZ (own_w9 hw)) (notFace_of_selects (args := #[]) (mvT hZ (own_w11 hw))) (mvT hZ (own_w11 hw)) (mvT hZ (own_w10 hw)) (by decide) (backOf (W := 0) (own_takesa l Z a0 hw [] s0 p2 h0 n0 Z0 A0 B0) hZ (own_w12 hw) (own_w6 hw) (by decide) (by decide)) q6a q6c (g := (mkF m 68 #[.val (.int p1), .val (.int p2), .val (.int (0 : Int32)), .val (.ref s0), .val (.int (0 : Int32))] [(.int p2), (.ref s0)])) rfl (by rw [hml]; rfl) (Steps.refl _) (argsL := [(.int p2)]) (rest := []) (lenOf own_pd1 rfl) rfl (by show 2 * 0 + _ ≤ _; exact Nat.le_of_eq rfl) (hb hby at_68) (fun _ _ => ⟨rfl, e3, (by decide : 0 + 0 ≤ _), (by decide : 0 + 0 ≤ _)⟩)
      dsimp only [Pt.U, Pt.locs, Pt.cells, Pt.slots] at X6 l6 y6 z6 st6 hQ6
      subst l6 y6 z6
      obtain ⟨rfl, N6q, e6⟩ := hQ6
      have N6 := Fr.app N3 N6q
      obtain ⟨fs, hr, hrun, hended, hW, hsame⟩ := X6.leave (v := some (.int (1 : Int32))) (fun h => by rw [Bd.returns] at h; cases h)
      refine ⟨_, _, pre4 _ ?_, hrun, hended, _, _, rfl, ?_, ⟨_, rfl⟩, hW, hsame.mono (by decide) (by decide)⟩
      · show Steps _ _ _ (T3.setTop (mkF m 20 #[.val (.int p1), .val (.int p2), .val (.int (0 : Int32)), .val (.ref s0), .unset] [(.int (1 : Int32)), (.int p2)])) _
        refine XS.icmpYes X3.here hx rfl (pc0 := 20) (pc' := 27) rfl (hb hby at_20) rfl (tlt hc20_5).1 (by decide) (by decide) ?_
        refine XS.iconst X3.here hx rfl (hb hby at_27) ?_
        refine XS.istore X3.here hx rfl (hb hby at_28) rfl (l' := #[.val (.int p1), .val (.int p2), .val (.int (0 : Int32)), .val (.ref s0), .val (.int (0 : Int32))]) rfl ?_
        refine XS.goto X3.here hx rfl (pc0 := 30) (pc' := 66) rfl (hb hby at_30) (by decide) (by decide) ?_
        show Steps _ _ _ (T3.setTop (mkF m 66 #[.val (.int p1), .val (.int p2), .val (.int (0 : Int32)), .val (.ref s0), .val (.int (0 : Int32))] [])) _
        refine XS.aloadN X3.here hx rfl (hb hby at_66) rfl rfl ?_
        refine XS.iloadN X3.here hx rfl (hb hby at_67) rfl ?_
        refine st6.trans ?_
        refine XS.iload X6.here hx rfl (hb hby at_71) rfl ?_
        show Steps _ _ _ (T6.setTop (mkF m 73 #[.val (.int p1), .val (.int p2), .val (.int (0 : Int32)), .val (.ref s0), .val (.int (0 : Int32))] [(.int (0 : Int32)), (.int (own_t 1 2147483647 p2))])) _
        refine XS.icmpNo X6.here hx rfl (hb hby at_73) rfl (teq (by unfold own_t; exact if_neg (by have := rng32 p2; omega))).2 ?_
        refine XS.iconst X6.here hx rfl (hb hby at_76) ?_
        refine XS.goto X6.here hx rfl (pc0 := 77) (pc' := 81) rfl (hb hby at_77) (by decide) (by decide) ?_
        show Steps _ _ _ (T6.setTop (mkF m 81 #[.val (.int p1), .val (.int p2), .val (.int (0 : Int32)), .val (.ref s0), .val (.int (0 : Int32))] [(.int (1 : Int32))])) _
        exact retN X6 hx (t := .boolean) Bd.returns (by simp) (hb hby at_81) hr
      · show Qown_law Z p1 p2 s0 s1 s2 s3 s4 s5 s6 s7 s8 s9 h0 n0 _ T6.heap _
        rw [e6]
        exact ⟨rfl, N6⟩
    · skip
      have ihc20_5 := (mt (own_lt (b := (1 : Int32)) (k := 1) rfl).mpr hc20_5)
      obtain ⟨cq7, kq7, q7a, q7b, q7c⟩ := isOf hZ e3 E0
      obtain ⟨_, _, ⟨T7, L7, k7, n7⟩, -, X7, ⟨Lc7, hQ7, l7, y7, z7⟩, st7⟩ := X3.virtualBack hx (y := own_m1) (z := own_m1) hown (mvT hZ (own_w8 hw)) (mvT hZ (own_w9 hw)) (notFace_of_selects (args := #[]) (mvT hZ (own_w11 hw))) (mvT hZ (own_w11 hw)) (mvT hZ (own_w10 hw)) (by decide) (backOf (W := 0) (own_takesa l Z a0 hw [] s0 p2 h0 n0 Z0 A0 B0) hZ (own_w12 hw) (own_w6 hw) (by decide) (by decide)) q7a q7c (g := (mkF m 68 #[.val (.int p1), .val (.int p2), .val (.int (0 : Int32)), .val (.ref s0), .val (.int (1 : Int32))] [(.int p2), (.ref s0)])) rfl (by rw [hml]; rfl) (Steps.refl _) (argsL := [(.int p2)]) (rest := []) (lenOf own_pd1 rfl) rfl (by show 2 * 0 + _ ≤ _; exact Nat.le_of_eq rfl) (hb hby at_68) (fun _ _ => ⟨rfl, e3, (by decide : 0 + 0 ≤ _), (by decide : 0 + 0 ≤ _)⟩)
      dsimp only [Pt.U, Pt.locs, Pt.cells, Pt.slots] at X7 l7 y7 z7 st7 hQ7
      subst l7 y7 z7
      obtain ⟨rfl, N7q, e7⟩ := hQ7
      have N7 := Fr.app N3 N7q
      obtain ⟨fs, hr, hrun, hended, hW, hsame⟩ := X7.leave (v := some (.int (1 : Int32))) (fun h => by rw [Bd.returns] at h; cases h)
      refine ⟨_, _, pre4 _ ?_, hrun, hended, _, _, rfl, ?_, ⟨_, rfl⟩, hW, hsame.mono (by decide) (by decide)⟩
      · show Steps _ _ _ (T3.setTop (mkF m 20 #[.val (.int p1), .val (.int p2), .val (.int (0 : Int32)), .val (.ref s0), .unset] [(.int (1 : Int32)), (.int p2)])) _
        refine XS.icmpNo X3.here hx rfl (hb hby at_20) rfl (flt hc20_5).1 ?_
        refine XS.iconst X3.here hx rfl (hb hby at_23) ?_
        refine XS.goto X3.here hx rfl (pc0 := 24) (pc' := 28) rfl (hb hby at_24) (by decide) (by decide) ?_
        refine XS.istore X3.here hx rfl (hb hby at_28) rfl (l' := #[.val (.int p1), .val (.int p2), .val (.int (0 : Int32)), .val (.ref s0), .val (.int (1 : Int32))]) rfl ?_
        show Steps _ _ _ (T3.setTop (mkF m 30 #[.val (.int p1), .val (.int p2), .val (.int (0 : Int32)), .val (.ref s0), .val (.int (1 : Int32))] [])) _
        refine XS.goto X3.here hx rfl (pc0 := 30) (pc' := 66) rfl (hb hby at_30) (by decide) (by decide) ?_
        refine XS.aloadN X3.here hx rfl (hb hby at_66) rfl rfl ?_
        refine XS.iloadN X3.here hx rfl (hb hby at_67) rfl ?_
        refine st7.trans ?_
        show Steps _ _ _ (T7.setTop (mkF m 71 #[.val (.int p1), .val (.int p2), .val (.int (0 : Int32)), .val (.ref s0), .val (.int (1 : Int32))] [(.int (own_t 1 2147483647 p2))])) _
        refine XS.iload X7.here hx rfl (hb hby at_71) rfl ?_
        refine XS.icmpNo X7.here hx rfl (hb hby at_73) rfl (teq (by unfold own_t; exact if_pos (by have := rng32 p2; omega))).2 ?_
        refine XS.iconst X7.here hx rfl (hb hby at_76) ?_
        refine XS.goto X7.here hx rfl (pc0 := 77) (pc' := 81) rfl (hb hby at_77) (by decide) (by decide) ?_
        show Steps _ _ _ (T7.setTop (mkF m 81 #[.val (.int p1), .val (.int p2), .val (.int (0 : Int32)), .val (.ref s0), .val (.int (1 : Int32))] [(.int (1 : Int32))])) _
        exact retN X7 hx (t := .boolean) Bd.returns (by simp) (hb hby at_81) hr
      · show Qown_law Z p1 p2 s0 s1 s2 s3 s4 s5 s6 s7 s8 s9 h0 n0 _ T7.heap _
        rw [e7]
        exact ⟨rfl, N7⟩
  · skip
    rw [hs2] at pre1
    obtain ⟨_, _, ⟨T8, L8, k8, n8⟩, -, X8, ⟨Lc8, hQ8, l8, y8, z8⟩, st8⟩ := Jvm.LawKit.callS X0 hx (y := own_m0) hown (mvT hZ (own_w1 hw)) (mvT hZ (own_w2 hw)) (mvT hZ (own_w3 hw)) (mvT hZ (own_w4 hw)) (by decide) (backOf (W := 0) (own_pick1 l Z a0 hw [] s0 s1 s2 s3 s4 s5 s6 s7 s8 s9 h0 n0 Z0 S0 S1 S2 S3 S4 S5 S6 S7 S8 S9) hZ (own_w4 hw) (own_w3 hw) (by decide) (by decide)) (g := (mkF m 9 #[.val (.int p1), .val (.int p2), .val (.int (1 : Int32)), .unset, .unset] [(.int (1 : Int32))])) rfl (by rw [hml]; rfl) (argsL := [(.int (1 : Int32))]) (rest := []) (lenOf own_pd0 rfl) rfl (by show 2 * 0 + _ ≤ _; exact Nat.le_of_eq rfl) (hb hby at_9) (fun _ _ => ⟨rfl, e0, (by decide : 0 + 0 ≤ _), (by decide : 0 + 0 ≤ _)⟩)
    dsimp only [Pt.U, Pt.locs, Pt.cells, Pt.slots] at X8 l8 y8 z8 st8 hQ8
    subst l8 y8 z8
    obtain ⟨rfl, N8q, e8⟩ := hQ8
    have N8 := Fr.app N0 N8q
    have pre9 : ∀ t, Steps p.tables e below (T8.setTop (mkF m 20 #[.val (.int p1), .val (.int p2), .val (.int (1 : Int32)), .val (.ref s1), .unset] [(.int (1 : Int32)), (.int p2)])) t → Steps p.tables e below (s₁.setTop (entryFrame m #[(.int p1), (.int p2)] maxLocals)) t := fun t kt => pre1 t (by
      show Steps _ _ _ (s₁.setTop (mkF m 8 #[.val (.int p1), .val (.int p2), .val (.int (1 : Int32)), .unset, .unset] [])) _
      refine XS.iloadN X0.here hx rfl (hb hby at_8) rfl ?_
      refine st8 _ ?_
      refine XS.astoreN X8.here hx rfl (hb hby at_12) rfl rfl (l' := #[.val (.int p1), .val (.int p2), .val (.int (1 : Int32)), .val (.ref s1), .unset]) rfl ?_
      refine XS.iloadN X8.here hx rfl (hb hby at_13) rfl ?_
      show Steps _ _ _ (T8.setTop (mkF m 14 #[.val (.int p1), .val (.int p2), .val (.int (1 : Int32)), .val (.ref s1), .unset] [(.int (1 : Int32))])) _
      refine XS.iconst X8.here hx rfl (hb hby at_14) ?_
      refine XS.icmpNo X8.here hx rfl (hb hby at_15) rfl (flt (by decide : ¬ ((1 : Int32) < (1 : Int32)))).2.2.1 ?_
      refine XS.iloadN X8.here hx rfl (hb hby at_18) rfl ?_
      refine XS.iconst X8.here hx rfl (hb hby at_19) ?_
      exact kt)
    by_cases hc20_10 : p2 < (1 : Int32)
    · skip
      have ihc20_10 := (own_lt (b := (1 : Int32)) (k := 1) rfl).mp hc20_10
      obtain ⟨cq11, kq11, q11a, q11b, q11c⟩ := isOf hZ e8 E1
      obtain ⟨_, _, ⟨T11, L11, k11, n11⟩, -, X11, ⟨Lc11, hQ11, l11, y11, z11⟩, st11⟩ := X8.virtualBack hx (y := own_m1) (z := own_m1) hown (mvT hZ (own_w8 hw)) (mvT hZ (own_w9 hw)) (notFace_of_selects (args := #[]) (mvT hZ (own_w11 hw))) (mvT hZ (own_w11 hw)) (mvT hZ (own_w10 hw)) (by decide) (backOf (W := 0) (own_takesa l Z a0 hw [] s1 p2 h0 n0 Z0 A1 B1) hZ (own_w12 hw) (own_w6 hw) (by decide) (by decide)) q11a q11c (g := (mkF m 68 #[.val (.int p1), .val (.int p2), .val (.int (1 : Int32)), .val (.ref s1), .val (.int (0 : Int32))] [(.int p2), (.ref s1)])) rfl (by rw [hml]; rfl) (Steps.refl _) (argsL := [(.int p2)]) (rest := []) (lenOf own_pd1 rfl) rfl (by show 2 * 0 + _ ≤ _; exact Nat.le_of_eq rfl) (hb hby at_68) (fun _ _ => ⟨rfl, e8, (by decide : 0 + 0 ≤ _), (by decide : 0 + 0 ≤ _)⟩)
      dsimp only [Pt.U, Pt.locs, Pt.cells, Pt.slots] at X11 l11 y11 z11 st11 hQ11
      subst l11 y11 z11
      obtain ⟨rfl, N11q, e11⟩ := hQ11
      have N11 := Fr.app N8 N11q
      obtain ⟨fs, hr, hrun, hended, hW, hsame⟩ := X11.leave (v := some (.int (1 : Int32))) (fun h => by rw [Bd.returns] at h; cases h)
      refine ⟨_, _, pre9 _ ?_, hrun, hended, _, _, rfl, ?_, ⟨_, rfl⟩, hW, hsame.mono (by decide) (by decide)⟩
      · show Steps _ _ _ (T8.setTop (mkF m 20 #[.val (.int p1), .val (.int p2), .val (.int (1 : Int32)), .val (.ref s1), .unset] [(.int (1 : Int32)), (.int p2)])) _
        refine XS.icmpYes X8.here hx rfl (pc0 := 20) (pc' := 27) rfl (hb hby at_20) rfl (tlt hc20_10).1 (by decide) (by decide) ?_
        refine XS.iconst X8.here hx rfl (hb hby at_27) ?_
        refine XS.istore X8.here hx rfl (hb hby at_28) rfl (l' := #[.val (.int p1), .val (.int p2), .val (.int (1 : Int32)), .val (.ref s1), .val (.int (0 : Int32))]) rfl ?_
        refine XS.goto X8.here hx rfl (pc0 := 30) (pc' := 66) rfl (hb hby at_30) (by decide) (by decide) ?_
        show Steps _ _ _ (T8.setTop (mkF m 66 #[.val (.int p1), .val (.int p2), .val (.int (1 : Int32)), .val (.ref s1), .val (.int (0 : Int32))] [])) _
        refine XS.aloadN X8.here hx rfl (hb hby at_66) rfl rfl ?_
        refine XS.iloadN X8.here hx rfl (hb hby at_67) rfl ?_
        refine st11.trans ?_
        refine XS.iload X11.here hx rfl (hb hby at_71) rfl ?_
        show Steps _ _ _ (T11.setTop (mkF m 73 #[.val (.int p1), .val (.int p2), .val (.int (1 : Int32)), .val (.ref s1), .val (.int (0 : Int32))] [(.int (0 : Int32)), (.int (own_t 1 2147483647 p2))])) _
        refine XS.icmpNo X11.here hx rfl (hb hby at_73) rfl (teq (by unfold own_t; exact if_neg (by have := rng32 p2; omega))).2 ?_
        refine XS.iconst X11.here hx rfl (hb hby at_76) ?_
        refine XS.goto X11.here hx rfl (pc0 := 77) (pc' := 81) rfl (hb hby at_77) (by decide) (by decide) ?_
        show Steps _ _ _ (T11.setTop (mkF m 81 #[.val (.int p1), .val (.int p2), .val (.int (1 : Int32)), .val (.ref s1), .val (.int (0 : Int32))] [(.int (1 : Int32))])) _
        exact retN X11 hx (t := .boolean) Bd.returns (by simp) (hb hby at_81) hr
      · show Qown_law Z p1 p2 s0 s1 s2 s3 s4 s5 s6 s7 s8 s9 h0 n0 _ T11.heap _
        rw [e11]
        exact ⟨rfl, N11⟩
    · skip
      have ihc20_10 := (mt (own_lt (b := (1 : Int32)) (k := 1) rfl).mpr hc20_10)
      obtain ⟨cq12, kq12, q12a, q12b, q12c⟩ := isOf hZ e8 E1
      obtain ⟨_, _, ⟨T12, L12, k12, n12⟩, -, X12, ⟨Lc12, hQ12, l12, y12, z12⟩, st12⟩ := X8.virtualBack hx (y := own_m1) (z := own_m1) hown (mvT hZ (own_w8 hw)) (mvT hZ (own_w9 hw)) (notFace_of_selects (args := #[]) (mvT hZ (own_w11 hw))) (mvT hZ (own_w11 hw)) (mvT hZ (own_w10 hw)) (by decide) (backOf (W := 0) (own_takesa l Z a0 hw [] s1 p2 h0 n0 Z0 A1 B1) hZ (own_w12 hw) (own_w6 hw) (by decide) (by decide)) q12a q12c (g := (mkF m 68 #[.val (.int p1), .val (.int p2), .val (.int (1 : Int32)), .val (.ref s1), .val (.int (1 : Int32))] [(.int p2), (.ref s1)])) rfl (by rw [hml]; rfl) (Steps.refl _) (argsL := [(.int p2)]) (rest := []) (lenOf own_pd1 rfl) rfl (by show 2 * 0 + _ ≤ _; exact Nat.le_of_eq rfl) (hb hby at_68) (fun _ _ => ⟨rfl, e8, (by decide : 0 + 0 ≤ _), (by decide : 0 + 0 ≤ _)⟩)
      dsimp only [Pt.U, Pt.locs, Pt.cells, Pt.slots] at X12 l12 y12 z12 st12 hQ12
      subst l12 y12 z12
      obtain ⟨rfl, N12q, e12⟩ := hQ12
      have N12 := Fr.app N8 N12q
      obtain ⟨fs, hr, hrun, hended, hW, hsame⟩ := X12.leave (v := some (.int (1 : Int32))) (fun h => by rw [Bd.returns] at h; cases h)
      refine ⟨_, _, pre9 _ ?_, hrun, hended, _, _, rfl, ?_, ⟨_, rfl⟩, hW, hsame.mono (by decide) (by decide)⟩
      · show Steps _ _ _ (T8.setTop (mkF m 20 #[.val (.int p1), .val (.int p2), .val (.int (1 : Int32)), .val (.ref s1), .unset] [(.int (1 : Int32)), (.int p2)])) _
        refine XS.icmpNo X8.here hx rfl (hb hby at_20) rfl (flt hc20_10).1 ?_
        refine XS.iconst X8.here hx rfl (hb hby at_23) ?_
        refine XS.goto X8.here hx rfl (pc0 := 24) (pc' := 28) rfl (hb hby at_24) (by decide) (by decide) ?_
        refine XS.istore X8.here hx rfl (hb hby at_28) rfl (l' := #[.val (.int p1), .val (.int p2), .val (.int (1 : Int32)), .val (.ref s1), .val (.int (1 : Int32))]) rfl ?_
        show Steps _ _ _ (T8.setTop (mkF m 30 #[.val (.int p1), .val (.int p2), .val (.int (1 : Int32)), .val (.ref s1), .val (.int (1 : Int32))] [])) _
        refine XS.goto X8.here hx rfl (pc0 := 30) (pc' := 66) rfl (hb hby at_30) (by decide) (by decide) ?_
        refine XS.aloadN X8.here hx rfl (hb hby at_66) rfl rfl ?_
        refine XS.iloadN X8.here hx rfl (hb hby at_67) rfl ?_
        refine st12.trans ?_
        show Steps _ _ _ (T12.setTop (mkF m 71 #[.val (.int p1), .val (.int p2), .val (.int (1 : Int32)), .val (.ref s1), .val (.int (1 : Int32))] [(.int (own_t 1 2147483647 p2))])) _
        refine XS.iload X12.here hx rfl (hb hby at_71) rfl ?_
        refine XS.icmpNo X12.here hx rfl (hb hby at_73) rfl (teq (by unfold own_t; exact if_pos (by have := rng32 p2; omega))).2 ?_
        refine XS.iconst X12.here hx rfl (hb hby at_76) ?_
        refine XS.goto X12.here hx rfl (pc0 := 77) (pc' := 81) rfl (hb hby at_77) (by decide) (by decide) ?_
        show Steps _ _ _ (T12.setTop (mkF m 81 #[.val (.int p1), .val (.int p2), .val (.int (1 : Int32)), .val (.ref s1), .val (.int (1 : Int32))] [(.int (1 : Int32))])) _
        exact retN X12 hx (t := .boolean) Bd.returns (by simp) (hb hby at_81) hr
      · show Qown_law Z p1 p2 s0 s1 s2 s3 s4 s5 s6 s7 s8 s9 h0 n0 _ T12.heap _
        rw [e12]
        exact ⟨rfl, N12⟩
  · skip
    rw [hs2] at pre1
    obtain ⟨_, _, ⟨T13, L13, k13, n13⟩, -, X13, ⟨Lc13, hQ13, l13, y13, z13⟩, st13⟩ := Jvm.LawKit.callS X0 hx (y := own_m0) hown (mvT hZ (own_w1 hw)) (mvT hZ (own_w2 hw)) (mvT hZ (own_w3 hw)) (mvT hZ (own_w4 hw)) (by decide) (backOf (W := 0) (own_pick2 l Z a0 hw [] s0 s1 s2 s3 s4 s5 s6 s7 s8 s9 h0 n0 Z0 S0 S1 S2 S3 S4 S5 S6 S7 S8 S9) hZ (own_w4 hw) (own_w3 hw) (by decide) (by decide)) (g := (mkF m 9 #[.val (.int p1), .val (.int p2), .val (.int (2 : Int32)), .unset, .unset] [(.int (2 : Int32))])) rfl (by rw [hml]; rfl) (argsL := [(.int (2 : Int32))]) (rest := []) (lenOf own_pd0 rfl) rfl (by show 2 * 0 + _ ≤ _; exact Nat.le_of_eq rfl) (hb hby at_9) (fun _ _ => ⟨rfl, e0, (by decide : 0 + 0 ≤ _), (by decide : 0 + 0 ≤ _)⟩)
    dsimp only [Pt.U, Pt.locs, Pt.cells, Pt.slots] at X13 l13 y13 z13 st13 hQ13
    subst l13 y13 z13
    obtain ⟨rfl, N13q, e13⟩ := hQ13
    have N13 := Fr.app N0 N13q
    have pre14 : ∀ t, Steps p.tables e below (T13.setTop (mkF m 41 #[.val (.int p1), .val (.int p2), .val (.int (2 : Int32)), .val (.ref s2), .unset] [(.int (1 : Int32)), (.int p2)])) t → Steps p.tables e below (s₁.setTop (entryFrame m #[(.int p1), (.int p2)] maxLocals)) t := fun t kt => pre1 t (by
      show Steps _ _ _ (s₁.setTop (mkF m 8 #[.val (.int p1), .val (.int p2), .val (.int (2 : Int32)), .unset, .unset] [])) _
      refine XS.iloadN X0.here hx rfl (hb hby at_8) rfl ?_
      refine st13 _ ?_
      refine XS.astoreN X13.here hx rfl (hb hby at_12) rfl rfl (l' := #[.val (.int p1), .val (.int p2), .val (.int (2 : Int32)), .val (.ref s2), .unset]) rfl ?_
      refine XS.iloadN X13.here hx rfl (hb hby at_13) rfl ?_
      show Steps _ _ _ (T13.setTop (mkF m 14 #[.val (.int p1), .val (.int p2), .val (.int (2 : Int32)), .val (.ref s2), .unset] [(.int (2 : Int32))])) _
      refine XS.iconst X13.here hx rfl (hb hby at_14) ?_
      refine XS.icmpYes X13.here hx rfl (pc0 := 15) (pc' := 33) rfl (hb hby at_15) rfl (tlt (by decide : (1 : Int32) < (2 : Int32))).2.2.1 (by decide) (by decide) ?_
      refine XS.iloadN X13.here hx rfl (hb hby at_33) rfl ?_
      refine XS.bipush X13.here hx rfl (hb hby at_34) ?_
      show Steps _ _ _ (T13.setTop (mkF m 36 #[.val (.int p1), .val (.int p2), .val (.int (2 : Int32)), .val (.ref s2), .unset] [(.int (7 : Int32)), (.int (2 : Int32))])) _
      refine XS.icmpNo X13.here hx rfl (hb hby at_36) rfl (flt (by decide : ¬ ((7 : Int32) < (2 : Int32)))).2.2.1 ?_
      refine XS.iloadN X13.here hx rfl (hb hby at_39) rfl ?_
      refine XS.iconst X13.here hx rfl (hb hby at_40) ?_
      exact kt)
    by_cases hc41_15 : p2 = (1 : Int32)
    · skip
      have ihc41_15 := (own_eq (b := (1 : Int32)) (k := 1) rfl).mp hc41_15
      obtain ⟨cq16, kq16, q16a, q16b, q16c⟩ := isOf hZ e13 E2
      obtain ⟨_, _, ⟨T16, L16, k16, n16⟩, -, X16, ⟨Lc16, hQ16, l16, y16, z16⟩, st16⟩ := X13.virtualBack hx (y := own_m1) (z := own_m1) hown (mvT hZ (own_w8 hw)) (mvT hZ (own_w9 hw)) (notFace_of_selects (args := #[]) (mvT hZ (own_w11 hw))) (mvT hZ (own_w11 hw)) (mvT hZ (own_w10 hw)) (by decide) (backOf (W := 0) (own_takesb l Z a0 hw [] s2 p2 h0 n0 Z0 A2 B2) hZ (own_w12 hw) (own_w6 hw) (by decide) (by decide)) q16a q16c (g := (mkF m 68 #[.val (.int p1), .val (.int p2), .val (.int (2 : Int32)), .val (.ref s2), .val (.int (1 : Int32))] [(.int p2), (.ref s2)])) rfl (by rw [hml]; rfl) (Steps.refl _) (argsL := [(.int p2)]) (rest := []) (lenOf own_pd1 rfl) rfl (by show 2 * 0 + _ ≤ _; exact Nat.le_of_eq rfl) (hb hby at_68) (fun _ _ => ⟨rfl, e13, (by decide : 0 + 0 ≤ _), (by decide : 0 + 0 ≤ _)⟩)
      dsimp only [Pt.U, Pt.locs, Pt.cells, Pt.slots] at X16 l16 y16 z16 st16 hQ16
      subst l16 y16 z16
      obtain ⟨rfl, N16q, e16⟩ := hQ16
      have N16 := Fr.app N13 N16q
      obtain ⟨fs, hr, hrun, hended, hW, hsame⟩ := X16.leave (v := some (.int (1 : Int32))) (fun h => by rw [Bd.returns] at h; cases h)
      refine ⟨_, _, pre14 _ ?_, hrun, hended, _, _, rfl, ?_, ⟨_, rfl⟩, hW, hsame.mono (by decide) (by decide)⟩
      · show Steps _ _ _ (T13.setTop (mkF m 41 #[.val (.int p1), .val (.int p2), .val (.int (2 : Int32)), .val (.ref s2), .unset] [(.int (1 : Int32)), (.int p2)])) _
        refine XS.icmpNo X13.here hx rfl (hb hby at_41) rfl (teq hc41_15).2 ?_
        refine XS.iconst X13.here hx rfl (hb hby at_44) ?_
        refine XS.goto X13.here hx rfl (pc0 := 45) (pc' := 49) rfl (hb hby at_45) (by decide) (by decide) ?_
        refine XS.istore X13.here hx rfl (hb hby at_49) rfl (l' := #[.val (.int p1), .val (.int p2), .val (.int (2 : Int32)), .val (.ref s2), .val (.int (1 : Int32))]) rfl ?_
        show Steps _ _ _ (T13.setTop (mkF m 51 #[.val (.int p1), .val (.int p2), .val (.int (2 : Int32)), .val (.ref s2), .val (.int (1 : Int32))] [])) _
        refine XS.goto X13.here hx rfl (pc0 := 51) (pc' := 66) rfl (hb hby at_51) (by decide) (by decide) ?_
        refine XS.aloadN X13.here hx rfl (hb hby at_66) rfl rfl ?_
        refine XS.iloadN X13.here hx rfl (hb hby at_67) rfl ?_
        refine st16.trans ?_
        show Steps _ _ _ (T16.setTop (mkF m 71 #[.val (.int p1), .val (.int p2), .val (.int (2 : Int32)), .val (.ref s2), .val (.int (1 : Int32))] [(.int (own_t 1 1 p2))])) _
        refine XS.iload X16.here hx rfl (hb hby at_71) rfl ?_
        refine XS.icmpNo X16.here hx rfl (hb hby at_73) rfl (teq (by unfold own_t; exact if_pos (by have := rng32 p2; omega))).2 ?_
        refine XS.iconst X16.here hx rfl (hb hby at_76) ?_
        refine XS.goto X16.here hx rfl (pc0 := 77) (pc' := 81) rfl (hb hby at_77) (by decide) (by decide) ?_
        show Steps _ _ _ (T16.setTop (mkF m 81 #[.val (.int p1), .val (.int p2), .val (.int (2 : Int32)), .val (.ref s2), .val (.int (1 : Int32))] [(.int (1 : Int32))])) _
        exact retN X16 hx (t := .boolean) Bd.returns (by simp) (hb hby at_81) hr
      · show Qown_law Z p1 p2 s0 s1 s2 s3 s4 s5 s6 s7 s8 s9 h0 n0 _ T16.heap _
        rw [e16]
        exact ⟨rfl, N16⟩
    · skip
      have ihc41_15 := (mt (own_eq (b := (1 : Int32)) (k := 1) rfl).mpr hc41_15)
      obtain ⟨cq17, kq17, q17a, q17b, q17c⟩ := isOf hZ e13 E2
      obtain ⟨_, _, ⟨T17, L17, k17, n17⟩, -, X17, ⟨Lc17, hQ17, l17, y17, z17⟩, st17⟩ := X13.virtualBack hx (y := own_m1) (z := own_m1) hown (mvT hZ (own_w8 hw)) (mvT hZ (own_w9 hw)) (notFace_of_selects (args := #[]) (mvT hZ (own_w11 hw))) (mvT hZ (own_w11 hw)) (mvT hZ (own_w10 hw)) (by decide) (backOf (W := 0) (own_takesb l Z a0 hw [] s2 p2 h0 n0 Z0 A2 B2) hZ (own_w12 hw) (own_w6 hw) (by decide) (by decide)) q17a q17c (g := (mkF m 68 #[.val (.int p1), .val (.int p2), .val (.int (2 : Int32)), .val (.ref s2), .val (.int (0 : Int32))] [(.int p2), (.ref s2)])) rfl (by rw [hml]; rfl) (Steps.refl _) (argsL := [(.int p2)]) (rest := []) (lenOf own_pd1 rfl) rfl (by show 2 * 0 + _ ≤ _; exact Nat.le_of_eq rfl) (hb hby at_68) (fun _ _ => ⟨rfl, e13, (by decide : 0 + 0 ≤ _), (by decide : 0 + 0 ≤ _)⟩)
      dsimp only [Pt.U, Pt.locs, Pt.cells, Pt.slots] at X17 l17 y17 z17 st17 hQ17
      subst l17 y17 z17
      obtain ⟨rfl, N17q, e17⟩ := hQ17
      have N17 := Fr.app N13 N17q
      obtain ⟨fs, hr, hrun, hended, hW, hsame⟩ := X17.leave (v := some (.int (1 : Int32))) (fun h => by rw [Bd.returns] at h; cases h)
      refine ⟨_, _, pre14 _ ?_, hrun, hended, _, _, rfl, ?_, ⟨_, rfl⟩, hW, hsame.mono (by decide) (by decide)⟩
      · show Steps _ _ _ (T13.setTop (mkF m 41 #[.val (.int p1), .val (.int p2), .val (.int (2 : Int32)), .val (.ref s2), .unset] [(.int (1 : Int32)), (.int p2)])) _
        refine XS.icmpYes X13.here hx rfl (pc0 := 41) (pc' := 48) rfl (hb hby at_41) rfl (feq hc41_15).2 (by decide) (by decide) ?_
        refine XS.iconst X13.here hx rfl (hb hby at_48) ?_
        refine XS.istore X13.here hx rfl (hb hby at_49) rfl (l' := #[.val (.int p1), .val (.int p2), .val (.int (2 : Int32)), .val (.ref s2), .val (.int (0 : Int32))]) rfl ?_
        refine XS.goto X13.here hx rfl (pc0 := 51) (pc' := 66) rfl (hb hby at_51) (by decide) (by decide) ?_
        show Steps _ _ _ (T13.setTop (mkF m 66 #[.val (.int p1), .val (.int p2), .val (.int (2 : Int32)), .val (.ref s2), .val (.int (0 : Int32))] [])) _
        refine XS.aloadN X13.here hx rfl (hb hby at_66) rfl rfl ?_
        refine XS.iloadN X13.here hx rfl (hb hby at_67) rfl ?_
        refine st17.trans ?_
        refine XS.iload X17.here hx rfl (hb hby at_71) rfl ?_
        show Steps _ _ _ (T17.setTop (mkF m 73 #[.val (.int p1), .val (.int p2), .val (.int (2 : Int32)), .val (.ref s2), .val (.int (0 : Int32))] [(.int (0 : Int32)), (.int (own_t 1 1 p2))])) _
        refine XS.icmpNo X17.here hx rfl (hb hby at_73) rfl (teq (by unfold own_t; exact if_neg (by have := rng32 p2; omega))).2 ?_
        refine XS.iconst X17.here hx rfl (hb hby at_76) ?_
        refine XS.goto X17.here hx rfl (pc0 := 77) (pc' := 81) rfl (hb hby at_77) (by decide) (by decide) ?_
        show Steps _ _ _ (T17.setTop (mkF m 81 #[.val (.int p1), .val (.int p2), .val (.int (2 : Int32)), .val (.ref s2), .val (.int (0 : Int32))] [(.int (1 : Int32))])) _
        exact retN X17 hx (t := .boolean) Bd.returns (by simp) (hb hby at_81) hr
      · show Qown_law Z p1 p2 s0 s1 s2 s3 s4 s5 s6 s7 s8 s9 h0 n0 _ T17.heap _
        rw [e17]
        exact ⟨rfl, N17⟩
  · skip
    rw [hs2] at pre1
    obtain ⟨_, _, ⟨T18, L18, k18, n18⟩, -, X18, ⟨Lc18, hQ18, l18, y18, z18⟩, st18⟩ := Jvm.LawKit.callS X0 hx (y := own_m0) hown (mvT hZ (own_w1 hw)) (mvT hZ (own_w2 hw)) (mvT hZ (own_w3 hw)) (mvT hZ (own_w4 hw)) (by decide) (backOf (W := 0) (own_pick3 l Z a0 hw [] s0 s1 s2 s3 s4 s5 s6 s7 s8 s9 h0 n0 Z0 S0 S1 S2 S3 S4 S5 S6 S7 S8 S9) hZ (own_w4 hw) (own_w3 hw) (by decide) (by decide)) (g := (mkF m 9 #[.val (.int p1), .val (.int p2), .val (.int (3 : Int32)), .unset, .unset] [(.int (3 : Int32))])) rfl (by rw [hml]; rfl) (argsL := [(.int (3 : Int32))]) (rest := []) (lenOf own_pd0 rfl) rfl (by show 2 * 0 + _ ≤ _; exact Nat.le_of_eq rfl) (hb hby at_9) (fun _ _ => ⟨rfl, e0, (by decide : 0 + 0 ≤ _), (by decide : 0 + 0 ≤ _)⟩)
    dsimp only [Pt.U, Pt.locs, Pt.cells, Pt.slots] at X18 l18 y18 z18 st18 hQ18
    subst l18 y18 z18
    obtain ⟨rfl, N18q, e18⟩ := hQ18
    have N18 := Fr.app N0 N18q
    have pre19 : ∀ t, Steps p.tables e below (T18.setTop (mkF m 41 #[.val (.int p1), .val (.int p2), .val (.int (3 : Int32)), .val (.ref s3), .unset] [(.int (1 : Int32)), (.int p2)])) t → Steps p.tables e below (s₁.setTop (entryFrame m #[(.int p1), (.int p2)] maxLocals)) t := fun t kt => pre1 t (by
      show Steps _ _ _ (s₁.setTop (mkF m 8 #[.val (.int p1), .val (.int p2), .val (.int (3 : Int32)), .unset, .unset] [])) _
      refine XS.iloadN X0.here hx rfl (hb hby at_8) rfl ?_
      refine st18 _ ?_
      refine XS.astoreN X18.here hx rfl (hb hby at_12) rfl rfl (l' := #[.val (.int p1), .val (.int p2), .val (.int (3 : Int32)), .val (.ref s3), .unset]) rfl ?_
      refine XS.iloadN X18.here hx rfl (hb hby at_13) rfl ?_
      show Steps _ _ _ (T18.setTop (mkF m 14 #[.val (.int p1), .val (.int p2), .val (.int (3 : Int32)), .val (.ref s3), .unset] [(.int (3 : Int32))])) _
      refine XS.iconst X18.here hx rfl (hb hby at_14) ?_
      refine XS.icmpYes X18.here hx rfl (pc0 := 15) (pc' := 33) rfl (hb hby at_15) rfl (tlt (by decide : (1 : Int32) < (3 : Int32))).2.2.1 (by decide) (by decide) ?_
      refine XS.iloadN X18.here hx rfl (hb hby at_33) rfl ?_
      refine XS.bipush X18.here hx rfl (hb hby at_34) ?_
      show Steps _ _ _ (T18.setTop (mkF m 36 #[.val (.int p1), .val (.int p2), .val (.int (3 : Int32)), .val (.ref s3), .unset] [(.int (7 : Int32)), (.int (3 : Int32))])) _
      refine XS.icmpNo X18.here hx rfl (hb hby at_36) rfl (flt (by decide : ¬ ((7 : Int32) < (3 : Int32)))).2.2.1 ?_
      refine XS.iloadN X18.here hx rfl (hb hby at_39) rfl ?_
      refine XS.iconst X18.here hx rfl (hb hby at_40) ?_
      exact kt)
    by_cases hc41_20 : p2 = (1 : Int32)
    · skip
      have ihc41_20 := (own_eq (b := (1 : Int32)) (k := 1) rfl).mp hc41_20
      obtain ⟨cq21, kq21, q21a, q21b, q21c⟩ := isOf hZ e18 E3
      obtain ⟨_, _, ⟨T21, L21, k21, n21⟩, -, X21, ⟨Lc21, hQ21, l21, y21, z21⟩, st21⟩ := X18.virtualBack hx (y := own_m1) (z := own_m1) hown (mvT hZ (own_w8 hw)) (mvT hZ (own_w9 hw)) (notFace_of_selects (args := #[]) (mvT hZ (own_w11 hw))) (mvT hZ (own_w11 hw)) (mvT hZ (own_w10 hw)) (by decide) (backOf (W := 0) (own_takesb l Z a0 hw [] s3 p2 h0 n0 Z0 A3 B3) hZ (own_w12 hw) (own_w6 hw) (by decide) (by decide)) q21a q21c (g := (mkF m 68 #[.val (.int p1), .val (.int p2), .val (.int (3 : Int32)), .val (.ref s3), .val (.int (1 : Int32))] [(.int p2), (.ref s3)])) rfl (by rw [hml]; rfl) (Steps.refl _) (argsL := [(.int p2)]) (rest := []) (lenOf own_pd1 rfl) rfl (by show 2 * 0 + _ ≤ _; exact Nat.le_of_eq rfl) (hb hby at_68) (fun _ _ => ⟨rfl, e18, (by decide : 0 + 0 ≤ _), (by decide : 0 + 0 ≤ _)⟩)
      dsimp only [Pt.U, Pt.locs, Pt.cells, Pt.slots] at X21 l21 y21 z21 st21 hQ21
      subst l21 y21 z21
      obtain ⟨rfl, N21q, e21⟩ := hQ21
      have N21 := Fr.app N18 N21q
      obtain ⟨fs, hr, hrun, hended, hW, hsame⟩ := X21.leave (v := some (.int (1 : Int32))) (fun h => by rw [Bd.returns] at h; cases h)
      refine ⟨_, _, pre19 _ ?_, hrun, hended, _, _, rfl, ?_, ⟨_, rfl⟩, hW, hsame.mono (by decide) (by decide)⟩
      · show Steps _ _ _ (T18.setTop (mkF m 41 #[.val (.int p1), .val (.int p2), .val (.int (3 : Int32)), .val (.ref s3), .unset] [(.int (1 : Int32)), (.int p2)])) _
        refine XS.icmpNo X18.here hx rfl (hb hby at_41) rfl (teq hc41_20).2 ?_
        refine XS.iconst X18.here hx rfl (hb hby at_44) ?_
        refine XS.goto X18.here hx rfl (pc0 := 45) (pc' := 49) rfl (hb hby at_45) (by decide) (by decide) ?_
        refine XS.istore X18.here hx rfl (hb hby at_49) rfl (l' := #[.val (.int p1), .val (.int p2), .val (.int (3 : Int32)), .val (.ref s3), .val (.int (1 : Int32))]) rfl ?_
        show Steps _ _ _ (T18.setTop (mkF m 51 #[.val (.int p1), .val (.int p2), .val (.int (3 : Int32)), .val (.ref s3), .val (.int (1 : Int32))] [])) _
        refine XS.goto X18.here hx rfl (pc0 := 51) (pc' := 66) rfl (hb hby at_51) (by decide) (by decide) ?_
        refine XS.aloadN X18.here hx rfl (hb hby at_66) rfl rfl ?_
        refine XS.iloadN X18.here hx rfl (hb hby at_67) rfl ?_
        refine st21.trans ?_
        show Steps _ _ _ (T21.setTop (mkF m 71 #[.val (.int p1), .val (.int p2), .val (.int (3 : Int32)), .val (.ref s3), .val (.int (1 : Int32))] [(.int (own_t 1 1 p2))])) _
        refine XS.iload X21.here hx rfl (hb hby at_71) rfl ?_
        refine XS.icmpNo X21.here hx rfl (hb hby at_73) rfl (teq (by unfold own_t; exact if_pos (by have := rng32 p2; omega))).2 ?_
        refine XS.iconst X21.here hx rfl (hb hby at_76) ?_
        refine XS.goto X21.here hx rfl (pc0 := 77) (pc' := 81) rfl (hb hby at_77) (by decide) (by decide) ?_
        show Steps _ _ _ (T21.setTop (mkF m 81 #[.val (.int p1), .val (.int p2), .val (.int (3 : Int32)), .val (.ref s3), .val (.int (1 : Int32))] [(.int (1 : Int32))])) _
        exact retN X21 hx (t := .boolean) Bd.returns (by simp) (hb hby at_81) hr
      · show Qown_law Z p1 p2 s0 s1 s2 s3 s4 s5 s6 s7 s8 s9 h0 n0 _ T21.heap _
        rw [e21]
        exact ⟨rfl, N21⟩
    · skip
      have ihc41_20 := (mt (own_eq (b := (1 : Int32)) (k := 1) rfl).mpr hc41_20)
      obtain ⟨cq22, kq22, q22a, q22b, q22c⟩ := isOf hZ e18 E3
      obtain ⟨_, _, ⟨T22, L22, k22, n22⟩, -, X22, ⟨Lc22, hQ22, l22, y22, z22⟩, st22⟩ := X18.virtualBack hx (y := own_m1) (z := own_m1) hown (mvT hZ (own_w8 hw)) (mvT hZ (own_w9 hw)) (notFace_of_selects (args := #[]) (mvT hZ (own_w11 hw))) (mvT hZ (own_w11 hw)) (mvT hZ (own_w10 hw)) (by decide) (backOf (W := 0) (own_takesb l Z a0 hw [] s3 p2 h0 n0 Z0 A3 B3) hZ (own_w12 hw) (own_w6 hw) (by decide) (by decide)) q22a q22c (g := (mkF m 68 #[.val (.int p1), .val (.int p2), .val (.int (3 : Int32)), .val (.ref s3), .val (.int (0 : Int32))] [(.int p2), (.ref s3)])) rfl (by rw [hml]; rfl) (Steps.refl _) (argsL := [(.int p2)]) (rest := []) (lenOf own_pd1 rfl) rfl (by show 2 * 0 + _ ≤ _; exact Nat.le_of_eq rfl) (hb hby at_68) (fun _ _ => ⟨rfl, e18, (by decide : 0 + 0 ≤ _), (by decide : 0 + 0 ≤ _)⟩)
      dsimp only [Pt.U, Pt.locs, Pt.cells, Pt.slots] at X22 l22 y22 z22 st22 hQ22
      subst l22 y22 z22
      obtain ⟨rfl, N22q, e22⟩ := hQ22
      have N22 := Fr.app N18 N22q
      obtain ⟨fs, hr, hrun, hended, hW, hsame⟩ := X22.leave (v := some (.int (1 : Int32))) (fun h => by rw [Bd.returns] at h; cases h)
      refine ⟨_, _, pre19 _ ?_, hrun, hended, _, _, rfl, ?_, ⟨_, rfl⟩, hW, hsame.mono (by decide) (by decide)⟩
      · show Steps _ _ _ (T18.setTop (mkF m 41 #[.val (.int p1), .val (.int p2), .val (.int (3 : Int32)), .val (.ref s3), .unset] [(.int (1 : Int32)), (.int p2)])) _
        refine XS.icmpYes X18.here hx rfl (pc0 := 41) (pc' := 48) rfl (hb hby at_41) rfl (feq hc41_20).2 (by decide) (by decide) ?_
        refine XS.iconst X18.here hx rfl (hb hby at_48) ?_
        refine XS.istore X18.here hx rfl (hb hby at_49) rfl (l' := #[.val (.int p1), .val (.int p2), .val (.int (3 : Int32)), .val (.ref s3), .val (.int (0 : Int32))]) rfl ?_
        refine XS.goto X18.here hx rfl (pc0 := 51) (pc' := 66) rfl (hb hby at_51) (by decide) (by decide) ?_
        show Steps _ _ _ (T18.setTop (mkF m 66 #[.val (.int p1), .val (.int p2), .val (.int (3 : Int32)), .val (.ref s3), .val (.int (0 : Int32))] [])) _
        refine XS.aloadN X18.here hx rfl (hb hby at_66) rfl rfl ?_
        refine XS.iloadN X18.here hx rfl (hb hby at_67) rfl ?_
        refine st22.trans ?_
        refine XS.iload X22.here hx rfl (hb hby at_71) rfl ?_
        show Steps _ _ _ (T22.setTop (mkF m 73 #[.val (.int p1), .val (.int p2), .val (.int (3 : Int32)), .val (.ref s3), .val (.int (0 : Int32))] [(.int (0 : Int32)), (.int (own_t 1 1 p2))])) _
        refine XS.icmpNo X22.here hx rfl (hb hby at_73) rfl (teq (by unfold own_t; exact if_neg (by have := rng32 p2; omega))).2 ?_
        refine XS.iconst X22.here hx rfl (hb hby at_76) ?_
        refine XS.goto X22.here hx rfl (pc0 := 77) (pc' := 81) rfl (hb hby at_77) (by decide) (by decide) ?_
        show Steps _ _ _ (T22.setTop (mkF m 81 #[.val (.int p1), .val (.int p2), .val (.int (3 : Int32)), .val (.ref s3), .val (.int (0 : Int32))] [(.int (1 : Int32))])) _
        exact retN X22 hx (t := .boolean) Bd.returns (by simp) (hb hby at_81) hr
      · show Qown_law Z p1 p2 s0 s1 s2 s3 s4 s5 s6 s7 s8 s9 h0 n0 _ T22.heap _
        rw [e22]
        exact ⟨rfl, N22⟩
  · skip
    rw [hs2] at pre1
    obtain ⟨_, _, ⟨T23, L23, k23, n23⟩, -, X23, ⟨Lc23, hQ23, l23, y23, z23⟩, st23⟩ := Jvm.LawKit.callS X0 hx (y := own_m0) hown (mvT hZ (own_w1 hw)) (mvT hZ (own_w2 hw)) (mvT hZ (own_w3 hw)) (mvT hZ (own_w4 hw)) (by decide) (backOf (W := 0) (own_pick4 l Z a0 hw [] s0 s1 s2 s3 s4 s5 s6 s7 s8 s9 h0 n0 Z0 S0 S1 S2 S3 S4 S5 S6 S7 S8 S9) hZ (own_w4 hw) (own_w3 hw) (by decide) (by decide)) (g := (mkF m 9 #[.val (.int p1), .val (.int p2), .val (.int (4 : Int32)), .unset, .unset] [(.int (4 : Int32))])) rfl (by rw [hml]; rfl) (argsL := [(.int (4 : Int32))]) (rest := []) (lenOf own_pd0 rfl) rfl (by show 2 * 0 + _ ≤ _; exact Nat.le_of_eq rfl) (hb hby at_9) (fun _ _ => ⟨rfl, e0, (by decide : 0 + 0 ≤ _), (by decide : 0 + 0 ≤ _)⟩)
    dsimp only [Pt.U, Pt.locs, Pt.cells, Pt.slots] at X23 l23 y23 z23 st23 hQ23
    subst l23 y23 z23
    obtain ⟨rfl, N23q, e23⟩ := hQ23
    have N23 := Fr.app N0 N23q
    have pre24 : ∀ t, Steps p.tables e below (T23.setTop (mkF m 41 #[.val (.int p1), .val (.int p2), .val (.int (4 : Int32)), .val (.ref s4), .unset] [(.int (1 : Int32)), (.int p2)])) t → Steps p.tables e below (s₁.setTop (entryFrame m #[(.int p1), (.int p2)] maxLocals)) t := fun t kt => pre1 t (by
      show Steps _ _ _ (s₁.setTop (mkF m 8 #[.val (.int p1), .val (.int p2), .val (.int (4 : Int32)), .unset, .unset] [])) _
      refine XS.iloadN X0.here hx rfl (hb hby at_8) rfl ?_
      refine st23 _ ?_
      refine XS.astoreN X23.here hx rfl (hb hby at_12) rfl rfl (l' := #[.val (.int p1), .val (.int p2), .val (.int (4 : Int32)), .val (.ref s4), .unset]) rfl ?_
      refine XS.iloadN X23.here hx rfl (hb hby at_13) rfl ?_
      show Steps _ _ _ (T23.setTop (mkF m 14 #[.val (.int p1), .val (.int p2), .val (.int (4 : Int32)), .val (.ref s4), .unset] [(.int (4 : Int32))])) _
      refine XS.iconst X23.here hx rfl (hb hby at_14) ?_
      refine XS.icmpYes X23.here hx rfl (pc0 := 15) (pc' := 33) rfl (hb hby at_15) rfl (tlt (by decide : (1 : Int32) < (4 : Int32))).2.2.1 (by decide) (by decide) ?_
      refine XS.iloadN X23.here hx rfl (hb hby at_33) rfl ?_
      refine XS.bipush X23.here hx rfl (hb hby at_34) ?_
      show Steps _ _ _ (T23.setTop (mkF m 36 #[.val (.int p1), .val (.int p2), .val (.int (4 : Int32)), .val (.ref s4), .unset] [(.int (7 : Int32)), (.int (4 : Int32))])) _
      refine XS.icmpNo X23.here hx rfl (hb hby at_36) rfl (flt (by decide : ¬ ((7 : Int32) < (4 : Int32)))).2.2.1 ?_
      refine XS.iloadN X23.here hx rfl (hb hby at_39) rfl ?_
      refine XS.iconst X23.here hx rfl (hb hby at_40) ?_
      exact kt)
    by_cases hc41_25 : p2 = (1 : Int32)
    · skip
      have ihc41_25 := (own_eq (b := (1 : Int32)) (k := 1) rfl).mp hc41_25
      obtain ⟨cq26, kq26, q26a, q26b, q26c⟩ := isOf hZ e23 E4
      obtain ⟨_, _, ⟨T26, L26, k26, n26⟩, -, X26, ⟨Lc26, hQ26, l26, y26, z26⟩, st26⟩ := X23.virtualBack hx (y := own_m1) (z := own_m1) hown (mvT hZ (own_w8 hw)) (mvT hZ (own_w9 hw)) (notFace_of_selects (args := #[]) (mvT hZ (own_w11 hw))) (mvT hZ (own_w11 hw)) (mvT hZ (own_w10 hw)) (by decide) (backOf (W := 0) (own_takesb l Z a0 hw [] s4 p2 h0 n0 Z0 A4 B4) hZ (own_w12 hw) (own_w6 hw) (by decide) (by decide)) q26a q26c (g := (mkF m 68 #[.val (.int p1), .val (.int p2), .val (.int (4 : Int32)), .val (.ref s4), .val (.int (1 : Int32))] [(.int p2), (.ref s4)])) rfl (by rw [hml]; rfl) (Steps.refl _) (argsL := [(.int p2)]) (rest := []) (lenOf own_pd1 rfl) rfl (by show 2 * 0 + _ ≤ _; exact Nat.le_of_eq rfl) (hb hby at_68) (fun _ _ => ⟨rfl, e23, (by decide : 0 + 0 ≤ _), (by decide : 0 + 0 ≤ _)⟩)
      dsimp only [Pt.U, Pt.locs, Pt.cells, Pt.slots] at X26 l26 y26 z26 st26 hQ26
      subst l26 y26 z26
      obtain ⟨rfl, N26q, e26⟩ := hQ26
      have N26 := Fr.app N23 N26q
      obtain ⟨fs, hr, hrun, hended, hW, hsame⟩ := X26.leave (v := some (.int (1 : Int32))) (fun h => by rw [Bd.returns] at h; cases h)
      refine ⟨_, _, pre24 _ ?_, hrun, hended, _, _, rfl, ?_, ⟨_, rfl⟩, hW, hsame.mono (by decide) (by decide)⟩
      · show Steps _ _ _ (T23.setTop (mkF m 41 #[.val (.int p1), .val (.int p2), .val (.int (4 : Int32)), .val (.ref s4), .unset] [(.int (1 : Int32)), (.int p2)])) _
        refine XS.icmpNo X23.here hx rfl (hb hby at_41) rfl (teq hc41_25).2 ?_
        refine XS.iconst X23.here hx rfl (hb hby at_44) ?_
        refine XS.goto X23.here hx rfl (pc0 := 45) (pc' := 49) rfl (hb hby at_45) (by decide) (by decide) ?_
        refine XS.istore X23.here hx rfl (hb hby at_49) rfl (l' := #[.val (.int p1), .val (.int p2), .val (.int (4 : Int32)), .val (.ref s4), .val (.int (1 : Int32))]) rfl ?_
        show Steps _ _ _ (T23.setTop (mkF m 51 #[.val (.int p1), .val (.int p2), .val (.int (4 : Int32)), .val (.ref s4), .val (.int (1 : Int32))] [])) _
        refine XS.goto X23.here hx rfl (pc0 := 51) (pc' := 66) rfl (hb hby at_51) (by decide) (by decide) ?_
        refine XS.aloadN X23.here hx rfl (hb hby at_66) rfl rfl ?_
        refine XS.iloadN X23.here hx rfl (hb hby at_67) rfl ?_
        refine st26.trans ?_
        show Steps _ _ _ (T26.setTop (mkF m 71 #[.val (.int p1), .val (.int p2), .val (.int (4 : Int32)), .val (.ref s4), .val (.int (1 : Int32))] [(.int (own_t 1 1 p2))])) _
        refine XS.iload X26.here hx rfl (hb hby at_71) rfl ?_
        refine XS.icmpNo X26.here hx rfl (hb hby at_73) rfl (teq (by unfold own_t; exact if_pos (by have := rng32 p2; omega))).2 ?_
        refine XS.iconst X26.here hx rfl (hb hby at_76) ?_
        refine XS.goto X26.here hx rfl (pc0 := 77) (pc' := 81) rfl (hb hby at_77) (by decide) (by decide) ?_
        show Steps _ _ _ (T26.setTop (mkF m 81 #[.val (.int p1), .val (.int p2), .val (.int (4 : Int32)), .val (.ref s4), .val (.int (1 : Int32))] [(.int (1 : Int32))])) _
        exact retN X26 hx (t := .boolean) Bd.returns (by simp) (hb hby at_81) hr
      · show Qown_law Z p1 p2 s0 s1 s2 s3 s4 s5 s6 s7 s8 s9 h0 n0 _ T26.heap _
        rw [e26]
        exact ⟨rfl, N26⟩
    · skip
      have ihc41_25 := (mt (own_eq (b := (1 : Int32)) (k := 1) rfl).mpr hc41_25)
      obtain ⟨cq27, kq27, q27a, q27b, q27c⟩ := isOf hZ e23 E4
      obtain ⟨_, _, ⟨T27, L27, k27, n27⟩, -, X27, ⟨Lc27, hQ27, l27, y27, z27⟩, st27⟩ := X23.virtualBack hx (y := own_m1) (z := own_m1) hown (mvT hZ (own_w8 hw)) (mvT hZ (own_w9 hw)) (notFace_of_selects (args := #[]) (mvT hZ (own_w11 hw))) (mvT hZ (own_w11 hw)) (mvT hZ (own_w10 hw)) (by decide) (backOf (W := 0) (own_takesb l Z a0 hw [] s4 p2 h0 n0 Z0 A4 B4) hZ (own_w12 hw) (own_w6 hw) (by decide) (by decide)) q27a q27c (g := (mkF m 68 #[.val (.int p1), .val (.int p2), .val (.int (4 : Int32)), .val (.ref s4), .val (.int (0 : Int32))] [(.int p2), (.ref s4)])) rfl (by rw [hml]; rfl) (Steps.refl _) (argsL := [(.int p2)]) (rest := []) (lenOf own_pd1 rfl) rfl (by show 2 * 0 + _ ≤ _; exact Nat.le_of_eq rfl) (hb hby at_68) (fun _ _ => ⟨rfl, e23, (by decide : 0 + 0 ≤ _), (by decide : 0 + 0 ≤ _)⟩)
      dsimp only [Pt.U, Pt.locs, Pt.cells, Pt.slots] at X27 l27 y27 z27 st27 hQ27
      subst l27 y27 z27
      obtain ⟨rfl, N27q, e27⟩ := hQ27
      have N27 := Fr.app N23 N27q
      obtain ⟨fs, hr, hrun, hended, hW, hsame⟩ := X27.leave (v := some (.int (1 : Int32))) (fun h => by rw [Bd.returns] at h; cases h)
      refine ⟨_, _, pre24 _ ?_, hrun, hended, _, _, rfl, ?_, ⟨_, rfl⟩, hW, hsame.mono (by decide) (by decide)⟩
      · show Steps _ _ _ (T23.setTop (mkF m 41 #[.val (.int p1), .val (.int p2), .val (.int (4 : Int32)), .val (.ref s4), .unset] [(.int (1 : Int32)), (.int p2)])) _
        refine XS.icmpYes X23.here hx rfl (pc0 := 41) (pc' := 48) rfl (hb hby at_41) rfl (feq hc41_25).2 (by decide) (by decide) ?_
        refine XS.iconst X23.here hx rfl (hb hby at_48) ?_
        refine XS.istore X23.here hx rfl (hb hby at_49) rfl (l' := #[.val (.int p1), .val (.int p2), .val (.int (4 : Int32)), .val (.ref s4), .val (.int (0 : Int32))]) rfl ?_
        refine XS.goto X23.here hx rfl (pc0 := 51) (pc' := 66) rfl (hb hby at_51) (by decide) (by decide) ?_
        show Steps _ _ _ (T23.setTop (mkF m 66 #[.val (.int p1), .val (.int p2), .val (.int (4 : Int32)), .val (.ref s4), .val (.int (0 : Int32))] [])) _
        refine XS.aloadN X23.here hx rfl (hb hby at_66) rfl rfl ?_
        refine XS.iloadN X23.here hx rfl (hb hby at_67) rfl ?_
        refine st27.trans ?_
        refine XS.iload X27.here hx rfl (hb hby at_71) rfl ?_
        show Steps _ _ _ (T27.setTop (mkF m 73 #[.val (.int p1), .val (.int p2), .val (.int (4 : Int32)), .val (.ref s4), .val (.int (0 : Int32))] [(.int (0 : Int32)), (.int (own_t 1 1 p2))])) _
        refine XS.icmpNo X27.here hx rfl (hb hby at_73) rfl (teq (by unfold own_t; exact if_neg (by have := rng32 p2; omega))).2 ?_
        refine XS.iconst X27.here hx rfl (hb hby at_76) ?_
        refine XS.goto X27.here hx rfl (pc0 := 77) (pc' := 81) rfl (hb hby at_77) (by decide) (by decide) ?_
        show Steps _ _ _ (T27.setTop (mkF m 81 #[.val (.int p1), .val (.int p2), .val (.int (4 : Int32)), .val (.ref s4), .val (.int (0 : Int32))] [(.int (1 : Int32))])) _
        exact retN X27 hx (t := .boolean) Bd.returns (by simp) (hb hby at_81) hr
      · show Qown_law Z p1 p2 s0 s1 s2 s3 s4 s5 s6 s7 s8 s9 h0 n0 _ T27.heap _
        rw [e27]
        exact ⟨rfl, N27⟩
  · skip
    rw [hs2] at pre1
    obtain ⟨_, _, ⟨T28, L28, k28, n28⟩, -, X28, ⟨Lc28, hQ28, l28, y28, z28⟩, st28⟩ := Jvm.LawKit.callS X0 hx (y := own_m0) hown (mvT hZ (own_w1 hw)) (mvT hZ (own_w2 hw)) (mvT hZ (own_w3 hw)) (mvT hZ (own_w4 hw)) (by decide) (backOf (W := 0) (own_pick5 l Z a0 hw [] s0 s1 s2 s3 s4 s5 s6 s7 s8 s9 h0 n0 Z0 S0 S1 S2 S3 S4 S5 S6 S7 S8 S9) hZ (own_w4 hw) (own_w3 hw) (by decide) (by decide)) (g := (mkF m 9 #[.val (.int p1), .val (.int p2), .val (.int (5 : Int32)), .unset, .unset] [(.int (5 : Int32))])) rfl (by rw [hml]; rfl) (argsL := [(.int (5 : Int32))]) (rest := []) (lenOf own_pd0 rfl) rfl (by show 2 * 0 + _ ≤ _; exact Nat.le_of_eq rfl) (hb hby at_9) (fun _ _ => ⟨rfl, e0, (by decide : 0 + 0 ≤ _), (by decide : 0 + 0 ≤ _)⟩)
    dsimp only [Pt.U, Pt.locs, Pt.cells, Pt.slots] at X28 l28 y28 z28 st28 hQ28
    subst l28 y28 z28
    obtain ⟨rfl, N28q, e28⟩ := hQ28
    have N28 := Fr.app N0 N28q
    have pre29 : ∀ t, Steps p.tables e below (T28.setTop (mkF m 41 #[.val (.int p1), .val (.int p2), .val (.int (5 : Int32)), .val (.ref s5), .unset] [(.int (1 : Int32)), (.int p2)])) t → Steps p.tables e below (s₁.setTop (entryFrame m #[(.int p1), (.int p2)] maxLocals)) t := fun t kt => pre1 t (by
      show Steps _ _ _ (s₁.setTop (mkF m 8 #[.val (.int p1), .val (.int p2), .val (.int (5 : Int32)), .unset, .unset] [])) _
      refine XS.iloadN X0.here hx rfl (hb hby at_8) rfl ?_
      refine st28 _ ?_
      refine XS.astoreN X28.here hx rfl (hb hby at_12) rfl rfl (l' := #[.val (.int p1), .val (.int p2), .val (.int (5 : Int32)), .val (.ref s5), .unset]) rfl ?_
      refine XS.iloadN X28.here hx rfl (hb hby at_13) rfl ?_
      show Steps _ _ _ (T28.setTop (mkF m 14 #[.val (.int p1), .val (.int p2), .val (.int (5 : Int32)), .val (.ref s5), .unset] [(.int (5 : Int32))])) _
      refine XS.iconst X28.here hx rfl (hb hby at_14) ?_
      refine XS.icmpYes X28.here hx rfl (pc0 := 15) (pc' := 33) rfl (hb hby at_15) rfl (tlt (by decide : (1 : Int32) < (5 : Int32))).2.2.1 (by decide) (by decide) ?_
      refine XS.iloadN X28.here hx rfl (hb hby at_33) rfl ?_
      refine XS.bipush X28.here hx rfl (hb hby at_34) ?_
      show Steps _ _ _ (T28.setTop (mkF m 36 #[.val (.int p1), .val (.int p2), .val (.int (5 : Int32)), .val (.ref s5), .unset] [(.int (7 : Int32)), (.int (5 : Int32))])) _
      refine XS.icmpNo X28.here hx rfl (hb hby at_36) rfl (flt (by decide : ¬ ((7 : Int32) < (5 : Int32)))).2.2.1 ?_
      refine XS.iloadN X28.here hx rfl (hb hby at_39) rfl ?_
      refine XS.iconst X28.here hx rfl (hb hby at_40) ?_
      exact kt)
    by_cases hc41_30 : p2 = (1 : Int32)
    · skip
      have ihc41_30 := (own_eq (b := (1 : Int32)) (k := 1) rfl).mp hc41_30
      obtain ⟨cq31, kq31, q31a, q31b, q31c⟩ := isOf hZ e28 E5
      obtain ⟨_, _, ⟨T31, L31, k31, n31⟩, -, X31, ⟨Lc31, hQ31, l31, y31, z31⟩, st31⟩ := X28.virtualBack hx (y := own_m1) (z := own_m1) hown (mvT hZ (own_w8 hw)) (mvT hZ (own_w9 hw)) (notFace_of_selects (args := #[]) (mvT hZ (own_w11 hw))) (mvT hZ (own_w11 hw)) (mvT hZ (own_w10 hw)) (by decide) (backOf (W := 0) (own_takesb l Z a0 hw [] s5 p2 h0 n0 Z0 A5 B5) hZ (own_w12 hw) (own_w6 hw) (by decide) (by decide)) q31a q31c (g := (mkF m 68 #[.val (.int p1), .val (.int p2), .val (.int (5 : Int32)), .val (.ref s5), .val (.int (1 : Int32))] [(.int p2), (.ref s5)])) rfl (by rw [hml]; rfl) (Steps.refl _) (argsL := [(.int p2)]) (rest := []) (lenOf own_pd1 rfl) rfl (by show 2 * 0 + _ ≤ _; exact Nat.le_of_eq rfl) (hb hby at_68) (fun _ _ => ⟨rfl, e28, (by decide : 0 + 0 ≤ _), (by decide : 0 + 0 ≤ _)⟩)
      dsimp only [Pt.U, Pt.locs, Pt.cells, Pt.slots] at X31 l31 y31 z31 st31 hQ31
      subst l31 y31 z31
      obtain ⟨rfl, N31q, e31⟩ := hQ31
      have N31 := Fr.app N28 N31q
      obtain ⟨fs, hr, hrun, hended, hW, hsame⟩ := X31.leave (v := some (.int (1 : Int32))) (fun h => by rw [Bd.returns] at h; cases h)
      refine ⟨_, _, pre29 _ ?_, hrun, hended, _, _, rfl, ?_, ⟨_, rfl⟩, hW, hsame.mono (by decide) (by decide)⟩
      · show Steps _ _ _ (T28.setTop (mkF m 41 #[.val (.int p1), .val (.int p2), .val (.int (5 : Int32)), .val (.ref s5), .unset] [(.int (1 : Int32)), (.int p2)])) _
        refine XS.icmpNo X28.here hx rfl (hb hby at_41) rfl (teq hc41_30).2 ?_
        refine XS.iconst X28.here hx rfl (hb hby at_44) ?_
        refine XS.goto X28.here hx rfl (pc0 := 45) (pc' := 49) rfl (hb hby at_45) (by decide) (by decide) ?_
        refine XS.istore X28.here hx rfl (hb hby at_49) rfl (l' := #[.val (.int p1), .val (.int p2), .val (.int (5 : Int32)), .val (.ref s5), .val (.int (1 : Int32))]) rfl ?_
        show Steps _ _ _ (T28.setTop (mkF m 51 #[.val (.int p1), .val (.int p2), .val (.int (5 : Int32)), .val (.ref s5), .val (.int (1 : Int32))] [])) _
        refine XS.goto X28.here hx rfl (pc0 := 51) (pc' := 66) rfl (hb hby at_51) (by decide) (by decide) ?_
        refine XS.aloadN X28.here hx rfl (hb hby at_66) rfl rfl ?_
        refine XS.iloadN X28.here hx rfl (hb hby at_67) rfl ?_
        refine st31.trans ?_
        show Steps _ _ _ (T31.setTop (mkF m 71 #[.val (.int p1), .val (.int p2), .val (.int (5 : Int32)), .val (.ref s5), .val (.int (1 : Int32))] [(.int (own_t 1 1 p2))])) _
        refine XS.iload X31.here hx rfl (hb hby at_71) rfl ?_
        refine XS.icmpNo X31.here hx rfl (hb hby at_73) rfl (teq (by unfold own_t; exact if_pos (by have := rng32 p2; omega))).2 ?_
        refine XS.iconst X31.here hx rfl (hb hby at_76) ?_
        refine XS.goto X31.here hx rfl (pc0 := 77) (pc' := 81) rfl (hb hby at_77) (by decide) (by decide) ?_
        show Steps _ _ _ (T31.setTop (mkF m 81 #[.val (.int p1), .val (.int p2), .val (.int (5 : Int32)), .val (.ref s5), .val (.int (1 : Int32))] [(.int (1 : Int32))])) _
        exact retN X31 hx (t := .boolean) Bd.returns (by simp) (hb hby at_81) hr
      · show Qown_law Z p1 p2 s0 s1 s2 s3 s4 s5 s6 s7 s8 s9 h0 n0 _ T31.heap _
        rw [e31]
        exact ⟨rfl, N31⟩
    · skip
      have ihc41_30 := (mt (own_eq (b := (1 : Int32)) (k := 1) rfl).mpr hc41_30)
      obtain ⟨cq32, kq32, q32a, q32b, q32c⟩ := isOf hZ e28 E5
      obtain ⟨_, _, ⟨T32, L32, k32, n32⟩, -, X32, ⟨Lc32, hQ32, l32, y32, z32⟩, st32⟩ := X28.virtualBack hx (y := own_m1) (z := own_m1) hown (mvT hZ (own_w8 hw)) (mvT hZ (own_w9 hw)) (notFace_of_selects (args := #[]) (mvT hZ (own_w11 hw))) (mvT hZ (own_w11 hw)) (mvT hZ (own_w10 hw)) (by decide) (backOf (W := 0) (own_takesb l Z a0 hw [] s5 p2 h0 n0 Z0 A5 B5) hZ (own_w12 hw) (own_w6 hw) (by decide) (by decide)) q32a q32c (g := (mkF m 68 #[.val (.int p1), .val (.int p2), .val (.int (5 : Int32)), .val (.ref s5), .val (.int (0 : Int32))] [(.int p2), (.ref s5)])) rfl (by rw [hml]; rfl) (Steps.refl _) (argsL := [(.int p2)]) (rest := []) (lenOf own_pd1 rfl) rfl (by show 2 * 0 + _ ≤ _; exact Nat.le_of_eq rfl) (hb hby at_68) (fun _ _ => ⟨rfl, e28, (by decide : 0 + 0 ≤ _), (by decide : 0 + 0 ≤ _)⟩)
      dsimp only [Pt.U, Pt.locs, Pt.cells, Pt.slots] at X32 l32 y32 z32 st32 hQ32
      subst l32 y32 z32
      obtain ⟨rfl, N32q, e32⟩ := hQ32
      have N32 := Fr.app N28 N32q
      obtain ⟨fs, hr, hrun, hended, hW, hsame⟩ := X32.leave (v := some (.int (1 : Int32))) (fun h => by rw [Bd.returns] at h; cases h)
      refine ⟨_, _, pre29 _ ?_, hrun, hended, _, _, rfl, ?_, ⟨_, rfl⟩, hW, hsame.mono (by decide) (by decide)⟩
      · show Steps _ _ _ (T28.setTop (mkF m 41 #[.val (.int p1), .val (.int p2), .val (.int (5 : Int32)), .val (.ref s5), .unset] [(.int (1 : Int32)), (.int p2)])) _
        refine XS.icmpYes X28.here hx rfl (pc0 := 41) (pc' := 48) rfl (hb hby at_41) rfl (feq hc41_30).2 (by decide) (by decide) ?_
        refine XS.iconst X28.here hx rfl (hb hby at_48) ?_
        refine XS.istore X28.here hx rfl (hb hby at_49) rfl (l' := #[.val (.int p1), .val (.int p2), .val (.int (5 : Int32)), .val (.ref s5), .val (.int (0 : Int32))]) rfl ?_
        refine XS.goto X28.here hx rfl (pc0 := 51) (pc' := 66) rfl (hb hby at_51) (by decide) (by decide) ?_
        show Steps _ _ _ (T28.setTop (mkF m 66 #[.val (.int p1), .val (.int p2), .val (.int (5 : Int32)), .val (.ref s5), .val (.int (0 : Int32))] [])) _
        refine XS.aloadN X28.here hx rfl (hb hby at_66) rfl rfl ?_
        refine XS.iloadN X28.here hx rfl (hb hby at_67) rfl ?_
        refine st32.trans ?_
        refine XS.iload X32.here hx rfl (hb hby at_71) rfl ?_
        show Steps _ _ _ (T32.setTop (mkF m 73 #[.val (.int p1), .val (.int p2), .val (.int (5 : Int32)), .val (.ref s5), .val (.int (0 : Int32))] [(.int (0 : Int32)), (.int (own_t 1 1 p2))])) _
        refine XS.icmpNo X32.here hx rfl (hb hby at_73) rfl (teq (by unfold own_t; exact if_neg (by have := rng32 p2; omega))).2 ?_
        refine XS.iconst X32.here hx rfl (hb hby at_76) ?_
        refine XS.goto X32.here hx rfl (pc0 := 77) (pc' := 81) rfl (hb hby at_77) (by decide) (by decide) ?_
        show Steps _ _ _ (T32.setTop (mkF m 81 #[.val (.int p1), .val (.int p2), .val (.int (5 : Int32)), .val (.ref s5), .val (.int (0 : Int32))] [(.int (1 : Int32))])) _
        exact retN X32 hx (t := .boolean) Bd.returns (by simp) (hb hby at_81) hr
      · show Qown_law Z p1 p2 s0 s1 s2 s3 s4 s5 s6 s7 s8 s9 h0 n0 _ T32.heap _
        rw [e32]
        exact ⟨rfl, N32⟩
  · skip
    rw [hs2] at pre1
    obtain ⟨_, _, ⟨T33, L33, k33, n33⟩, -, X33, ⟨Lc33, hQ33, l33, y33, z33⟩, st33⟩ := Jvm.LawKit.callS X0 hx (y := own_m0) hown (mvT hZ (own_w1 hw)) (mvT hZ (own_w2 hw)) (mvT hZ (own_w3 hw)) (mvT hZ (own_w4 hw)) (by decide) (backOf (W := 0) (own_pick6 l Z a0 hw [] s0 s1 s2 s3 s4 s5 s6 s7 s8 s9 h0 n0 Z0 S0 S1 S2 S3 S4 S5 S6 S7 S8 S9) hZ (own_w4 hw) (own_w3 hw) (by decide) (by decide)) (g := (mkF m 9 #[.val (.int p1), .val (.int p2), .val (.int (6 : Int32)), .unset, .unset] [(.int (6 : Int32))])) rfl (by rw [hml]; rfl) (argsL := [(.int (6 : Int32))]) (rest := []) (lenOf own_pd0 rfl) rfl (by show 2 * 0 + _ ≤ _; exact Nat.le_of_eq rfl) (hb hby at_9) (fun _ _ => ⟨rfl, e0, (by decide : 0 + 0 ≤ _), (by decide : 0 + 0 ≤ _)⟩)
    dsimp only [Pt.U, Pt.locs, Pt.cells, Pt.slots] at X33 l33 y33 z33 st33 hQ33
    subst l33 y33 z33
    obtain ⟨rfl, N33q, e33⟩ := hQ33
    have N33 := Fr.app N0 N33q
    have pre34 : ∀ t, Steps p.tables e below (T33.setTop (mkF m 41 #[.val (.int p1), .val (.int p2), .val (.int (6 : Int32)), .val (.ref s6), .unset] [(.int (1 : Int32)), (.int p2)])) t → Steps p.tables e below (s₁.setTop (entryFrame m #[(.int p1), (.int p2)] maxLocals)) t := fun t kt => pre1 t (by
      show Steps _ _ _ (s₁.setTop (mkF m 8 #[.val (.int p1), .val (.int p2), .val (.int (6 : Int32)), .unset, .unset] [])) _
      refine XS.iloadN X0.here hx rfl (hb hby at_8) rfl ?_
      refine st33 _ ?_
      refine XS.astoreN X33.here hx rfl (hb hby at_12) rfl rfl (l' := #[.val (.int p1), .val (.int p2), .val (.int (6 : Int32)), .val (.ref s6), .unset]) rfl ?_
      refine XS.iloadN X33.here hx rfl (hb hby at_13) rfl ?_
      show Steps _ _ _ (T33.setTop (mkF m 14 #[.val (.int p1), .val (.int p2), .val (.int (6 : Int32)), .val (.ref s6), .unset] [(.int (6 : Int32))])) _
      refine XS.iconst X33.here hx rfl (hb hby at_14) ?_
      refine XS.icmpYes X33.here hx rfl (pc0 := 15) (pc' := 33) rfl (hb hby at_15) rfl (tlt (by decide : (1 : Int32) < (6 : Int32))).2.2.1 (by decide) (by decide) ?_
      refine XS.iloadN X33.here hx rfl (hb hby at_33) rfl ?_
      refine XS.bipush X33.here hx rfl (hb hby at_34) ?_
      show Steps _ _ _ (T33.setTop (mkF m 36 #[.val (.int p1), .val (.int p2), .val (.int (6 : Int32)), .val (.ref s6), .unset] [(.int (7 : Int32)), (.int (6 : Int32))])) _
      refine XS.icmpNo X33.here hx rfl (hb hby at_36) rfl (flt (by decide : ¬ ((7 : Int32) < (6 : Int32)))).2.2.1 ?_
      refine XS.iloadN X33.here hx rfl (hb hby at_39) rfl ?_
      refine XS.iconst X33.here hx rfl (hb hby at_40) ?_
      exact kt)
    by_cases hc41_35 : p2 = (1 : Int32)
    · skip
      have ihc41_35 := (own_eq (b := (1 : Int32)) (k := 1) rfl).mp hc41_35
      obtain ⟨cq36, kq36, q36a, q36b, q36c⟩ := isOf hZ e33 E6
      obtain ⟨_, _, ⟨T36, L36, k36, n36⟩, -, X36, ⟨Lc36, hQ36, l36, y36, z36⟩, st36⟩ := X33.virtualBack hx (y := own_m1) (z := own_m1) hown (mvT hZ (own_w8 hw)) (mvT hZ (own_w9 hw)) (notFace_of_selects (args := #[]) (mvT hZ (own_w11 hw))) (mvT hZ (own_w11 hw)) (mvT hZ (own_w10 hw)) (by decide) (backOf (W := 0) (own_takesb l Z a0 hw [] s6 p2 h0 n0 Z0 A6 B6) hZ (own_w12 hw) (own_w6 hw) (by decide) (by decide)) q36a q36c (g := (mkF m 68 #[.val (.int p1), .val (.int p2), .val (.int (6 : Int32)), .val (.ref s6), .val (.int (1 : Int32))] [(.int p2), (.ref s6)])) rfl (by rw [hml]; rfl) (Steps.refl _) (argsL := [(.int p2)]) (rest := []) (lenOf own_pd1 rfl) rfl (by show 2 * 0 + _ ≤ _; exact Nat.le_of_eq rfl) (hb hby at_68) (fun _ _ => ⟨rfl, e33, (by decide : 0 + 0 ≤ _), (by decide : 0 + 0 ≤ _)⟩)
      dsimp only [Pt.U, Pt.locs, Pt.cells, Pt.slots] at X36 l36 y36 z36 st36 hQ36
      subst l36 y36 z36
      obtain ⟨rfl, N36q, e36⟩ := hQ36
      have N36 := Fr.app N33 N36q
      obtain ⟨fs, hr, hrun, hended, hW, hsame⟩ := X36.leave (v := some (.int (1 : Int32))) (fun h => by rw [Bd.returns] at h; cases h)
      refine ⟨_, _, pre34 _ ?_, hrun, hended, _, _, rfl, ?_, ⟨_, rfl⟩, hW, hsame.mono (by decide) (by decide)⟩
      · show Steps _ _ _ (T33.setTop (mkF m 41 #[.val (.int p1), .val (.int p2), .val (.int (6 : Int32)), .val (.ref s6), .unset] [(.int (1 : Int32)), (.int p2)])) _
        refine XS.icmpNo X33.here hx rfl (hb hby at_41) rfl (teq hc41_35).2 ?_
        refine XS.iconst X33.here hx rfl (hb hby at_44) ?_
        refine XS.goto X33.here hx rfl (pc0 := 45) (pc' := 49) rfl (hb hby at_45) (by decide) (by decide) ?_
        refine XS.istore X33.here hx rfl (hb hby at_49) rfl (l' := #[.val (.int p1), .val (.int p2), .val (.int (6 : Int32)), .val (.ref s6), .val (.int (1 : Int32))]) rfl ?_
        show Steps _ _ _ (T33.setTop (mkF m 51 #[.val (.int p1), .val (.int p2), .val (.int (6 : Int32)), .val (.ref s6), .val (.int (1 : Int32))] [])) _
        refine XS.goto X33.here hx rfl (pc0 := 51) (pc' := 66) rfl (hb hby at_51) (by decide) (by decide) ?_
        refine XS.aloadN X33.here hx rfl (hb hby at_66) rfl rfl ?_
        refine XS.iloadN X33.here hx rfl (hb hby at_67) rfl ?_
        refine st36.trans ?_
        show Steps _ _ _ (T36.setTop (mkF m 71 #[.val (.int p1), .val (.int p2), .val (.int (6 : Int32)), .val (.ref s6), .val (.int (1 : Int32))] [(.int (own_t 1 1 p2))])) _
        refine XS.iload X36.here hx rfl (hb hby at_71) rfl ?_
        refine XS.icmpNo X36.here hx rfl (hb hby at_73) rfl (teq (by unfold own_t; exact if_pos (by have := rng32 p2; omega))).2 ?_
        refine XS.iconst X36.here hx rfl (hb hby at_76) ?_
        refine XS.goto X36.here hx rfl (pc0 := 77) (pc' := 81) rfl (hb hby at_77) (by decide) (by decide) ?_
        show Steps _ _ _ (T36.setTop (mkF m 81 #[.val (.int p1), .val (.int p2), .val (.int (6 : Int32)), .val (.ref s6), .val (.int (1 : Int32))] [(.int (1 : Int32))])) _
        exact retN X36 hx (t := .boolean) Bd.returns (by simp) (hb hby at_81) hr
      · show Qown_law Z p1 p2 s0 s1 s2 s3 s4 s5 s6 s7 s8 s9 h0 n0 _ T36.heap _
        rw [e36]
        exact ⟨rfl, N36⟩
    · skip
      have ihc41_35 := (mt (own_eq (b := (1 : Int32)) (k := 1) rfl).mpr hc41_35)
      obtain ⟨cq37, kq37, q37a, q37b, q37c⟩ := isOf hZ e33 E6
      obtain ⟨_, _, ⟨T37, L37, k37, n37⟩, -, X37, ⟨Lc37, hQ37, l37, y37, z37⟩, st37⟩ := X33.virtualBack hx (y := own_m1) (z := own_m1) hown (mvT hZ (own_w8 hw)) (mvT hZ (own_w9 hw)) (notFace_of_selects (args := #[]) (mvT hZ (own_w11 hw))) (mvT hZ (own_w11 hw)) (mvT hZ (own_w10 hw)) (by decide) (backOf (W := 0) (own_takesb l Z a0 hw [] s6 p2 h0 n0 Z0 A6 B6) hZ (own_w12 hw) (own_w6 hw) (by decide) (by decide)) q37a q37c (g := (mkF m 68 #[.val (.int p1), .val (.int p2), .val (.int (6 : Int32)), .val (.ref s6), .val (.int (0 : Int32))] [(.int p2), (.ref s6)])) rfl (by rw [hml]; rfl) (Steps.refl _) (argsL := [(.int p2)]) (rest := []) (lenOf own_pd1 rfl) rfl (by show 2 * 0 + _ ≤ _; exact Nat.le_of_eq rfl) (hb hby at_68) (fun _ _ => ⟨rfl, e33, (by decide : 0 + 0 ≤ _), (by decide : 0 + 0 ≤ _)⟩)
      dsimp only [Pt.U, Pt.locs, Pt.cells, Pt.slots] at X37 l37 y37 z37 st37 hQ37
      subst l37 y37 z37
      obtain ⟨rfl, N37q, e37⟩ := hQ37
      have N37 := Fr.app N33 N37q
      obtain ⟨fs, hr, hrun, hended, hW, hsame⟩ := X37.leave (v := some (.int (1 : Int32))) (fun h => by rw [Bd.returns] at h; cases h)
      refine ⟨_, _, pre34 _ ?_, hrun, hended, _, _, rfl, ?_, ⟨_, rfl⟩, hW, hsame.mono (by decide) (by decide)⟩
      · show Steps _ _ _ (T33.setTop (mkF m 41 #[.val (.int p1), .val (.int p2), .val (.int (6 : Int32)), .val (.ref s6), .unset] [(.int (1 : Int32)), (.int p2)])) _
        refine XS.icmpYes X33.here hx rfl (pc0 := 41) (pc' := 48) rfl (hb hby at_41) rfl (feq hc41_35).2 (by decide) (by decide) ?_
        refine XS.iconst X33.here hx rfl (hb hby at_48) ?_
        refine XS.istore X33.here hx rfl (hb hby at_49) rfl (l' := #[.val (.int p1), .val (.int p2), .val (.int (6 : Int32)), .val (.ref s6), .val (.int (0 : Int32))]) rfl ?_
        refine XS.goto X33.here hx rfl (pc0 := 51) (pc' := 66) rfl (hb hby at_51) (by decide) (by decide) ?_
        show Steps _ _ _ (T33.setTop (mkF m 66 #[.val (.int p1), .val (.int p2), .val (.int (6 : Int32)), .val (.ref s6), .val (.int (0 : Int32))] [])) _
        refine XS.aloadN X33.here hx rfl (hb hby at_66) rfl rfl ?_
        refine XS.iloadN X33.here hx rfl (hb hby at_67) rfl ?_
        refine st37.trans ?_
        refine XS.iload X37.here hx rfl (hb hby at_71) rfl ?_
        show Steps _ _ _ (T37.setTop (mkF m 73 #[.val (.int p1), .val (.int p2), .val (.int (6 : Int32)), .val (.ref s6), .val (.int (0 : Int32))] [(.int (0 : Int32)), (.int (own_t 1 1 p2))])) _
        refine XS.icmpNo X37.here hx rfl (hb hby at_73) rfl (teq (by unfold own_t; exact if_neg (by have := rng32 p2; omega))).2 ?_
        refine XS.iconst X37.here hx rfl (hb hby at_76) ?_
        refine XS.goto X37.here hx rfl (pc0 := 77) (pc' := 81) rfl (hb hby at_77) (by decide) (by decide) ?_
        show Steps _ _ _ (T37.setTop (mkF m 81 #[.val (.int p1), .val (.int p2), .val (.int (6 : Int32)), .val (.ref s6), .val (.int (0 : Int32))] [(.int (1 : Int32))])) _
        exact retN X37 hx (t := .boolean) Bd.returns (by simp) (hb hby at_81) hr
      · show Qown_law Z p1 p2 s0 s1 s2 s3 s4 s5 s6 s7 s8 s9 h0 n0 _ T37.heap _
        rw [e37]
        exact ⟨rfl, N37⟩
  · skip
    rw [hs2] at pre1
    obtain ⟨_, _, ⟨T38, L38, k38, n38⟩, -, X38, ⟨Lc38, hQ38, l38, y38, z38⟩, st38⟩ := Jvm.LawKit.callS X0 hx (y := own_m0) hown (mvT hZ (own_w1 hw)) (mvT hZ (own_w2 hw)) (mvT hZ (own_w3 hw)) (mvT hZ (own_w4 hw)) (by decide) (backOf (W := 0) (own_pick7 l Z a0 hw [] s0 s1 s2 s3 s4 s5 s6 s7 s8 s9 h0 n0 Z0 S0 S1 S2 S3 S4 S5 S6 S7 S8 S9) hZ (own_w4 hw) (own_w3 hw) (by decide) (by decide)) (g := (mkF m 9 #[.val (.int p1), .val (.int p2), .val (.int (7 : Int32)), .unset, .unset] [(.int (7 : Int32))])) rfl (by rw [hml]; rfl) (argsL := [(.int (7 : Int32))]) (rest := []) (lenOf own_pd0 rfl) rfl (by show 2 * 0 + _ ≤ _; exact Nat.le_of_eq rfl) (hb hby at_9) (fun _ _ => ⟨rfl, e0, (by decide : 0 + 0 ≤ _), (by decide : 0 + 0 ≤ _)⟩)
    dsimp only [Pt.U, Pt.locs, Pt.cells, Pt.slots] at X38 l38 y38 z38 st38 hQ38
    subst l38 y38 z38
    obtain ⟨rfl, N38q, e38⟩ := hQ38
    have N38 := Fr.app N0 N38q
    have pre39 : ∀ t, Steps p.tables e below (T38.setTop (mkF m 41 #[.val (.int p1), .val (.int p2), .val (.int (7 : Int32)), .val (.ref s7), .unset] [(.int (1 : Int32)), (.int p2)])) t → Steps p.tables e below (s₁.setTop (entryFrame m #[(.int p1), (.int p2)] maxLocals)) t := fun t kt => pre1 t (by
      show Steps _ _ _ (s₁.setTop (mkF m 8 #[.val (.int p1), .val (.int p2), .val (.int (7 : Int32)), .unset, .unset] [])) _
      refine XS.iloadN X0.here hx rfl (hb hby at_8) rfl ?_
      refine st38 _ ?_
      refine XS.astoreN X38.here hx rfl (hb hby at_12) rfl rfl (l' := #[.val (.int p1), .val (.int p2), .val (.int (7 : Int32)), .val (.ref s7), .unset]) rfl ?_
      refine XS.iloadN X38.here hx rfl (hb hby at_13) rfl ?_
      show Steps _ _ _ (T38.setTop (mkF m 14 #[.val (.int p1), .val (.int p2), .val (.int (7 : Int32)), .val (.ref s7), .unset] [(.int (7 : Int32))])) _
      refine XS.iconst X38.here hx rfl (hb hby at_14) ?_
      refine XS.icmpYes X38.here hx rfl (pc0 := 15) (pc' := 33) rfl (hb hby at_15) rfl (tlt (by decide : (1 : Int32) < (7 : Int32))).2.2.1 (by decide) (by decide) ?_
      refine XS.iloadN X38.here hx rfl (hb hby at_33) rfl ?_
      refine XS.bipush X38.here hx rfl (hb hby at_34) ?_
      show Steps _ _ _ (T38.setTop (mkF m 36 #[.val (.int p1), .val (.int p2), .val (.int (7 : Int32)), .val (.ref s7), .unset] [(.int (7 : Int32)), (.int (7 : Int32))])) _
      refine XS.icmpNo X38.here hx rfl (hb hby at_36) rfl (flt (by decide : ¬ ((7 : Int32) < (7 : Int32)))).2.2.1 ?_
      refine XS.iloadN X38.here hx rfl (hb hby at_39) rfl ?_
      refine XS.iconst X38.here hx rfl (hb hby at_40) ?_
      exact kt)
    by_cases hc41_40 : p2 = (1 : Int32)
    · skip
      have ihc41_40 := (own_eq (b := (1 : Int32)) (k := 1) rfl).mp hc41_40
      obtain ⟨cq41, kq41, q41a, q41b, q41c⟩ := isOf hZ e38 E7
      obtain ⟨_, _, ⟨T41, L41, k41, n41⟩, -, X41, ⟨Lc41, hQ41, l41, y41, z41⟩, st41⟩ := X38.virtualBack hx (y := own_m1) (z := own_m1) hown (mvT hZ (own_w8 hw)) (mvT hZ (own_w9 hw)) (notFace_of_selects (args := #[]) (mvT hZ (own_w11 hw))) (mvT hZ (own_w11 hw)) (mvT hZ (own_w10 hw)) (by decide) (backOf (W := 0) (own_takesb l Z a0 hw [] s7 p2 h0 n0 Z0 A7 B7) hZ (own_w12 hw) (own_w6 hw) (by decide) (by decide)) q41a q41c (g := (mkF m 68 #[.val (.int p1), .val (.int p2), .val (.int (7 : Int32)), .val (.ref s7), .val (.int (1 : Int32))] [(.int p2), (.ref s7)])) rfl (by rw [hml]; rfl) (Steps.refl _) (argsL := [(.int p2)]) (rest := []) (lenOf own_pd1 rfl) rfl (by show 2 * 0 + _ ≤ _; exact Nat.le_of_eq rfl) (hb hby at_68) (fun _ _ => ⟨rfl, e38, (by decide : 0 + 0 ≤ _), (by decide : 0 + 0 ≤ _)⟩)
      dsimp only [Pt.U, Pt.locs, Pt.cells, Pt.slots] at X41 l41 y41 z41 st41 hQ41
      subst l41 y41 z41
      obtain ⟨rfl, N41q, e41⟩ := hQ41
      have N41 := Fr.app N38 N41q
      obtain ⟨fs, hr, hrun, hended, hW, hsame⟩ := X41.leave (v := some (.int (1 : Int32))) (fun h => by rw [Bd.returns] at h; cases h)
      refine ⟨_, _, pre39 _ ?_, hrun, hended, _, _, rfl, ?_, ⟨_, rfl⟩, hW, hsame.mono (by decide) (by decide)⟩
      · show Steps _ _ _ (T38.setTop (mkF m 41 #[.val (.int p1), .val (.int p2), .val (.int (7 : Int32)), .val (.ref s7), .unset] [(.int (1 : Int32)), (.int p2)])) _
        refine XS.icmpNo X38.here hx rfl (hb hby at_41) rfl (teq hc41_40).2 ?_
        refine XS.iconst X38.here hx rfl (hb hby at_44) ?_
        refine XS.goto X38.here hx rfl (pc0 := 45) (pc' := 49) rfl (hb hby at_45) (by decide) (by decide) ?_
        refine XS.istore X38.here hx rfl (hb hby at_49) rfl (l' := #[.val (.int p1), .val (.int p2), .val (.int (7 : Int32)), .val (.ref s7), .val (.int (1 : Int32))]) rfl ?_
        show Steps _ _ _ (T38.setTop (mkF m 51 #[.val (.int p1), .val (.int p2), .val (.int (7 : Int32)), .val (.ref s7), .val (.int (1 : Int32))] [])) _
        refine XS.goto X38.here hx rfl (pc0 := 51) (pc' := 66) rfl (hb hby at_51) (by decide) (by decide) ?_
        refine XS.aloadN X38.here hx rfl (hb hby at_66) rfl rfl ?_
        refine XS.iloadN X38.here hx rfl (hb hby at_67) rfl ?_
        refine st41.trans ?_
        show Steps _ _ _ (T41.setTop (mkF m 71 #[.val (.int p1), .val (.int p2), .val (.int (7 : Int32)), .val (.ref s7), .val (.int (1 : Int32))] [(.int (own_t 1 1 p2))])) _
        refine XS.iload X41.here hx rfl (hb hby at_71) rfl ?_
        refine XS.icmpNo X41.here hx rfl (hb hby at_73) rfl (teq (by unfold own_t; exact if_pos (by have := rng32 p2; omega))).2 ?_
        refine XS.iconst X41.here hx rfl (hb hby at_76) ?_
        refine XS.goto X41.here hx rfl (pc0 := 77) (pc' := 81) rfl (hb hby at_77) (by decide) (by decide) ?_
        show Steps _ _ _ (T41.setTop (mkF m 81 #[.val (.int p1), .val (.int p2), .val (.int (7 : Int32)), .val (.ref s7), .val (.int (1 : Int32))] [(.int (1 : Int32))])) _
        exact retN X41 hx (t := .boolean) Bd.returns (by simp) (hb hby at_81) hr
      · show Qown_law Z p1 p2 s0 s1 s2 s3 s4 s5 s6 s7 s8 s9 h0 n0 _ T41.heap _
        rw [e41]
        exact ⟨rfl, N41⟩
    · skip
      have ihc41_40 := (mt (own_eq (b := (1 : Int32)) (k := 1) rfl).mpr hc41_40)
      obtain ⟨cq42, kq42, q42a, q42b, q42c⟩ := isOf hZ e38 E7
      obtain ⟨_, _, ⟨T42, L42, k42, n42⟩, -, X42, ⟨Lc42, hQ42, l42, y42, z42⟩, st42⟩ := X38.virtualBack hx (y := own_m1) (z := own_m1) hown (mvT hZ (own_w8 hw)) (mvT hZ (own_w9 hw)) (notFace_of_selects (args := #[]) (mvT hZ (own_w11 hw))) (mvT hZ (own_w11 hw)) (mvT hZ (own_w10 hw)) (by decide) (backOf (W := 0) (own_takesb l Z a0 hw [] s7 p2 h0 n0 Z0 A7 B7) hZ (own_w12 hw) (own_w6 hw) (by decide) (by decide)) q42a q42c (g := (mkF m 68 #[.val (.int p1), .val (.int p2), .val (.int (7 : Int32)), .val (.ref s7), .val (.int (0 : Int32))] [(.int p2), (.ref s7)])) rfl (by rw [hml]; rfl) (Steps.refl _) (argsL := [(.int p2)]) (rest := []) (lenOf own_pd1 rfl) rfl (by show 2 * 0 + _ ≤ _; exact Nat.le_of_eq rfl) (hb hby at_68) (fun _ _ => ⟨rfl, e38, (by decide : 0 + 0 ≤ _), (by decide : 0 + 0 ≤ _)⟩)
      dsimp only [Pt.U, Pt.locs, Pt.cells, Pt.slots] at X42 l42 y42 z42 st42 hQ42
      subst l42 y42 z42
      obtain ⟨rfl, N42q, e42⟩ := hQ42
      have N42 := Fr.app N38 N42q
      obtain ⟨fs, hr, hrun, hended, hW, hsame⟩ := X42.leave (v := some (.int (1 : Int32))) (fun h => by rw [Bd.returns] at h; cases h)
      refine ⟨_, _, pre39 _ ?_, hrun, hended, _, _, rfl, ?_, ⟨_, rfl⟩, hW, hsame.mono (by decide) (by decide)⟩
      · show Steps _ _ _ (T38.setTop (mkF m 41 #[.val (.int p1), .val (.int p2), .val (.int (7 : Int32)), .val (.ref s7), .unset] [(.int (1 : Int32)), (.int p2)])) _
        refine XS.icmpYes X38.here hx rfl (pc0 := 41) (pc' := 48) rfl (hb hby at_41) rfl (feq hc41_40).2 (by decide) (by decide) ?_
        refine XS.iconst X38.here hx rfl (hb hby at_48) ?_
        refine XS.istore X38.here hx rfl (hb hby at_49) rfl (l' := #[.val (.int p1), .val (.int p2), .val (.int (7 : Int32)), .val (.ref s7), .val (.int (0 : Int32))]) rfl ?_
        refine XS.goto X38.here hx rfl (pc0 := 51) (pc' := 66) rfl (hb hby at_51) (by decide) (by decide) ?_
        show Steps _ _ _ (T38.setTop (mkF m 66 #[.val (.int p1), .val (.int p2), .val (.int (7 : Int32)), .val (.ref s7), .val (.int (0 : Int32))] [])) _
        refine XS.aloadN X38.here hx rfl (hb hby at_66) rfl rfl ?_
        refine XS.iloadN X38.here hx rfl (hb hby at_67) rfl ?_
        refine st42.trans ?_
        refine XS.iload X42.here hx rfl (hb hby at_71) rfl ?_
        show Steps _ _ _ (T42.setTop (mkF m 73 #[.val (.int p1), .val (.int p2), .val (.int (7 : Int32)), .val (.ref s7), .val (.int (0 : Int32))] [(.int (0 : Int32)), (.int (own_t 1 1 p2))])) _
        refine XS.icmpNo X42.here hx rfl (hb hby at_73) rfl (teq (by unfold own_t; exact if_neg (by have := rng32 p2; omega))).2 ?_
        refine XS.iconst X42.here hx rfl (hb hby at_76) ?_
        refine XS.goto X42.here hx rfl (pc0 := 77) (pc' := 81) rfl (hb hby at_77) (by decide) (by decide) ?_
        show Steps _ _ _ (T42.setTop (mkF m 81 #[.val (.int p1), .val (.int p2), .val (.int (7 : Int32)), .val (.ref s7), .val (.int (0 : Int32))] [(.int (1 : Int32))])) _
        exact retN X42 hx (t := .boolean) Bd.returns (by simp) (hb hby at_81) hr
      · show Qown_law Z p1 p2 s0 s1 s2 s3 s4 s5 s6 s7 s8 s9 h0 n0 _ T42.heap _
        rw [e42]
        exact ⟨rfl, N42⟩
  · skip
    rw [hs2] at pre1
    obtain ⟨_, _, ⟨T43, L43, k43, n43⟩, -, X43, ⟨Lc43, hQ43, l43, y43, z43⟩, st43⟩ := Jvm.LawKit.callS X0 hx (y := own_m0) hown (mvT hZ (own_w1 hw)) (mvT hZ (own_w2 hw)) (mvT hZ (own_w3 hw)) (mvT hZ (own_w4 hw)) (by decide) (backOf (W := 0) (own_pick8 l Z a0 hw [] s0 s1 s2 s3 s4 s5 s6 s7 s8 s9 h0 n0 Z0 S0 S1 S2 S3 S4 S5 S6 S7 S8 S9) hZ (own_w4 hw) (own_w3 hw) (by decide) (by decide)) (g := (mkF m 9 #[.val (.int p1), .val (.int p2), .val (.int (8 : Int32)), .unset, .unset] [(.int (8 : Int32))])) rfl (by rw [hml]; rfl) (argsL := [(.int (8 : Int32))]) (rest := []) (lenOf own_pd0 rfl) rfl (by show 2 * 0 + _ ≤ _; exact Nat.le_of_eq rfl) (hb hby at_9) (fun _ _ => ⟨rfl, e0, (by decide : 0 + 0 ≤ _), (by decide : 0 + 0 ≤ _)⟩)
    dsimp only [Pt.U, Pt.locs, Pt.cells, Pt.slots] at X43 l43 y43 z43 st43 hQ43
    subst l43 y43 z43
    obtain ⟨rfl, N43q, e43⟩ := hQ43
    have N43 := Fr.app N0 N43q
    have pre44 : ∀ t, Steps p.tables e below (T43.setTop (mkF m 56 #[.val (.int p1), .val (.int p2), .val (.int (8 : Int32)), .val (.ref s8), .unset] [(.int (2 : Int32)), (.int p2)])) t → Steps p.tables e below (s₁.setTop (entryFrame m #[(.int p1), (.int p2)] maxLocals)) t := fun t kt => pre1 t (by
      show Steps _ _ _ (s₁.setTop (mkF m 8 #[.val (.int p1), .val (.int p2), .val (.int (8 : Int32)), .unset, .unset] [])) _
      refine XS.iloadN X0.here hx rfl (hb hby at_8) rfl ?_
      refine st43 _ ?_
      refine XS.astoreN X43.here hx rfl (hb hby at_12) rfl rfl (l' := #[.val (.int p1), .val (.int p2), .val (.int (8 : Int32)), .val (.ref s8), .unset]) rfl ?_
      refine XS.iloadN X43.here hx rfl (hb hby at_13) rfl ?_
      show Steps _ _ _ (T43.setTop (mkF m 14 #[.val (.int p1), .val (.int p2), .val (.int (8 : Int32)), .val (.ref s8), .unset] [(.int (8 : Int32))])) _
      refine XS.iconst X43.here hx rfl (hb hby at_14) ?_
      refine XS.icmpYes X43.here hx rfl (pc0 := 15) (pc' := 33) rfl (hb hby at_15) rfl (tlt (by decide : (1 : Int32) < (8 : Int32))).2.2.1 (by decide) (by decide) ?_
      refine XS.iloadN X43.here hx rfl (hb hby at_33) rfl ?_
      refine XS.bipush X43.here hx rfl (hb hby at_34) ?_
      show Steps _ _ _ (T43.setTop (mkF m 36 #[.val (.int p1), .val (.int p2), .val (.int (8 : Int32)), .val (.ref s8), .unset] [(.int (7 : Int32)), (.int (8 : Int32))])) _
      refine XS.icmpYes X43.here hx rfl (pc0 := 36) (pc' := 54) rfl (hb hby at_36) rfl (tlt (by decide : (7 : Int32) < (8 : Int32))).2.2.1 (by decide) (by decide) ?_
      refine XS.iloadN X43.here hx rfl (hb hby at_54) rfl ?_
      refine XS.iconst X43.here hx rfl (hb hby at_55) ?_
      exact kt)
    by_cases hc56_45 : p2 = (2 : Int32)
    · skip
      have ihc56_45 := (own_eq (b := (2 : Int32)) (k := 2) rfl).mp hc56_45
      obtain ⟨cq46, kq46, q46a, q46b, q46c⟩ := isOf hZ e43 E8
      obtain ⟨_, _, ⟨T46, L46, k46, n46⟩, -, X46, ⟨Lc46, hQ46, l46, y46, z46⟩, st46⟩ := X43.virtualBack hx (y := own_m1) (z := own_m1) hown (mvT hZ (own_w8 hw)) (mvT hZ (own_w9 hw)) (notFace_of_selects (args := #[]) (mvT hZ (own_w11 hw))) (mvT hZ (own_w11 hw)) (mvT hZ (own_w10 hw)) (by decide) (backOf (W := 0) (own_takesc l Z a0 hw [] s8 p2 h0 n0 Z0 A8 B8) hZ (own_w12 hw) (own_w6 hw) (by decide) (by decide)) q46a q46c (g := (mkF m 68 #[.val (.int p1), .val (.int p2), .val (.int (8 : Int32)), .val (.ref s8), .val (.int (1 : Int32))] [(.int p2), (.ref s8)])) rfl (by rw [hml]; rfl) (Steps.refl _) (argsL := [(.int p2)]) (rest := []) (lenOf own_pd1 rfl) rfl (by show 2 * 0 + _ ≤ _; exact Nat.le_of_eq rfl) (hb hby at_68) (fun _ _ => ⟨rfl, e43, (by decide : 0 + 0 ≤ _), (by decide : 0 + 0 ≤ _)⟩)
      dsimp only [Pt.U, Pt.locs, Pt.cells, Pt.slots] at X46 l46 y46 z46 st46 hQ46
      subst l46 y46 z46
      obtain ⟨rfl, N46q, e46⟩ := hQ46
      have N46 := Fr.app N43 N46q
      obtain ⟨fs, hr, hrun, hended, hW, hsame⟩ := X46.leave (v := some (.int (1 : Int32))) (fun h => by rw [Bd.returns] at h; cases h)
      refine ⟨_, _, pre44 _ ?_, hrun, hended, _, _, rfl, ?_, ⟨_, rfl⟩, hW, hsame.mono (by decide) (by decide)⟩
      · show Steps _ _ _ (T43.setTop (mkF m 56 #[.val (.int p1), .val (.int p2), .val (.int (8 : Int32)), .val (.ref s8), .unset] [(.int (2 : Int32)), (.int p2)])) _
        refine XS.icmpNo X43.here hx rfl (hb hby at_56) rfl (teq hc56_45).2 ?_
        refine XS.iconst X43.here hx rfl (hb hby at_59) ?_
        refine XS.goto X43.here hx rfl (pc0 := 60) (pc' := 64) rfl (hb hby at_60) (by decide) (by decide) ?_
        refine XS.istore X43.here hx rfl (hb hby at_64) rfl (l' := #[.val (.int p1), .val (.int p2), .val (.int (8 : Int32)), .val (.ref s8), .val (.int (1 : Int32))]) rfl ?_
        show Steps _ _ _ (T43.setTop (mkF m 66 #[.val (.int p1), .val (.int p2), .val (.int (8 : Int32)), .val (.ref s8), .val (.int (1 : Int32))] [])) _
        refine XS.aloadN X43.here hx rfl (hb hby at_66) rfl rfl ?_
        refine XS.iloadN X43.here hx rfl (hb hby at_67) rfl ?_
        refine st46.trans ?_
        refine XS.iload X46.here hx rfl (hb hby at_71) rfl ?_
        show Steps _ _ _ (T46.setTop (mkF m 73 #[.val (.int p1), .val (.int p2), .val (.int (8 : Int32)), .val (.ref s8), .val (.int (1 : Int32))] [(.int (1 : Int32)), (.int (own_t 2 2 p2))])) _
        refine XS.icmpNo X46.here hx rfl (hb hby at_73) rfl (teq (by unfold own_t; exact if_pos (by have := rng32 p2; omega))).2 ?_
        refine XS.iconst X46.here hx rfl (hb hby at_76) ?_
        refine XS.goto X46.here hx rfl (pc0 := 77) (pc' := 81) rfl (hb hby at_77) (by decide) (by decide) ?_
        show Steps _ _ _ (T46.setTop (mkF m 81 #[.val (.int p1), .val (.int p2), .val (.int (8 : Int32)), .val (.ref s8), .val (.int (1 : Int32))] [(.int (1 : Int32))])) _
        exact retN X46 hx (t := .boolean) Bd.returns (by simp) (hb hby at_81) hr
      · show Qown_law Z p1 p2 s0 s1 s2 s3 s4 s5 s6 s7 s8 s9 h0 n0 _ T46.heap _
        rw [e46]
        exact ⟨rfl, N46⟩
    · skip
      have ihc56_45 := (mt (own_eq (b := (2 : Int32)) (k := 2) rfl).mpr hc56_45)
      obtain ⟨cq47, kq47, q47a, q47b, q47c⟩ := isOf hZ e43 E8
      obtain ⟨_, _, ⟨T47, L47, k47, n47⟩, -, X47, ⟨Lc47, hQ47, l47, y47, z47⟩, st47⟩ := X43.virtualBack hx (y := own_m1) (z := own_m1) hown (mvT hZ (own_w8 hw)) (mvT hZ (own_w9 hw)) (notFace_of_selects (args := #[]) (mvT hZ (own_w11 hw))) (mvT hZ (own_w11 hw)) (mvT hZ (own_w10 hw)) (by decide) (backOf (W := 0) (own_takesc l Z a0 hw [] s8 p2 h0 n0 Z0 A8 B8) hZ (own_w12 hw) (own_w6 hw) (by decide) (by decide)) q47a q47c (g := (mkF m 68 #[.val (.int p1), .val (.int p2), .val (.int (8 : Int32)), .val (.ref s8), .val (.int (0 : Int32))] [(.int p2), (.ref s8)])) rfl (by rw [hml]; rfl) (Steps.refl _) (argsL := [(.int p2)]) (rest := []) (lenOf own_pd1 rfl) rfl (by show 2 * 0 + _ ≤ _; exact Nat.le_of_eq rfl) (hb hby at_68) (fun _ _ => ⟨rfl, e43, (by decide : 0 + 0 ≤ _), (by decide : 0 + 0 ≤ _)⟩)
      dsimp only [Pt.U, Pt.locs, Pt.cells, Pt.slots] at X47 l47 y47 z47 st47 hQ47
      subst l47 y47 z47
      obtain ⟨rfl, N47q, e47⟩ := hQ47
      have N47 := Fr.app N43 N47q
      obtain ⟨fs, hr, hrun, hended, hW, hsame⟩ := X47.leave (v := some (.int (1 : Int32))) (fun h => by rw [Bd.returns] at h; cases h)
      refine ⟨_, _, pre44 _ ?_, hrun, hended, _, _, rfl, ?_, ⟨_, rfl⟩, hW, hsame.mono (by decide) (by decide)⟩
      · show Steps _ _ _ (T43.setTop (mkF m 56 #[.val (.int p1), .val (.int p2), .val (.int (8 : Int32)), .val (.ref s8), .unset] [(.int (2 : Int32)), (.int p2)])) _
        refine XS.icmpYes X43.here hx rfl (pc0 := 56) (pc' := 63) rfl (hb hby at_56) rfl (feq hc56_45).2 (by decide) (by decide) ?_
        refine XS.iconst X43.here hx rfl (hb hby at_63) ?_
        refine XS.istore X43.here hx rfl (hb hby at_64) rfl (l' := #[.val (.int p1), .val (.int p2), .val (.int (8 : Int32)), .val (.ref s8), .val (.int (0 : Int32))]) rfl ?_
        refine XS.aloadN X43.here hx rfl (hb hby at_66) rfl rfl ?_
        show Steps _ _ _ (T43.setTop (mkF m 67 #[.val (.int p1), .val (.int p2), .val (.int (8 : Int32)), .val (.ref s8), .val (.int (0 : Int32))] [(.ref s8)])) _
        refine XS.iloadN X43.here hx rfl (hb hby at_67) rfl ?_
        refine st47.trans ?_
        refine XS.iload X47.here hx rfl (hb hby at_71) rfl ?_
        refine XS.icmpNo X47.here hx rfl (hb hby at_73) rfl (teq (by unfold own_t; exact if_neg (by have := rng32 p2; omega))).2 ?_
        show Steps _ _ _ (T47.setTop (mkF m 76 #[.val (.int p1), .val (.int p2), .val (.int (8 : Int32)), .val (.ref s8), .val (.int (0 : Int32))] [])) _
        refine XS.iconst X47.here hx rfl (hb hby at_76) ?_
        refine XS.goto X47.here hx rfl (pc0 := 77) (pc' := 81) rfl (hb hby at_77) (by decide) (by decide) ?_
        show Steps _ _ _ (T47.setTop (mkF m 81 #[.val (.int p1), .val (.int p2), .val (.int (8 : Int32)), .val (.ref s8), .val (.int (0 : Int32))] [(.int (1 : Int32))])) _
        exact retN X47 hx (t := .boolean) Bd.returns (by simp) (hb hby at_81) hr
      · show Qown_law Z p1 p2 s0 s1 s2 s3 s4 s5 s6 s7 s8 s9 h0 n0 _ T47.heap _
        rw [e47]
        exact ⟨rfl, N47⟩
  · skip
    rw [hs2] at pre1
    obtain ⟨_, _, ⟨T48, L48, k48, n48⟩, -, X48, ⟨Lc48, hQ48, l48, y48, z48⟩, st48⟩ := Jvm.LawKit.callS X0 hx (y := own_m0) hown (mvT hZ (own_w1 hw)) (mvT hZ (own_w2 hw)) (mvT hZ (own_w3 hw)) (mvT hZ (own_w4 hw)) (by decide) (backOf (W := 0) (own_pick9 l Z a0 hw [] s0 s1 s2 s3 s4 s5 s6 s7 s8 s9 h0 n0 Z0 S0 S1 S2 S3 S4 S5 S6 S7 S8 S9) hZ (own_w4 hw) (own_w3 hw) (by decide) (by decide)) (g := (mkF m 9 #[.val (.int p1), .val (.int p2), .val (.int (9 : Int32)), .unset, .unset] [(.int (9 : Int32))])) rfl (by rw [hml]; rfl) (argsL := [(.int (9 : Int32))]) (rest := []) (lenOf own_pd0 rfl) rfl (by show 2 * 0 + _ ≤ _; exact Nat.le_of_eq rfl) (hb hby at_9) (fun _ _ => ⟨rfl, e0, (by decide : 0 + 0 ≤ _), (by decide : 0 + 0 ≤ _)⟩)
    dsimp only [Pt.U, Pt.locs, Pt.cells, Pt.slots] at X48 l48 y48 z48 st48 hQ48
    subst l48 y48 z48
    obtain ⟨rfl, N48q, e48⟩ := hQ48
    have N48 := Fr.app N0 N48q
    have pre49 : ∀ t, Steps p.tables e below (T48.setTop (mkF m 56 #[.val (.int p1), .val (.int p2), .val (.int (9 : Int32)), .val (.ref s9), .unset] [(.int (2 : Int32)), (.int p2)])) t → Steps p.tables e below (s₁.setTop (entryFrame m #[(.int p1), (.int p2)] maxLocals)) t := fun t kt => pre1 t (by
      show Steps _ _ _ (s₁.setTop (mkF m 8 #[.val (.int p1), .val (.int p2), .val (.int (9 : Int32)), .unset, .unset] [])) _
      refine XS.iloadN X0.here hx rfl (hb hby at_8) rfl ?_
      refine st48 _ ?_
      refine XS.astoreN X48.here hx rfl (hb hby at_12) rfl rfl (l' := #[.val (.int p1), .val (.int p2), .val (.int (9 : Int32)), .val (.ref s9), .unset]) rfl ?_
      refine XS.iloadN X48.here hx rfl (hb hby at_13) rfl ?_
      show Steps _ _ _ (T48.setTop (mkF m 14 #[.val (.int p1), .val (.int p2), .val (.int (9 : Int32)), .val (.ref s9), .unset] [(.int (9 : Int32))])) _
      refine XS.iconst X48.here hx rfl (hb hby at_14) ?_
      refine XS.icmpYes X48.here hx rfl (pc0 := 15) (pc' := 33) rfl (hb hby at_15) rfl (tlt (by decide : (1 : Int32) < (9 : Int32))).2.2.1 (by decide) (by decide) ?_
      refine XS.iloadN X48.here hx rfl (hb hby at_33) rfl ?_
      refine XS.bipush X48.here hx rfl (hb hby at_34) ?_
      show Steps _ _ _ (T48.setTop (mkF m 36 #[.val (.int p1), .val (.int p2), .val (.int (9 : Int32)), .val (.ref s9), .unset] [(.int (7 : Int32)), (.int (9 : Int32))])) _
      refine XS.icmpYes X48.here hx rfl (pc0 := 36) (pc' := 54) rfl (hb hby at_36) rfl (tlt (by decide : (7 : Int32) < (9 : Int32))).2.2.1 (by decide) (by decide) ?_
      refine XS.iloadN X48.here hx rfl (hb hby at_54) rfl ?_
      refine XS.iconst X48.here hx rfl (hb hby at_55) ?_
      exact kt)
    by_cases hc56_50 : p2 = (2 : Int32)
    · skip
      have ihc56_50 := (own_eq (b := (2 : Int32)) (k := 2) rfl).mp hc56_50
      obtain ⟨cq51, kq51, q51a, q51b, q51c⟩ := isOf hZ e48 E9
      obtain ⟨_, _, ⟨T51, L51, k51, n51⟩, -, X51, ⟨Lc51, hQ51, l51, y51, z51⟩, st51⟩ := X48.virtualBack hx (y := own_m1) (z := own_m1) hown (mvT hZ (own_w8 hw)) (mvT hZ (own_w9 hw)) (notFace_of_selects (args := #[]) (mvT hZ (own_w11 hw))) (mvT hZ (own_w11 hw)) (mvT hZ (own_w10 hw)) (by decide) (backOf (W := 0) (own_takesc l Z a0 hw [] s9 p2 h0 n0 Z0 A9 B9) hZ (own_w12 hw) (own_w6 hw) (by decide) (by decide)) q51a q51c (g := (mkF m 68 #[.val (.int p1), .val (.int p2), .val (.int (9 : Int32)), .val (.ref s9), .val (.int (1 : Int32))] [(.int p2), (.ref s9)])) rfl (by rw [hml]; rfl) (Steps.refl _) (argsL := [(.int p2)]) (rest := []) (lenOf own_pd1 rfl) rfl (by show 2 * 0 + _ ≤ _; exact Nat.le_of_eq rfl) (hb hby at_68) (fun _ _ => ⟨rfl, e48, (by decide : 0 + 0 ≤ _), (by decide : 0 + 0 ≤ _)⟩)
      dsimp only [Pt.U, Pt.locs, Pt.cells, Pt.slots] at X51 l51 y51 z51 st51 hQ51
      subst l51 y51 z51
      obtain ⟨rfl, N51q, e51⟩ := hQ51
      have N51 := Fr.app N48 N51q
      obtain ⟨fs, hr, hrun, hended, hW, hsame⟩ := X51.leave (v := some (.int (1 : Int32))) (fun h => by rw [Bd.returns] at h; cases h)
      refine ⟨_, _, pre49 _ ?_, hrun, hended, _, _, rfl, ?_, ⟨_, rfl⟩, hW, hsame.mono (by decide) (by decide)⟩
      · show Steps _ _ _ (T48.setTop (mkF m 56 #[.val (.int p1), .val (.int p2), .val (.int (9 : Int32)), .val (.ref s9), .unset] [(.int (2 : Int32)), (.int p2)])) _
        refine XS.icmpNo X48.here hx rfl (hb hby at_56) rfl (teq hc56_50).2 ?_
        refine XS.iconst X48.here hx rfl (hb hby at_59) ?_
        refine XS.goto X48.here hx rfl (pc0 := 60) (pc' := 64) rfl (hb hby at_60) (by decide) (by decide) ?_
        refine XS.istore X48.here hx rfl (hb hby at_64) rfl (l' := #[.val (.int p1), .val (.int p2), .val (.int (9 : Int32)), .val (.ref s9), .val (.int (1 : Int32))]) rfl ?_
        show Steps _ _ _ (T48.setTop (mkF m 66 #[.val (.int p1), .val (.int p2), .val (.int (9 : Int32)), .val (.ref s9), .val (.int (1 : Int32))] [])) _
        refine XS.aloadN X48.here hx rfl (hb hby at_66) rfl rfl ?_
        refine XS.iloadN X48.here hx rfl (hb hby at_67) rfl ?_
        refine st51.trans ?_
        refine XS.iload X51.here hx rfl (hb hby at_71) rfl ?_
        show Steps _ _ _ (T51.setTop (mkF m 73 #[.val (.int p1), .val (.int p2), .val (.int (9 : Int32)), .val (.ref s9), .val (.int (1 : Int32))] [(.int (1 : Int32)), (.int (own_t 2 2 p2))])) _
        refine XS.icmpNo X51.here hx rfl (hb hby at_73) rfl (teq (by unfold own_t; exact if_pos (by have := rng32 p2; omega))).2 ?_
        refine XS.iconst X51.here hx rfl (hb hby at_76) ?_
        refine XS.goto X51.here hx rfl (pc0 := 77) (pc' := 81) rfl (hb hby at_77) (by decide) (by decide) ?_
        show Steps _ _ _ (T51.setTop (mkF m 81 #[.val (.int p1), .val (.int p2), .val (.int (9 : Int32)), .val (.ref s9), .val (.int (1 : Int32))] [(.int (1 : Int32))])) _
        exact retN X51 hx (t := .boolean) Bd.returns (by simp) (hb hby at_81) hr
      · show Qown_law Z p1 p2 s0 s1 s2 s3 s4 s5 s6 s7 s8 s9 h0 n0 _ T51.heap _
        rw [e51]
        exact ⟨rfl, N51⟩
    · skip
      have ihc56_50 := (mt (own_eq (b := (2 : Int32)) (k := 2) rfl).mpr hc56_50)
      obtain ⟨cq52, kq52, q52a, q52b, q52c⟩ := isOf hZ e48 E9
      obtain ⟨_, _, ⟨T52, L52, k52, n52⟩, -, X52, ⟨Lc52, hQ52, l52, y52, z52⟩, st52⟩ := X48.virtualBack hx (y := own_m1) (z := own_m1) hown (mvT hZ (own_w8 hw)) (mvT hZ (own_w9 hw)) (notFace_of_selects (args := #[]) (mvT hZ (own_w11 hw))) (mvT hZ (own_w11 hw)) (mvT hZ (own_w10 hw)) (by decide) (backOf (W := 0) (own_takesc l Z a0 hw [] s9 p2 h0 n0 Z0 A9 B9) hZ (own_w12 hw) (own_w6 hw) (by decide) (by decide)) q52a q52c (g := (mkF m 68 #[.val (.int p1), .val (.int p2), .val (.int (9 : Int32)), .val (.ref s9), .val (.int (0 : Int32))] [(.int p2), (.ref s9)])) rfl (by rw [hml]; rfl) (Steps.refl _) (argsL := [(.int p2)]) (rest := []) (lenOf own_pd1 rfl) rfl (by show 2 * 0 + _ ≤ _; exact Nat.le_of_eq rfl) (hb hby at_68) (fun _ _ => ⟨rfl, e48, (by decide : 0 + 0 ≤ _), (by decide : 0 + 0 ≤ _)⟩)
      dsimp only [Pt.U, Pt.locs, Pt.cells, Pt.slots] at X52 l52 y52 z52 st52 hQ52
      subst l52 y52 z52
      obtain ⟨rfl, N52q, e52⟩ := hQ52
      have N52 := Fr.app N48 N52q
      obtain ⟨fs, hr, hrun, hended, hW, hsame⟩ := X52.leave (v := some (.int (1 : Int32))) (fun h => by rw [Bd.returns] at h; cases h)
      refine ⟨_, _, pre49 _ ?_, hrun, hended, _, _, rfl, ?_, ⟨_, rfl⟩, hW, hsame.mono (by decide) (by decide)⟩
      · show Steps _ _ _ (T48.setTop (mkF m 56 #[.val (.int p1), .val (.int p2), .val (.int (9 : Int32)), .val (.ref s9), .unset] [(.int (2 : Int32)), (.int p2)])) _
        refine XS.icmpYes X48.here hx rfl (pc0 := 56) (pc' := 63) rfl (hb hby at_56) rfl (feq hc56_50).2 (by decide) (by decide) ?_
        refine XS.iconst X48.here hx rfl (hb hby at_63) ?_
        refine XS.istore X48.here hx rfl (hb hby at_64) rfl (l' := #[.val (.int p1), .val (.int p2), .val (.int (9 : Int32)), .val (.ref s9), .val (.int (0 : Int32))]) rfl ?_
        refine XS.aloadN X48.here hx rfl (hb hby at_66) rfl rfl ?_
        show Steps _ _ _ (T48.setTop (mkF m 67 #[.val (.int p1), .val (.int p2), .val (.int (9 : Int32)), .val (.ref s9), .val (.int (0 : Int32))] [(.ref s9)])) _
        refine XS.iloadN X48.here hx rfl (hb hby at_67) rfl ?_
        refine st52.trans ?_
        refine XS.iload X52.here hx rfl (hb hby at_71) rfl ?_
        refine XS.icmpNo X52.here hx rfl (hb hby at_73) rfl (teq (by unfold own_t; exact if_neg (by have := rng32 p2; omega))).2 ?_
        show Steps _ _ _ (T52.setTop (mkF m 76 #[.val (.int p1), .val (.int p2), .val (.int (9 : Int32)), .val (.ref s9), .val (.int (0 : Int32))] [])) _
        refine XS.iconst X52.here hx rfl (hb hby at_76) ?_
        refine XS.goto X52.here hx rfl (pc0 := 77) (pc' := 81) rfl (hb hby at_77) (by decide) (by decide) ?_
        show Steps _ _ _ (T52.setTop (mkF m 81 #[.val (.int p1), .val (.int p2), .val (.int (9 : Int32)), .val (.ref s9), .val (.int (0 : Int32))] [(.int (1 : Int32))])) _
        exact retN X52 hx (t := .boolean) Bd.returns (by simp) (hb hby at_81) hr
      · show Qown_law Z p1 p2 s0 s1 s2 s3 s4 s5 s6 s7 s8 s9 h0 n0 _ T52.heap _
        rw [e52]
        exact ⟨rfl, N52⟩
set_option maxRecDepth 65536 in
set_option maxHeartbeats 40000000 in
theorem comes_1 {Post : Tables → Env → Array Value → State → Outcome → State → Prop} (hpost : ∀ tb e args s v u, (limb_1_1.after args s (.returned v) u = true ∧ limb_1_2.after args s (.returned v) u = true ∧ True) → FrameEnd s (.returned v) u (Jvm.fieldLocs frame_1_writes args s ++ Jvm.arrayLocs frame_1_arrays args s ++ Jvm.staticLocs frame_1_statics s) 0 0 → Post tb e args s (.returned v) u) :
    ArmFor flags0 classFile x code maxLocals ret World_1 tables_1 room_1 Calls_1 rest_1 Pre_1 Post := by
  intro l hfl _ _ p e ha hc hk s m args below hf hA hF happ hP
  obtain ⟨hcalls, hrest, hpre⟩ := hP
  obtain ⟨-, -, -, hnamed, -, -, -, hat⟩ := (Spec.applies_iff hf).mp happ
  obtain ⟨hg, hn⟩ := and_e (Cond.before_iff.mp (show (Jvm.Cond.and given_1 narrow_1).before args s = true from hpre))
  obtain ⟨gc, gr0⟩ := and_e hg
  obtain ⟨ga0, gr1⟩ := and_e gr0
  have ga1 := gr1
  obtain ⟨w0, w1, rfl⟩ : ∃ w0 w1 : Value, args = #[w0, w1] := by
    have hs : args.size = 2 := by simpa [Cond.value, given_1] using gc
    obtain ⟨L⟩ := args
    match L, hs with
    | [w0, w1], _ => exact ⟨w0, w1, rfl⟩
  have hw := fun d (hd : d ∈ tables_1) => atoms_spec (ws := Jvm.Cond.code x code maxLocals ret :: tables_1) hat d (List.mem_cons_of_mem _ hd)
  have hfit : Fit s := fun {y c} hc i hi => by
    obtain ⟨ha, rfl⟩ := Array.getElem?_eq_some_iff.mp hc
    have q := List.all_eq_true.mp ((Array.all_eq_true_iff_forall_mem.mp hF) _ (Array.getElem_mem ha)) i (List.mem_range.mpr hi)
    simpa [Array.getElem?_eq_getElem hi] using q
  obtain ⟨i0, ei0⟩ := is_v ga0
  obtain rfl : w0 = (.int i0) := Option.some.inj ei0
  obtain ⟨i1, ei1⟩ := is_v ga1
  obtain rfl : w1 = (.int i1) := Option.some.inj ei1
  obtain ⟨na0, nr0⟩ := and_e hn
  obtain ⟨na1, nr1⟩ := and_e nr0
  obtain ⟨na2, nr2⟩ := and_e nr1
  obtain ⟨na3, nr3⟩ := and_e nr2
  obtain ⟨na4, nr4⟩ := and_e nr3
  obtain ⟨na5, nr5⟩ := and_e nr4
  obtain ⟨na6, nr6⟩ := and_e nr5
  obtain ⟨na7, nr7⟩ := and_e nr6
  obtain ⟨na8, nr8⟩ := and_e nr7
  obtain ⟨na9, nr9⟩ := and_e nr8
  obtain ⟨na10, nr10⟩ := and_e nr9
  obtain ⟨na11, nr11⟩ := and_e nr10
  obtain ⟨na12, nr12⟩ := and_e nr11
  obtain ⟨na13, nr13⟩ := and_e nr12
  obtain ⟨na14, nr14⟩ := and_e nr13
  obtain ⟨na15, nr15⟩ := and_e nr14
  obtain ⟨na16, nr16⟩ := and_e nr15
  obtain ⟨na17, nr17⟩ := and_e nr16
  obtain ⟨na18, nr18⟩ := and_e nr17
  obtain ⟨na19, nr19⟩ := and_e nr18
  obtain ⟨na20, nr20⟩ := and_e nr19
  obtain ⟨na21, nr21⟩ := and_e nr20
  obtain ⟨na22, nr22⟩ := and_e nr21
  obtain ⟨na23, nr23⟩ := and_e nr22
  obtain ⟨na24, nr24⟩ := and_e nr23
  obtain ⟨na25, nr25⟩ := and_e nr24
  obtain ⟨na26, nr26⟩ := and_e nr25
  obtain ⟨na27, nr27⟩ := and_e nr26
  obtain ⟨na28, nr28⟩ := and_e nr27
  have na29 := nr28
  obtain ⟨s0, v0, E0⟩ := own_exa na0
  have A0 := own_fldint v0 na1
  have B0 := own_fldint v0 na2
  have S0 := Sta.start v0 (Or.inr ⟨hw _ (List.mem_of_getElem? (i := 6) rfl), hw _ (List.mem_of_getElem? (i := 7) rfl)⟩)
  obtain ⟨s1, v1, E1⟩ := own_exa na20
  have A1 := own_fldint v1 na21
  have B1 := own_fldint v1 na22
  have S1 := Sta.start v1 (Or.inr ⟨hw _ (List.mem_of_getElem? (i := 6) rfl), hw _ (List.mem_of_getElem? (i := 30) rfl)⟩)
  obtain ⟨s2, v2, E2⟩ := own_exa na14
  have A2 := own_fldint v2 na15
  have B2 := own_fldint v2 na16
  have S2 := Sta.start v2 (Or.inr ⟨hw _ (List.mem_of_getElem? (i := 6) rfl), hw _ (List.mem_of_getElem? (i := 26) rfl)⟩)
  obtain ⟨s3, v3, E3⟩ := own_exa na17
  have A3 := own_fldint v3 na18
  have B3 := own_fldint v3 na19
  have S3 := Sta.start v3 (Or.inr ⟨hw _ (List.mem_of_getElem? (i := 6) rfl), hw _ (List.mem_of_getElem? (i := 28) rfl)⟩)
  obtain ⟨s4, v4, E4⟩ := own_exa na3
  have A4 := own_fldint v4 na4
  have B4 := own_fldint v4 na5
  have S4 := Sta.start v4 (Or.inr ⟨hw _ (List.mem_of_getElem? (i := 6) rfl), hw _ (List.mem_of_getElem? (i := 18) rfl)⟩)
  obtain ⟨s5, v5, E5⟩ := own_exa na23
  have A5 := own_fldint v5 na24
  have B5 := own_fldint v5 na25
  have S5 := Sta.start v5 (Or.inr ⟨hw _ (List.mem_of_getElem? (i := 6) rfl), hw _ (List.mem_of_getElem? (i := 32) rfl)⟩)
  obtain ⟨s6, v6, E6⟩ := own_exa na9
  have A6 := own_fldint v6 na10
  have B6 := own_fldint v6 na29
  have S6 := Sta.start v6 (Or.inr ⟨hw _ (List.mem_of_getElem? (i := 6) rfl), hw _ (List.mem_of_getElem? (i := 22) rfl)⟩)
  obtain ⟨s7, v7, E7⟩ := own_exa na26
  have A7 := own_fldint v7 na27
  have B7 := own_fldint v7 na28
  have S7 := Sta.start v7 (Or.inr ⟨hw _ (List.mem_of_getElem? (i := 6) rfl), hw _ (List.mem_of_getElem? (i := 34) rfl)⟩)
  obtain ⟨s8, v8, E8⟩ := own_exa na6
  have A8 := own_fldint v8 na7
  have B8 := own_fldint v8 na8
  have S8 := Sta.start v8 (Or.inr ⟨hw _ (List.mem_of_getElem? (i := 6) rfl), hw _ (List.mem_of_getElem? (i := 20) rfl)⟩)
  obtain ⟨s9, v9, E9⟩ := own_exa na11
  have A9 := own_fldint v9 na12
  have B9 := own_fldint v9 na13
  have S9 := Sta.start v9 (Or.inr ⟨hw _ (List.mem_of_getElem? (i := 6) rfl), hw _ (List.mem_of_getElem? (i := 24) rfl)⟩)
  obtain ⟨n, o, h1, h2, h3, _, L, rfl, ⟨rfl, N⟩, hq⟩ := own_law l s _ hw tables_1 i0 i1 s0 s1 s2 s3 s4 s5 s6 s7 s8 s9 s.heap s.heap.size (Nat.le_refl _) S0 S1 S2 S3 S4 S5 S6 S7 S8 S9 E0 A0 B0 E1 A1 B1 E2 A2 B2 E3 A3 B3 E4 A4 B4 E5 A5 B5 E6 A6 B6 E7 A7 B7 E8 A8 B8 E9 A9 B9 p e ha hc hk s m _ below hf ((Spec.applies_iff_loose hf).mp happ).1 ⟨rfl, State.Warmed39.refl s, rfl⟩ trivial
  refine ⟨n, _, h1, h2, h3, hpost _ _ _ _ _ _ ⟨Cond.after_iff.mpr rfl, Cond.after_iff.mpr (eq_i res_at (Term.int_eval (1)) rfl), trivial⟩ ⟨hq.1, hq.2.1, (hq.2.2.sift fun y hy => Or.inr (N y hy)).mono (by decide) (by decide)⟩⟩
theorem main_1_1 : Claimed_1_1 := comes_1 fun _ _ _ _ _ _ h hF => ⟨h.1, hF⟩
theorem main_1_2 : Claimed_1_2 := comes_1 fun _ _ _ _ _ _ h hF => ⟨h.2.1, hF⟩
end Jvm.Pilot.@@N@@
namespace Jvm.Pilot.@@N@@
open Jvm Jvm.ClassFile Sem Op Lib Jvm.Free Jvm.Stand Jvm.Pilot.@@N@@.Jvm.D
/-! MADE BY PROGRAM (witnessworld.py) out of the Statement's table words and the real class files: 13 classes; the members and pool entries that the words name. The judged class is class 1, her method 2. -/
namespace start1
open Jvm.ClassFile
def u (s : String) : CpInfo := .utf8 (stringToUtf16 s)
/-- a pool by its gaps: so many unusable entries, then the entry; so many at the end -/
def gap : Nat → List CpInfo → List CpInfo
  | 0, r => r
  | n + 1, r => .unusable :: gap n r
def poolList (es : List (Nat × CpInfo)) (last : Nat) : List CpInfo := es.foldr (fun e r => gap e.1 (e.2 :: r)) (gap last [])
def pool (es : List (Nat × CpInfo)) (last : Nat) : Array CpInfo := ⟨poolList es last⟩
def fileOf (pool : Array CpInfo) (this : Nat) (attrs : Array Attribute := #[]) (ms : Array MethodInfo := #[]) (fl : Nat := 33) (sup : Nat := 0) (ifs : Array Nat := #[]) (fds : Array FieldInfo := #[]) : ClassFile where
  minorVersion := 0
  majorVersion := 65
  constantPool := pool
  accessFlags := fl
  thisClass := this
  superClass := sup
  interfaces := ifs
  fields := fds
  methods := ms
  attributes := attrs
def plain (name : String) (sup : Option ClassId) : Class where
  name := name
  kind := .ordinary
  loader := none
  accessFlags := 33
  super := sup
  interfaces := #[]
  cf := none
  fields := #[]
  methods := #[]
  instanceTypes := #[]
  staticTypes := #[]
  resolved := #[]
  callSites := []
  init := .initialized
  statics := none
  mirror := none

def pool0 : Array CpInfo := pool [(5, u "<init>"), (0, u "()V"), (1, .class_ 10), (1, u "java/lang/Object")] 113

def k0m0 : Method := { name := "<init>", desc := "()V", sig := { parameters := [], returnType := none }, accessFlags := 1, code := none }
/-- java/lang/Object -/
def k0 : Class := { plain "java/lang/Object" none with
  accessFlags := 33
  interfaces := #[]
  cf := some (fileOf pool0 8 #[] #[{ accessFlags := 1, nameIndex := 5, descriptorIndex := 6, attributes := #[] }] 33 0 #[] #[])
  fields := #[]
  methods := #[k0m0]
  instanceTypes := #[]
  staticTypes := #[]
  resolved := Array.replicate 124 none
  statics := none }

def pool1 : Array CpInfo := pool [(2, .class_ 4), (1, u "java/lang/Object"), (0, u "<init>"), (0, u "()V"), (0, .fieldref 8 9), (0, .class_ 10), (0, .nameAndType 11 12), (0, u "infixion/language/Function"), (0, u "MAX"), (0, u "Linfixion/language/Function;"), (0, .fieldref 8 14), (0, .nameAndType 15 12), (0, u "MIN"), (0, .fieldref 8 17), (0, .nameAndType 18 12), (0, u "ABS"), (0, .fieldref 8 20), (0, .nameAndType 21 12), (0, u "SQRT"), (0, .fieldref 8 23), (0, .nameAndType 24 12), (0, u "SIN"), (0, .fieldref 8 26), (0, .nameAndType 27 12), (0, u "COS"), (0, .fieldref 8 29), (0, .nameAndType 30 12), (0, u "ROUND"), (0, .fieldref 8 32), (0, .nameAndType 33 12), (0, u "FACT"), (0, .fieldref 8 35), (0, .nameAndType 36 12), (0, u "PERM"), (0, .fieldref 8 38), (0, .nameAndType 39 12), (0, u "COMB"), (0, .integer 2147483647), (0, .methodref 42 43), (0, .class_ 44), (0, .nameAndType 45 46), (0, u "infixion/language/FunctionTakesPinLaw"), (0, u "pick"), (0, u "(I)Linfixion/language/Function;"), (0, .methodref 8 48), (0, .nameAndType 49 50), (0, u "takes"), (0, u "(I)Z"), (3, u "law"), (0, u "(II)Z")] 2

def k1m0 : Method := { name := "<init>", desc := "()V", sig := { parameters := [], returnType := none }, accessFlags := 2, code := none }
def k1c1 : Code := { maxStack := 2, maxLocals := 1, code := method_2_code, exceptionTable := #[], attributes := #[] }
def k1m1 : Method := { name := "pick", desc := "(I)Linfixion/language/Function;", sig := { parameters := [.int], returnType := some (.object "infixion/language/Function") }, accessFlags := 10, code := some k1c1 }
def k1c2 : Code := { maxStack := 2, maxLocals := 5, code := code, exceptionTable := #[], attributes := #[] }
def k1m2 : Method := { name := "law", desc := "(II)Z", sig := { parameters := [.int, .int], returnType := some .boolean }, accessFlags := 9, code := some k1c2 }
/-- infixion/language/FunctionTakesPinLaw -/
def k1 : Class := { plain "infixion/language/FunctionTakesPinLaw" (some 0) with
  accessFlags := 49
  interfaces := #[]
  cf := some (fileOf pool1 42 #[] #[{ accessFlags := 2, nameIndex := 5, descriptorIndex := 6, attributes := #[] }, { accessFlags := 10, nameIndex := 45, descriptorIndex := 46, attributes := #[] }, { accessFlags := 9, nameIndex := 54, descriptorIndex := 55, attributes := #[] }] 49 2 #[] #[])
  fields := #[]
  methods := #[k1m0, k1m1, k1m2]
  instanceTypes := #[]
  staticTypes := #[]
  resolved := Array.replicate 58 none
  statics := none }

def pool2 : Array CpInfo := pool [(1, .class_ 2), (0, u "java/lang/constant/Constable"), (0, .class_ 4), (0, u "java/lang/Object")] 6

/-- java/lang/constant/Constable -/
def k2 : Class := { plain "java/lang/constant/Constable" (some 0) with
  accessFlags := 1537
  interfaces := #[]
  cf := some (fileOf pool2 1 #[] #[] 1537 3 #[] #[])
  fields := #[]
  methods := #[]
  instanceTypes := #[]
  staticTypes := #[]
  resolved := Array.replicate 11 none
  statics := none }

def pool3 : Array CpInfo := pool [(1, .class_ 2), (0, u "java/lang/Comparable"), (0, .class_ 4), (0, u "java/lang/Object")] 7

/-- java/lang/Comparable -/
def k3 : Class := { plain "java/lang/Comparable" (some 0) with
  accessFlags := 1537
  interfaces := #[]
  cf := some (fileOf pool3 1 #[] #[] 1537 3 #[] #[])
  fields := #[]
  methods := #[]
  instanceTypes := #[]
  staticTypes := #[]
  resolved := Array.replicate 12 none
  statics := none }

def pool4 : Array CpInfo := pool [(1, .class_ 2), (0, u "java/io/Serializable"), (0, .class_ 4), (0, u "java/lang/Object")] 2

/-- java/io/Serializable -/
def k4 : Class := { plain "java/io/Serializable" (some 0) with
  accessFlags := 1537
  interfaces := #[]
  cf := some (fileOf pool4 1 #[] #[] 1537 3 #[] #[])
  fields := #[]
  methods := #[]
  instanceTypes := #[]
  staticTypes := #[]
  resolved := Array.replicate 7 none
  statics := none }

def pool5 : Array CpInfo := pool [(2, .class_ 4), (1, u "java/lang/Enum"), (0, u "name"), (0, u "Ljava/lang/String;"), (2, u "ordinal"), (0, u "I"), (1, .class_ 14), (1, u "java/lang/Object"), (4, u "hash"), (86, .class_ 108), (1, u "java/lang/Enum$EnumDesc"), (2, .class_ 112), (0, u "java/lang/constant/Constable"), (0, .class_ 114), (0, u "java/lang/Comparable"), (0, .class_ 116), (0, u "java/io/Serializable")] 87

/-- java/lang/Enum -/
def k5 : Class := { plain "java/lang/Enum" (some 0) with
  accessFlags := 1057
  interfaces := #[2, 3, 4]
  cf := some (fileOf pool5 2 #[.nestMembers #[106]] #[] 1057 12 #[111, 113, 115] #[{ accessFlags := 18, nameIndex := 5, descriptorIndex := 6, attributes := #[] }, { accessFlags := 18, nameIndex := 9, descriptorIndex := 10, attributes := #[] }, { accessFlags := 2, nameIndex := 19, descriptorIndex := 10, attributes := #[] }])
  fields := #[{ name := "name", type := (.object "java/lang/String"), accessFlags := 18, slot := 0, constantValue := 0 }, { name := "ordinal", type := .int, accessFlags := 18, slot := 1, constantValue := 0 }, { name := "hash", type := .int, accessFlags := 2, slot := 2, constantValue := 0 }]
  methods := #[]
  instanceTypes := #[(.object "java/lang/String"), .int, .int]
  staticTypes := #[]
  resolved := Array.replicate 204 none
  statics := none }

def pool6 : Array CpInfo := pool [(1, .class_ 2), (0, u "infixion/language/Operation"), (0, .class_ 4), (0, u "java/lang/Object")] 7

/-- infixion/language/Operation -/
def k6 : Class := { plain "infixion/language/Operation" (some 0) with
  accessFlags := 1537
  interfaces := #[]
  cf := some (fileOf pool6 1 #[] #[] 1537 3 #[] #[])
  fields := #[]
  methods := #[]
  instanceTypes := #[]
  staticTypes := #[]
  resolved := Array.replicate 12 none
  statics := none }

def pool7 : Array CpInfo := pool [(1, .class_ 2), (0, u "infixion/language/Function"), (2, u "MAX"), (0, u "Linfixion/language/Function;"), (2, u "MIN"), (2, u "ABS"), (2, u "SQRT"), (2, u "SIN"), (2, u "COS"), (2, u "ROUND"), (2, u "FACT"), (2, u "PERM"), (2, u "COMB"), (2, u "$VALUES"), (0, u "[Linfixion/language/Function;"), (6, .class_ 46), (1, u "java/lang/Enum"), (8, u "written"), (0, u "Ljava/lang/String;"), (0, .fieldref 1 58), (0, .nameAndType 59 60), (0, u "fewest"), (0, u "I"), (0, .fieldref 1 62), (0, .nameAndType 63 60), (0, u "most"), (2, u "ALL"), (130, .class_ 198), (0, u "infixion/language/Operation"), (8, u "takes"), (0, u "(I)Z")] 13

def k7c0 : Code := { maxStack := 2, maxLocals := 2, code := prog_14_method_6_code, exceptionTable := #[], attributes := #[] }
def k7m0 : Method := { name := "takes", desc := "(I)Z", sig := { parameters := [.int], returnType := some .boolean }, accessFlags := 1, code := some k7c0 }
/-- infixion/language/Function -/
def k7 : Class := { plain "infixion/language/Function" (some 5) with
  accessFlags := 16433
  interfaces := #[6]
  cf := some (fileOf pool7 1 #[] #[{ accessFlags := 1, nameIndex := 207, descriptorIndex := 208, attributes := #[] }] 16433 44 #[197] #[{ accessFlags := 16409, nameIndex := 5, descriptorIndex := 6, attributes := #[] }, { accessFlags := 16409, nameIndex := 9, descriptorIndex := 6, attributes := #[] }, { accessFlags := 16409, nameIndex := 12, descriptorIndex := 6, attributes := #[] }, { accessFlags := 16409, nameIndex := 15, descriptorIndex := 6, attributes := #[] }, { accessFlags := 16409, nameIndex := 18, descriptorIndex := 6, attributes := #[] }, { accessFlags := 16409, nameIndex := 21, descriptorIndex := 6, attributes := #[] }, { accessFlags := 16409, nameIndex := 24, descriptorIndex := 6, attributes := #[] }, { accessFlags := 16409, nameIndex := 27, descriptorIndex := 6, attributes := #[] }, { accessFlags := 16409, nameIndex := 30, descriptorIndex := 6, attributes := #[] }, { accessFlags := 16409, nameIndex := 33, descriptorIndex := 6, attributes := #[] }, { accessFlags := 26, nameIndex := 66, descriptorIndex := 37, attributes := #[] }, { accessFlags := 18, nameIndex := 55, descriptorIndex := 56, attributes := #[] }, { accessFlags := 18, nameIndex := 59, descriptorIndex := 60, attributes := #[] }, { accessFlags := 18, nameIndex := 63, descriptorIndex := 60, attributes := #[] }, { accessFlags := 4122, nameIndex := 36, descriptorIndex := 37, attributes := #[] }])
  fields := #[{ name := "MAX", type := (.object "infixion/language/Function"), accessFlags := 16409, slot := 0, constantValue := 0 }, { name := "MIN", type := (.object "infixion/language/Function"), accessFlags := 16409, slot := 1, constantValue := 0 }, { name := "ABS", type := (.object "infixion/language/Function"), accessFlags := 16409, slot := 2, constantValue := 0 }, { name := "SQRT", type := (.object "infixion/language/Function"), accessFlags := 16409, slot := 3, constantValue := 0 }, { name := "SIN", type := (.object "infixion/language/Function"), accessFlags := 16409, slot := 4, constantValue := 0 }, { name := "COS", type := (.object "infixion/language/Function"), accessFlags := 16409, slot := 5, constantValue := 0 }, { name := "ROUND", type := (.object "infixion/language/Function"), accessFlags := 16409, slot := 6, constantValue := 0 }, { name := "FACT", type := (.object "infixion/language/Function"), accessFlags := 16409, slot := 7, constantValue := 0 }, { name := "PERM", type := (.object "infixion/language/Function"), accessFlags := 16409, slot := 8, constantValue := 0 }, { name := "COMB", type := (.object "infixion/language/Function"), accessFlags := 16409, slot := 9, constantValue := 0 }, { name := "ALL", type := (.array (.object "infixion/language/Function")), accessFlags := 26, slot := 10, constantValue := 0 }, { name := "written", type := (.object "java/lang/String"), accessFlags := 18, slot := 3, constantValue := 0 }, { name := "fewest", type := .int, accessFlags := 18, slot := 4, constantValue := 0 }, { name := "most", type := .int, accessFlags := 18, slot := 5, constantValue := 0 }, { name := "$VALUES", type := (.array (.object "infixion/language/Function")), accessFlags := 4122, slot := 11, constantValue := 0 }]
  methods := #[k7m0]
  instanceTypes := #[(.object "java/lang/String"), .int, .int, (.object "java/lang/String"), .int, .int]
  staticTypes := #[(.object "infixion/language/Function"), (.object "infixion/language/Function"), (.object "infixion/language/Function"), (.object "infixion/language/Function"), (.object "infixion/language/Function"), (.object "infixion/language/Function"), (.object "infixion/language/Function"), (.object "infixion/language/Function"), (.object "infixion/language/Function"), (.object "infixion/language/Function"), (.array (.object "infixion/language/Function")), (.array (.object "infixion/language/Function"))]
  resolved := Array.replicate 222 none
  statics := some 0 }

def pool8 : Array CpInfo := pool [(1, u "java/lang/Cloneable"), (0, .class_ 1), (0, u "java/lang/Object"), (0, .class_ 3)] 3

/-- java/lang/Cloneable -/
def k8 : Class := { plain "java/lang/Cloneable" (some 0) with
  accessFlags := 1537
  interfaces := #[]
  cf := some (fileOf pool8 2 #[] #[] 1537 4 #[] #[])
  fields := #[]
  methods := #[]
  instanceTypes := #[]
  staticTypes := #[]
  resolved := Array.replicate 8 none
  statics := none }

/-- the primitive byte -/
def k9 : Class := { plain "byte" none with kind := .primitive 'B', accessFlags := 0x411 }
/-- [B -/
def k10 : Class := { plain "[B" (some 0) with kind := .array 9 .byte, interfaces := #[8, 4], accessFlags := 1041 }

/-- the primitive int -/
def k11 : Class := { plain "int" none with kind := .primitive 'I', accessFlags := 0x411 }
/-- [I -/
def k12 : Class := { plain "[I" (some 0) with kind := .array 11 .int, interfaces := #[8, 4], accessFlags := 1041 }

def heap : Heap := #[{ cls := 7, slots := #[.ref 1, .ref 2, .ref 3, .ref 4, .ref 5, .ref 6, .ref 7, .ref 8, .ref 9, .ref 10, .null, .null], vm := .statics 7 },
  { cls := 7, slots := #[.null, .int 0, .int 0, .null, .int 1, .int 2147483647], vm := .none },
  { cls := 7, slots := #[.null, .int 1, .int 0, .null, .int 1, .int 2147483647], vm := .none },
  { cls := 7, slots := #[.null, .int 2, .int 0, .null, .int 1, .int 1], vm := .none },
  { cls := 7, slots := #[.null, .int 3, .int 0, .null, .int 1, .int 1], vm := .none },
  { cls := 7, slots := #[.null, .int 4, .int 0, .null, .int 1, .int 1], vm := .none },
  { cls := 7, slots := #[.null, .int 5, .int 0, .null, .int 1, .int 1], vm := .none },
  { cls := 7, slots := #[.null, .int 6, .int 0, .null, .int 1, .int 1], vm := .none },
  { cls := 7, slots := #[.null, .int 7, .int 0, .null, .int 1, .int 1], vm := .none },
  { cls := 7, slots := #[.null, .int 8, .int 0, .null, .int 2, .int 2], vm := .none },
  { cls := 7, slots := #[.null, .int 9, .int 0, .null, .int 2, .int 2], vm := .none }]
def classes : Array Class := #[k0, k1, k2, k3, k4, k5, k6, k7, k8, k9, k10, k11, k12]
def interned : List (Array UInt16 × Addr) := []
def slotsUsed : Nat := 72
def theMethod : MethodId := ⟨1, 2⟩
def args0 : Array Value := #[.int 3, .int 1]
def aboutOver (below : List Frame) : State where
  vm := { classes := classes, interned := interned.toArray }
  heap := heap
  slotsUsed := slotsUsed
  threads := #[{ frames := .invoking theMethod args0 :: below }]
def below0 : List Frame := [.native { method := ⟨0, 0⟩, args := #[] }]
def about1 : State := aboutOver below0
def p0 : Program := .bare "" "" ""
def e0 : Env := launch0.env 0 0 0
theorem w_frames : about1.frames = Frame.invoking theMethod args0 :: below0 := rfl
set_option maxRecDepth 65536 in
theorem w_args : argsFit about1.vm theMethod args0 = true := by decide +kernel
set_option maxRecDepth 65536 in
theorem w_heap : heapFits about1 = true := by decide +kernel
set_option maxRecDepth 65536 in
theorem w_runnable : about1.curStatus? = some .runnable := by decide +kernel
set_option maxRecDepth 65536 in
theorem w_alone : about1.alone = true := by decide +kernel
set_option maxRecDepth 65536 in
theorem w_named : about1.methodNamed? x = some theMethod := by decide +kernel
set_option maxRecDepth 65536 in
theorem w_hears : about1.hears theMethod below0 = true := by decide +kernel
set_option maxRecDepth 65536 in
theorem w_ripe : about1.ripe theMethod args0 below0 = true := by decide +kernel
theorem w_running : about1.status = .running := rfl
set_option maxRecDepth 65536 in
theorem w_room : about1.hasRoom e0.platform room_1 = true :=
  launch0.hasRoom_least _ room_1 (by decide +kernel) (by decide +kernel) (by decide +kernel) (by decide +kernel) (by decide +kernel) (by decide +kernel)
theorem allAtoms_all (ts : List Jvm.Cond) (a : Array Jvm.Value) (st : Jvm.State) : (allAtoms ts).before a st = ts.all (fun c => c.before a st) := by
  induction ts with
  | nil => rfl
  | cons c t ih =>
    show (Jvm.Cond.and c (allAtoms t)).before a st = _
    rw [Jvm.Cond.before_and, ih, List.all_cons]
def words1 : List Jvm.Cond := Jvm.Cond.code x code maxLocals ret :: tables_1
/-- a 'code' word, met by the world's own term for the bytes: nothing is compared byte by byte -/
theorem code_word {y : MethodName} {bytes : ByteArray} {mx : Nat} {rt : Option FieldType} {a : Array Value} {s : State} {m : MethodId} {meth : Method} {c : Code} (h1 : s.methodNamed? y = some m) (h2 : s.vm.method? m = some meth) (h3 : meth.code = some c) (h4 : c.code = bytes)
    (h5 : (c.maxLocals == mx && c.exceptionTable.isEmpty && decide (c.maxStack ≤ mostOperands) && decide (meth.sig.returnType = rt) && !meth.locks && decide (parseMethodDescriptor y.desc = some meth.sig)) = true) : (Jvm.Cond.code y bytes mx rt).before a s = true := by
  simp only [Bool.and_eq_true, beq_iff_eq, Bool.not_eq_true', decide_eq_true_eq] at h5
  obtain ⟨⟨⟨⟨⟨g1, g2⟩, g3⟩, g4⟩, g5⟩, g6⟩ := h5
  simp [Cond.before, Cond.holds, Cond.value, h1, h2, h3, h4, g1, g2, g3, g4, g5, g6]
def isCode : Jvm.Cond → Bool
  | .code _ _ _ _ => true
  | _ => false
theorem all_split {L : List Jvm.Cond} {P : Jvm.Cond → Bool} (h1 : L.all (fun c => isCode c || P c) = true) (h2 : ∀ c ∈ L.filter isCode, P c = true) : L.all P = true := by
  refine List.all_eq_true.mpr fun c hc => ?_
  have h := List.all_eq_true.mp h1 c hc
  rcases Bool.eq_false_or_eq_true (isCode c) with hi | hi
  · exact h2 c (List.mem_filter.mpr ⟨hc, hi⟩)
  · simpa [hi] using h
set_option maxRecDepth 65536 in
theorem w_c0 : (Jvm.Cond.code x code maxLocals ret).before args0 about1 = true := code_word (m := ⟨1, 2⟩) (meth := k1m2) (c := k1c2) (by decide +kernel) rfl rfl rfl (by decide +kernel)
set_option maxRecDepth 65536 in
theorem w_c1 : (Jvm.Cond.code ({ cls := "infixion/language/FunctionTakesPinLaw", name := "pick", desc := "(I)Linfixion/language/Function;" } : Jvm.MethodName) method_2_code (1 : Nat) (Option.some (Jvm.ClassFile.FieldType.object "infixion/language/Function"))).before args0 about1 = true := code_word (m := ⟨1, 1⟩) (meth := k1m1) (c := k1c1) (by decide +kernel) rfl rfl rfl (by decide +kernel)
set_option maxRecDepth 65536 in
theorem w_c2 : (Jvm.Cond.code ({ cls := "infixion/language/Function", name := "takes", desc := "(I)Z" } : Jvm.MethodName) prog_14_method_6_code (2 : Nat) (Option.some Jvm.ClassFile.FieldType.boolean)).before args0 about1 = true := code_word (m := ⟨7, 0⟩) (meth := k7m0) (c := k7c0) (by decide +kernel) rfl rfl rfl (by decide +kernel)
def codes1 : List Jvm.Cond := [Jvm.Cond.code x code maxLocals ret, Jvm.Cond.code ({ cls := "infixion/language/FunctionTakesPinLaw", name := "pick", desc := "(I)Linfixion/language/Function;" } : Jvm.MethodName) method_2_code (1 : Nat) (Option.some (Jvm.ClassFile.FieldType.object "infixion/language/Function")), Jvm.Cond.code ({ cls := "infixion/language/Function", name := "takes", desc := "(I)Z" } : Jvm.MethodName) prog_14_method_6_code (2 : Nat) (Option.some Jvm.ClassFile.FieldType.boolean)]
set_option maxRecDepth 65536 in
theorem codes_eq : words1.filter isCode = codes1 := rfl
theorem w_codes : ∀ c ∈ words1.filter isCode, c.before args0 about1 = true := by
  rw [codes_eq]
  intro c hc
  simp only [codes1, List.mem_cons, List.not_mem_nil, or_false] at hc
  rcases hc with rfl | rfl | rfl
  · exact w_c0
  · exact w_c1
  · exact w_c2
set_option maxRecDepth 65536 in
theorem w_t1 : (words1.take 24).all (fun c => isCode c || c.before args0 about1) = true := by decide +kernel
set_option maxRecDepth 65536 in
theorem w_t2 : (words1.drop 24).all (fun c => isCode c || c.before args0 about1) = true := by decide +kernel
theorem w_tables : (allAtoms (Jvm.Cond.code x code maxLocals ret :: tables_1)).before args0 about1 = true := by
  rw [allAtoms_all]
  show words1.all (fun c => c.before args0 about1) = true
  refine all_split ?_ w_codes
  rw [← List.take_append_drop 24 words1, List.all_append, w_t1, w_t2]
  rfl
set_option maxRecDepth 65536 in
theorem w_case : (Jvm.Cond.and given_1 narrow_1).before args0 about1 = true := by decide +kernel
theorem w_applies : (headSpec (Jvm.Cond.code x code maxLocals ret :: tables_1) room_1).applies x e0.platform about1 = true :=
  (Spec.applies_iff w_frames).mpr ⟨w_running, w_runnable, w_alone, w_named, w_hears, w_ripe, w_room, w_tables⟩
theorem atStart : AtStart classFile x code maxLocals ret World_1 tables_1 room_1 Calls_1 rest_1 Pre_1 launch0 p0 e0 about1 theMethod args0 below0 :=
  ⟨lists_1, trivial, launch0.admits_env _ _ _, launch0.least_env, fairChoices_fair.cas, fairChoices_fair.clock, w_frames, w_args, w_heap, w_applies, trivial, trivial, w_case⟩
end start1
theorem witness_1 : WitnessClaimed_1 := ⟨start1.p0, start1.e0, start1.about1, start1.theMethod, start1.args0, start1.below0, start1.atStart⟩
end Jvm.Pilot.@@N@@
