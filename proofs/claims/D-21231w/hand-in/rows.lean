section
-- ===== PART A: goes FIRST, ahead of the names: the tables' words, and 'selects' of the private methods out of them =====
/-- a private method of a class that the tables say can be made, by its rows of tables_1 -/
def lw_okq (q : MethodName × Nat) : Prop := (q.1.cls ≠ "java/lang/invoke/MethodHandle" ∧ q.1.cls ≠ "java/lang/invoke/VarHandle") ∧ Cond.instantiable q.1.cls q.2 ∈ tables_1 ∧ Cond.privateMethod q.1 ∈ tables_1 ∧ Cond.instanceMethod q.1 ∈ tables_1
def lw_privs : List (MethodName × Nat) := []
def lw_tbl : List Cond := k2_sels lw_privs ++ tables_1
theorem lw_privs_ok : ∀ q ∈ lw_privs, lw_okq q := fun _ h => absurd h List.not_mem_nil
-- ===== ONE list of words for every method: the tables' words that hold all through a run =====
def lw_all : List Cond := lw_tbl.filter goodWord
/-- a word of the tables by its place: claim/WORDS.tsv -/
theorem lw_w {w : Cond} (i : Nat) (h : lw_tbl[i]? = some w) (g : goodWord w = true) : w ∈ lw_all := List.mem_filter.mpr ⟨List.mem_of_getElem? h, g⟩
theorem lw_all_tbl {w : Cond} (h : w ∈ lw_all) : w ∈ lw_tbl := (List.mem_filter.mp h).1
theorem lw_self : GoodIn lw_all lw_all := fun w h => ⟨h, good_of_word (List.mem_filter.mp h).2⟩
/-- a class's field words, by their places -/
theorem lw_in (ws : List Cond) (ps : List Nat) (hp : ws = ps.filterMap (fun i => lw_tbl[i]?)) (hg : ws.all goodWord = true) : ∀ w ∈ ws, w ∈ lw_all := by
  intro w h
  have h1 := List.all_eq_true.mp hg w h
  rw [hp] at h
  obtain ⟨i, -, hi⟩ := List.mem_filterMap.mp h
  exact lw_w i hi h1
/-- the words of a contract for the method y with code b, L locals, answer r -/
abbrev ws_ (y : MethodName) (b : ByteArray) (L : Nat) (r : Option FieldType) : List Cond := Cond.code y b L r :: lw_all
theorem lw_meth {y : MethodName} {b : ByteArray} {L : Nat} {r : Option FieldType} (h : Cond.code y b L r ∈ lw_all) : GoodIn lw_all (ws_ y b L r) := by
  intro w hw
  rcases List.mem_cons.mp hw with e | e
  · rw [e]
    exact lw_self _ h
  · exact lw_self _ e
theorem lw_app {a c : List Cond} (ha : ∀ w ∈ a, w ∈ lw_all) (hc : GoodIn lw_all c) : GoodIn lw_all (a ++ c) := by
  intro w hw
  rcases List.mem_append.mp hw with e | e
  · exact lw_self w (ha w e)
  · exact hc w e
/-- what a call through an object asks: cwV n hts (lw_V ..) -/
theorem lw_V {own : String} {idx : Nat} {C : String} {y : MethodName} {b : ByteArray} {L : Nat} {r : Option FieldType} (h1 : Cond.methodLink own idx y ∈ lw_all) (h2 : Cond.instanceMethod y ∈ lw_all) (h3 : Cond.selects C y y ∈ lw_all) (h4 : Cond.initialized C ∈ lw_all) (h5 : Cond.code y b L r ∈ lw_all) : GoodIn lw_all (wsV own idx C y (ws_ y b L r)) := by
  refine lw_app ?_ (lw_meth h5)
  intro w hw
  simp only [List.mem_cons, List.not_mem_nil, or_false] at hw
  rcases hw with e | e | e | e
  · rw [e]; exact h1
  · rw [e]; exact h2
  · rw [e]; exact h3
  · rw [e]; exact h4
/-- what a static call asks: va_cwS n hts (lw_S ..) -/
theorem lw_S {own : String} {idx : Nat} {y : MethodName} {b : ByteArray} {L : Nat} {r : Option FieldType} (h1 : Cond.methodLink own idx y ∈ lw_all) (h2 : Cond.static y ∈ lw_all) (h3 : Cond.initialized y.cls ∈ lw_all) (h4 : Cond.code y b L r ∈ lw_all) : GoodIn lw_all (va_wsS own idx y (ws_ y b L r)) := by
  refine lw_app ?_ (lw_meth h4)
  intro w hw
  simp only [List.mem_cons, List.not_mem_nil, or_false] at hw
  rcases hw with e | e | e
  · rw [e]; exact h1
  · rw [e]; exact h2
  · rw [e]; exact h3
/-- the words of a contract for a method WITH HANDLERS (hh: its table) -/
abbrev wsW_ (y : MethodName) (b : ByteArray) (L : Nat) (r : Option FieldType) (hh : List (Nat × Nat × Nat × Nat)) : List Cond := Cond.codeWith y b L r hh :: lw_all
theorem lw_methW {y : MethodName} {b : ByteArray} {L : Nat} {r : Option FieldType} {hh : List (Nat × Nat × Nat × Nat)} (h : Cond.codeWith y b L r hh ∈ lw_all) : GoodIn lw_all (wsW_ y b L r hh) := by
  intro w hw
  rcases List.mem_cons.mp hw with e | e
  · rw [e]
    exact lw_self _ h
  · exact lw_self _ e
/-- any list of words by their places (lw_in), good -/
theorem lw_good {ws : List Cond} (h : ∀ w ∈ ws, w ∈ lw_all) : GoodIn lw_all ws := fun w hw => lw_self w (h w hw)
/-- what a call of a method with handlers asks: vx_cwVW n hts (lw_VW ..), vx_cwSW n hts (lw_SW ..) -/
theorem lw_VW {own : String} {idx : Nat} {C : String} {y : MethodName} {b : ByteArray} {L : Nat} {r : Option FieldType} {hh : List (Nat × Nat × Nat × Nat)} (h1 : Cond.methodLink own idx y ∈ lw_all) (h2 : Cond.instanceMethod y ∈ lw_all) (h3 : Cond.selects C y y ∈ lw_all) (h4 : Cond.initialized C ∈ lw_all) (h5 : Cond.codeWith y b L r hh ∈ lw_all) : GoodIn lw_all (wsV own idx C y (wsW_ y b L r hh)) := by
  refine lw_app ?_ (lw_methW h5)
  intro w hw
  simp only [List.mem_cons, List.not_mem_nil, or_false] at hw
  rcases hw with e | e | e | e
  · rw [e]; exact h1
  · rw [e]; exact h2
  · rw [e]; exact h3
  · rw [e]; exact h4
theorem lw_SW {own : String} {idx : Nat} {y : MethodName} {b : ByteArray} {L : Nat} {r : Option FieldType} {hh : List (Nat × Nat × Nat × Nat)} (h1 : Cond.methodLink own idx y ∈ lw_all) (h2 : Cond.static y ∈ lw_all) (h3 : Cond.initialized y.cls ∈ lw_all) (h4 : Cond.codeWith y b L r hh ∈ lw_all) : GoodIn lw_all (va_wsS own idx y (wsW_ y b L r hh)) := by
  refine lw_app ?_ (lw_methW h4)
  intro w hw
  simp only [List.mem_cons, List.not_mem_nil, or_false] at hw
  rcases hw with e | e | e
  · rw [e]; exact h1
  · rw [e]; exact h2
  · rw [e]; exact h3
/-- a word by its place in its run of the tables -/
theorem lw_at {r : List Cond} (hr : ∀ w ∈ r, w ∈ lw_tbl) {w : Cond} (i : Nat) (h : r[i]? = some w) : w ∈ lw_tbl := hr w (List.mem_of_getElem? h)
theorem lw_g {w : Cond} (h : w ∈ lw_tbl) (g : goodWord w = true) : w ∈ lw_all := List.mem_filter.mpr ⟨h, g⟩
theorem lw_ms : ∀ w ∈ k2_sels lw_privs, w ∈ lw_tbl := fun w h => show w ∈ k2_sels lw_privs ++ tables_1 from List.mem_append_left _ h
theorem lw_m0 : ∀ w ∈ tables_1, w ∈ lw_tbl := fun w h => show w ∈ k2_sels lw_privs ++ tables_1 from List.mem_append_right (k2_sels lw_privs) h
end
section
/-! java/lang/Long -/
def RJ0 : String := "java/lang/Long"
abbrev cJ0_compare : ByteArray := prog_5_method_42_code
def yJ0_compare : MethodName := ⟨RJ0, "compare", "(JJ)I"⟩
theorem dJ0_compare_0 : decode cJ0_compare 0 = .ok (.lload_n 0, 1) := by decide +kernel
theorem dJ0_compare_1 : decode cJ0_compare 1 = .ok (.lload_n 2, 1) := by decide +kernel
theorem dJ0_compare_2 : decode cJ0_compare 2 = .ok (.lcmp, 1) := by decide +kernel
theorem dJ0_compare_3 : decode cJ0_compare 3 = .ok (.ifCond .ge 7, 3) := by decide +kernel
theorem dJ0_compare_6 : decode cJ0_compare 6 = .ok (.iconst (-1), 1) := by decide +kernel
theorem dJ0_compare_7 : decode cJ0_compare 7 = .ok (.goto 14, 3) := by decide +kernel
theorem dJ0_compare_10 : decode cJ0_compare 10 = .ok (.lload_n 0, 1) := by decide +kernel
theorem dJ0_compare_11 : decode cJ0_compare 11 = .ok (.lload_n 2, 1) := by decide +kernel
theorem dJ0_compare_12 : decode cJ0_compare 12 = .ok (.lcmp, 1) := by decide +kernel
theorem dJ0_compare_13 : decode cJ0_compare 13 = .ok (.ifCond .ne 7, 3) := by decide +kernel
theorem dJ0_compare_16 : decode cJ0_compare 16 = .ok (.iconst 0, 1) := by decide +kernel
theorem dJ0_compare_17 : decode cJ0_compare 17 = .ok (.goto 4, 3) := by decide +kernel
theorem dJ0_compare_20 : decode cJ0_compare 20 = .ok (.iconst 1, 1) := by decide +kernel
theorem dJ0_compare_21 : decode cJ0_compare 21 = .ok (.ireturn, 1) := by decide +kernel
set_option maxRecDepth 100000 in
theorem q4 : (Jvm.Cond.initialized "java/lang/Long") ∈ lw_all := lw_g (lw_at lw_m0 4 rfl) rfl
set_option maxRecDepth 100000 in
theorem q37 : (Jvm.Cond.static ({ cls := "java/lang/Long", name := "compare", desc := "(JJ)I" } : Jvm.MethodName)) ∈ lw_all := lw_g (lw_at lw_m0 37 rfl) rfl
set_option maxRecDepth 100000 in
theorem q38 : (Jvm.Cond.code ({ cls := "java/lang/Long", name := "compare", desc := "(JJ)I" } : Jvm.MethodName) prog_5_method_42_code (4 : Nat) (Option.some Jvm.ClassFile.FieldType.int)) ∈ lw_all := lw_g (lw_at lw_m0 38 rfl) rfl
/-! java/lang/Object -/
def RJ1 : String := "java/lang/Object"
abbrev cJ1_init : ByteArray := object_method_1_code
def yJ1_init : MethodName := ⟨RJ1, "<init>", "()V"⟩
theorem dJ1_init_0 : decode cJ1_init 0 = .ok (.return_, 1) := by decide +kernel
set_option maxRecDepth 100000 in
theorem q11 : (Jvm.Cond.instanceMethod ({ cls := "java/lang/Object", name := "<init>", desc := "()V" } : Jvm.MethodName)) ∈ lw_all := lw_g (lw_at lw_m0 11 rfl) rfl
set_option maxRecDepth 100000 in
theorem q12 : (Jvm.Cond.code ({ cls := "java/lang/Object", name := "<init>", desc := "()V" } : Jvm.MethodName) object_method_1_code (1 : Nat) (Option.none : Option Jvm.ClassFile.FieldType)) ∈ lw_all := lw_g (lw_at lw_m0 12 rfl) rfl
/-! Longs -/
def RX3 : String := "Longs"
abbrev cX3_compare : ByteArray := prog_1_method_1_code
def yX3_compare : MethodName := ⟨RX3, "compare", "(JJ)I"⟩
theorem dX3_compare_0 : decode cX3_compare 0 = .ok (.lload_n 0, 1) := by decide +kernel
theorem dX3_compare_1 : decode cX3_compare 1 = .ok (.lload_n 2, 1) := by decide +kernel
theorem dX3_compare_2 : decode cX3_compare 2 = .ok (.invokestatic 1, 3) := by decide +kernel
theorem dX3_compare_5 : decode cX3_compare 5 = .ok (.ireturn, 1) := by decide +kernel
set_option maxRecDepth 100000 in
theorem q3 : (Jvm.Cond.initialized "Longs") ∈ lw_all := lw_g (lw_at lw_m0 3 rfl) rfl
set_option maxRecDepth 100000 in
theorem q34 : (Jvm.Cond.static ({ cls := "Longs", name := "compare", desc := "(JJ)I" } : Jvm.MethodName)) ∈ lw_all := lw_g (lw_at lw_m0 34 rfl) rfl
set_option maxRecDepth 100000 in
theorem q35 : (Jvm.Cond.code ({ cls := "Longs", name := "compare", desc := "(JJ)I" } : Jvm.MethodName) prog_1_method_1_code (4 : Nat) (Option.some Jvm.ClassFile.FieldType.int)) ∈ lw_all := lw_g (lw_at lw_m0 35 rfl) rfl
set_option maxRecDepth 100000 in
theorem q36 : (Jvm.Cond.methodLink "Longs" (1 : Nat) ({ cls := "java/lang/Long", name := "compare", desc := "(JJ)I" } : Jvm.MethodName)) ∈ lw_all := lw_g (lw_at lw_m0 36 rfl) rfl
/-! UnsignedLongs -/
def RX2 : String := "UnsignedLongs"
abbrev cX2_divide : ByteArray := prog_4_method_3_code
def yX2_divide : MethodName := ⟨RX2, "divide", "(JJ)J"⟩
theorem dX2_divide_0 : decode cX2_divide 0 = .ok (.lload_n 2, 1) := by decide +kernel
theorem dX2_divide_1 : decode cX2_divide 1 = .ok (.lconst 0, 1) := by decide +kernel
theorem dX2_divide_2 : decode cX2_divide 2 = .ok (.lcmp, 1) := by decide +kernel
theorem dX2_divide_3 : decode cX2_divide 3 = .ok (.ifCond .ge 15, 3) := by decide +kernel
theorem dX2_divide_6 : decode cX2_divide 6 = .ok (.lload_n 0, 1) := by decide +kernel
theorem dX2_divide_7 : decode cX2_divide 7 = .ok (.lload_n 2, 1) := by decide +kernel
theorem dX2_divide_8 : decode cX2_divide 8 = .ok (.invokestatic 17, 3) := by decide +kernel
theorem dX2_divide_11 : decode cX2_divide 11 = .ok (.ifCond .ge 5, 3) := by decide +kernel
theorem dX2_divide_14 : decode cX2_divide 14 = .ok (.lconst 0, 1) := by decide +kernel
theorem dX2_divide_15 : decode cX2_divide 15 = .ok (.lreturn, 1) := by decide +kernel
theorem dX2_divide_16 : decode cX2_divide 16 = .ok (.lconst 1, 1) := by decide +kernel
theorem dX2_divide_17 : decode cX2_divide 17 = .ok (.lreturn, 1) := by decide +kernel
theorem dX2_divide_18 : decode cX2_divide 18 = .ok (.lload_n 0, 1) := by decide +kernel
theorem dX2_divide_19 : decode cX2_divide 19 = .ok (.lconst 0, 1) := by decide +kernel
theorem dX2_divide_20 : decode cX2_divide 20 = .ok (.lcmp, 1) := by decide +kernel
theorem dX2_divide_21 : decode cX2_divide 21 = .ok (.ifCond .lt 7, 3) := by decide +kernel
theorem dX2_divide_24 : decode cX2_divide 24 = .ok (.lload_n 0, 1) := by decide +kernel
theorem dX2_divide_25 : decode cX2_divide 25 = .ok (.lload_n 2, 1) := by decide +kernel
theorem dX2_divide_26 : decode cX2_divide 26 = .ok (.ldiv, 1) := by decide +kernel
theorem dX2_divide_27 : decode cX2_divide 27 = .ok (.lreturn, 1) := by decide +kernel
theorem dX2_divide_28 : decode cX2_divide 28 = .ok (.lload_n 0, 1) := by decide +kernel
theorem dX2_divide_29 : decode cX2_divide 29 = .ok (.iconst 1, 1) := by decide +kernel
theorem dX2_divide_30 : decode cX2_divide 30 = .ok (.lushr, 1) := by decide +kernel
theorem dX2_divide_31 : decode cX2_divide 31 = .ok (.lload_n 2, 1) := by decide +kernel
theorem dX2_divide_32 : decode cX2_divide 32 = .ok (.ldiv, 1) := by decide +kernel
theorem dX2_divide_33 : decode cX2_divide 33 = .ok (.iconst 1, 1) := by decide +kernel
theorem dX2_divide_34 : decode cX2_divide 34 = .ok (.lshl, 1) := by decide +kernel
theorem dX2_divide_35 : decode cX2_divide 35 = .ok (.lstore 4, 2) := by decide +kernel
theorem dX2_divide_37 : decode cX2_divide 37 = .ok (.lload_n 0, 1) := by decide +kernel
theorem dX2_divide_38 : decode cX2_divide 38 = .ok (.lload 4, 2) := by decide +kernel
theorem dX2_divide_40 : decode cX2_divide 40 = .ok (.lload_n 2, 1) := by decide +kernel
theorem dX2_divide_41 : decode cX2_divide 41 = .ok (.lmul, 1) := by decide +kernel
theorem dX2_divide_42 : decode cX2_divide 42 = .ok (.lsub, 1) := by decide +kernel
theorem dX2_divide_43 : decode cX2_divide 43 = .ok (.lstore 6, 2) := by decide +kernel
theorem dX2_divide_45 : decode cX2_divide 45 = .ok (.lload 4, 2) := by decide +kernel
theorem dX2_divide_47 : decode cX2_divide 47 = .ok (.lload 6, 2) := by decide +kernel
theorem dX2_divide_49 : decode cX2_divide 49 = .ok (.lload_n 2, 1) := by decide +kernel
theorem dX2_divide_50 : decode cX2_divide 50 = .ok (.invokestatic 17, 3) := by decide +kernel
theorem dX2_divide_53 : decode cX2_divide 53 = .ok (.ifCond .lt 7, 3) := by decide +kernel
theorem dX2_divide_56 : decode cX2_divide 56 = .ok (.iconst 1, 1) := by decide +kernel
theorem dX2_divide_57 : decode cX2_divide 57 = .ok (.goto 4, 3) := by decide +kernel
theorem dX2_divide_60 : decode cX2_divide 60 = .ok (.iconst 0, 1) := by decide +kernel
theorem dX2_divide_61 : decode cX2_divide 61 = .ok (.i2l, 1) := by decide +kernel
theorem dX2_divide_62 : decode cX2_divide 62 = .ok (.ladd, 1) := by decide +kernel
theorem dX2_divide_63 : decode cX2_divide 63 = .ok (.lreturn, 1) := by decide +kernel
abbrev cX2_compare : ByteArray := prog_4_method_2_code
def yX2_compare : MethodName := ⟨RX2, "compare", "(JJ)I"⟩
theorem dX2_compare_0 : decode cX2_compare 0 = .ok (.lload_n 0, 1) := by decide +kernel
theorem dX2_compare_1 : decode cX2_compare 1 = .ok (.invokestatic 5, 3) := by decide +kernel
theorem dX2_compare_4 : decode cX2_compare 4 = .ok (.lload_n 2, 1) := by decide +kernel
theorem dX2_compare_5 : decode cX2_compare 5 = .ok (.invokestatic 5, 3) := by decide +kernel
theorem dX2_compare_8 : decode cX2_compare 8 = .ok (.invokestatic 11, 3) := by decide +kernel
theorem dX2_compare_11 : decode cX2_compare 11 = .ok (.ireturn, 1) := by decide +kernel
abbrev cX2_flip : ByteArray := prog_4_method_1_code
def yX2_flip : MethodName := ⟨RX2, "flip", "(J)J"⟩
theorem dX2_flip_0 : decode cX2_flip 0 = .ok (.lload_n 0, 1) := by decide +kernel
theorem dX2_flip_1 : decode cX2_flip 1 = .ok (.ldc2_w 3, 3) := by decide +kernel
theorem dX2_flip_4 : decode cX2_flip 4 = .ok (.lxor, 1) := by decide +kernel
theorem dX2_flip_5 : decode cX2_flip 5 = .ok (.lreturn, 1) := by decide +kernel
abbrev cX2_remainder : ByteArray := prog_4_method_4_code
def yX2_remainder : MethodName := ⟨RX2, "remainder", "(JJ)J"⟩
theorem dX2_remainder_0 : decode cX2_remainder 0 = .ok (.lload_n 2, 1) := by decide +kernel
theorem dX2_remainder_1 : decode cX2_remainder 1 = .ok (.lconst 0, 1) := by decide +kernel
theorem dX2_remainder_2 : decode cX2_remainder 2 = .ok (.lcmp, 1) := by decide +kernel
theorem dX2_remainder_3 : decode cX2_remainder 3 = .ok (.ifCond .ge 17, 3) := by decide +kernel
theorem dX2_remainder_6 : decode cX2_remainder 6 = .ok (.lload_n 0, 1) := by decide +kernel
theorem dX2_remainder_7 : decode cX2_remainder 7 = .ok (.lload_n 2, 1) := by decide +kernel
theorem dX2_remainder_8 : decode cX2_remainder 8 = .ok (.invokestatic 17, 3) := by decide +kernel
theorem dX2_remainder_11 : decode cX2_remainder 11 = .ok (.ifCond .ge 5, 3) := by decide +kernel
theorem dX2_remainder_14 : decode cX2_remainder 14 = .ok (.lload_n 0, 1) := by decide +kernel
theorem dX2_remainder_15 : decode cX2_remainder 15 = .ok (.lreturn, 1) := by decide +kernel
theorem dX2_remainder_16 : decode cX2_remainder 16 = .ok (.lload_n 0, 1) := by decide +kernel
theorem dX2_remainder_17 : decode cX2_remainder 17 = .ok (.lload_n 2, 1) := by decide +kernel
theorem dX2_remainder_18 : decode cX2_remainder 18 = .ok (.lsub, 1) := by decide +kernel
theorem dX2_remainder_19 : decode cX2_remainder 19 = .ok (.lreturn, 1) := by decide +kernel
theorem dX2_remainder_20 : decode cX2_remainder 20 = .ok (.lload_n 0, 1) := by decide +kernel
theorem dX2_remainder_21 : decode cX2_remainder 21 = .ok (.lconst 0, 1) := by decide +kernel
theorem dX2_remainder_22 : decode cX2_remainder 22 = .ok (.lcmp, 1) := by decide +kernel
theorem dX2_remainder_23 : decode cX2_remainder 23 = .ok (.ifCond .lt 7, 3) := by decide +kernel
theorem dX2_remainder_26 : decode cX2_remainder 26 = .ok (.lload_n 0, 1) := by decide +kernel
theorem dX2_remainder_27 : decode cX2_remainder 27 = .ok (.lload_n 2, 1) := by decide +kernel
theorem dX2_remainder_28 : decode cX2_remainder 28 = .ok (.lrem, 1) := by decide +kernel
theorem dX2_remainder_29 : decode cX2_remainder 29 = .ok (.lreturn, 1) := by decide +kernel
theorem dX2_remainder_30 : decode cX2_remainder 30 = .ok (.lload_n 0, 1) := by decide +kernel
theorem dX2_remainder_31 : decode cX2_remainder 31 = .ok (.iconst 1, 1) := by decide +kernel
theorem dX2_remainder_32 : decode cX2_remainder 32 = .ok (.lushr, 1) := by decide +kernel
theorem dX2_remainder_33 : decode cX2_remainder 33 = .ok (.lload_n 2, 1) := by decide +kernel
theorem dX2_remainder_34 : decode cX2_remainder 34 = .ok (.ldiv, 1) := by decide +kernel
theorem dX2_remainder_35 : decode cX2_remainder 35 = .ok (.iconst 1, 1) := by decide +kernel
theorem dX2_remainder_36 : decode cX2_remainder 36 = .ok (.lshl, 1) := by decide +kernel
theorem dX2_remainder_37 : decode cX2_remainder 37 = .ok (.lstore 4, 2) := by decide +kernel
theorem dX2_remainder_39 : decode cX2_remainder 39 = .ok (.lload_n 0, 1) := by decide +kernel
theorem dX2_remainder_40 : decode cX2_remainder 40 = .ok (.lload 4, 2) := by decide +kernel
theorem dX2_remainder_42 : decode cX2_remainder 42 = .ok (.lload_n 2, 1) := by decide +kernel
theorem dX2_remainder_43 : decode cX2_remainder 43 = .ok (.lmul, 1) := by decide +kernel
theorem dX2_remainder_44 : decode cX2_remainder 44 = .ok (.lsub, 1) := by decide +kernel
theorem dX2_remainder_45 : decode cX2_remainder 45 = .ok (.lstore 6, 2) := by decide +kernel
theorem dX2_remainder_47 : decode cX2_remainder 47 = .ok (.lload 6, 2) := by decide +kernel
theorem dX2_remainder_49 : decode cX2_remainder 49 = .ok (.lload 6, 2) := by decide +kernel
theorem dX2_remainder_51 : decode cX2_remainder 51 = .ok (.lload_n 2, 1) := by decide +kernel
theorem dX2_remainder_52 : decode cX2_remainder 52 = .ok (.invokestatic 17, 3) := by decide +kernel
theorem dX2_remainder_55 : decode cX2_remainder 55 = .ok (.ifCond .lt 7, 3) := by decide +kernel
theorem dX2_remainder_58 : decode cX2_remainder 58 = .ok (.lload_n 2, 1) := by decide +kernel
theorem dX2_remainder_59 : decode cX2_remainder 59 = .ok (.goto 4, 3) := by decide +kernel
theorem dX2_remainder_62 : decode cX2_remainder 62 = .ok (.lconst 0, 1) := by decide +kernel
theorem dX2_remainder_63 : decode cX2_remainder 63 = .ok (.lsub, 1) := by decide +kernel
theorem dX2_remainder_64 : decode cX2_remainder 64 = .ok (.lreturn, 1) := by decide +kernel
set_option maxRecDepth 100000 in
theorem q2 : (Jvm.Cond.initialized "UnsignedLongs") ∈ lw_all := lw_g (lw_at lw_m0 2 rfl) rfl
set_option maxRecDepth 100000 in
theorem q24 : (Jvm.Cond.static ({ cls := "UnsignedLongs", name := "divide", desc := "(JJ)J" } : Jvm.MethodName)) ∈ lw_all := lw_g (lw_at lw_m0 24 rfl) rfl
set_option maxRecDepth 100000 in
theorem q25 : (Jvm.Cond.code ({ cls := "UnsignedLongs", name := "divide", desc := "(JJ)J" } : Jvm.MethodName) prog_4_method_3_code (8 : Nat) (Option.some Jvm.ClassFile.FieldType.long)) ∈ lw_all := lw_g (lw_at lw_m0 25 rfl) rfl
set_option maxRecDepth 100000 in
theorem q26 : (Jvm.Cond.methodLink "UnsignedLongs" (17 : Nat) ({ cls := "UnsignedLongs", name := "compare", desc := "(JJ)I" } : Jvm.MethodName)) ∈ lw_all := lw_g (lw_at lw_m0 26 rfl) rfl
set_option maxRecDepth 100000 in
theorem q27 : (Jvm.Cond.static ({ cls := "UnsignedLongs", name := "compare", desc := "(JJ)I" } : Jvm.MethodName)) ∈ lw_all := lw_g (lw_at lw_m0 27 rfl) rfl
set_option maxRecDepth 100000 in
theorem q28 : (Jvm.Cond.code ({ cls := "UnsignedLongs", name := "compare", desc := "(JJ)I" } : Jvm.MethodName) prog_4_method_2_code (4 : Nat) (Option.some Jvm.ClassFile.FieldType.int)) ∈ lw_all := lw_g (lw_at lw_m0 28 rfl) rfl
set_option maxRecDepth 100000 in
theorem q29 : (Jvm.Cond.methodLink "UnsignedLongs" (5 : Nat) ({ cls := "UnsignedLongs", name := "flip", desc := "(J)J" } : Jvm.MethodName)) ∈ lw_all := lw_g (lw_at lw_m0 29 rfl) rfl
set_option maxRecDepth 100000 in
theorem q30 : (Jvm.Cond.static ({ cls := "UnsignedLongs", name := "flip", desc := "(J)J" } : Jvm.MethodName)) ∈ lw_all := lw_g (lw_at lw_m0 30 rfl) rfl
set_option maxRecDepth 100000 in
theorem q31 : (Jvm.Cond.code ({ cls := "UnsignedLongs", name := "flip", desc := "(J)J" } : Jvm.MethodName) prog_4_method_1_code (2 : Nat) (Option.some Jvm.ClassFile.FieldType.long)) ∈ lw_all := lw_g (lw_at lw_m0 31 rfl) rfl
set_option maxRecDepth 100000 in
theorem q32 : (Jvm.Cond.constantLong "UnsignedLongs" (3 : Nat) (-9223372036854775808 : Int64)) ∈ lw_all := lw_g (lw_at lw_m0 32 rfl) rfl
set_option maxRecDepth 100000 in
theorem q33 : (Jvm.Cond.methodLink "UnsignedLongs" (11 : Nat) ({ cls := "Longs", name := "compare", desc := "(JJ)I" } : Jvm.MethodName)) ∈ lw_all := lw_g (lw_at lw_m0 33 rfl) rfl
set_option maxRecDepth 100000 in
theorem q44 : (Jvm.Cond.static ({ cls := "UnsignedLongs", name := "remainder", desc := "(JJ)J" } : Jvm.MethodName)) ∈ lw_all := lw_g (lw_at lw_m0 44 rfl) rfl
set_option maxRecDepth 100000 in
theorem q45 : (Jvm.Cond.code ({ cls := "UnsignedLongs", name := "remainder", desc := "(JJ)J" } : Jvm.MethodName) prog_4_method_4_code (8 : Nat) (Option.some Jvm.ClassFile.FieldType.long)) ∈ lw_all := lw_g (lw_at lw_m0 45 rfl) rfl
end
section
/-! ===== Int64 as an unsigned number (rows of kit/laws/BITS) ===== -/
def uN (x : Int64) : Nat := x.toUInt64.toNat
theorem uN_lt (x : Int64) : uN x < 18446744073709551616 := x.toUInt64.toNat_lt
theorem uN_inj {x y : Int64} (h : uN x = uN y) : x = y := congrArg UInt64.toInt64 (UInt64.toNat_inj.mp h)
theorem uN_add (x y : Int64) : uN (x + y) = (uN x + uN y) % 18446744073709551616 := by
  show (x.toUInt64 + y.toUInt64).toNat = _
  exact UInt64.toNat_add _ _
theorem uN_mul (x y : Int64) : uN (x * y) = (uN x * uN y) % 18446744073709551616 := by
  show (x.toUInt64 * y.toUInt64).toNat = _
  exact UInt64.toNat_mul _ _
theorem uN_shl (x : Int64) : uN (x <<< ((1 : Int32).toInt64 &&& 63)) = (2 * uN x) % 18446744073709551616 := by
  have h : (((1 : Int32).toInt64 &&& 63).toBitVec.smod 64).toNat = 1 := by decide
  show (x.toBitVec <<< (((1 : Int32).toInt64 &&& 63).toBitVec.smod 64).toNat).toNat = _
  rw [h, BitVec.toNat_shiftLeft, Nat.shiftLeft_eq, Nat.mul_comm]
  rfl
theorem uN_shr (x : Int64) (s : UInt64) : uN (x.toUInt64 >>> s).toInt64 = uN x / 2 ^ (s.toNat % 64) := by
  show (x.toUInt64 >>> s).toNat = _
  rw [UInt64.toNat_shiftRight, Nat.shiftRight_eq_div_pow]
  rfl
theorem uN_s32 (x : Int64) : uN (x.toUInt64 >>> ((32 : Int32).toInt64.toUInt64 &&& Int64.toUInt64 63)).toInt64 = uN x / 4294967296 := by
  have h : ((32 : Int32).toInt64.toUInt64 &&& Int64.toUInt64 63).toNat % 64 = 32 := by decide
  rw [uN_shr, h]
theorem uN_lo (x : Int64) : uN (x &&& 4294967295) = uN x % 4294967296 := by
  show (x.toUInt64 &&& Int64.toUInt64 4294967295).toNat = _
  rw [UInt64.toNat_and]
  exact Nat.and_two_pow_sub_one_eq_mod _ 32
theorem nat_xor {a : Nat} (h : a < 18446744073709551616) : a ^^^ 2 ^ 63 = (a + 9223372036854775808) % 18446744073709551616 := by
  have h1 : (a ^^^ 2 ^ 63) % 2 ^ 63 = a % 2 ^ 63 := by rw [Nat.xor_mod_two_pow, Nat.mod_self, Nat.xor_zero]
  have h2 : (a ^^^ 2 ^ 63) / 2 ^ 63 = (a / 2 ^ 63) ^^^ 1 := by rw [Nat.xor_div_two_pow, Nat.div_self (Nat.two_pow_pos 63)]
  have h3 : a / 2 ^ 63 = 0 ∨ a / 2 ^ 63 = 1 := by omega
  generalize a ^^^ 2 ^ 63 = t at h1 h2
  rcases h3 with h3 | h3
  · rw [h3] at h2
    have h2 : t / 2 ^ 63 = 1 := h2
    omega
  · rw [h3] at h2
    have h2 : t / 2 ^ 63 = 0 := h2
    omega
theorem uN_xor (x : Int64) : uN (x ^^^ (-9223372036854775808)) = (uN x + 9223372036854775808) % 18446744073709551616 := by
  rw [← nat_xor (uN_lt x)]
  exact UInt64.toNat_xor _ _
theorem uN_int (x : Int64) : x.toInt = if 2 * uN x < 18446744073709551616 then (uN x : Int) else (uN x : Int) - 18446744073709551616 := BitVec.toInt_eq_toNat_cond _
theorem uN_le (x y : Int64) : (x ^^^ (-9223372036854775808)) ≤ (y ^^^ (-9223372036854775808)) ↔ uN x ≤ uN y := by
  have hx := uN_lt x
  have hy := uN_lt y
  rw [Int64.le_iff_toInt_le, uN_int, uN_int, uN_xor, uN_xor]
  omega
/-! ===== own rows ===== -/
theorem un_sub (x y : Int64) : uN (x - y) = (18446744073709551616 - uN y + uN x) % 18446744073709551616 := by
  show (x.toUInt64 - y.toUInt64).toNat = _
  exact UInt64.toNat_sub _ _
theorem un_s1 (x : Int64) : uN (x.toUInt64 >>> ((1 : Int32).toInt64.toUInt64 &&& Int64.toUInt64 63)).toInt64 = uN x / 2 := by
  have h : ((1 : Int32).toInt64.toUInt64 &&& Int64.toUInt64 63).toNat % 64 = 1 := by decide
  rw [uN_shr, h]
theorem un_0 : uN 0 = 0 := rfl
theorem un_1 : uN 1 = 1 := rfl
theorem un_ne0 {x : Int64} (h : ¬ x = 0) : 0 < uN x := by
  rcases Nat.eq_zero_or_pos (uN x) with e | e
  · exact absurd (uN_inj (e.trans un_0.symm)) h
  · exact e
theorem un_nn {x : Int64} (h : 0 ≤ x) : uN x < 9223372036854775808 := by
  have hx := uN_lt x
  have h1 := uN_int x
  have h0 : (0 : Int64).toInt = 0 := by decide
  rw [Int64.le_iff_toInt_le, h0] at h
  split at h1 <;> omega
theorem un_ng {x : Int64} (h : ¬ 0 ≤ x) : 9223372036854775808 ≤ uN x := by
  have hx := uN_lt x
  have h1 := uN_int x
  have h0 : (0 : Int64).toInt = 0 := by decide
  rw [Int64.le_iff_toInt_le, h0] at h
  split at h1 <;> omega
theorem un_toInt {x : Int64} (h : uN x < 9223372036854775808) : x.toInt = (uN x : Int) := by
  have h1 := uN_int x
  split at h1 <;> omega
/-- the signed quotient of two numbers without sign bit is the quotient of whole numbers -/
theorem un_div {x y : Int64} (hx : uN x < 9223372036854775808) (hy : uN y < 9223372036854775808) : uN (x / y) = uN x / uN y := by
  have hne : y ≠ -1 := by
    intro e
    rw [e] at hy
    have h9 : uN (-1) = 18446744073709551615 := by decide +kernel
    omega
  have h1 := Int64.toInt_div_of_ne_right x y hne
  rw [un_toInt hx, un_toInt hy, ← Int.ofNat_tdiv] at h1
  have h2 := uN_int (x / y)
  have h3 := uN_lt (x / y)
  have h4 : uN x / uN y ≤ uN x := Nat.div_le_self _ _
  rw [h1] at h2
  generalize uN x / uN y = w at h1 h2 h4 ⊢
  split at h2 <;> omega
/-! ===== the order of the unsigned values ===== -/
def ud_cmp (x y : Int64) : Int32 := if uN y < uN x then 1 else if uN x = uN y then 0 else -1
theorem ud_cmp_ge (x y : Int64) : (0 ≤ ud_cmp x y) ↔ uN y ≤ uN x := by
  unfold ud_cmp
  repeat' split
  all_goals (constructor <;> intro hh <;> first | omega | decide | exact absurd hh (by decide))
theorem ud_cmp_le (x y : Int64) : (ud_cmp x y ≤ 0) ↔ uN x ≤ uN y := by
  unfold ud_cmp
  repeat' split
  all_goals (constructor <;> intro hh <;> first | omega | decide | exact absurd hh (by decide))
theorem ud_cmp_lt (x y : Int64) : (ud_cmp x y < 0) ↔ uN x < uN y := by
  unfold ud_cmp
  repeat' split
  all_goals (constructor <;> intro hh <;> first | omega | decide | exact absurd hh (by decide))
theorem ud_cmp_three (x y : Int64) : ud_cmp x y = 1 ∨ ud_cmp x y = 0 ∨ ud_cmp x y = -1 := by
  unfold ud_cmp
  by_cases h1 : uN y < uN x
  · rw [if_pos h1]; exact Or.inl rfl
  · rw [if_neg h1]
    by_cases h2 : uN x = uN y
    · rw [if_pos h2]; exact Or.inr (Or.inl rfl)
    · rw [if_neg h2]; exact Or.inr (Or.inr rfl)
theorem ud_cmp_neg (x y : Int64) : ud_cmp y x = -ud_cmp x y := by
  unfold ud_cmp
  repeat' split
  all_goals first | omega | decide
theorem lg_cmp_three (x y : Int64) : lg_cmp x y = 1 ∨ lg_cmp x y = 0 ∨ lg_cmp x y = -1 := by
  unfold lg_cmp
  by_cases h1 : x > y
  · rw [if_pos h1]; exact Or.inl rfl
  · rw [if_neg h1]
    by_cases h2 : x = y
    · rw [if_pos h2]; exact Or.inr (Or.inl rfl)
    · rw [if_neg h2]; exact Or.inr (Or.inr rfl)
/-- an Int32 of -1, 0, 1 by two looks at its sign -/
theorem ud_sg1 {r : Int32} (h : r = 1 ∨ r = 0 ∨ r = -1) (h1 : ¬ 0 ≤ r) : -1 = r := by
  rcases h with e | e | e
  · rw [e] at h1; exact absurd (by decide) h1
  · rw [e] at h1; exact absurd (by decide) h1
  · exact e.symm
theorem ud_sg2 {r : Int32} (h : r = 1 ∨ r = 0 ∨ r = -1) (h1 : ¬ r ≤ 0) : 1 = r := by
  rcases h with e | e | e
  · exact e.symm
  · rw [e] at h1; exact absurd (by decide) h1
  · rw [e] at h1; exact absurd (by decide) h1
theorem ud_sg3 {r : Int32} (h : r = 1 ∨ r = 0 ∨ r = -1) (h1 : 0 ≤ r) (h2 : r ≤ 0) : 0 = r := by
  rcases h with e | e | e
  · rw [e] at h2; exact absurd h2 (by decide)
  · exact e.symm
  · rw [e] at h1; exact absurd h1 (by decide)
theorem ud_sg4 {r : Int32} (h : r = 1 ∨ r = 0 ∨ r = -1) (h1 : 0 ≤ r) (h2 : ¬ r = 0) : 1 = r := by
  rcases h with e | e | e
  · exact e.symm
  · exact absurd e h2
  · rw [e] at h1; exact absurd h1 (by decide)
/-- the signed order of the flipped numbers is the order of the unsigned values -/
theorem ud_flip (x y : Int64) : lg_cmp (x ^^^ (-9223372036854775808)) (y ^^^ (-9223372036854775808)) = ud_cmp x y := by
  have h1 := uN_le x y
  have h2 := uN_le y x
  have g1 := lg_cmp_le (x ^^^ (-9223372036854775808)) (y ^^^ (-9223372036854775808))
  have g2 := lg_cmp_ge (x ^^^ (-9223372036854775808)) (y ^^^ (-9223372036854775808))
  have u1 := ud_cmp_le x y
  have u2 := ud_cmp_ge x y
  have k1 : (lg_cmp (x ^^^ (-9223372036854775808)) (y ^^^ (-9223372036854775808)) ≤ 0) ↔ ud_cmp x y ≤ 0 := g1.trans (h1.trans u1.symm)
  have k2 : (0 ≤ lg_cmp (x ^^^ (-9223372036854775808)) (y ^^^ (-9223372036854775808))) ↔ 0 ≤ ud_cmp x y := g2.trans (h2.trans u2.symm)
  rcases lg_cmp_three (x ^^^ (-9223372036854775808)) (y ^^^ (-9223372036854775808)) with e | e | e <;> rcases ud_cmp_three x y with f | f | f <;> rw [e, f] at k1 k2 <;> rw [e, f] <;> revert k1 k2 <;> decide
/-! ===== quotient and remainder ===== -/
theorem ud_q0 {n d : Int64} (h : uN n < uN d) : uN 0 = uN n / uN d := un_0.trans (Nat.div_eq_of_lt h).symm
theorem ud_q1 {n d : Int64} (hd : ¬ 0 ≤ d) (h : uN d ≤ uN n) : uN 1 = uN n / uN d := by
  have h1 := un_ng hd
  have h2 := uN_lt n
  exact un_1.trans (Nat.div_eq_of_lt_le (k := 1) (by omega) (by omega)).symm
theorem ud_q2 {n d : Int64} (hd : 0 ≤ d) (hn : 0 ≤ n) : uN (n / d) = uN n / uN d := un_div (un_nn hn) (un_nn hd)
theorem ud_r0 {n d : Int64} (h : uN n < uN d) : uN n = uN n % uN d := (Nat.mod_eq_of_lt h).symm
theorem ud_r1 {n d : Int64} (hd : ¬ 0 ≤ d) (h : uN d ≤ uN n) : uN (n - d) = uN n % uN d := by
  have h1 := un_ng hd
  have h2 := uN_lt n
  have h3 := uN_lt d
  rw [un_sub, Nat.mod_eq_sub_mod h, Nat.mod_eq_of_lt (a := uN n - uN d) (by omega)]
  omega
theorem ud_r2 {n d : Int64} (hd : 0 ≤ d) (hn : 0 ≤ n) : uN (n - n / d * d) = uN n % uN d := by
  have h1 := uN_lt n
  have h2 : uN n / uN d * uN d ≤ uN n := Nat.div_mul_le_self _ _
  have h3 := Nat.div_add_mod' (uN n) (uN d)
  rw [un_sub, uN_mul, ud_q2 hd hn]
  generalize uN n / uN d * uN d = w at h2 h3 ⊢
  generalize uN n % uN d = z at h3 ⊢
  omega
/-- the quotient of the halved number, doubled: what is left is less than twice the divisor -/
theorem ud_half {N D : Nat} (hD : 0 < D) : 2 * (N / 2 / D) * D ≤ N ∧ N < 2 * (N / 2 / D) * D + 2 * D := by
  have h1 := Nat.div_add_mod' (N / 2) D
  have h2 := Nat.mod_lt (N / 2) hD
  have h3 : 2 * (N / 2 / D) * D = 2 * (N / 2 / D * D) := Nat.mul_assoc _ _ _
  rw [h3]
  generalize N / 2 / D * D = w at h1 ⊢
  generalize N / 2 % D = z at h1 h2
  omega
theorem ud_qD {N D q : Nat} (h1 : q * D ≤ N) (h2 : N < q * D + D) : N / D = q := Nat.div_eq_of_lt_le h1 (by rw [Nat.add_mul, Nat.one_mul]; exact h2)
/-- what divide and remainder have computed in their last branch: quotient and rem -/
theorem ud_long {n d q r : Int64} (hd : 0 ≤ d) (h0 : ¬ d = 0) (eq : q = ((n.toUInt64 >>> ((1 : Int32).toInt64.toUInt64 &&& Int64.toUInt64 63)).toInt64 / d) <<< ((1 : Int32).toInt64 &&& 63)) (er : r = n - q * d) : uN q = 2 * (uN n / 2 / uN d) ∧ uN r = uN n - uN q * uN d ∧ uN q * uN d ≤ uN n ∧ uN n < uN q * uN d + 2 * uN d ∧ 0 < uN d ∧ uN d < 9223372036854775808 := by
  have hn := uN_lt n
  have hd1 := un_nn hd
  have hd0 := un_ne0 h0
  have e1 : uN q = 2 * (uN n / 2 / uN d) := by
    rw [eq, uN_shl, un_div (by rw [un_s1]; omega) hd1, un_s1]
    have h4 : uN n / 2 / uN d ≤ uN n / 2 := Nat.div_le_self _ _
    omega
  have h5 := ud_half (N := uN n) hd0
  rw [← e1] at h5
  refine ⟨e1, ?_, h5.1, h5.2, hd0, hd1⟩
  rw [er, un_sub, uN_mul]
  have h6 := h5.1
  generalize uN q * uN d = w at h6 ⊢
  omega
theorem ud_q3 {n d q r : Int64} (hd : 0 ≤ d) (h0 : ¬ d = 0) (eq : q = ((n.toUInt64 >>> ((1 : Int32).toInt64.toUInt64 &&& Int64.toUInt64 63)).toInt64 / d) <<< ((1 : Int32).toInt64 &&& 63)) (er : r = n - q * d) (h : uN d ≤ uN r) : uN (q + (1 : Int32).toInt64) = uN n / uN d := by
  obtain ⟨h1, h2, h3, h4, h5, h6⟩ := ud_long hd h0 eq er
  have hn := uN_lt n
  have e1 : uN (1 : Int32).toInt64 = 1 := by decide
  have h7 : uN n / 2 / uN d ≤ uN n / 2 := Nat.div_le_self _ _
  have h8 : uN n / uN d = uN q + 1 := ud_qD (by rw [Nat.add_mul, Nat.one_mul]; omega) (by rw [Nat.add_mul, Nat.one_mul]; omega)
  rw [h8, uN_add, e1]
  have h9 : uN q + 1 ≤ uN n := by rw [← h8]; exact Nat.div_le_self _ _
  omega
theorem ud_q4 {n d q r : Int64} (hd : 0 ≤ d) (h0 : ¬ d = 0) (eq : q = ((n.toUInt64 >>> ((1 : Int32).toInt64.toUInt64 &&& Int64.toUInt64 63)).toInt64 / d) <<< ((1 : Int32).toInt64 &&& 63)) (er : r = n - q * d) (h : ¬ uN d ≤ uN r) : uN (q + (0 : Int32).toInt64) = uN n / uN d := by
  obtain ⟨h1, h2, h3, h4, h5, h6⟩ := ud_long hd h0 eq er
  have e1 : uN (0 : Int32).toInt64 = 0 := by decide
  have h8 : uN n / uN d = uN q := ud_qD h3 (by omega)
  have h9 := uN_lt q
  rw [h8, uN_add, e1]
  omega
theorem ud_r3 {n d q r : Int64} (hd : 0 ≤ d) (h0 : ¬ d = 0) (eq : q = ((n.toUInt64 >>> ((1 : Int32).toInt64.toUInt64 &&& Int64.toUInt64 63)).toInt64 / d) <<< ((1 : Int32).toInt64 &&& 63)) (er : r = n - q * d) (h : uN d ≤ uN r) : uN (r - d) = uN n % uN d := by
  obtain ⟨h1, h2, h3, h4, h5, h6⟩ := ud_long hd h0 eq er
  have h8 : uN n / uN d = uN q + 1 := ud_qD (by rw [Nat.add_mul, Nat.one_mul]; omega) (by rw [Nat.add_mul, Nat.one_mul]; omega)
  have h9 := Nat.div_add_mod' (uN n) (uN d)
  rw [h8, Nat.add_mul, Nat.one_mul] at h9
  have h10 := uN_lt r
  rw [un_sub]
  omega
theorem ud_r4 {n d q r : Int64} (hd : 0 ≤ d) (h0 : ¬ d = 0) (eq : q = ((n.toUInt64 >>> ((1 : Int32).toInt64.toUInt64 &&& Int64.toUInt64 63)).toInt64 / d) <<< ((1 : Int32).toInt64 &&& 63)) (er : r = n - q * d) (h : ¬ uN d ≤ uN r) : uN (r - 0) = uN n % uN d := by
  obtain ⟨h1, h2, h3, h4, h5, h6⟩ := ud_long hd h0 eq er
  have h8 : uN n / uN d = uN q := ud_qD h3 (by omega)
  have h9 := Nat.div_add_mod' (uN n) (uN d)
  rw [h8] at h9
  have h10 := uN_lt r
  rw [un_sub, un_0]
  omega
/-! ===== what the law checks of quotient and remainder ===== -/
theorem ud_law_sum {n y q r : Int64} (hq : uN q = uN n / uN y) (hr : uN r = uN n % uN y) : q * y + r = n := by
  apply uN_inj
  have h1 := Nat.div_add_mod' (uN n) (uN y)
  have h2 := uN_lt n
  rw [uN_add, uN_mul, hq, hr]
  generalize uN n / uN y * uN y = w at h1 ⊢
  generalize uN n % uN y = z at h1 ⊢
  omega
theorem ud_law_rem {n y r : Int64} (hy : ¬ y = 0) (hr : uN r = uN n % uN y) : ud_cmp r y < 0 := (ud_cmp_lt r y).mpr (by rw [hr]; exact Nat.mod_lt _ (un_ne0 hy))
theorem ud_law_prod {n y q : Int64} (hq : uN q = uN n / uN y) : uN q * uN y ≤ uN n := by
  rw [hq]; exact Nat.div_mul_le_self _ _
theorem ud_law_high {n y q : Int64} (hq : uN q = uN n / uN y) (h1 : ¬ (q.toUInt64 >>> ((32 : Int32).toInt64.toUInt64 &&& Int64.toUInt64 63)).toInt64 = 0) (h2 : ¬ (y.toUInt64 >>> ((32 : Int32).toInt64.toUInt64 &&& Int64.toUInt64 63)).toInt64 = 0) : False := by
  have g1 := un_ne0 h1
  have g2 := un_ne0 h2
  rw [uN_s32] at g1 g2
  have h3 := ud_law_prod hq
  have h4 := uN_lt n
  have h5 : 4294967296 * 4294967296 ≤ uN q * uN y := Nat.mul_le_mul (by omega) (by omega)
  omega
/-- the middle of the product of two numbers of 64 bits, cut into halves -/
theorem ud_mid {Q Y : Nat} (h : Q * Y < 18446744073709551616) : Q / 4294967296 * (Y % 4294967296) + Q % 4294967296 * (Y / 4294967296) + Q % 4294967296 * (Y % 4294967296) / 4294967296 < 4294967296 := by
  have e1 := Nat.div_add_mod Q 4294967296
  have e2 := Nat.div_add_mod Y 4294967296
  generalize Q / 4294967296 = a at e1 ⊢
  generalize Q % 4294967296 = b at e1 ⊢
  generalize Y / 4294967296 = c at e2 ⊢
  generalize Y % 4294967296 = d at e2 ⊢
  rw [← e1, ← e2, Nat.add_mul, Nat.mul_add, Nat.mul_add] at h
  have f1 : 4294967296 * a * d = 4294967296 * (a * d) := Nat.mul_assoc _ _ _
  have f2 : b * (4294967296 * c) = 4294967296 * (b * c) := Nat.mul_left_comm _ _ _
  rw [f1, f2] at h
  generalize 4294967296 * a * (4294967296 * c) = w at h
  generalize a * d = x at h ⊢
  generalize b * c = z at h ⊢
  generalize b * d = t at h ⊢
  omega
theorem ud_law_mid {n y q : Int64} (hq : uN q = uN n / uN y) : ((((q.toUInt64 >>> ((32 : Int32).toInt64.toUInt64 &&& Int64.toUInt64 63)).toInt64 * (y &&& 4294967295) + (q &&& 4294967295) * (y.toUInt64 >>> ((32 : Int32).toInt64.toUInt64 &&& Int64.toUInt64 63)).toInt64) + (((q &&& 4294967295) * (y &&& 4294967295)).toUInt64 >>> ((32 : Int32).toInt64.toUInt64 &&& Int64.toUInt64 63)).toInt64).toUInt64 >>> ((32 : Int32).toInt64.toUInt64 &&& Int64.toUInt64 63)).toInt64 = 0 := by
  apply uN_inj
  have h1 := ud_mid (Q := uN q) (Y := uN y) (Nat.lt_of_le_of_lt (ud_law_prod hq) (uN_lt n))
  have h2 : uN q % 4294967296 * (uN y % 4294967296) < 18446744073709551616 := by
    have a1 : uN q % 4294967296 ≤ 4294967295 := by omega
    have a2 : uN y % 4294967296 ≤ 4294967295 := by omega
    exact Nat.lt_of_le_of_lt (Nat.mul_le_mul a1 a2) (by decide)
  rw [uN_s32, uN_add, uN_add, uN_mul, uN_mul, uN_s32, uN_s32, uN_s32, uN_mul, uN_lo, uN_lo, un_0]
  rw [Nat.mod_eq_of_lt h2]
  generalize uN q / 4294967296 * (uN y % 4294967296) = x at h1 ⊢
  generalize uN q % 4294967296 * (uN y / 4294967296) = z at h1 ⊢
  generalize uN q % 4294967296 * (uN y % 4294967296) = t at h1 h2 ⊢
  omega
theorem ud_law_top {n y q : Int64} (hq : uN q = uN n / uN y) : ud_cmp (q * y) n ≤ 0 := by
  refine (ud_cmp_le (q * y) n).mpr ?_
  have h1 := ud_law_prod hq
  have h2 := uN_lt n
  rw [uN_mul]
  omega
end
section
set_option maxHeartbeats 4000000 in
set_option maxRecDepth 100000 in
/-- Long.compare: the order of two longs -/
theorem ct_J0_compare (l : Launch) (a b : Int64) : Met l yJ0_compare (ws_ yJ0_compare cJ0_compare 4 (some .int)) ({ frames := 0, cells := 0, slots := 0, locals := 0 }) (fun v _ => v = ([.long a, .long b] : List Value).toArray) (vp_Si (fun r => r = lg_cmp a b)) 0 0 (fun _ => False) := by
  refine Met.ofW (cc := cJ0_compare) (maxL := 4) (ret := (some .int)) (by decide) rfl ?_
  intro p e s m args below meth c s₁ B hml hv
  have hv : args = ([.long a, .long b] : List Value).toArray := hv
  subst hv
  have hx := B.exec
  have hb := B.bytes
  have hr := B.returns
  have hlocks := B.notSynchronized
  have hts := atoms_spec (ws := ws_ yJ0_compare cJ0_compare 4 (some .int)) B.pre
  have hts : ∀ w ∈ lw_all, w.before _ s = true := fun w h => hts w (List.mem_cons_of_mem _ h)
  have hown : s.vm.findClass RJ0 = some m.cls := findClass_of_methodNamed B.named
  have hl := lv_entry ([.long a, .long b]) (n := 4) (Nat.le_of_ble_eq_true rfl)
  rw [lg_entry_eq]
  generalize (lg_sl ([.long a, .long b]) ++ List.replicate (4 - (lg_sl ([.long a, .long b])).length) Slot.unset).toArray = ls at hl ⊢
  have hl : lv_has ls 4 [(0, .long a), (2, .long b)] := hl
  refine lv_lload_n hx hb dJ0_compare_0 rfl (lv_at hl 0 rfl) ?_
  refine lv_lload_n hx hb dJ0_compare_1 rfl (lv_at hl 1 rfl) ?_
  refine W.lcmp hx hb dJ0_compare_2 ?_
  refine lv_if_ge (tgt := 10) hx hb dJ0_compare_3 (by decide) (fun c1 => ?_) (fun c1 => ?_)
  · refine lv_lload_n hx hb dJ0_compare_10 rfl (lv_at hl 0 rfl) ?_
    refine lv_lload_n hx hb dJ0_compare_11 rfl (lv_at hl 1 rfl) ?_
    refine W.lcmp hx hb dJ0_compare_12 ?_
    refine lv_if_ne (tgt := 20) hx hb dJ0_compare_13 (by decide) (fun c2 => ?_) (fun c2 => ?_)
    · refine lv_iconst (v := 1) hx hb dJ0_compare_20 (by decide) ?_
      exact W.iret (v := 1) hx hb hr (fun t ht hW => ⟨_, rfl, ud_sg4 (lg_cmp_three a b) c1 c2, ht⟩) (fun q h => by cases h) dJ0_compare_21
    · refine lv_iconst (v := 0) hx hb dJ0_compare_16 (by decide) ?_
      refine lv_goto (tgt := 21) hx hb dJ0_compare_17 (by decide) ?_
      exact W.iret (v := 0) hx hb hr (fun t ht hW => ⟨_, rfl, c2.symm, ht⟩) (fun q h => by cases h) dJ0_compare_21
  · refine lv_iconst (v := -1) hx hb dJ0_compare_6 (by decide) ?_
    refine lv_goto (tgt := 21) hx hb dJ0_compare_7 (by decide) ?_
    exact W.iret (v := (-1)) hx hb hr (fun t ht hW => ⟨_, rfl, ud_sg1 (lg_cmp_three a b) c1, ht⟩) (fun q h => by cases h) dJ0_compare_21
set_option maxHeartbeats 4000000 in
set_option maxRecDepth 100000 in
/-- Longs.compare: the same -/
theorem ct_X3_compare (l : Launch) (a b : Int64) : Met l yX3_compare (ws_ yX3_compare cX3_compare 4 (some .int)) ({ frames := 1, cells := 0, slots := 0, locals := 23 }) (fun v _ => v = ([.long a, .long b] : List Value).toArray) (vp_Si (fun r => r = lg_cmp a b)) 0 0 (fun _ => False) := by
  refine Met.ofW (cc := cX3_compare) (maxL := 4) (ret := (some .int)) (by decide) rfl ?_
  intro p e s m args below meth c s₁ B hml hv
  have hv : args = ([.long a, .long b] : List Value).toArray := hv
  subst hv
  have hx := B.exec
  have hb := B.bytes
  have hr := B.returns
  have hlocks := B.notSynchronized
  have hts := atoms_spec (ws := ws_ yX3_compare cX3_compare 4 (some .int)) B.pre
  have hts : ∀ w ∈ lw_all, w.before _ s = true := fun w h => hts w (List.mem_cons_of_mem _ h)
  have hown : s.vm.findClass RX3 = some m.cls := findClass_of_methodNamed B.named
  have hl := lv_entry ([.long a, .long b]) (n := 4) (Nat.le_of_ble_eq_true rfl)
  rw [lg_entry_eq]
  generalize (lg_sl ([.long a, .long b]) ++ List.replicate (4 - (lg_sl ([.long a, .long b])).length) Slot.unset).toArray = ls at hl ⊢
  have hl : lv_has ls 4 [(0, .long a), (2, .long b)] := hl
  refine lv_lload_n hx hb dX3_compare_0 rfl (lv_at hl 0 rfl) ?_
  refine lv_lload_n hx hb dX3_compare_1 rfl (lv_at hl 1 rfl) ?_
  refine vp_callSi (W.runS (As := [.long a, .long b]) (rest := []) ⟨hx, hb, hml, hown, hts⟩ (ct_J0_compare l a b) (va_cwS 2 hts (lw_S q36 q37 q4 q38) rfl rfl rfl (by decide +kernel) ⟨Nat.le_of_ble_eq_true rfl, Nat.le_of_ble_eq_true rfl⟩) preEq rfl rfl hl.1 rfl (lv_room (Nat.le_of_ble_eq_true rfl)) dX3_compare_2 ⟨Nat.le_of_ble_eq_true rfl, Nat.le_of_ble_eq_true rfl⟩) (fun r1 er1 => ?_)
  exact W.iret (v := r1) hx hb hr (fun t ht hW => ⟨_, rfl, er1, ht⟩) (fun q h => by cases h) dX3_compare_5
set_option maxHeartbeats 4000000 in
set_option maxRecDepth 100000 in
/-- flip: the sign bit turned -/
theorem ct_X2_flip (l : Launch) (a : Int64) : Met l yX2_flip (ws_ yX2_flip cX2_flip 2 (some .long)) ({ frames := 0, cells := 0, slots := 0, locals := 0 }) (fun v _ => v = ([.long a] : List Value).toArray) (vp_Sl (fun r => r = a ^^^ (-9223372036854775808))) 0 0 (fun _ => False) := by
  refine Met.ofW (cc := cX2_flip) (maxL := 2) (ret := (some .long)) (by decide) rfl ?_
  intro p e s m args below meth c s₁ B hml hv
  have hv : args = ([.long a] : List Value).toArray := hv
  subst hv
  have hx := B.exec
  have hb := B.bytes
  have hr := B.returns
  have hlocks := B.notSynchronized
  have hts := atoms_spec (ws := ws_ yX2_flip cX2_flip 2 (some .long)) B.pre
  have hts : ∀ w ∈ lw_all, w.before _ s = true := fun w h => hts w (List.mem_cons_of_mem _ h)
  have hown : s.vm.findClass RX2 = some m.cls := findClass_of_methodNamed B.named
  have hl := lv_entry ([.long a]) (n := 2) (Nat.le_of_ble_eq_true rfl)
  rw [lg_entry_eq]
  generalize (lg_sl ([.long a]) ++ List.replicate (2 - (lg_sl ([.long a])).length) Slot.unset).toArray = ls at hl ⊢
  have hl : lv_has ls 2 [(0, .long a)] := hl
  refine lv_lload_n hx hb dX2_flip_0 rfl (lv_at hl 0 rfl) ?_
  refine lv_ldc2 hx hb hown (hts _ q32) dX2_flip_1 ?_
  refine lv_lxor hx hb dX2_flip_4 ?_
  exact W.lret (v := (a ^^^ (-9223372036854775808))) hx hb hr (fun t ht hW => ⟨_, rfl, rfl, ht⟩) (fun q h => by cases h) dX2_flip_5
set_option maxHeartbeats 4000000 in
set_option maxRecDepth 100000 in
/-- UnsignedLongs.compare: the order of the unsigned values -/
theorem ct_X2_compare (l : Launch) (a b : Int64) : Met l yX2_compare (ws_ yX2_compare cX2_compare 4 (some .int)) ({ frames := 2, cells := 0, slots := 0, locals := 46 }) (fun v _ => v = ([.long a, .long b] : List Value).toArray) (vp_Si (fun r => r = ud_cmp a b)) 0 0 (fun _ => False) := by
  refine Met.ofW (cc := cX2_compare) (maxL := 4) (ret := (some .int)) (by decide) rfl ?_
  intro p e s m args below meth c s₁ B hml hv
  have hv : args = ([.long a, .long b] : List Value).toArray := hv
  subst hv
  have hx := B.exec
  have hb := B.bytes
  have hr := B.returns
  have hlocks := B.notSynchronized
  have hts := atoms_spec (ws := ws_ yX2_compare cX2_compare 4 (some .int)) B.pre
  have hts : ∀ w ∈ lw_all, w.before _ s = true := fun w h => hts w (List.mem_cons_of_mem _ h)
  have hown : s.vm.findClass RX2 = some m.cls := findClass_of_methodNamed B.named
  have hl := lv_entry ([.long a, .long b]) (n := 4) (Nat.le_of_ble_eq_true rfl)
  rw [lg_entry_eq]
  generalize (lg_sl ([.long a, .long b]) ++ List.replicate (4 - (lg_sl ([.long a, .long b])).length) Slot.unset).toArray = ls at hl ⊢
  have hl : lv_has ls 4 [(0, .long a), (2, .long b)] := hl
  refine lv_lload_n hx hb dX2_compare_0 rfl (lv_at hl 0 rfl) ?_
  refine vp_callSl (W.runS (As := [.long a]) (rest := []) ⟨hx, hb, hml, hown, hts⟩ (ct_X2_flip l a) (va_cwS 1 hts (lw_S q29 q30 q2 q31) rfl rfl rfl (by decide +kernel) ⟨Nat.le_of_ble_eq_true rfl, Nat.le_of_ble_eq_true rfl⟩) preEq rfl rfl hl.1 rfl (lv_room (Nat.le_of_ble_eq_true rfl)) dX2_compare_1 ⟨Nat.le_of_ble_eq_true rfl, Nat.le_of_ble_eq_true rfl⟩) (fun f1 ef1 => ?_)
  refine lv_lload_n hx hb dX2_compare_4 rfl (lv_at hl 1 rfl) ?_
  refine vp_callSl (W.runS (As := [.long b]) (rest := [.long f1]) ⟨hx, hb, hml, hown, hts⟩ (ct_X2_flip l b) (va_cwS 1 hts (lw_S q29 q30 q2 q31) rfl rfl rfl (by decide +kernel) ⟨Nat.le_of_ble_eq_true rfl, Nat.le_of_ble_eq_true rfl⟩) preEq rfl rfl hl.1 rfl (lv_room (Nat.le_of_ble_eq_true rfl)) dX2_compare_5 ⟨Nat.le_of_ble_eq_true rfl, Nat.le_of_ble_eq_true rfl⟩) (fun f2 ef2 => ?_)
  refine vp_callSi (W.runS (As := [.long f1, .long f2]) (rest := []) ⟨hx, hb, hml, hown, hts⟩ (ct_X3_compare l f1 f2) (va_cwS 2 hts (lw_S q33 q34 q3 q35) rfl rfl rfl (by decide +kernel) ⟨Nat.le_of_ble_eq_true rfl, Nat.le_of_ble_eq_true rfl⟩) preEq rfl rfl hl.1 rfl (lv_room (Nat.le_of_ble_eq_true rfl)) dX2_compare_8 ⟨Nat.le_of_ble_eq_true rfl, Nat.le_of_ble_eq_true rfl⟩) (fun r1 er1 => ?_)
  exact W.iret (v := r1) hx hb hr (fun t ht hW => ⟨_, rfl, (by rw [er1, ef1, ef2]; exact ud_flip a b), ht⟩) (fun q h => by cases h) dX2_compare_11
set_option maxHeartbeats 4000000 in
set_option maxRecDepth 100000 in
/-- UnsignedLongs.divide: the quotient of the unsigned values -/
theorem ct_X2_divide (l : Launch) (n d : Int64) (h0 : ¬ d = 0) : Met l yX2_divide (ws_ yX2_divide cX2_divide 8 (some .long)) ({ frames := 3, cells := 0, slots := 0, locals := 69 }) (fun v _ => v = ([.long n, .long d] : List Value).toArray) (vp_Sl (fun r => uN r = uN n / uN d)) 0 0 (fun _ => False) := by
  refine Met.ofW (cc := cX2_divide) (maxL := 8) (ret := (some .long)) (by decide) rfl ?_
  intro p e s m args below meth c s₁ B hml hv
  have hv : args = ([.long n, .long d] : List Value).toArray := hv
  subst hv
  have hx := B.exec
  have hb := B.bytes
  have hr := B.returns
  have hlocks := B.notSynchronized
  have hts := atoms_spec (ws := ws_ yX2_divide cX2_divide 8 (some .long)) B.pre
  have hts : ∀ w ∈ lw_all, w.before _ s = true := fun w h => hts w (List.mem_cons_of_mem _ h)
  have hown : s.vm.findClass RX2 = some m.cls := findClass_of_methodNamed B.named
  have hl := lv_entry ([.long n, .long d]) (n := 8) (Nat.le_of_ble_eq_true rfl)
  rw [lg_entry_eq]
  generalize (lg_sl ([.long n, .long d]) ++ List.replicate (8 - (lg_sl ([.long n, .long d])).length) Slot.unset).toArray = ls at hl ⊢
  have hl : lv_has ls 8 [(0, .long n), (2, .long d)] := hl
  refine lv_lload_n hx hb dX2_divide_0 rfl (lv_at hl 1 rfl) ?_
  refine lv_lconst (v := 0) hx hb dX2_divide_1 (by decide) ?_
  refine W.lcmp hx hb dX2_divide_2 ?_
  refine lv_if_ge (tgt := 18) hx hb dX2_divide_3 (by decide) (fun c1 => ?_) (fun c1 => ?_)
  · have c1 : 0 ≤ d := (lg_cmp_ge d 0).mp c1
    refine lv_lload_n hx hb dX2_divide_18 rfl (lv_at hl 0 rfl) ?_
    refine lv_lconst (v := 0) hx hb dX2_divide_19 (by decide) ?_
    refine W.lcmp hx hb dX2_divide_20 ?_
    refine lv_if_lt (tgt := 28) hx hb dX2_divide_21 (by decide) (fun c2 => ?_) (fun c2 => ?_)
    · refine lv_lload_n hx hb dX2_divide_28 rfl (lv_at hl 0 rfl) ?_
      refine lv_iconst (v := 1) hx hb dX2_divide_29 (by decide) ?_
      refine lv_lushr hx hb dX2_divide_30 rfl ?_
      refine lv_lload_n hx hb dX2_divide_31 rfl (lv_at hl 1 rfl) ?_
      refine lv_ldiv hx hb dX2_divide_32 h0 ?_
      refine lv_iconst (v := 1) hx hb dX2_divide_33 (by decide) ?_
      refine lv_lshl hx hb dX2_divide_34 rfl ?_
      refine lv_topl (fun qq eq => ?_)
      refine lv_lstore (lv' := [(4, .long qq), (0, .long n), (2, .long d)]) hx hb dX2_divide_35 hl (by decide) rfl (fun ls hl => ?_)
      refine lv_lload_n hx hb dX2_divide_37 rfl (lv_at hl 1 rfl) ?_
      refine lv_lload hx hb dX2_divide_38 (lv_at hl 0 rfl) ?_
      refine lv_lload_n hx hb dX2_divide_40 rfl (lv_at hl 2 rfl) ?_
      refine lv_lmul hx hb dX2_divide_41 ?_
      refine lv_lsub hx hb dX2_divide_42 ?_
      refine lv_topl (fun rr er => ?_)
      refine lv_lstore (lv' := [(6, .long rr), (4, .long qq), (0, .long n), (2, .long d)]) hx hb dX2_divide_43 hl (by decide) rfl (fun ls hl => ?_)
      refine lv_lload hx hb dX2_divide_45 (lv_at hl 1 rfl) ?_
      refine lv_lload hx hb dX2_divide_47 (lv_at hl 0 rfl) ?_
      refine lv_lload_n hx hb dX2_divide_49 rfl (lv_at hl 3 rfl) ?_
      refine vp_callSi (W.runS (As := [.long rr, .long d]) (rest := [.long qq]) ⟨hx, hb, hml, hown, hts⟩ (ct_X2_compare l rr d) (va_cwS 2 hts (lw_S q26 q27 q2 q28) rfl rfl rfl (by decide +kernel) ⟨Nat.le_of_ble_eq_true rfl, Nat.le_of_ble_eq_true rfl⟩) preEq rfl rfl hl.1 rfl (lv_room (Nat.le_of_ble_eq_true rfl)) dX2_divide_50 ⟨Nat.le_of_ble_eq_true rfl, Nat.le_of_ble_eq_true rfl⟩) (fun r1 er1 => ?_)
      refine lv_if_lt (tgt := 60) hx hb dX2_divide_53 (by decide) (fun c3 => ?_) (fun c3 => ?_)
      · refine lv_iconst (v := 0) hx hb dX2_divide_60 (by decide) ?_
        refine lv_i2l hx hb dX2_divide_61 rfl ?_
        refine lv_ladd hx hb dX2_divide_62 ?_
        exact W.lret (v := (qq + (0 : Int32).toInt64)) hx hb hr (fun t ht hW => ⟨_, rfl, ud_q4 c1 h0 eq er (fun h => (Int32.not_lt.mpr ((ud_cmp_ge rr d).mpr h)) (er1 ▸ c3)), ht⟩) (fun q h => by cases h) dX2_divide_63
      · refine lv_iconst (v := 1) hx hb dX2_divide_56 (by decide) ?_
        refine lv_goto (tgt := 61) hx hb dX2_divide_57 (by decide) ?_
        refine lv_i2l hx hb dX2_divide_61 rfl ?_
        refine lv_ladd hx hb dX2_divide_62 ?_
        exact W.lret (v := (qq + (1 : Int32).toInt64)) hx hb hr (fun t ht hW => ⟨_, rfl, ud_q3 c1 h0 eq er ((ud_cmp_ge rr d).mp (er1 ▸ Int32.not_lt.mp c3)), ht⟩) (fun q h => by cases h) dX2_divide_63
    · have c2 : 0 ≤ n := (lg_cmp_ge n 0).mp (Int32.not_lt.mp c2)
      refine lv_lload_n hx hb dX2_divide_24 rfl (lv_at hl 0 rfl) ?_
      refine lv_lload_n hx hb dX2_divide_25 rfl (lv_at hl 1 rfl) ?_
      refine lv_ldiv hx hb dX2_divide_26 h0 ?_
      exact W.lret (v := (n / d)) hx hb hr (fun t ht hW => ⟨_, rfl, ud_q2 c1 c2, ht⟩) (fun q h => by cases h) dX2_divide_27
  · have c1 : ¬ 0 ≤ d := fun h => c1 ((lg_cmp_ge d 0).mpr h)
    refine lv_lload_n hx hb dX2_divide_6 rfl (lv_at hl 0 rfl) ?_
    refine lv_lload_n hx hb dX2_divide_7 rfl (lv_at hl 1 rfl) ?_
    refine vp_callSi (W.runS (As := [.long n, .long d]) (rest := []) ⟨hx, hb, hml, hown, hts⟩ (ct_X2_compare l n d) (va_cwS 2 hts (lw_S q26 q27 q2 q28) rfl rfl rfl (by decide +kernel) ⟨Nat.le_of_ble_eq_true rfl, Nat.le_of_ble_eq_true rfl⟩) preEq rfl rfl hl.1 rfl (lv_room (Nat.le_of_ble_eq_true rfl)) dX2_divide_8 ⟨Nat.le_of_ble_eq_true rfl, Nat.le_of_ble_eq_true rfl⟩) (fun r1 er1 => ?_)
    refine lv_if_ge (tgt := 16) hx hb dX2_divide_11 (by decide) (fun c2 => ?_) (fun c2 => ?_)
    · refine lv_lconst (v := 1) hx hb dX2_divide_16 (by decide) ?_
      exact W.lret (v := 1) hx hb hr (fun t ht hW => ⟨_, rfl, ud_q1 c1 ((ud_cmp_ge n d).mp (er1 ▸ c2)), ht⟩) (fun q h => by cases h) dX2_divide_17
    · refine lv_lconst (v := 0) hx hb dX2_divide_14 (by decide) ?_
      exact W.lret (v := 0) hx hb hr (fun t ht hW => ⟨_, rfl, ud_q0 (Nat.not_le.mp (fun h => c2 (er1 ▸ (ud_cmp_ge n d).mpr h))), ht⟩) (fun q h => by cases h) dX2_divide_15
set_option maxHeartbeats 4000000 in
set_option maxRecDepth 100000 in
/-- UnsignedLongs.remainder: the remainder of the unsigned values -/
theorem ct_X2_remainder (l : Launch) (n d : Int64) (h0 : ¬ d = 0) : Met l yX2_remainder (ws_ yX2_remainder cX2_remainder 8 (some .long)) ({ frames := 3, cells := 0, slots := 0, locals := 69 }) (fun v _ => v = ([.long n, .long d] : List Value).toArray) (vp_Sl (fun r => uN r = uN n % uN d)) 0 0 (fun _ => False) := by
  refine Met.ofW (cc := cX2_remainder) (maxL := 8) (ret := (some .long)) (by decide) rfl ?_
  intro p e s m args below meth c s₁ B hml hv
  have hv : args = ([.long n, .long d] : List Value).toArray := hv
  subst hv
  have hx := B.exec
  have hb := B.bytes
  have hr := B.returns
  have hlocks := B.notSynchronized
  have hts := atoms_spec (ws := ws_ yX2_remainder cX2_remainder 8 (some .long)) B.pre
  have hts : ∀ w ∈ lw_all, w.before _ s = true := fun w h => hts w (List.mem_cons_of_mem _ h)
  have hown : s.vm.findClass RX2 = some m.cls := findClass_of_methodNamed B.named
  have hl := lv_entry ([.long n, .long d]) (n := 8) (Nat.le_of_ble_eq_true rfl)
  rw [lg_entry_eq]
  generalize (lg_sl ([.long n, .long d]) ++ List.replicate (8 - (lg_sl ([.long n, .long d])).length) Slot.unset).toArray = ls at hl ⊢
  have hl : lv_has ls 8 [(0, .long n), (2, .long d)] := hl
  refine lv_lload_n hx hb dX2_remainder_0 rfl (lv_at hl 1 rfl) ?_
  refine lv_lconst (v := 0) hx hb dX2_remainder_1 (by decide) ?_
  refine W.lcmp hx hb dX2_remainder_2 ?_
  refine lv_if_ge (tgt := 20) hx hb dX2_remainder_3 (by decide) (fun c1 => ?_) (fun c1 => ?_)
  · have c1 : 0 ≤ d := (lg_cmp_ge d 0).mp c1
    refine lv_lload_n hx hb dX2_remainder_20 rfl (lv_at hl 0 rfl) ?_
    refine lv_lconst (v := 0) hx hb dX2_remainder_21 (by decide) ?_
    refine W.lcmp hx hb dX2_remainder_22 ?_
    refine lv_if_lt (tgt := 30) hx hb dX2_remainder_23 (by decide) (fun c2 => ?_) (fun c2 => ?_)
    · refine lv_lload_n hx hb dX2_remainder_30 rfl (lv_at hl 0 rfl) ?_
      refine lv_iconst (v := 1) hx hb dX2_remainder_31 (by decide) ?_
      refine lv_lushr hx hb dX2_remainder_32 rfl ?_
      refine lv_lload_n hx hb dX2_remainder_33 rfl (lv_at hl 1 rfl) ?_
      refine lv_ldiv hx hb dX2_remainder_34 h0 ?_
      refine lv_iconst (v := 1) hx hb dX2_remainder_35 (by decide) ?_
      refine lv_lshl hx hb dX2_remainder_36 rfl ?_
      refine lv_topl (fun qq eq => ?_)
      refine lv_lstore (lv' := [(4, .long qq), (0, .long n), (2, .long d)]) hx hb dX2_remainder_37 hl (by decide) rfl (fun ls hl => ?_)
      refine lv_lload_n hx hb dX2_remainder_39 rfl (lv_at hl 1 rfl) ?_
      refine lv_lload hx hb dX2_remainder_40 (lv_at hl 0 rfl) ?_
      refine lv_lload_n hx hb dX2_remainder_42 rfl (lv_at hl 2 rfl) ?_
      refine lv_lmul hx hb dX2_remainder_43 ?_
      refine lv_lsub hx hb dX2_remainder_44 ?_
      refine lv_topl (fun rr er => ?_)
      refine lv_lstore (lv' := [(6, .long rr), (4, .long qq), (0, .long n), (2, .long d)]) hx hb dX2_remainder_45 hl (by decide) rfl (fun ls hl => ?_)
      refine lv_lload hx hb dX2_remainder_47 (lv_at hl 0 rfl) ?_
      refine lv_lload hx hb dX2_remainder_49 (lv_at hl 0 rfl) ?_
      refine lv_lload_n hx hb dX2_remainder_51 rfl (lv_at hl 3 rfl) ?_
      refine vp_callSi (W.runS (As := [.long rr, .long d]) (rest := [.long rr]) ⟨hx, hb, hml, hown, hts⟩ (ct_X2_compare l rr d) (va_cwS 2 hts (lw_S q26 q27 q2 q28) rfl rfl rfl (by decide +kernel) ⟨Nat.le_of_ble_eq_true rfl, Nat.le_of_ble_eq_true rfl⟩) preEq rfl rfl hl.1 rfl (lv_room (Nat.le_of_ble_eq_true rfl)) dX2_remainder_52 ⟨Nat.le_of_ble_eq_true rfl, Nat.le_of_ble_eq_true rfl⟩) (fun r1 er1 => ?_)
      refine lv_if_lt (tgt := 62) hx hb dX2_remainder_55 (by decide) (fun c3 => ?_) (fun c3 => ?_)
      · refine lv_lconst (v := 0) hx hb dX2_remainder_62 (by decide) ?_
        refine lv_lsub hx hb dX2_remainder_63 ?_
        exact W.lret (v := (rr - 0)) hx hb hr (fun t ht hW => ⟨_, rfl, ud_r4 c1 h0 eq er (fun h => (Int32.not_lt.mpr ((ud_cmp_ge rr d).mpr h)) (er1 ▸ c3)), ht⟩) (fun q h => by cases h) dX2_remainder_64
      · refine lv_lload_n hx hb dX2_remainder_58 rfl (lv_at hl 3 rfl) ?_
        refine lv_goto (tgt := 63) hx hb dX2_remainder_59 (by decide) ?_
        refine lv_lsub hx hb dX2_remainder_63 ?_
        exact W.lret (v := (rr - d)) hx hb hr (fun t ht hW => ⟨_, rfl, ud_r3 c1 h0 eq er ((ud_cmp_ge rr d).mp (er1 ▸ Int32.not_lt.mp c3)), ht⟩) (fun q h => by cases h) dX2_remainder_64
    · have c2 : 0 ≤ n := (lg_cmp_ge n 0).mp (Int32.not_lt.mp c2)
      refine lv_lload_n hx hb dX2_remainder_26 rfl (lv_at hl 0 rfl) ?_
      refine lv_lload_n hx hb dX2_remainder_27 rfl (lv_at hl 1 rfl) ?_
      refine lv_lrem hx hb dX2_remainder_28 h0 ?_
      exact W.lret (v := (n - n / d * d)) hx hb hr (fun t ht hW => ⟨_, rfl, ud_r2 c1 c2, ht⟩) (fun q h => by cases h) dX2_remainder_29
  · have c1 : ¬ 0 ≤ d := fun h => c1 ((lg_cmp_ge d 0).mpr h)
    refine lv_lload_n hx hb dX2_remainder_6 rfl (lv_at hl 0 rfl) ?_
    refine lv_lload_n hx hb dX2_remainder_7 rfl (lv_at hl 1 rfl) ?_
    refine vp_callSi (W.runS (As := [.long n, .long d]) (rest := []) ⟨hx, hb, hml, hown, hts⟩ (ct_X2_compare l n d) (va_cwS 2 hts (lw_S q26 q27 q2 q28) rfl rfl rfl (by decide +kernel) ⟨Nat.le_of_ble_eq_true rfl, Nat.le_of_ble_eq_true rfl⟩) preEq rfl rfl hl.1 rfl (lv_room (Nat.le_of_ble_eq_true rfl)) dX2_remainder_8 ⟨Nat.le_of_ble_eq_true rfl, Nat.le_of_ble_eq_true rfl⟩) (fun r1 er1 => ?_)
    refine lv_if_ge (tgt := 16) hx hb dX2_remainder_11 (by decide) (fun c2 => ?_) (fun c2 => ?_)
    · refine lv_lload_n hx hb dX2_remainder_16 rfl (lv_at hl 0 rfl) ?_
      refine lv_lload_n hx hb dX2_remainder_17 rfl (lv_at hl 1 rfl) ?_
      refine lv_lsub hx hb dX2_remainder_18 ?_
      exact W.lret (v := (n - d)) hx hb hr (fun t ht hW => ⟨_, rfl, ud_r1 c1 ((ud_cmp_ge n d).mp (er1 ▸ c2)), ht⟩) (fun q h => by cases h) dX2_remainder_19
    · refine lv_lload_n hx hb dX2_remainder_14 rfl (lv_at hl 0 rfl) ?_
      exact W.lret (v := n) hx hb hr (fun t ht hW => ⟨_, rfl, ud_r0 (Nat.not_le.mp (fun h => c2 (er1 ▸ (ud_cmp_ge n d).mpr h))), ht⟩) (fun q h => by cases h) dX2_remainder_15
end
section
/-! UnsignedDesk -/
def RX1 : String := "UnsignedDesk"
abbrev cX1_init : ByteArray := prog_2_method_1_code
def yX1_init : MethodName := ⟨RX1, "<init>", "()V"⟩
theorem dX1_init_0 : decode cX1_init 0 = .ok (.aload_n 0, 1) := by decide +kernel
theorem dX1_init_1 : decode cX1_init 1 = .ok (.invokespecial 1, 3) := by decide +kernel
theorem dX1_init_4 : decode cX1_init 4 = .ok (.return_, 1) := by decide +kernel
abbrev cX1_divide : ByteArray := prog_2_method_3_code
def yX1_divide : MethodName := ⟨RX1, "divide", "(IIII)J"⟩
theorem dX1_divide_0 : decode cX1_divide 0 = .ok (.iload_n 3, 1) := by decide +kernel
theorem dX1_divide_1 : decode cX1_divide 1 = .ok (.iload 4, 2) := by decide +kernel
theorem dX1_divide_3 : decode cX1_divide 3 = .ok (.invokestatic 9, 3) := by decide +kernel
theorem dX1_divide_6 : decode cX1_divide 6 = .ok (.lstore 5, 2) := by decide +kernel
theorem dX1_divide_8 : decode cX1_divide 8 = .ok (.lload 5, 2) := by decide +kernel
theorem dX1_divide_10 : decode cX1_divide 10 = .ok (.lconst 0, 1) := by decide +kernel
theorem dX1_divide_11 : decode cX1_divide 11 = .ok (.lcmp, 1) := by decide +kernel
theorem dX1_divide_12 : decode cX1_divide 12 = .ok (.ifCond .ne 9, 3) := by decide +kernel
theorem dX1_divide_15 : decode cX1_divide 15 = .ok (.ldc2_w 15, 3) := by decide +kernel
theorem dX1_divide_18 : decode cX1_divide 18 = .ok (.goto 13, 3) := by decide +kernel
theorem dX1_divide_21 : decode cX1_divide 21 = .ok (.iload_n 1, 1) := by decide +kernel
theorem dX1_divide_22 : decode cX1_divide 22 = .ok (.iload_n 2, 1) := by decide +kernel
theorem dX1_divide_23 : decode cX1_divide 23 = .ok (.invokestatic 9, 3) := by decide +kernel
theorem dX1_divide_26 : decode cX1_divide 26 = .ok (.lload 5, 2) := by decide +kernel
theorem dX1_divide_28 : decode cX1_divide 28 = .ok (.invokestatic 17, 3) := by decide +kernel
theorem dX1_divide_31 : decode cX1_divide 31 = .ok (.lreturn, 1) := by decide +kernel
abbrev cX1_wide : ByteArray := prog_2_method_2_code
def yX1_wide : MethodName := ⟨RX1, "wide", "(II)J"⟩
theorem dX1_wide_0 : decode cX1_wide 0 = .ok (.iload_n 0, 1) := by decide +kernel
theorem dX1_wide_1 : decode cX1_wide 1 = .ok (.i2l, 1) := by decide +kernel
theorem dX1_wide_2 : decode cX1_wide 2 = .ok (.bipush 32, 2) := by decide +kernel
theorem dX1_wide_4 : decode cX1_wide 4 = .ok (.lshl, 1) := by decide +kernel
theorem dX1_wide_5 : decode cX1_wide 5 = .ok (.iload_n 1, 1) := by decide +kernel
theorem dX1_wide_6 : decode cX1_wide 6 = .ok (.i2l, 1) := by decide +kernel
theorem dX1_wide_7 : decode cX1_wide 7 = .ok (.ldc2_w 7, 3) := by decide +kernel
theorem dX1_wide_10 : decode cX1_wide 10 = .ok (.land, 1) := by decide +kernel
theorem dX1_wide_11 : decode cX1_wide 11 = .ok (.lor, 1) := by decide +kernel
theorem dX1_wide_12 : decode cX1_wide 12 = .ok (.lreturn, 1) := by decide +kernel
abbrev cX1_remainder : ByteArray := prog_2_method_4_code
def yX1_remainder : MethodName := ⟨RX1, "remainder", "(IIII)J"⟩
theorem dX1_remainder_0 : decode cX1_remainder 0 = .ok (.iload_n 3, 1) := by decide +kernel
theorem dX1_remainder_1 : decode cX1_remainder 1 = .ok (.iload 4, 2) := by decide +kernel
theorem dX1_remainder_3 : decode cX1_remainder 3 = .ok (.invokestatic 9, 3) := by decide +kernel
theorem dX1_remainder_6 : decode cX1_remainder 6 = .ok (.lstore 5, 2) := by decide +kernel
theorem dX1_remainder_8 : decode cX1_remainder 8 = .ok (.lload 5, 2) := by decide +kernel
theorem dX1_remainder_10 : decode cX1_remainder 10 = .ok (.lconst 0, 1) := by decide +kernel
theorem dX1_remainder_11 : decode cX1_remainder 11 = .ok (.lcmp, 1) := by decide +kernel
theorem dX1_remainder_12 : decode cX1_remainder 12 = .ok (.ifCond .ne 9, 3) := by decide +kernel
theorem dX1_remainder_15 : decode cX1_remainder 15 = .ok (.ldc2_w 15, 3) := by decide +kernel
theorem dX1_remainder_18 : decode cX1_remainder 18 = .ok (.goto 13, 3) := by decide +kernel
theorem dX1_remainder_21 : decode cX1_remainder 21 = .ok (.iload_n 1, 1) := by decide +kernel
theorem dX1_remainder_22 : decode cX1_remainder 22 = .ok (.iload_n 2, 1) := by decide +kernel
theorem dX1_remainder_23 : decode cX1_remainder 23 = .ok (.invokestatic 9, 3) := by decide +kernel
theorem dX1_remainder_26 : decode cX1_remainder 26 = .ok (.lload 5, 2) := by decide +kernel
theorem dX1_remainder_28 : decode cX1_remainder 28 = .ok (.invokestatic 23, 3) := by decide +kernel
theorem dX1_remainder_31 : decode cX1_remainder 31 = .ok (.lreturn, 1) := by decide +kernel
abbrev cX1_compare : ByteArray := prog_2_method_5_code
def yX1_compare : MethodName := ⟨RX1, "compare", "(IIII)I"⟩
theorem dX1_compare_0 : decode cX1_compare 0 = .ok (.iload_n 1, 1) := by decide +kernel
theorem dX1_compare_1 : decode cX1_compare 1 = .ok (.iload_n 2, 1) := by decide +kernel
theorem dX1_compare_2 : decode cX1_compare 2 = .ok (.invokestatic 9, 3) := by decide +kernel
theorem dX1_compare_5 : decode cX1_compare 5 = .ok (.iload_n 3, 1) := by decide +kernel
theorem dX1_compare_6 : decode cX1_compare 6 = .ok (.iload 4, 2) := by decide +kernel
theorem dX1_compare_8 : decode cX1_compare 8 = .ok (.invokestatic 9, 3) := by decide +kernel
theorem dX1_compare_11 : decode cX1_compare 11 = .ok (.invokestatic 26, 3) := by decide +kernel
theorem dX1_compare_14 : decode cX1_compare 14 = .ok (.istore 5, 2) := by decide +kernel
theorem dX1_compare_16 : decode cX1_compare 16 = .ok (.iload 5, 2) := by decide +kernel
theorem dX1_compare_18 : decode cX1_compare 18 = .ok (.ifCond .ge 7, 3) := by decide +kernel
theorem dX1_compare_21 : decode cX1_compare 21 = .ok (.iconst (-1), 1) := by decide +kernel
theorem dX1_compare_22 : decode cX1_compare 22 = .ok (.goto 13, 3) := by decide +kernel
theorem dX1_compare_25 : decode cX1_compare 25 = .ok (.iload 5, 2) := by decide +kernel
theorem dX1_compare_27 : decode cX1_compare 27 = .ok (.ifCond .le 7, 3) := by decide +kernel
theorem dX1_compare_30 : decode cX1_compare 30 = .ok (.iconst 1, 1) := by decide +kernel
theorem dX1_compare_31 : decode cX1_compare 31 = .ok (.goto 4, 3) := by decide +kernel
theorem dX1_compare_34 : decode cX1_compare 34 = .ok (.iconst 0, 1) := by decide +kernel
theorem dX1_compare_35 : decode cX1_compare 35 = .ok (.ireturn, 1) := by decide +kernel
set_option maxRecDepth 100000 in
theorem q1 : (Jvm.Cond.initialized "UnsignedDesk") ∈ lw_all := lw_g (lw_at lw_m0 1 rfl) rfl
set_option maxRecDepth 100000 in
theorem q6 : (Jvm.Cond.instantiable "UnsignedDesk" (0 : Nat)) ∈ lw_all := lw_g (lw_at lw_m0 6 rfl) rfl
set_option maxRecDepth 100000 in
theorem q8 : (Jvm.Cond.instanceMethod ({ cls := "UnsignedDesk", name := "<init>", desc := "()V" } : Jvm.MethodName)) ∈ lw_all := lw_g (lw_at lw_m0 8 rfl) rfl
set_option maxRecDepth 100000 in
theorem q9 : (Jvm.Cond.code ({ cls := "UnsignedDesk", name := "<init>", desc := "()V" } : Jvm.MethodName) prog_2_method_1_code (1 : Nat) (Option.none : Option Jvm.ClassFile.FieldType)) ∈ lw_all := lw_g (lw_at lw_m0 9 rfl) rfl
set_option maxRecDepth 100000 in
theorem q10 : (Jvm.Cond.methodLink "UnsignedDesk" (1 : Nat) ({ cls := "java/lang/Object", name := "<init>", desc := "()V" } : Jvm.MethodName)) ∈ lw_all := lw_g (lw_at lw_m0 10 rfl) rfl
set_option maxRecDepth 100000 in
theorem q13 : (Jvm.Cond.superclass "UnsignedDesk" "java/lang/Object") ∈ lw_all := lw_g (lw_at lw_m0 13 rfl) rfl
set_option maxRecDepth 100000 in
theorem q15 : (Jvm.Cond.instanceMethod ({ cls := "UnsignedDesk", name := "divide", desc := "(IIII)J" } : Jvm.MethodName)) ∈ lw_all := lw_g (lw_at lw_m0 15 rfl) rfl
set_option maxRecDepth 100000 in
theorem q16 : (Jvm.Cond.selects "UnsignedDesk" ({ cls := "UnsignedDesk", name := "divide", desc := "(IIII)J" } : Jvm.MethodName) ({ cls := "UnsignedDesk", name := "divide", desc := "(IIII)J" } : Jvm.MethodName)) ∈ lw_all := lw_g (lw_at lw_m0 16 rfl) rfl
set_option maxRecDepth 100000 in
theorem q17 : (Jvm.Cond.code ({ cls := "UnsignedDesk", name := "divide", desc := "(IIII)J" } : Jvm.MethodName) prog_2_method_3_code (7 : Nat) (Option.some Jvm.ClassFile.FieldType.long)) ∈ lw_all := lw_g (lw_at lw_m0 17 rfl) rfl
set_option maxRecDepth 100000 in
theorem q18 : (Jvm.Cond.methodLink "UnsignedDesk" (9 : Nat) ({ cls := "UnsignedDesk", name := "wide", desc := "(II)J" } : Jvm.MethodName)) ∈ lw_all := lw_g (lw_at lw_m0 18 rfl) rfl
set_option maxRecDepth 100000 in
theorem q19 : (Jvm.Cond.static ({ cls := "UnsignedDesk", name := "wide", desc := "(II)J" } : Jvm.MethodName)) ∈ lw_all := lw_g (lw_at lw_m0 19 rfl) rfl
set_option maxRecDepth 100000 in
theorem q20 : (Jvm.Cond.code ({ cls := "UnsignedDesk", name := "wide", desc := "(II)J" } : Jvm.MethodName) prog_2_method_2_code (2 : Nat) (Option.some Jvm.ClassFile.FieldType.long)) ∈ lw_all := lw_g (lw_at lw_m0 20 rfl) rfl
set_option maxRecDepth 100000 in
theorem q21 : (Jvm.Cond.constantLong "UnsignedDesk" (7 : Nat) (4294967295 : Int64)) ∈ lw_all := lw_g (lw_at lw_m0 21 rfl) rfl
set_option maxRecDepth 100000 in
theorem q22 : (Jvm.Cond.constantLong "UnsignedDesk" (15 : Nat) (-1 : Int64)) ∈ lw_all := lw_g (lw_at lw_m0 22 rfl) rfl
set_option maxRecDepth 100000 in
theorem q23 : (Jvm.Cond.methodLink "UnsignedDesk" (17 : Nat) ({ cls := "UnsignedLongs", name := "divide", desc := "(JJ)J" } : Jvm.MethodName)) ∈ lw_all := lw_g (lw_at lw_m0 23 rfl) rfl
set_option maxRecDepth 100000 in
theorem q40 : (Jvm.Cond.instanceMethod ({ cls := "UnsignedDesk", name := "remainder", desc := "(IIII)J" } : Jvm.MethodName)) ∈ lw_all := lw_g (lw_at lw_m0 40 rfl) rfl
set_option maxRecDepth 100000 in
theorem q41 : (Jvm.Cond.selects "UnsignedDesk" ({ cls := "UnsignedDesk", name := "remainder", desc := "(IIII)J" } : Jvm.MethodName) ({ cls := "UnsignedDesk", name := "remainder", desc := "(IIII)J" } : Jvm.MethodName)) ∈ lw_all := lw_g (lw_at lw_m0 41 rfl) rfl
set_option maxRecDepth 100000 in
theorem q42 : (Jvm.Cond.code ({ cls := "UnsignedDesk", name := "remainder", desc := "(IIII)J" } : Jvm.MethodName) prog_2_method_4_code (7 : Nat) (Option.some Jvm.ClassFile.FieldType.long)) ∈ lw_all := lw_g (lw_at lw_m0 42 rfl) rfl
set_option maxRecDepth 100000 in
theorem q43 : (Jvm.Cond.methodLink "UnsignedDesk" (23 : Nat) ({ cls := "UnsignedLongs", name := "remainder", desc := "(JJ)J" } : Jvm.MethodName)) ∈ lw_all := lw_g (lw_at lw_m0 43 rfl) rfl
set_option maxRecDepth 100000 in
theorem q47 : (Jvm.Cond.instanceMethod ({ cls := "UnsignedDesk", name := "compare", desc := "(IIII)I" } : Jvm.MethodName)) ∈ lw_all := lw_g (lw_at lw_m0 47 rfl) rfl
set_option maxRecDepth 100000 in
theorem q48 : (Jvm.Cond.selects "UnsignedDesk" ({ cls := "UnsignedDesk", name := "compare", desc := "(IIII)I" } : Jvm.MethodName) ({ cls := "UnsignedDesk", name := "compare", desc := "(IIII)I" } : Jvm.MethodName)) ∈ lw_all := lw_g (lw_at lw_m0 48 rfl) rfl
set_option maxRecDepth 100000 in
theorem q49 : (Jvm.Cond.code ({ cls := "UnsignedDesk", name := "compare", desc := "(IIII)I" } : Jvm.MethodName) prog_2_method_5_code (6 : Nat) (Option.some Jvm.ClassFile.FieldType.int)) ∈ lw_all := lw_g (lw_at lw_m0 49 rfl) rfl
set_option maxRecDepth 100000 in
theorem q50 : (Jvm.Cond.methodLink "UnsignedDesk" (26 : Nat) ({ cls := "UnsignedLongs", name := "compare", desc := "(JJ)I" } : Jvm.MethodName)) ∈ lw_all := lw_g (lw_at lw_m0 50 rfl) rfl
/-! UnsignedDeskLaw -/
def RX0 : String := "UnsignedDeskLaw"
abbrev cX0_cell : ByteArray := method_2_code
def yX0_cell : MethodName := ⟨RX0, "cell", "([II)I"⟩
theorem dX0_cell_0 : decode cX0_cell 0 = .ok (.iload_n 1, 1) := by decide +kernel
theorem dX0_cell_1 : decode cX0_cell 1 = .ok (.aload_n 0, 1) := by decide +kernel
theorem dX0_cell_2 : decode cX0_cell 2 = .ok (.arraylength, 1) := by decide +kernel
theorem dX0_cell_3 : decode cX0_cell 3 = .ok (.if_icmp .ge 9, 3) := by decide +kernel
theorem dX0_cell_6 : decode cX0_cell 6 = .ok (.aload_n 0, 1) := by decide +kernel
theorem dX0_cell_7 : decode cX0_cell 7 = .ok (.iload_n 1, 1) := by decide +kernel
theorem dX0_cell_8 : decode cX0_cell 8 = .ok (.iaload, 1) := by decide +kernel
theorem dX0_cell_9 : decode cX0_cell 9 = .ok (.goto 4, 3) := by decide +kernel
theorem dX0_cell_12 : decode cX0_cell 12 = .ok (.iconst 0, 1) := by decide +kernel
theorem dX0_cell_13 : decode cX0_cell 13 = .ok (.ireturn, 1) := by decide +kernel
abbrev cX0_sign : ByteArray := method_3_code
def yX0_sign : MethodName := ⟨RX0, "sign", "(JJ)I"⟩
theorem dX0_sign_0 : decode cX0_sign 0 = .ok (.lload_n 0, 1) := by decide +kernel
theorem dX0_sign_1 : decode cX0_sign 1 = .ok (.ldc2_w 9, 3) := by decide +kernel
theorem dX0_sign_4 : decode cX0_sign 4 = .ok (.lxor, 1) := by decide +kernel
theorem dX0_sign_5 : decode cX0_sign 5 = .ok (.lstore 4, 2) := by decide +kernel
theorem dX0_sign_7 : decode cX0_sign 7 = .ok (.lload_n 2, 1) := by decide +kernel
theorem dX0_sign_8 : decode cX0_sign 8 = .ok (.ldc2_w 9, 3) := by decide +kernel
theorem dX0_sign_11 : decode cX0_sign 11 = .ok (.lxor, 1) := by decide +kernel
theorem dX0_sign_12 : decode cX0_sign 12 = .ok (.lstore 6, 2) := by decide +kernel
theorem dX0_sign_14 : decode cX0_sign 14 = .ok (.lload 4, 2) := by decide +kernel
theorem dX0_sign_16 : decode cX0_sign 16 = .ok (.lload 6, 2) := by decide +kernel
theorem dX0_sign_18 : decode cX0_sign 18 = .ok (.lcmp, 1) := by decide +kernel
theorem dX0_sign_19 : decode cX0_sign 19 = .ok (.ifCond .ge 7, 3) := by decide +kernel
theorem dX0_sign_22 : decode cX0_sign 22 = .ok (.iconst (-1), 1) := by decide +kernel
theorem dX0_sign_23 : decode cX0_sign 23 = .ok (.goto 16, 3) := by decide +kernel
theorem dX0_sign_26 : decode cX0_sign 26 = .ok (.lload 4, 2) := by decide +kernel
theorem dX0_sign_28 : decode cX0_sign 28 = .ok (.lload 6, 2) := by decide +kernel
theorem dX0_sign_30 : decode cX0_sign 30 = .ok (.lcmp, 1) := by decide +kernel
theorem dX0_sign_31 : decode cX0_sign 31 = .ok (.ifCond .le 7, 3) := by decide +kernel
theorem dX0_sign_34 : decode cX0_sign 34 = .ok (.iconst 1, 1) := by decide +kernel
theorem dX0_sign_35 : decode cX0_sign 35 = .ok (.goto 4, 3) := by decide +kernel
theorem dX0_sign_38 : decode cX0_sign 38 = .ok (.iconst 0, 1) := by decide +kernel
theorem dX0_sign_39 : decode cX0_sign 39 = .ok (.ireturn, 1) := by decide +kernel
set_option maxRecDepth 100000 in
theorem q0 : (Jvm.Cond.initialized "UnsignedDeskLaw") ∈ lw_all := lw_g (lw_at lw_m0 0 rfl) rfl
set_option maxRecDepth 100000 in
theorem q5 : (Jvm.Cond.classLink "UnsignedDeskLaw" (19 : Nat) "UnsignedDesk") ∈ lw_all := lw_g (lw_at lw_m0 5 rfl) rfl
set_option maxRecDepth 100000 in
theorem q7 : (Jvm.Cond.methodLink "UnsignedDeskLaw" (21 : Nat) ({ cls := "UnsignedDesk", name := "<init>", desc := "()V" } : Jvm.MethodName)) ∈ lw_all := lw_g (lw_at lw_m0 7 rfl) rfl
set_option maxRecDepth 100000 in
theorem q14 : (Jvm.Cond.methodLink "UnsignedDeskLaw" (30 : Nat) ({ cls := "UnsignedDesk", name := "divide", desc := "(IIII)J" } : Jvm.MethodName)) ∈ lw_all := lw_g (lw_at lw_m0 14 rfl) rfl
set_option maxRecDepth 100000 in
theorem q39 : (Jvm.Cond.methodLink "UnsignedDeskLaw" (36 : Nat) ({ cls := "UnsignedDesk", name := "remainder", desc := "(IIII)J" } : Jvm.MethodName)) ∈ lw_all := lw_g (lw_at lw_m0 39 rfl) rfl
set_option maxRecDepth 100000 in
theorem q46 : (Jvm.Cond.methodLink "UnsignedDeskLaw" (22 : Nat) ({ cls := "UnsignedDesk", name := "compare", desc := "(IIII)I" } : Jvm.MethodName)) ∈ lw_all := lw_g (lw_at lw_m0 46 rfl) rfl
set_option maxRecDepth 100000 in
theorem q51 : (Jvm.Cond.methodLink "UnsignedDeskLaw" (11 : Nat) ({ cls := "UnsignedDeskLaw", name := "cell", desc := "([II)I" } : Jvm.MethodName)) ∈ lw_all := lw_g (lw_at lw_m0 51 rfl) rfl
set_option maxRecDepth 100000 in
theorem q52 : (Jvm.Cond.static ({ cls := "UnsignedDeskLaw", name := "cell", desc := "([II)I" } : Jvm.MethodName)) ∈ lw_all := lw_g (lw_at lw_m0 52 rfl) rfl
set_option maxRecDepth 100000 in
theorem q53 : (Jvm.Cond.code ({ cls := "UnsignedDeskLaw", name := "cell", desc := "([II)I" } : Jvm.MethodName) method_2_code (2 : Nat) (Option.some Jvm.ClassFile.FieldType.int)) ∈ lw_all := lw_g (lw_at lw_m0 53 rfl) rfl
set_option maxRecDepth 100000 in
theorem q54 : (Jvm.Cond.methodLink "UnsignedDeskLaw" (26 : Nat) ({ cls := "UnsignedDeskLaw", name := "sign", desc := "(JJ)I" } : Jvm.MethodName)) ∈ lw_all := lw_g (lw_at lw_m0 54 rfl) rfl
set_option maxRecDepth 100000 in
theorem q55 : (Jvm.Cond.static ({ cls := "UnsignedDeskLaw", name := "sign", desc := "(JJ)I" } : Jvm.MethodName)) ∈ lw_all := lw_g (lw_at lw_m0 55 rfl) rfl
set_option maxRecDepth 100000 in
theorem q56 : (Jvm.Cond.code ({ cls := "UnsignedDeskLaw", name := "sign", desc := "(JJ)I" } : Jvm.MethodName) method_3_code (8 : Nat) (Option.some Jvm.ClassFile.FieldType.int)) ∈ lw_all := lw_g (lw_at lw_m0 56 rfl) rfl
set_option maxRecDepth 100000 in
theorem q57 : (Jvm.Cond.constantLong "UnsignedDeskLaw" (9 : Nat) (-9223372036854775808 : Int64)) ∈ lw_all := lw_g (lw_at lw_m0 57 rfl) rfl
set_option maxRecDepth 100000 in
theorem q58 : (Jvm.Cond.constantLong "UnsignedDeskLaw" (17 : Nat) (4294967295 : Int64)) ∈ lw_all := lw_g (lw_at lw_m0 58 rfl) rfl
set_option maxRecDepth 100000 in
theorem q59 : (Jvm.Cond.constantLong "UnsignedDeskLaw" (34 : Nat) (-1 : Int64)) ∈ lw_all := lw_g (lw_at lw_m0 59 rfl) rfl
end
section
/-- the long of two ints -/
def ud_wide (h k : Int32) : Int64 := (h.toInt64 <<< ((32 : Int32).toInt64 &&& 63)) ||| (k.toInt64 &&& 4294967295)
set_option maxHeartbeats 4000000 in
set_option maxRecDepth 100000 in
/-- wide: the long of two ints -/
theorem ct_X1_wide (l : Launch) (h k : Int32) : Met l yX1_wide (ws_ yX1_wide cX1_wide 2 (some .long)) ({ frames := 0, cells := 0, slots := 0, locals := 0 }) (fun v _ => v = ([.int h, .int k] : List Value).toArray) (vp_Sl (fun r => r = ud_wide h k)) 0 0 (fun _ => False) := by
  refine Met.ofW (cc := cX1_wide) (maxL := 2) (ret := (some .long)) (by decide) rfl ?_
  intro p e s m args below meth c s₁ B hml hv
  have hv : args = ([.int h, .int k] : List Value).toArray := hv
  subst hv
  have hx := B.exec
  have hb := B.bytes
  have hr := B.returns
  have hlocks := B.notSynchronized
  have hts := atoms_spec (ws := ws_ yX1_wide cX1_wide 2 (some .long)) B.pre
  have hts : ∀ w ∈ lw_all, w.before _ s = true := fun w h => hts w (List.mem_cons_of_mem _ h)
  have hown : s.vm.findClass RX1 = some m.cls := findClass_of_methodNamed B.named
  have hl := lv_entry ([.int h, .int k]) (n := 2) (Nat.le_of_ble_eq_true rfl)
  rw [lg_entry_eq]
  generalize (lg_sl ([.int h, .int k]) ++ List.replicate (2 - (lg_sl ([.int h, .int k])).length) Slot.unset).toArray = ls at hl ⊢
  have hl : lv_has ls 2 [(0, .int h), (1, .int k)] := hl
  refine lv_iload_n hx hb dX1_wide_0 rfl (lv_at hl 0 rfl) ?_
  refine lv_i2l hx hb dX1_wide_1 rfl ?_
  refine lv_bipush (v := 32) hx hb dX1_wide_2 (by decide) ?_
  refine lv_lshl hx hb dX1_wide_4 rfl ?_
  refine lv_iload_n hx hb dX1_wide_5 rfl (lv_at hl 1 rfl) ?_
  refine lv_i2l hx hb dX1_wide_6 rfl ?_
  refine lv_ldc2 hx hb hown (hts _ q21) dX1_wide_7 ?_
  refine lv_land hx hb dX1_wide_10 ?_
  refine lv_lor hx hb dX1_wide_11 ?_
  refine lv_topl (fun ww ew => ?_)
  exact W.lret (v := ww) hx hb hr (fun t ht hW => ⟨_, rfl, ew, ht⟩) (fun q h => by cases h) dX1_wide_12
set_option maxHeartbeats 4000000 in
set_option maxRecDepth 100000 in
/-- UnsignedDesk(): nothing -/
theorem ct_X1_init (l : Launch) (h0 : Nat) : Met l yX1_init (ws_ yX1_init cX1_init 1 none) ({ frames := 1, cells := 0, slots := 0, locals := 12 }) (fun v _ => v = ([.ref h0] : List Value).toArray) (va_Sv (fun _ => True)) 0 0 (fun _ => False) := by
  refine Met.ofW (cc := cX1_init) (maxL := 1) (ret := none) (by decide) rfl ?_
  intro p e s m args below meth c s₁ B hml hv
  have hv : args = ([.ref h0] : List Value).toArray := hv
  subst hv
  have hx := B.exec
  have hb := B.bytes
  have hr := B.returns
  have hlocks := B.notSynchronized
  have hts := atoms_spec (ws := ws_ yX1_init cX1_init 1 none) B.pre
  have hts : ∀ w ∈ lw_all, w.before _ s = true := fun w h => hts w (List.mem_cons_of_mem _ h)
  have hown : s.vm.findClass RX1 = some m.cls := findClass_of_methodNamed B.named
  have hl := lv_entry ([.ref h0]) (n := 1) (Nat.le_of_ble_eq_true rfl)
  rw [lg_entry_eq]
  generalize (lg_sl ([.ref h0]) ++ List.replicate (1 - (lg_sl ([.ref h0])).length) Slot.unset).toArray = ls at hl ⊢
  have hl : lv_has ls 1 [(0, .ref h0)] := hl
  refine lv_aload_n hx hb dX1_init_0 rfl (lv_at hl 0 rfl) ?_
  refine W.objInit hx hb hown (hts _ q10) (hts _ q11) (hts _ q12) rfl (by rw [hml]; exact hl.1) rfl dX1_init_1 (Nat.le_of_ble_eq_true rfl) (Nat.le_of_ble_eq_true rfl) ?_
  refine W.eq (g2 := F0 m 4 ls []) rfl ?_
  exact W.vret hx hb hr (fun t ht hW => ⟨rfl, trivial, ht⟩) (fun q h => by cases h) dX1_init_4
set_option maxHeartbeats 4000000 in
set_option maxRecDepth 100000 in
/-- UnsignedDesk.compare: the order of the two -/
theorem ct_X1_compare (l : Launch) (h0 : Nat) (i1 i2 i3 i4 : Int32) : Met l yX1_compare (ws_ yX1_compare cX1_compare 6 (some .int)) ({ frames := 3, cells := 0, slots := 0, locals := 69 }) (fun v _ => v = ([.ref h0, .int i1, .int i2, .int i3, .int i4] : List Value).toArray) (vp_Si (fun r => r = ud_cmp (ud_wide i1 i2) (ud_wide i3 i4))) 0 0 (fun _ => False) := by
  refine Met.ofW (cc := cX1_compare) (maxL := 6) (ret := (some .int)) (by decide) rfl ?_
  intro p e s m args below meth c s₁ B hml hv
  have hv : args = ([.ref h0, .int i1, .int i2, .int i3, .int i4] : List Value).toArray := hv
  subst hv
  have hx := B.exec
  have hb := B.bytes
  have hr := B.returns
  have hlocks := B.notSynchronized
  have hts := atoms_spec (ws := ws_ yX1_compare cX1_compare 6 (some .int)) B.pre
  have hts : ∀ w ∈ lw_all, w.before _ s = true := fun w h => hts w (List.mem_cons_of_mem _ h)
  have hown : s.vm.findClass RX1 = some m.cls := findClass_of_methodNamed B.named
  have hl := lv_entry ([.ref h0, .int i1, .int i2, .int i3, .int i4]) (n := 6) (Nat.le_of_ble_eq_true rfl)
  rw [lg_entry_eq]
  generalize (lg_sl ([.ref h0, .int i1, .int i2, .int i3, .int i4]) ++ List.replicate (6 - (lg_sl ([.ref h0, .int i1, .int i2, .int i3, .int i4])).length) Slot.unset).toArray = ls at hl ⊢
  have hl : lv_has ls 6 [(0, .ref h0), (1, .int i1), (2, .int i2), (3, .int i3), (4, .int i4)] := hl
  refine lv_iload_n hx hb dX1_compare_0 rfl (lv_at hl 1 rfl) ?_
  refine lv_iload_n hx hb dX1_compare_1 rfl (lv_at hl 2 rfl) ?_
  refine vp_callSl (W.runS (As := [.int i1, .int i2]) (rest := []) ⟨hx, hb, hml, hown, hts⟩ (ct_X1_wide l i1 i2) (va_cwS 2 hts (lw_S q18 q19 q1 q20) rfl rfl rfl (by decide +kernel) ⟨Nat.le_of_ble_eq_true rfl, Nat.le_of_ble_eq_true rfl⟩) preEq rfl rfl hl.1 rfl (lv_room (Nat.le_of_ble_eq_true rfl)) dX1_compare_2 ⟨Nat.le_of_ble_eq_true rfl, Nat.le_of_ble_eq_true rfl⟩) (fun w1 ew1 => ?_)
  refine lv_iload_n hx hb dX1_compare_5 rfl (lv_at hl 3 rfl) ?_
  refine lv_iload hx hb dX1_compare_6 (lv_at hl 4 rfl) ?_
  refine vp_callSl (W.runS (As := [.int i3, .int i4]) (rest := [.long w1]) ⟨hx, hb, hml, hown, hts⟩ (ct_X1_wide l i3 i4) (va_cwS 2 hts (lw_S q18 q19 q1 q20) rfl rfl rfl (by decide +kernel) ⟨Nat.le_of_ble_eq_true rfl, Nat.le_of_ble_eq_true rfl⟩) preEq rfl rfl hl.1 rfl (lv_room (Nat.le_of_ble_eq_true rfl)) dX1_compare_8 ⟨Nat.le_of_ble_eq_true rfl, Nat.le_of_ble_eq_true rfl⟩) (fun w2 ew2 => ?_)
  refine vp_callSi (W.runS (As := [.long w1, .long w2]) (rest := []) ⟨hx, hb, hml, hown, hts⟩ (ct_X2_compare l w1 w2) (va_cwS 2 hts (lw_S q50 q27 q2 q28) rfl rfl rfl (by decide +kernel) ⟨Nat.le_of_ble_eq_true rfl, Nat.le_of_ble_eq_true rfl⟩) preEq rfl rfl hl.1 rfl (lv_room (Nat.le_of_ble_eq_true rfl)) dX1_compare_11 ⟨Nat.le_of_ble_eq_true rfl, Nat.le_of_ble_eq_true rfl⟩) (fun r1 er1 => ?_)
  rw [ew1, ew2] at er1
  have er3 := ud_cmp_three (ud_wide i1 i2) (ud_wide i3 i4)
  rw [← er1] at er3 ⊢
  refine lv_istore (lv' := [(5, .int r1), (0, .ref h0), (1, .int i1), (2, .int i2), (3, .int i3), (4, .int i4)]) hx hb dX1_compare_14 hl (by decide) rfl (fun ls hl => ?_)
  refine lv_iload hx hb dX1_compare_16 (lv_at hl 0 rfl) ?_
  refine lv_if_ge (tgt := 25) hx hb dX1_compare_18 (by decide) (fun c1 => ?_) (fun c1 => ?_)
  · refine lv_iload hx hb dX1_compare_25 (lv_at hl 0 rfl) ?_
    refine lv_if_le (tgt := 34) hx hb dX1_compare_27 (by decide) (fun c2 => ?_) (fun c2 => ?_)
    · refine lv_iconst (v := 0) hx hb dX1_compare_34 (by decide) ?_
      exact W.iret (v := 0) hx hb hr (fun t ht hW => ⟨_, rfl, ud_sg3 er3 c1 c2, ht⟩) (fun q h => by cases h) dX1_compare_35
    · refine lv_iconst (v := 1) hx hb dX1_compare_30 (by decide) ?_
      refine lv_goto (tgt := 35) hx hb dX1_compare_31 (by decide) ?_
      exact W.iret (v := 1) hx hb hr (fun t ht hW => ⟨_, rfl, ud_sg2 er3 c2, ht⟩) (fun q h => by cases h) dX1_compare_35
  · refine lv_iconst (v := -1) hx hb dX1_compare_21 (by decide) ?_
    refine lv_goto (tgt := 35) hx hb dX1_compare_22 (by decide) ?_
    exact W.iret (v := (-1)) hx hb hr (fun t ht hW => ⟨_, rfl, ud_sg1 er3 c1, ht⟩) (fun q h => by cases h) dX1_compare_35
set_option maxHeartbeats 4000000 in
set_option maxRecDepth 100000 in
/-- UnsignedDesk.divide: -1 for the divisor nought, else of the unsigned values -/
theorem ct_X1_divide (l : Launch) (h0 : Nat) (i1 i2 i3 i4 : Int32) : Met l yX1_divide (ws_ yX1_divide cX1_divide 7 (some .long)) ({ frames := 4, cells := 0, slots := 0, locals := 96 }) (fun v _ => v = ([.ref h0, .int i1, .int i2, .int i3, .int i4] : List Value).toArray) (vp_Sl (fun r => (ud_wide i3 i4 = 0 → r = -1) ∧ (¬ ud_wide i3 i4 = 0 → uN r = uN (ud_wide i1 i2) / uN (ud_wide i3 i4)))) 0 0 (fun _ => False) := by
  refine Met.ofW (cc := cX1_divide) (maxL := 7) (ret := (some .long)) (by decide) rfl ?_
  intro p e s m args below meth c s₁ B hml hv
  have hv : args = ([.ref h0, .int i1, .int i2, .int i3, .int i4] : List Value).toArray := hv
  subst hv
  have hx := B.exec
  have hb := B.bytes
  have hr := B.returns
  have hlocks := B.notSynchronized
  have hts := atoms_spec (ws := ws_ yX1_divide cX1_divide 7 (some .long)) B.pre
  have hts : ∀ w ∈ lw_all, w.before _ s = true := fun w h => hts w (List.mem_cons_of_mem _ h)
  have hown : s.vm.findClass RX1 = some m.cls := findClass_of_methodNamed B.named
  have hl := lv_entry ([.ref h0, .int i1, .int i2, .int i3, .int i4]) (n := 7) (Nat.le_of_ble_eq_true rfl)
  rw [lg_entry_eq]
  generalize (lg_sl ([.ref h0, .int i1, .int i2, .int i3, .int i4]) ++ List.replicate (7 - (lg_sl ([.ref h0, .int i1, .int i2, .int i3, .int i4])).length) Slot.unset).toArray = ls at hl ⊢
  have hl : lv_has ls 7 [(0, .ref h0), (1, .int i1), (2, .int i2), (3, .int i3), (4, .int i4)] := hl
  refine lv_iload_n hx hb dX1_divide_0 rfl (lv_at hl 3 rfl) ?_
  refine lv_iload hx hb dX1_divide_1 (lv_at hl 4 rfl) ?_
  refine vp_callSl (W.runS (As := [.int i3, .int i4]) (rest := []) ⟨hx, hb, hml, hown, hts⟩ (ct_X1_wide l i3 i4) (va_cwS 2 hts (lw_S q18 q19 q1 q20) rfl rfl rfl (by decide +kernel) ⟨Nat.le_of_ble_eq_true rfl, Nat.le_of_ble_eq_true rfl⟩) preEq rfl rfl hl.1 rfl (lv_room (Nat.le_of_ble_eq_true rfl)) dX1_divide_3 ⟨Nat.le_of_ble_eq_true rfl, Nat.le_of_ble_eq_true rfl⟩) (fun w2 ew2 => ?_)
  refine lv_lstore (lv' := [(5, .long w2), (0, .ref h0), (1, .int i1), (2, .int i2), (3, .int i3), (4, .int i4)]) hx hb dX1_divide_6 hl (by decide) rfl (fun ls hl => ?_)
  refine lv_lload hx hb dX1_divide_8 (lv_at hl 0 rfl) ?_
  refine lv_lconst (v := 0) hx hb dX1_divide_10 (by decide) ?_
  refine W.lcmp hx hb dX1_divide_11 ?_
  refine lv_if_ne (tgt := 21) hx hb dX1_divide_12 (by decide) (fun c1 => ?_) (fun c1 => ?_)
  · have c1 : ¬ w2 = 0 := fun h => c1 ((lg_cmp_eq w2 0).mpr h)
    refine lv_iload_n hx hb dX1_divide_21 rfl (lv_at hl 2 rfl) ?_
    refine lv_iload_n hx hb dX1_divide_22 rfl (lv_at hl 3 rfl) ?_
    refine vp_callSl (W.runS (As := [.int i1, .int i2]) (rest := []) ⟨hx, hb, hml, hown, hts⟩ (ct_X1_wide l i1 i2) (va_cwS 2 hts (lw_S q18 q19 q1 q20) rfl rfl rfl (by decide +kernel) ⟨Nat.le_of_ble_eq_true rfl, Nat.le_of_ble_eq_true rfl⟩) preEq rfl rfl hl.1 rfl (lv_room (Nat.le_of_ble_eq_true rfl)) dX1_divide_23 ⟨Nat.le_of_ble_eq_true rfl, Nat.le_of_ble_eq_true rfl⟩) (fun w1 ew1 => ?_)
    refine lv_lload hx hb dX1_divide_26 (lv_at hl 0 rfl) ?_
    refine vp_callSl (W.runS (As := [.long w1, .long w2]) (rest := []) ⟨hx, hb, hml, hown, hts⟩ (ct_X2_divide l w1 w2 c1) (va_cwS 2 hts (lw_S q23 q24 q2 q25) rfl rfl rfl (by decide +kernel) ⟨Nat.le_of_ble_eq_true rfl, Nat.le_of_ble_eq_true rfl⟩) preEq rfl rfl hl.1 rfl (lv_room (Nat.le_of_ble_eq_true rfl)) dX1_divide_28 ⟨Nat.le_of_ble_eq_true rfl, Nat.le_of_ble_eq_true rfl⟩) (fun r1 er1 => ?_)
    exact W.lret (v := r1) hx hb hr (fun t ht hW => ⟨_, rfl, ⟨fun h => absurd (ew2.trans h) c1, fun _ => by rw [er1, ew1, ew2]⟩, ht⟩) (fun q h => by cases h) dX1_divide_31
  · have c1 : w2 = 0 := (lg_cmp_eq w2 0).mp c1
    refine lv_ldc2 hx hb hown (hts _ q22) dX1_divide_15 ?_
    refine lv_goto (tgt := 31) hx hb dX1_divide_18 (by decide) ?_
    exact W.lret (v := (-1)) hx hb hr (fun t ht hW => ⟨_, rfl, ⟨fun _ => rfl, fun h => absurd (ew2.symm.trans c1) h⟩, ht⟩) (fun q h => by cases h) dX1_divide_31
set_option maxHeartbeats 4000000 in
set_option maxRecDepth 100000 in
/-- UnsignedDesk.remainder: -1 for the divisor nought, else of the unsigned values -/
theorem ct_X1_remainder (l : Launch) (h0 : Nat) (i1 i2 i3 i4 : Int32) : Met l yX1_remainder (ws_ yX1_remainder cX1_remainder 7 (some .long)) ({ frames := 4, cells := 0, slots := 0, locals := 96 }) (fun v _ => v = ([.ref h0, .int i1, .int i2, .int i3, .int i4] : List Value).toArray) (vp_Sl (fun r => (ud_wide i3 i4 = 0 → r = -1) ∧ (¬ ud_wide i3 i4 = 0 → uN r = uN (ud_wide i1 i2) % uN (ud_wide i3 i4)))) 0 0 (fun _ => False) := by
  refine Met.ofW (cc := cX1_remainder) (maxL := 7) (ret := (some .long)) (by decide) rfl ?_
  intro p e s m args below meth c s₁ B hml hv
  have hv : args = ([.ref h0, .int i1, .int i2, .int i3, .int i4] : List Value).toArray := hv
  subst hv
  have hx := B.exec
  have hb := B.bytes
  have hr := B.returns
  have hlocks := B.notSynchronized
  have hts := atoms_spec (ws := ws_ yX1_remainder cX1_remainder 7 (some .long)) B.pre
  have hts : ∀ w ∈ lw_all, w.before _ s = true := fun w h => hts w (List.mem_cons_of_mem _ h)
  have hown : s.vm.findClass RX1 = some m.cls := findClass_of_methodNamed B.named
  have hl := lv_entry ([.ref h0, .int i1, .int i2, .int i3, .int i4]) (n := 7) (Nat.le_of_ble_eq_true rfl)
  rw [lg_entry_eq]
  generalize (lg_sl ([.ref h0, .int i1, .int i2, .int i3, .int i4]) ++ List.replicate (7 - (lg_sl ([.ref h0, .int i1, .int i2, .int i3, .int i4])).length) Slot.unset).toArray = ls at hl ⊢
  have hl : lv_has ls 7 [(0, .ref h0), (1, .int i1), (2, .int i2), (3, .int i3), (4, .int i4)] := hl
  refine lv_iload_n hx hb dX1_remainder_0 rfl (lv_at hl 3 rfl) ?_
  refine lv_iload hx hb dX1_remainder_1 (lv_at hl 4 rfl) ?_
  refine vp_callSl (W.runS (As := [.int i3, .int i4]) (rest := []) ⟨hx, hb, hml, hown, hts⟩ (ct_X1_wide l i3 i4) (va_cwS 2 hts (lw_S q18 q19 q1 q20) rfl rfl rfl (by decide +kernel) ⟨Nat.le_of_ble_eq_true rfl, Nat.le_of_ble_eq_true rfl⟩) preEq rfl rfl hl.1 rfl (lv_room (Nat.le_of_ble_eq_true rfl)) dX1_remainder_3 ⟨Nat.le_of_ble_eq_true rfl, Nat.le_of_ble_eq_true rfl⟩) (fun w2 ew2 => ?_)
  refine lv_lstore (lv' := [(5, .long w2), (0, .ref h0), (1, .int i1), (2, .int i2), (3, .int i3), (4, .int i4)]) hx hb dX1_remainder_6 hl (by decide) rfl (fun ls hl => ?_)
  refine lv_lload hx hb dX1_remainder_8 (lv_at hl 0 rfl) ?_
  refine lv_lconst (v := 0) hx hb dX1_remainder_10 (by decide) ?_
  refine W.lcmp hx hb dX1_remainder_11 ?_
  refine lv_if_ne (tgt := 21) hx hb dX1_remainder_12 (by decide) (fun c1 => ?_) (fun c1 => ?_)
  · have c1 : ¬ w2 = 0 := fun h => c1 ((lg_cmp_eq w2 0).mpr h)
    refine lv_iload_n hx hb dX1_remainder_21 rfl (lv_at hl 2 rfl) ?_
    refine lv_iload_n hx hb dX1_remainder_22 rfl (lv_at hl 3 rfl) ?_
    refine vp_callSl (W.runS (As := [.int i1, .int i2]) (rest := []) ⟨hx, hb, hml, hown, hts⟩ (ct_X1_wide l i1 i2) (va_cwS 2 hts (lw_S q18 q19 q1 q20) rfl rfl rfl (by decide +kernel) ⟨Nat.le_of_ble_eq_true rfl, Nat.le_of_ble_eq_true rfl⟩) preEq rfl rfl hl.1 rfl (lv_room (Nat.le_of_ble_eq_true rfl)) dX1_remainder_23 ⟨Nat.le_of_ble_eq_true rfl, Nat.le_of_ble_eq_true rfl⟩) (fun w1 ew1 => ?_)
    refine lv_lload hx hb dX1_remainder_26 (lv_at hl 0 rfl) ?_
    refine vp_callSl (W.runS (As := [.long w1, .long w2]) (rest := []) ⟨hx, hb, hml, hown, hts⟩ (ct_X2_remainder l w1 w2 c1) (va_cwS 2 hts (lw_S q43 q44 q2 q45) rfl rfl rfl (by decide +kernel) ⟨Nat.le_of_ble_eq_true rfl, Nat.le_of_ble_eq_true rfl⟩) preEq rfl rfl hl.1 rfl (lv_room (Nat.le_of_ble_eq_true rfl)) dX1_remainder_28 ⟨Nat.le_of_ble_eq_true rfl, Nat.le_of_ble_eq_true rfl⟩) (fun r1 er1 => ?_)
    exact W.lret (v := r1) hx hb hr (fun t ht hW => ⟨_, rfl, ⟨fun h => absurd (ew2.trans h) c1, fun _ => by rw [er1, ew1, ew2]⟩, ht⟩) (fun q h => by cases h) dX1_remainder_31
  · have c1 : w2 = 0 := (lg_cmp_eq w2 0).mp c1
    refine lv_ldc2 hx hb hown (hts _ q22) dX1_remainder_15 ?_
    refine lv_goto (tgt := 31) hx hb dX1_remainder_18 (by decide) ?_
    exact W.lret (v := (-1)) hx hb hr (fun t ht hW => ⟨_, rfl, ⟨fun _ => rfl, fun h => absurd (ew2.symm.trans c1) h⟩, ht⟩) (fun q h => by cases h) dX1_remainder_31
set_option maxHeartbeats 4000000 in
set_option maxRecDepth 100000 in
/-- cell: some int (which one, the law does not need) -/
theorem ct_X0_cell (l : Launch) (b L : Nat) (xs : Nat → Int32) (k : Int32) (j : Nat) (hj : j < 4) (hk : k = nI j) (hL : L ≤ 4) : Met l yX0_cell (ws_ yX0_cell cX0_cell 2 (some .int)) ({ frames := 0, cells := 0, slots := 0, locals := 0 }) (va_Pc [.ref b, .int k] (fun U => va_X b L xs U U.heap)) (vp_Si (fun _ => True)) 0 0 (fun _ => False) := by
  refine Met.ofW (cc := cX0_cell) (maxL := 2) (ret := (some .int)) (by decide) rfl ?_
  intro p e s m args below meth c s₁ B hml hv
  obtain ⟨rfl, hX⟩ := hv
  have hx := B.exec
  have hb := B.bytes
  have hr := B.returns
  have hlocks := B.notSynchronized
  have hts := atoms_spec (ws := ws_ yX0_cell cX0_cell 2 (some .int)) B.pre
  have hts : ∀ w ∈ lw_all, w.before _ s = true := fun w h => hts w (List.mem_cons_of_mem _ h)
  have hown : s.vm.findClass RX0 = some m.cls := findClass_of_methodNamed B.named
  have hl := lv_entry ([.ref b, .int k]) (n := 2) (Nat.le_of_ble_eq_true rfl)
  rw [lg_entry_eq]
  generalize (lg_sl ([.ref b, .int k]) ++ List.replicate (2 - (lg_sl ([.ref b, .int k])).length) Slot.unset).toArray = ls at hl ⊢
  have hl : lv_has ls 2 [(0, .ref b), (1, .int k)] := hl
  have hbl : b < s.heap.size := by
    obtain ⟨scr, h1, -⟩ := hX
    exact (Array.getElem?_eq_some_iff.mp h1).1
  have hS : va_S (fun _ => False) s.heap s.heap [] := va_S.rf
  refine lv_iload_n hx hb dX0_cell_0 rfl (lv_at hl 1 rfl) ?_
  refine lv_aload_n hx hb dX0_cell_1 rfl (lv_at hl 0 rfl) ?_
  refine va_slen hx hb hX hbl (fun h => h) hS dX0_cell_2 ?_
  refine lv_icmp_ge (tgt := 12) hx hb dX0_cell_3 (by decide) (fun c1 => ?_) (fun c1 => ?_)
  · refine lv_iconst (v := 0) hx hb dX0_cell_12 (by decide) ?_
    exact W.iret (v := 0) hx hb hr (fun t ht hW => ⟨_, rfl, trivial, ht⟩) (fun q h => by cases h) dX0_cell_13
  · have hlt : j < L := by
      rcases Nat.lt_or_ge j L with h | h
      · exact h
      · exact absurd (by rw [hk]; exact nI_le h (by omega)) c1
    have hin : vp_in k L := by rw [hk]; exact vp_in_nI hlt (by omega)
    refine lv_aload_n hx hb dX0_cell_6 rfl (lv_at hl 0 rfl) ?_
    refine lv_iload_n hx hb dX0_cell_7 rfl (lv_at hl 1 rfl) ?_
    refine va_sld hx hb hX hbl (fun h => h) hS hin dX0_cell_8 ?_
    refine lv_goto (tgt := 13) hx hb dX0_cell_9 (by decide) ?_
    exact W.iret (v := (xs k.toNatClampNeg)) hx hb hr (fun t ht hW => ⟨_, rfl, trivial, ht⟩) (fun q h => by cases h) dX0_cell_13
set_option maxHeartbeats 4000000 in
set_option maxRecDepth 100000 in
/-- sign: the order of the unsigned values -/
theorem ct_X0_sign (l : Launch) (a b : Int64) : Met l yX0_sign (ws_ yX0_sign cX0_sign 8 (some .int)) ({ frames := 0, cells := 0, slots := 0, locals := 0 }) (fun v _ => v = ([.long a, .long b] : List Value).toArray) (vp_Si (fun r => r = ud_cmp a b)) 0 0 (fun _ => False) := by
  refine Met.ofW (cc := cX0_sign) (maxL := 8) (ret := (some .int)) (by decide) rfl ?_
  intro p e s m args below meth c s₁ B hml hv
  have hv : args = ([.long a, .long b] : List Value).toArray := hv
  subst hv
  have hx := B.exec
  have hb := B.bytes
  have hr := B.returns
  have hlocks := B.notSynchronized
  have hts := atoms_spec (ws := ws_ yX0_sign cX0_sign 8 (some .int)) B.pre
  have hts : ∀ w ∈ lw_all, w.before _ s = true := fun w h => hts w (List.mem_cons_of_mem _ h)
  have hown : s.vm.findClass RX0 = some m.cls := findClass_of_methodNamed B.named
  have hl := lv_entry ([.long a, .long b]) (n := 8) (Nat.le_of_ble_eq_true rfl)
  rw [lg_entry_eq]
  generalize (lg_sl ([.long a, .long b]) ++ List.replicate (8 - (lg_sl ([.long a, .long b])).length) Slot.unset).toArray = ls at hl ⊢
  have hl : lv_has ls 8 [(0, .long a), (2, .long b)] := hl
  refine lv_lload_n hx hb dX0_sign_0 rfl (lv_at hl 0 rfl) ?_
  refine lv_ldc2 hx hb hown (hts _ q57) dX0_sign_1 ?_
  refine lv_lxor hx hb dX0_sign_4 ?_
  refine lv_topl (fun f1 ef1 => ?_)
  refine lv_lstore (lv' := [(4, .long f1), (0, .long a), (2, .long b)]) hx hb dX0_sign_5 hl (by decide) rfl (fun ls hl => ?_)
  refine lv_lload_n hx hb dX0_sign_7 rfl (lv_at hl 2 rfl) ?_
  refine lv_ldc2 hx hb hown (hts _ q57) dX0_sign_8 ?_
  refine lv_lxor hx hb dX0_sign_11 ?_
  refine lv_topl (fun f2 ef2 => ?_)
  have er3 := ud_cmp_three a b
  have e5 : lg_cmp f1 f2 = ud_cmp a b := by rw [ef1, ef2]; exact ud_flip a b
  refine lv_lstore (lv' := [(6, .long f2), (4, .long f1), (0, .long a), (2, .long b)]) hx hb dX0_sign_12 hl (by decide) rfl (fun ls hl => ?_)
  refine lv_lload hx hb dX0_sign_14 (lv_at hl 1 rfl) ?_
  refine lv_lload hx hb dX0_sign_16 (lv_at hl 0 rfl) ?_
  refine W.lcmp hx hb dX0_sign_18 ?_
  rw [e5]
  refine lv_if_ge (tgt := 26) hx hb dX0_sign_19 (by decide) (fun c1 => ?_) (fun c1 => ?_)
  · refine lv_lload hx hb dX0_sign_26 (lv_at hl 1 rfl) ?_
    refine lv_lload hx hb dX0_sign_28 (lv_at hl 0 rfl) ?_
    refine W.lcmp hx hb dX0_sign_30 ?_
    rw [e5]
    refine lv_if_le (tgt := 38) hx hb dX0_sign_31 (by decide) (fun c2 => ?_) (fun c2 => ?_)
    · refine lv_iconst (v := 0) hx hb dX0_sign_38 (by decide) ?_
      exact W.iret (v := 0) hx hb hr (fun t ht hW => ⟨_, rfl, ud_sg3 er3 c1 c2, ht⟩) (fun q h => by cases h) dX0_sign_39
    · refine lv_iconst (v := 1) hx hb dX0_sign_34 (by decide) ?_
      refine lv_goto (tgt := 39) hx hb dX0_sign_35 (by decide) ?_
      exact W.iret (v := 1) hx hb hr (fun t ht hW => ⟨_, rfl, ud_sg2 er3 c2, ht⟩) (fun q h => by cases h) dX0_sign_39
  · refine lv_iconst (v := -1) hx hb dX0_sign_22 (by decide) ?_
    refine lv_goto (tgt := 39) hx hb dX0_sign_23 (by decide) ?_
    exact W.iret (v := (-1)) hx hb hr (fun t ht hW => ⟨_, rfl, ud_sg1 er3 c1, ht⟩) (fun q h => by cases h) dX0_sign_39
end
section
/-! the law's own entry -/
abbrev cL_law : ByteArray := code
theorem dL_law_0 : decode cL_law 0 = .ok (.aload_n 0, 1) := by decide +kernel
theorem dL_law_1 : decode cL_law 1 = .ok (.iconst 0, 1) := by decide +kernel
theorem dL_law_2 : decode cL_law 2 = .ok (.invokestatic 11, 3) := by decide +kernel
theorem dL_law_5 : decode cL_law 5 = .ok (.istore_n 1, 1) := by decide +kernel
theorem dL_law_6 : decode cL_law 6 = .ok (.aload_n 0, 1) := by decide +kernel
theorem dL_law_7 : decode cL_law 7 = .ok (.iconst 1, 1) := by decide +kernel
theorem dL_law_8 : decode cL_law 8 = .ok (.invokestatic 11, 3) := by decide +kernel
theorem dL_law_11 : decode cL_law 11 = .ok (.istore_n 2, 1) := by decide +kernel
theorem dL_law_12 : decode cL_law 12 = .ok (.aload_n 0, 1) := by decide +kernel
theorem dL_law_13 : decode cL_law 13 = .ok (.iconst 2, 1) := by decide +kernel
theorem dL_law_14 : decode cL_law 14 = .ok (.invokestatic 11, 3) := by decide +kernel
theorem dL_law_17 : decode cL_law 17 = .ok (.istore_n 3, 1) := by decide +kernel
theorem dL_law_18 : decode cL_law 18 = .ok (.aload_n 0, 1) := by decide +kernel
theorem dL_law_19 : decode cL_law 19 = .ok (.iconst 3, 1) := by decide +kernel
theorem dL_law_20 : decode cL_law 20 = .ok (.invokestatic 11, 3) := by decide +kernel
theorem dL_law_23 : decode cL_law 23 = .ok (.istore 4, 2) := by decide +kernel
theorem dL_law_25 : decode cL_law 25 = .ok (.iload_n 1, 1) := by decide +kernel
theorem dL_law_26 : decode cL_law 26 = .ok (.i2l, 1) := by decide +kernel
theorem dL_law_27 : decode cL_law 27 = .ok (.bipush 32, 2) := by decide +kernel
theorem dL_law_29 : decode cL_law 29 = .ok (.lshl, 1) := by decide +kernel
theorem dL_law_30 : decode cL_law 30 = .ok (.iload_n 2, 1) := by decide +kernel
theorem dL_law_31 : decode cL_law 31 = .ok (.i2l, 1) := by decide +kernel
theorem dL_law_32 : decode cL_law 32 = .ok (.ldc2_w 17, 3) := by decide +kernel
theorem dL_law_35 : decode cL_law 35 = .ok (.land, 1) := by decide +kernel
theorem dL_law_36 : decode cL_law 36 = .ok (.lor, 1) := by decide +kernel
theorem dL_law_37 : decode cL_law 37 = .ok (.lstore 5, 2) := by decide +kernel
theorem dL_law_39 : decode cL_law 39 = .ok (.iload_n 3, 1) := by decide +kernel
theorem dL_law_40 : decode cL_law 40 = .ok (.i2l, 1) := by decide +kernel
theorem dL_law_41 : decode cL_law 41 = .ok (.bipush 32, 2) := by decide +kernel
theorem dL_law_43 : decode cL_law 43 = .ok (.lshl, 1) := by decide +kernel
theorem dL_law_44 : decode cL_law 44 = .ok (.iload 4, 2) := by decide +kernel
theorem dL_law_46 : decode cL_law 46 = .ok (.i2l, 1) := by decide +kernel
theorem dL_law_47 : decode cL_law 47 = .ok (.ldc2_w 17, 3) := by decide +kernel
theorem dL_law_50 : decode cL_law 50 = .ok (.land, 1) := by decide +kernel
theorem dL_law_51 : decode cL_law 51 = .ok (.lor, 1) := by decide +kernel
theorem dL_law_52 : decode cL_law 52 = .ok (.lstore 7, 2) := by decide +kernel
theorem dL_law_54 : decode cL_law 54 = .ok (.new 19, 3) := by decide +kernel
theorem dL_law_57 : decode cL_law 57 = .ok (.dup, 1) := by decide +kernel
theorem dL_law_58 : decode cL_law 58 = .ok (.invokespecial 21, 3) := by decide +kernel
theorem dL_law_61 : decode cL_law 61 = .ok (.astore 9, 2) := by decide +kernel
theorem dL_law_63 : decode cL_law 63 = .ok (.aload 9, 2) := by decide +kernel
theorem dL_law_65 : decode cL_law 65 = .ok (.iload_n 1, 1) := by decide +kernel
theorem dL_law_66 : decode cL_law 66 = .ok (.iload_n 2, 1) := by decide +kernel
theorem dL_law_67 : decode cL_law 67 = .ok (.iload_n 3, 1) := by decide +kernel
theorem dL_law_68 : decode cL_law 68 = .ok (.iload 4, 2) := by decide +kernel
theorem dL_law_70 : decode cL_law 70 = .ok (.invokevirtual 22, 3) := by decide +kernel
theorem dL_law_73 : decode cL_law 73 = .ok (.lload 5, 2) := by decide +kernel
theorem dL_law_75 : decode cL_law 75 = .ok (.lload 7, 2) := by decide +kernel
theorem dL_law_77 : decode cL_law 77 = .ok (.invokestatic 26, 3) := by decide +kernel
theorem dL_law_80 : decode cL_law 80 = .ok (.if_icmp .ne 27, 3) := by decide +kernel
theorem dL_law_83 : decode cL_law 83 = .ok (.aload 9, 2) := by decide +kernel
theorem dL_law_85 : decode cL_law 85 = .ok (.iload_n 3, 1) := by decide +kernel
theorem dL_law_86 : decode cL_law 86 = .ok (.iload 4, 2) := by decide +kernel
theorem dL_law_88 : decode cL_law 88 = .ok (.iload_n 1, 1) := by decide +kernel
theorem dL_law_89 : decode cL_law 89 = .ok (.iload_n 2, 1) := by decide +kernel
theorem dL_law_90 : decode cL_law 90 = .ok (.invokevirtual 22, 3) := by decide +kernel
theorem dL_law_93 : decode cL_law 93 = .ok (.aload 9, 2) := by decide +kernel
theorem dL_law_95 : decode cL_law 95 = .ok (.iload_n 1, 1) := by decide +kernel
theorem dL_law_96 : decode cL_law 96 = .ok (.iload_n 2, 1) := by decide +kernel
theorem dL_law_97 : decode cL_law 97 = .ok (.iload_n 3, 1) := by decide +kernel
theorem dL_law_98 : decode cL_law 98 = .ok (.iload 4, 2) := by decide +kernel
theorem dL_law_100 : decode cL_law 100 = .ok (.invokevirtual 22, 3) := by decide +kernel
theorem dL_law_103 : decode cL_law 103 = .ok (.ineg, 1) := by decide +kernel
theorem dL_law_104 : decode cL_law 104 = .ok (.if_icmp .eq 5, 3) := by decide +kernel
theorem dL_law_107 : decode cL_law 107 = .ok (.iconst 0, 1) := by decide +kernel
theorem dL_law_108 : decode cL_law 108 = .ok (.ireturn, 1) := by decide +kernel
theorem dL_law_109 : decode cL_law 109 = .ok (.lload 7, 2) := by decide +kernel
theorem dL_law_111 : decode cL_law 111 = .ok (.lconst 0, 1) := by decide +kernel
theorem dL_law_112 : decode cL_law 112 = .ok (.lcmp, 1) := by decide +kernel
theorem dL_law_113 : decode cL_law 113 = .ok (.ifCond .ne 43, 3) := by decide +kernel
theorem dL_law_116 : decode cL_law 116 = .ok (.aload 9, 2) := by decide +kernel
theorem dL_law_118 : decode cL_law 118 = .ok (.iload_n 1, 1) := by decide +kernel
theorem dL_law_119 : decode cL_law 119 = .ok (.iload_n 2, 1) := by decide +kernel
theorem dL_law_120 : decode cL_law 120 = .ok (.iload_n 3, 1) := by decide +kernel
theorem dL_law_121 : decode cL_law 121 = .ok (.iload 4, 2) := by decide +kernel
theorem dL_law_123 : decode cL_law 123 = .ok (.invokevirtual 30, 3) := by decide +kernel
theorem dL_law_126 : decode cL_law 126 = .ok (.ldc2_w 34, 3) := by decide +kernel
theorem dL_law_129 : decode cL_law 129 = .ok (.lcmp, 1) := by decide +kernel
theorem dL_law_130 : decode cL_law 130 = .ok (.ifCond .ne 24, 3) := by decide +kernel
theorem dL_law_133 : decode cL_law 133 = .ok (.aload 9, 2) := by decide +kernel
theorem dL_law_135 : decode cL_law 135 = .ok (.iload_n 1, 1) := by decide +kernel
theorem dL_law_136 : decode cL_law 136 = .ok (.iload_n 2, 1) := by decide +kernel
theorem dL_law_137 : decode cL_law 137 = .ok (.iload_n 3, 1) := by decide +kernel
theorem dL_law_138 : decode cL_law 138 = .ok (.iload 4, 2) := by decide +kernel
theorem dL_law_140 : decode cL_law 140 = .ok (.invokevirtual 36, 3) := by decide +kernel
theorem dL_law_143 : decode cL_law 143 = .ok (.ldc2_w 34, 3) := by decide +kernel
theorem dL_law_146 : decode cL_law 146 = .ok (.lcmp, 1) := by decide +kernel
theorem dL_law_147 : decode cL_law 147 = .ok (.ifCond .ne 7, 3) := by decide +kernel
theorem dL_law_150 : decode cL_law 150 = .ok (.iconst 1, 1) := by decide +kernel
theorem dL_law_151 : decode cL_law 151 = .ok (.goto 4, 3) := by decide +kernel
theorem dL_law_154 : decode cL_law 154 = .ok (.iconst 0, 1) := by decide +kernel
theorem dL_law_155 : decode cL_law 155 = .ok (.ireturn, 1) := by decide +kernel
theorem dL_law_156 : decode cL_law 156 = .ok (.aload 9, 2) := by decide +kernel
theorem dL_law_158 : decode cL_law 158 = .ok (.iload_n 1, 1) := by decide +kernel
theorem dL_law_159 : decode cL_law 159 = .ok (.iload_n 2, 1) := by decide +kernel
theorem dL_law_160 : decode cL_law 160 = .ok (.iload_n 3, 1) := by decide +kernel
theorem dL_law_161 : decode cL_law 161 = .ok (.iload 4, 2) := by decide +kernel
theorem dL_law_163 : decode cL_law 163 = .ok (.invokevirtual 30, 3) := by decide +kernel
theorem dL_law_166 : decode cL_law 166 = .ok (.lstore 10, 2) := by decide +kernel
theorem dL_law_168 : decode cL_law 168 = .ok (.aload 9, 2) := by decide +kernel
theorem dL_law_170 : decode cL_law 170 = .ok (.iload_n 1, 1) := by decide +kernel
theorem dL_law_171 : decode cL_law 171 = .ok (.iload_n 2, 1) := by decide +kernel
theorem dL_law_172 : decode cL_law 172 = .ok (.iload_n 3, 1) := by decide +kernel
theorem dL_law_173 : decode cL_law 173 = .ok (.iload 4, 2) := by decide +kernel
theorem dL_law_175 : decode cL_law 175 = .ok (.invokevirtual 36, 3) := by decide +kernel
theorem dL_law_178 : decode cL_law 178 = .ok (.lstore 12, 2) := by decide +kernel
theorem dL_law_180 : decode cL_law 180 = .ok (.lload 10, 2) := by decide +kernel
theorem dL_law_182 : decode cL_law 182 = .ok (.lload 7, 2) := by decide +kernel
theorem dL_law_184 : decode cL_law 184 = .ok (.lmul, 1) := by decide +kernel
theorem dL_law_185 : decode cL_law 185 = .ok (.lload 12, 2) := by decide +kernel
theorem dL_law_187 : decode cL_law 187 = .ok (.ladd, 1) := by decide +kernel
theorem dL_law_188 : decode cL_law 188 = .ok (.lload 5, 2) := by decide +kernel
theorem dL_law_190 : decode cL_law 190 = .ok (.lcmp, 1) := by decide +kernel
theorem dL_law_191 : decode cL_law 191 = .ok (.ifCond .ne 13, 3) := by decide +kernel
theorem dL_law_194 : decode cL_law 194 = .ok (.lload 12, 2) := by decide +kernel
theorem dL_law_196 : decode cL_law 196 = .ok (.lload 7, 2) := by decide +kernel
theorem dL_law_198 : decode cL_law 198 = .ok (.invokestatic 26, 3) := by decide +kernel
theorem dL_law_201 : decode cL_law 201 = .ok (.ifCond .lt 5, 3) := by decide +kernel
theorem dL_law_204 : decode cL_law 204 = .ok (.iconst 0, 1) := by decide +kernel
theorem dL_law_205 : decode cL_law 205 = .ok (.ireturn, 1) := by decide +kernel
theorem dL_law_206 : decode cL_law 206 = .ok (.lload 10, 2) := by decide +kernel
theorem dL_law_208 : decode cL_law 208 = .ok (.bipush 32, 2) := by decide +kernel
theorem dL_law_210 : decode cL_law 210 = .ok (.lushr, 1) := by decide +kernel
theorem dL_law_211 : decode cL_law 211 = .ok (.lstore 14, 2) := by decide +kernel
theorem dL_law_213 : decode cL_law 213 = .ok (.lload 10, 2) := by decide +kernel
theorem dL_law_215 : decode cL_law 215 = .ok (.ldc2_w 17, 3) := by decide +kernel
theorem dL_law_218 : decode cL_law 218 = .ok (.land, 1) := by decide +kernel
theorem dL_law_219 : decode cL_law 219 = .ok (.lstore 16, 2) := by decide +kernel
theorem dL_law_221 : decode cL_law 221 = .ok (.lload 7, 2) := by decide +kernel
theorem dL_law_223 : decode cL_law 223 = .ok (.bipush 32, 2) := by decide +kernel
theorem dL_law_225 : decode cL_law 225 = .ok (.lushr, 1) := by decide +kernel
theorem dL_law_226 : decode cL_law 226 = .ok (.lstore 18, 2) := by decide +kernel
theorem dL_law_228 : decode cL_law 228 = .ok (.lload 7, 2) := by decide +kernel
theorem dL_law_230 : decode cL_law 230 = .ok (.ldc2_w 17, 3) := by decide +kernel
theorem dL_law_233 : decode cL_law 233 = .ok (.land, 1) := by decide +kernel
theorem dL_law_234 : decode cL_law 234 = .ok (.lstore 20, 2) := by decide +kernel
theorem dL_law_236 : decode cL_law 236 = .ok (.lload 14, 2) := by decide +kernel
theorem dL_law_238 : decode cL_law 238 = .ok (.lconst 0, 1) := by decide +kernel
theorem dL_law_239 : decode cL_law 239 = .ok (.lcmp, 1) := by decide +kernel
theorem dL_law_240 : decode cL_law 240 = .ok (.ifCond .eq 12, 3) := by decide +kernel
theorem dL_law_243 : decode cL_law 243 = .ok (.lload 18, 2) := by decide +kernel
theorem dL_law_245 : decode cL_law 245 = .ok (.lconst 0, 1) := by decide +kernel
theorem dL_law_246 : decode cL_law 246 = .ok (.lcmp, 1) := by decide +kernel
theorem dL_law_247 : decode cL_law 247 = .ok (.ifCond .eq 5, 3) := by decide +kernel
theorem dL_law_250 : decode cL_law 250 = .ok (.iconst 0, 1) := by decide +kernel
theorem dL_law_251 : decode cL_law 251 = .ok (.ireturn, 1) := by decide +kernel
theorem dL_law_252 : decode cL_law 252 = .ok (.lload 14, 2) := by decide +kernel
theorem dL_law_254 : decode cL_law 254 = .ok (.lload 20, 2) := by decide +kernel
theorem dL_law_256 : decode cL_law 256 = .ok (.lmul, 1) := by decide +kernel
theorem dL_law_257 : decode cL_law 257 = .ok (.lload 16, 2) := by decide +kernel
theorem dL_law_259 : decode cL_law 259 = .ok (.lload 18, 2) := by decide +kernel
theorem dL_law_261 : decode cL_law 261 = .ok (.lmul, 1) := by decide +kernel
theorem dL_law_262 : decode cL_law 262 = .ok (.ladd, 1) := by decide +kernel
theorem dL_law_263 : decode cL_law 263 = .ok (.lload 16, 2) := by decide +kernel
theorem dL_law_265 : decode cL_law 265 = .ok (.lload 20, 2) := by decide +kernel
theorem dL_law_267 : decode cL_law 267 = .ok (.lmul, 1) := by decide +kernel
theorem dL_law_268 : decode cL_law 268 = .ok (.bipush 32, 2) := by decide +kernel
theorem dL_law_270 : decode cL_law 270 = .ok (.lushr, 1) := by decide +kernel
theorem dL_law_271 : decode cL_law 271 = .ok (.ladd, 1) := by decide +kernel
theorem dL_law_272 : decode cL_law 272 = .ok (.lstore 22, 2) := by decide +kernel
theorem dL_law_274 : decode cL_law 274 = .ok (.lload 22, 2) := by decide +kernel
theorem dL_law_276 : decode cL_law 276 = .ok (.bipush 32, 2) := by decide +kernel
theorem dL_law_278 : decode cL_law 278 = .ok (.lushr, 1) := by decide +kernel
theorem dL_law_279 : decode cL_law 279 = .ok (.lconst 0, 1) := by decide +kernel
theorem dL_law_280 : decode cL_law 280 = .ok (.lcmp, 1) := by decide +kernel
theorem dL_law_281 : decode cL_law 281 = .ok (.ifCond .ne 16, 3) := by decide +kernel
theorem dL_law_284 : decode cL_law 284 = .ok (.lload 10, 2) := by decide +kernel
theorem dL_law_286 : decode cL_law 286 = .ok (.lload 7, 2) := by decide +kernel
theorem dL_law_288 : decode cL_law 288 = .ok (.lmul, 1) := by decide +kernel
theorem dL_law_289 : decode cL_law 289 = .ok (.lload 5, 2) := by decide +kernel
theorem dL_law_291 : decode cL_law 291 = .ok (.invokestatic 26, 3) := by decide +kernel
theorem dL_law_294 : decode cL_law 294 = .ok (.ifCond .le 5, 3) := by decide +kernel
theorem dL_law_297 : decode cL_law 297 = .ok (.iconst 0, 1) := by decide +kernel
theorem dL_law_298 : decode cL_law 298 = .ok (.ireturn, 1) := by decide +kernel
theorem dL_law_299 : decode cL_law 299 = .ok (.iconst 1, 1) := by decide +kernel
theorem dL_law_300 : decode cL_law 300 = .ok (.ireturn, 1) := by decide +kernel
end
section
/-! THE CLAIM OUT OF ONE WALK OF THE LAW'S BODY. Your part is whole_start (and what it stands on); all else here is the same for every law, but numbers. -/
def R_law : String := "UnsignedDeskLaw"
def lw_P (b : Addr) (xs : List Int32) (args : Array Value) (s : State) : Prop := args = #[.ref b] ∧ s.IntsAt b xs ∧ xs.length ≤ 4 ∧ (Jvm.Cond.and given_1 narrow_1).before args s = true
def lw_Q (_ : Array Value) (s : State) (o : Outcome) (t : State) : Prop := o = .returned (some (.int 1)) ∧ Framed s o t [] 600000 7290000
def lw_Z (below : List Frame) (a : Array Value) (s : State) : State → Prop := fun t => ∃ o, t.status = .running ∧ Ended t below o ∧ lw_Q a s o t
/-- the law's own end, with 1 on the stack, nothing written that was there before, its room as the claim has it -/
theorem lw_ret {p : Program} {l : Launch} {e : Env} {s : State} {m : MethodId} {below : List Frame} {meth : Method} {c : Code} {b : Nat} (hx : p.tables.exec = Jvm.exec) (hb : c.code = code) (hr : meth.sig.returnType = ret) (hlocks : meth.locks = false) {pc : Nat} {H : Heap} {ls : Array Slot} (hdg : decode code pc = .ok (.ireturn, 1)) : W p l e room_1 s m #[Value.ref b] below meth c H [] 600000 7290000 (lw_Z below #[Value.ref b] s) (F0 m pc ls [.int 1]) := by
  intro T hT X
  obtain ⟨fs, hret, hrun, hended, hW, hframe⟩ := X.leave (v := some (.int 1)) (hlocks := hlocks) (fun h => by rw [hr] at h; cases h)
  have hmeth' : T.vm.method? m = some meth := X.method'
  refine ⟨T.setFrames fs, ?_, .returned (some (.int 1)), hrun, hended, rfl, ⟨_, rfl⟩, hW, hframe⟩
  jvm_step X.here [X.here.top, hx, hb, hdg, hmeth', hr, ret, narrow_b1]
  (try refine ⟨rfl, ?_⟩); (try refine ⟨rfl, ?_⟩)
  first | (intro acts; rw [hret _ acts rfl rfl rfl]) | rw [hret _ _ rfl rfl rfl]
  exact Steps.refl _
/-- what holds at the law's entry: the machine, the code, the tables' words (any of lw_tbl by 'hts w (by decide +kernel)'), the script of L ints xs at the cell b, what the Statement gives of the start (any of its parts by flat_of_before) -/
def lw_At (p : Program) (s : State) (m : MethodId) (meth : Method) (c : Code) (b L : Nat) (xs : Nat → Int32) : Prop :=
  p.tables.exec = Jvm.exec ∧ c.code = code ∧ meth.sig.returnType = ret ∧ c.maxLocals = 24 ∧ s.vm.findClass R_law = some m.cls ∧ (∀ w ∈ lw_tbl, w.before #[Value.ref b] s = true) ∧ va_X b L xs s s.heap ∧ b < s.heap.size ∧ meth.locks = false ∧ (Jvm.Cond.and given_1 narrow_1).before #[Value.ref b] s = true
/-- the kind of object that the world holds: it has no field -/
def TX1 : u_T := fun _ => ("UnsignedDesk", "", "", false)
def tyX1 : Nat → FieldType := fun _ => .int
abbrev ud_cl : List vw_C := [(RX1, TX1, 0)]
theorem in_X1 : ∀ w ∈ u_ws RX1 TX1 0, w ∈ lw_all := fun w h => absurd (show w ∈ ([] : List Cond) from h) List.not_mem_nil
set_option maxHeartbeats 8000000 in
set_option maxRecDepth 100000 in
/-- THE LAW, from its entry -/
theorem whole_start {p : Program} {e : Env} {s : State} {m : MethodId} {below : List Frame} {meth : Method} {c : Code} (l : Launch) (hflags : l.flags = flags0) {b L : Nat} {xs : Nat → Int32} (hL : L ≤ 4) (C0 : lw_At p s m meth c b L xs) : W p l e room_1 s m #[Value.ref b] below meth c s.heap [] 0 0 (lw_Z below #[Value.ref b] s) (entryFrame m ([Value.ref b] : List Value).toArray 24) := by
  obtain ⟨hx, hb, hr, hml, hown, hts0, hX, hbl, hlocks, hgv⟩ := id C0
  have hts : ∀ w ∈ lw_all, w.before #[Value.ref b] s = true := fun w h => hts0 w (lw_all_tbl h)
  have hA : ∀ q : Nat, s.heap.size ≤ q → (fun q : Nat => s.heap.size ≤ q) q := fun _ h => h
  obtain ⟨c0, iS0, hKn0⟩ := u_known (C := RX1) (T := TX1) (N := 0) (n := 0) hts in_X1 (hts _ q6)
  obtain ⟨dC, dI, hKc⟩ : ∃ (dC : Nat → ClassId) (dI : Nat → Nat → Nat), ∀ (k : Nat) (q : vw_C), ud_cl[k]? = some q → u_Kn s q.1 q.2.1 q.2.2 (dC k) (dI k) := by
    refine ⟨fun _ => c0, fun _ => iS0, ?_⟩
    intro k q hq
    match k, hq with
    | 0, hq => cases hq; exact hKn0
    | k + 1, hq => simp [ud_cl] at hq
  have hS : va_S (fun q : Nat => s.heap.size ≤ q) s.heap s.heap [] := va_S.rf
  have hK : va_K (dC, dI) ud_cl [] s := ⟨hKc, fun k q h => by simp at h⟩
  have hP : va_P (dC, dI) ud_cl [] s.heap := fun k q h => by simp at h
  have hD : va_D (fun q : Nat => s.heap.size ≤ q) [] := ⟨fun i j p q h => by simp at h, fun k q h => by simp at h⟩
  have hl := lv_entry ([.ref b]) (n := 24) (Nat.le_of_ble_eq_true rfl)
  rw [lg_entry_eq]
  generalize (lg_sl ([.ref b]) ++ List.replicate (24 - (lg_sl ([.ref b])).length) Slot.unset).toArray = ls at hl ⊢
  have hl : lv_has ls 24 [(0, .ref b)] := hl
  refine lv_aload_n hx hb dL_law_0 rfl (lv_at hl 0 rfl) ?_
  refine lv_iconst (v := 0) hx hb dL_law_1 (by decide) ?_
  refine vp_callSi (W.runS (As := [.ref b, .int 0]) (rest := []) ⟨hx, hb, hml, hown, hts⟩ (ct_X0_cell l b L xs 0 0 (by decide) rfl hL) (va_cwS 2 hts (lw_S q51 q52 q0 q53) rfl rfl rfl (by decide +kernel) ⟨Nat.le_of_ble_eq_true rfl, Nat.le_of_ble_eq_true rfl⟩) ⟨fun a U g mk q => by obtain ⟨q0, q1⟩ := q; exact ⟨q0, va_X.moved (u := U) (U := U.calling g mk a) (Vm.Alike.refl U.vm) q1⟩, fun U hU hW => ⟨rfl, by show va_X b L xs U U.heap; rw [hU]; exact va_X.moved hW.alike hX⟩⟩ rfl rfl hl.1 rfl (lv_room (Nat.le_of_ble_eq_true rfl)) dL_law_2 ⟨Nat.le_of_ble_eq_true rfl, Nat.le_of_ble_eq_true rfl⟩) (fun k1 _ => ?_)
  refine lv_istore_n (lv' := [(1, .int k1), (0, .ref b)]) hx hb dL_law_5 rfl hl (by decide) rfl (fun ls hl => ?_)
  refine lv_aload_n hx hb dL_law_6 rfl (lv_at hl 1 rfl) ?_
  refine lv_iconst (v := 1) hx hb dL_law_7 (by decide) ?_
  refine vp_callSi (W.runS (As := [.ref b, .int 1]) (rest := []) ⟨hx, hb, hml, hown, hts⟩ (ct_X0_cell l b L xs 1 1 (by decide) rfl hL) (va_cwS 2 hts (lw_S q51 q52 q0 q53) rfl rfl rfl (by decide +kernel) ⟨Nat.le_of_ble_eq_true rfl, Nat.le_of_ble_eq_true rfl⟩) ⟨fun a U g mk q => by obtain ⟨q0, q1⟩ := q; exact ⟨q0, va_X.moved (u := U) (U := U.calling g mk a) (Vm.Alike.refl U.vm) q1⟩, fun U hU hW => ⟨rfl, by show va_X b L xs U U.heap; rw [hU]; exact va_X.moved hW.alike hX⟩⟩ rfl rfl hl.1 rfl (lv_room (Nat.le_of_ble_eq_true rfl)) dL_law_8 ⟨Nat.le_of_ble_eq_true rfl, Nat.le_of_ble_eq_true rfl⟩) (fun k2 _ => ?_)
  refine lv_istore_n (lv' := [(2, .int k2), (1, .int k1), (0, .ref b)]) hx hb dL_law_11 rfl hl (by decide) rfl (fun ls hl => ?_)
  refine lv_aload_n hx hb dL_law_12 rfl (lv_at hl 2 rfl) ?_
  refine lv_iconst (v := 2) hx hb dL_law_13 (by decide) ?_
  refine vp_callSi (W.runS (As := [.ref b, .int 2]) (rest := []) ⟨hx, hb, hml, hown, hts⟩ (ct_X0_cell l b L xs 2 2 (by decide) rfl hL) (va_cwS 2 hts (lw_S q51 q52 q0 q53) rfl rfl rfl (by decide +kernel) ⟨Nat.le_of_ble_eq_true rfl, Nat.le_of_ble_eq_true rfl⟩) ⟨fun a U g mk q => by obtain ⟨q0, q1⟩ := q; exact ⟨q0, va_X.moved (u := U) (U := U.calling g mk a) (Vm.Alike.refl U.vm) q1⟩, fun U hU hW => ⟨rfl, by show va_X b L xs U U.heap; rw [hU]; exact va_X.moved hW.alike hX⟩⟩ rfl rfl hl.1 rfl (lv_room (Nat.le_of_ble_eq_true rfl)) dL_law_14 ⟨Nat.le_of_ble_eq_true rfl, Nat.le_of_ble_eq_true rfl⟩) (fun k3 _ => ?_)
  refine lv_istore_n (lv' := [(3, .int k3), (2, .int k2), (1, .int k1), (0, .ref b)]) hx hb dL_law_17 rfl hl (by decide) rfl (fun ls hl => ?_)
  refine lv_aload_n hx hb dL_law_18 rfl (lv_at hl 3 rfl) ?_
  refine lv_iconst (v := 3) hx hb dL_law_19 (by decide) ?_
  refine vp_callSi (W.runS (As := [.ref b, .int 3]) (rest := []) ⟨hx, hb, hml, hown, hts⟩ (ct_X0_cell l b L xs 3 3 (by decide) rfl hL) (va_cwS 2 hts (lw_S q51 q52 q0 q53) rfl rfl rfl (by decide +kernel) ⟨Nat.le_of_ble_eq_true rfl, Nat.le_of_ble_eq_true rfl⟩) ⟨fun a U g mk q => by obtain ⟨q0, q1⟩ := q; exact ⟨q0, va_X.moved (u := U) (U := U.calling g mk a) (Vm.Alike.refl U.vm) q1⟩, fun U hU hW => ⟨rfl, by show va_X b L xs U U.heap; rw [hU]; exact va_X.moved hW.alike hX⟩⟩ rfl rfl hl.1 rfl (lv_room (Nat.le_of_ble_eq_true rfl)) dL_law_20 ⟨Nat.le_of_ble_eq_true rfl, Nat.le_of_ble_eq_true rfl⟩) (fun k4 _ => ?_)
  refine lv_istore (lv' := [(4, .int k4), (3, .int k3), (2, .int k2), (1, .int k1), (0, .ref b)]) hx hb dL_law_23 hl (by decide) rfl (fun ls hl => ?_)
  refine lv_iload_n hx hb dL_law_25 rfl (lv_at hl 3 rfl) ?_
  refine lv_i2l hx hb dL_law_26 rfl ?_
  refine lv_bipush (v := 32) hx hb dL_law_27 (by decide) ?_
  refine lv_lshl hx hb dL_law_29 rfl ?_
  refine lv_iload_n hx hb dL_law_30 rfl (lv_at hl 2 rfl) ?_
  refine lv_i2l hx hb dL_law_31 rfl ?_
  refine lv_ldc2 hx hb hown (hts _ q58) dL_law_32 ?_
  refine lv_land hx hb dL_law_35 ?_
  refine lv_lor hx hb dL_law_36 ?_
  refine lv_topl (fun nn en => ?_)
  have en : nn = ud_wide k1 k2 := en
  refine lv_lstore (lv' := [(5, .long nn), (4, .int k4), (3, .int k3), (2, .int k2), (1, .int k1), (0, .ref b)]) hx hb dL_law_37 hl (by decide) rfl (fun ls hl => ?_)
  refine lv_iload_n hx hb dL_law_39 rfl (lv_at hl 2 rfl) ?_
  refine lv_i2l hx hb dL_law_40 rfl ?_
  refine lv_bipush (v := 32) hx hb dL_law_41 (by decide) ?_
  refine lv_lshl hx hb dL_law_43 rfl ?_
  refine lv_iload hx hb dL_law_44 (lv_at hl 1 rfl) ?_
  refine lv_i2l hx hb dL_law_46 rfl ?_
  refine lv_ldc2 hx hb hown (hts _ q58) dL_law_47 ?_
  refine lv_land hx hb dL_law_50 ?_
  refine lv_lor hx hb dL_law_51 ?_
  refine lv_topl (fun yy ey => ?_)
  have ey : yy = ud_wide k3 k4 := ey
  refine lv_lstore (lv' := [(7, .long yy), (5, .long nn), (4, .int k4), (3, .int k3), (2, .int k2), (1, .int k1), (0, .ref b)]) hx hb dL_law_52 hl (by decide) rfl (fun ls hl => ?_)
  refine va_new (ci := 0) (fs := []) (C := RX1) (T := TX1) (N := 0) hx hb hts in_X1 tyX1 (fun k h => absurd h (Nat.not_lt_zero k)) hown (hts _ q5) (hts _ q6) (hts _ q1) hK hP hD hS hA rfl (fun j hj => absurd hj (Nat.not_lt_zero j)) (Nat.le_of_ble_eq_true rfl) (Nat.le_of_ble_eq_true rfl) dL_law_54 (fun h0 H hP hD hS => ?_)
  have hP : va_P (dC, dI) ud_cl [(h0, .inr (0, []))] H := hP
  refine W.widen (k := 600000) (n := 7290000) (Nat.le_of_ble_eq_true rfl) (Nat.le_of_ble_eq_true rfl) ?_
  refine lv_dup hx hb dL_law_57 rfl ?_
  refine va_csv (W.runI (As := []) (rest := [.ref h0]) ⟨hx, hb, hml, hown, hts⟩ (ct_X1_init l h0) (cwI 0 hts (lw_meth q9) rfl rfl rfl (hts _ q1) (hts _ q7) (hts _ q8) rfl (by decide +kernel) ⟨Nat.le_of_ble_eq_true rfl, Nat.le_of_ble_eq_true rfl⟩) preEq rfl rfl hl.1 rfl (lv_room (Nat.le_of_ble_eq_true rfl)) dL_law_58 ⟨Nat.le_of_ble_eq_true rfl, Nat.le_of_ble_eq_true rfl⟩) (fun _ => ?_)
  refine lv_astore (lv' := [(9, .ref h0), (7, .long yy), (5, .long nn), (4, .int k4), (3, .int k3), (2, .int k2), (1, .int k1), (0, .ref b)]) hx hb dL_law_61 hl (by decide) rfl (fun ls hl => ?_)
  refine lv_aload hx hb dL_law_63 (lv_at hl 0 rfl) ?_
  refine lv_iload_n hx hb dL_law_65 rfl (lv_at hl 6 rfl) ?_
  refine lv_iload_n hx hb dL_law_66 rfl (lv_at hl 5 rfl) ?_
  refine lv_iload_n hx hb dL_law_67 rfl (lv_at hl 4 rfl) ?_
  refine lv_iload hx hb dL_law_68 (lv_at hl 3 rfl) ?_
  refine vp_callSi (W.runV (As := [.int k1, .int k2, .int k3, .int k4]) (rest := []) ⟨hx, hb, hml, hown, hts⟩ (ct_X1_compare l h0 k1 k2 k3 k4) (cwV 4 hts (lw_V q46 q47 q48 q1 q49) rfl rfl rfl (by decide +kernel) ⟨Nat.le_of_ble_eq_true rfl, Nat.le_of_ble_eq_true rfl⟩) ⟨fun _ _ _ _ q => q, va_recv hK hP (ci := 0) (q0 := 0) rfl rfl, fun _ _ _ => rfl⟩ rfl rfl hl.1 rfl (lv_room (Nat.le_of_ble_eq_true rfl)) dL_law_70 ⟨Nat.le_of_ble_eq_true rfl, Nat.le_of_ble_eq_true rfl⟩) (fun r1 er1 => ?_)
  refine lv_lload hx hb dL_law_73 (lv_at hl 2 rfl) ?_
  refine lv_lload hx hb dL_law_75 (lv_at hl 1 rfl) ?_
  refine vp_callSi (W.runS (As := [.long nn, .long yy]) (rest := [.int r1]) ⟨hx, hb, hml, hown, hts⟩ (ct_X0_sign l nn yy) (va_cwS 2 hts (lw_S q54 q55 q0 q56) rfl rfl rfl (by decide +kernel) ⟨Nat.le_of_ble_eq_true rfl, Nat.le_of_ble_eq_true rfl⟩) preEq rfl rfl hl.1 rfl (lv_room (Nat.le_of_ble_eq_true rfl)) dL_law_77 ⟨Nat.le_of_ble_eq_true rfl, Nat.le_of_ble_eq_true rfl⟩) (fun r2 er2 => ?_)
  refine lv_icmp_ne (tgt := 107) hx hb dL_law_80 (by decide) (fun c1 => ?_) (fun c1 => ?_)
  · exact absurd (by rw [er1, er2, en, ey]) c1
  refine lv_aload hx hb dL_law_83 (lv_at hl 0 rfl) ?_
  refine lv_iload_n hx hb dL_law_85 rfl (lv_at hl 4 rfl) ?_
  refine lv_iload hx hb dL_law_86 (lv_at hl 3 rfl) ?_
  refine lv_iload_n hx hb dL_law_88 rfl (lv_at hl 6 rfl) ?_
  refine lv_iload_n hx hb dL_law_89 rfl (lv_at hl 5 rfl) ?_
  refine vp_callSi (W.runV (As := [.int k3, .int k4, .int k1, .int k2]) (rest := []) ⟨hx, hb, hml, hown, hts⟩ (ct_X1_compare l h0 k3 k4 k1 k2) (cwV 4 hts (lw_V q46 q47 q48 q1 q49) rfl rfl rfl (by decide +kernel) ⟨Nat.le_of_ble_eq_true rfl, Nat.le_of_ble_eq_true rfl⟩) ⟨fun _ _ _ _ q => q, va_recv hK hP (ci := 0) (q0 := 0) rfl rfl, fun _ _ _ => rfl⟩ rfl rfl hl.1 rfl (lv_room (Nat.le_of_ble_eq_true rfl)) dL_law_90 ⟨Nat.le_of_ble_eq_true rfl, Nat.le_of_ble_eq_true rfl⟩) (fun r3 er3 => ?_)
  refine lv_aload hx hb dL_law_93 (lv_at hl 0 rfl) ?_
  refine lv_iload_n hx hb dL_law_95 rfl (lv_at hl 6 rfl) ?_
  refine lv_iload_n hx hb dL_law_96 rfl (lv_at hl 5 rfl) ?_
  refine lv_iload_n hx hb dL_law_97 rfl (lv_at hl 4 rfl) ?_
  refine lv_iload hx hb dL_law_98 (lv_at hl 3 rfl) ?_
  refine vp_callSi (W.runV (As := [.int k1, .int k2, .int k3, .int k4]) (rest := [.int r3]) ⟨hx, hb, hml, hown, hts⟩ (ct_X1_compare l h0 k1 k2 k3 k4) (cwV 4 hts (lw_V q46 q47 q48 q1 q49) rfl rfl rfl (by decide +kernel) ⟨Nat.le_of_ble_eq_true rfl, Nat.le_of_ble_eq_true rfl⟩) ⟨fun _ _ _ _ q => q, va_recv hK hP (ci := 0) (q0 := 0) rfl rfl, fun _ _ _ => rfl⟩ rfl rfl hl.1 rfl (lv_room (Nat.le_of_ble_eq_true rfl)) dL_law_100 ⟨Nat.le_of_ble_eq_true rfl, Nat.le_of_ble_eq_true rfl⟩) (fun r4 er4 => ?_)
  refine lv_ineg hx hb dL_law_103 ?_
  refine lv_icmp_eq (tgt := 109) hx hb dL_law_104 (by decide) (fun c2 => ?_) (fun c2 => ?_)
  rotate_left
  · exact absurd (by rw [er3, er4]; exact ud_cmp_neg _ _) c2
  refine lv_lload hx hb dL_law_109 (lv_at hl 1 rfl) ?_
  refine lv_lconst (v := 0) hx hb dL_law_111 (by decide) ?_
  refine W.lcmp hx hb dL_law_112 ?_
  refine lv_if_ne (tgt := 156) hx hb dL_law_113 (by decide) (fun c3 => ?_) (fun c3 => ?_)
  · have c3 : ¬ yy = 0 := fun h => c3 ((lg_cmp_eq yy 0).mpr h)
    refine lv_aload hx hb dL_law_156 (lv_at hl 0 rfl) ?_
    refine lv_iload_n hx hb dL_law_158 rfl (lv_at hl 6 rfl) ?_
    refine lv_iload_n hx hb dL_law_159 rfl (lv_at hl 5 rfl) ?_
    refine lv_iload_n hx hb dL_law_160 rfl (lv_at hl 4 rfl) ?_
    refine lv_iload hx hb dL_law_161 (lv_at hl 3 rfl) ?_
    refine vp_callSl (W.runV (As := [.int k1, .int k2, .int k3, .int k4]) (rest := []) ⟨hx, hb, hml, hown, hts⟩ (ct_X1_divide l h0 k1 k2 k3 k4) (cwV 4 hts (lw_V q14 q15 q16 q1 q17) rfl rfl rfl (by decide +kernel) ⟨Nat.le_of_ble_eq_true rfl, Nat.le_of_ble_eq_true rfl⟩) ⟨fun _ _ _ _ q => q, va_recv hK hP (ci := 0) (q0 := 0) rfl rfl, fun _ _ _ => rfl⟩ rfl rfl hl.1 rfl (lv_room (Nat.le_of_ble_eq_true rfl)) dL_law_163 ⟨Nat.le_of_ble_eq_true rfl, Nat.le_of_ble_eq_true rfl⟩) (fun qq eq => ?_)
    have eq : uN qq = uN nn / uN yy := by rw [en, ey]; exact eq.2 (ey ▸ c3)
    refine lv_lstore (lv' := [(10, .long qq), (9, .ref h0), (7, .long yy), (5, .long nn), (4, .int k4), (3, .int k3), (2, .int k2), (1, .int k1), (0, .ref b)]) hx hb dL_law_166 hl (by decide) rfl (fun ls hl => ?_)
    refine lv_aload hx hb dL_law_168 (lv_at hl 1 rfl) ?_
    refine lv_iload_n hx hb dL_law_170 rfl (lv_at hl 7 rfl) ?_
    refine lv_iload_n hx hb dL_law_171 rfl (lv_at hl 6 rfl) ?_
    refine lv_iload_n hx hb dL_law_172 rfl (lv_at hl 5 rfl) ?_
    refine lv_iload hx hb dL_law_173 (lv_at hl 4 rfl) ?_
    refine vp_callSl (W.runV (As := [.int k1, .int k2, .int k3, .int k4]) (rest := []) ⟨hx, hb, hml, hown, hts⟩ (ct_X1_remainder l h0 k1 k2 k3 k4) (cwV 4 hts (lw_V q39 q40 q41 q1 q42) rfl rfl rfl (by decide +kernel) ⟨Nat.le_of_ble_eq_true rfl, Nat.le_of_ble_eq_true rfl⟩) ⟨fun _ _ _ _ q => q, va_recv hK hP (ci := 0) (q0 := 0) rfl rfl, fun _ _ _ => rfl⟩ rfl rfl hl.1 rfl (lv_room (Nat.le_of_ble_eq_true rfl)) dL_law_175 ⟨Nat.le_of_ble_eq_true rfl, Nat.le_of_ble_eq_true rfl⟩) (fun rr er => ?_)
    have er : uN rr = uN nn % uN yy := by rw [en, ey]; exact er.2 (ey ▸ c3)
    refine lv_lstore (lv' := [(12, .long rr), (10, .long qq), (9, .ref h0), (7, .long yy), (5, .long nn), (4, .int k4), (3, .int k3), (2, .int k2), (1, .int k1), (0, .ref b)]) hx hb dL_law_178 hl (by decide) rfl (fun ls hl => ?_)
    refine lv_lload hx hb dL_law_180 (lv_at hl 1 rfl) ?_
    refine lv_lload hx hb dL_law_182 (lv_at hl 3 rfl) ?_
    refine lv_lmul hx hb dL_law_184 ?_
    refine lv_lload hx hb dL_law_185 (lv_at hl 0 rfl) ?_
    refine lv_ladd hx hb dL_law_187 ?_
    refine lv_lload hx hb dL_law_188 (lv_at hl 4 rfl) ?_
    refine W.lcmp hx hb dL_law_190 ?_
    refine lv_if_ne (tgt := 204) hx hb dL_law_191 (by decide) (fun c4 => ?_) (fun c4 => ?_)
    · exact absurd ((lg_cmp_eq _ _).mpr (ud_law_sum eq er)) c4
    refine lv_lload hx hb dL_law_194 (lv_at hl 0 rfl) ?_
    refine lv_lload hx hb dL_law_196 (lv_at hl 3 rfl) ?_
    refine vp_callSi (W.runS (As := [.long rr, .long yy]) (rest := []) ⟨hx, hb, hml, hown, hts⟩ (ct_X0_sign l rr yy) (va_cwS 2 hts (lw_S q54 q55 q0 q56) rfl rfl rfl (by decide +kernel) ⟨Nat.le_of_ble_eq_true rfl, Nat.le_of_ble_eq_true rfl⟩) preEq rfl rfl hl.1 rfl (lv_room (Nat.le_of_ble_eq_true rfl)) dL_law_198 ⟨Nat.le_of_ble_eq_true rfl, Nat.le_of_ble_eq_true rfl⟩) (fun r5 er5 => ?_)
    refine lv_if_lt (tgt := 206) hx hb dL_law_201 (by decide) (fun c5 => ?_) (fun c5 => ?_)
    rotate_left
    · exact absurd (by rw [er5]; exact ud_law_rem c3 er) c5
    refine lv_lload hx hb dL_law_206 (lv_at hl 1 rfl) ?_
    refine lv_bipush (v := 32) hx hb dL_law_208 (by decide) ?_
    refine lv_lushr hx hb dL_law_210 rfl ?_
    refine lv_topl (fun qh eqh => ?_)
    refine lv_lstore (lv' := [(14, .long qh), (12, .long rr), (10, .long qq), (9, .ref h0), (7, .long yy), (5, .long nn), (4, .int k4), (3, .int k3), (2, .int k2), (1, .int k1), (0, .ref b)]) hx hb dL_law_211 hl (by decide) rfl (fun ls hl => ?_)
    refine lv_lload hx hb dL_law_213 (lv_at hl 2 rfl) ?_
    refine lv_ldc2 hx hb hown (hts _ q58) dL_law_215 ?_
    refine lv_land hx hb dL_law_218 ?_
    refine lv_topl (fun ql eql => ?_)
    refine lv_lstore (lv' := [(16, .long ql), (14, .long qh), (12, .long rr), (10, .long qq), (9, .ref h0), (7, .long yy), (5, .long nn), (4, .int k4), (3, .int k3), (2, .int k2), (1, .int k1), (0, .ref b)]) hx hb dL_law_219 hl (by decide) rfl (fun ls hl => ?_)
    refine lv_lload hx hb dL_law_221 (lv_at hl 5 rfl) ?_
    refine lv_bipush (v := 32) hx hb dL_law_223 (by decide) ?_
    refine lv_lushr hx hb dL_law_225 rfl ?_
    refine lv_topl (fun yh eyh => ?_)
    refine lv_lstore (lv' := [(18, .long yh), (16, .long ql), (14, .long qh), (12, .long rr), (10, .long qq), (9, .ref h0), (7, .long yy), (5, .long nn), (4, .int k4), (3, .int k3), (2, .int k2), (1, .int k1), (0, .ref b)]) hx hb dL_law_226 hl (by decide) rfl (fun ls hl => ?_)
    refine lv_lload hx hb dL_law_228 (lv_at hl 6 rfl) ?_
    refine lv_ldc2 hx hb hown (hts _ q58) dL_law_230 ?_
    refine lv_land hx hb dL_law_233 ?_
    refine lv_topl (fun yl eyl => ?_)
    refine lv_lstore (lv' := [(20, .long yl), (18, .long yh), (16, .long ql), (14, .long qh), (12, .long rr), (10, .long qq), (9, .ref h0), (7, .long yy), (5, .long nn), (4, .int k4), (3, .int k3), (2, .int k2), (1, .int k1), (0, .ref b)]) hx hb dL_law_234 hl (by decide) rfl (fun ls hl => ?_)
    have tail : W p l e room_1 s m #[Value.ref b] below meth c H [] 600000 7290000 (lw_Z below #[Value.ref b] s) (F0 m 252 ls []) := by
      refine lv_lload hx hb dL_law_252 (lv_at hl 3 rfl) ?_
      refine lv_lload hx hb dL_law_254 (lv_at hl 0 rfl) ?_
      refine lv_lmul hx hb dL_law_256 ?_
      refine lv_lload hx hb dL_law_257 (lv_at hl 2 rfl) ?_
      refine lv_lload hx hb dL_law_259 (lv_at hl 1 rfl) ?_
      refine lv_lmul hx hb dL_law_261 ?_
      refine lv_ladd hx hb dL_law_262 ?_
      refine lv_lload hx hb dL_law_263 (lv_at hl 2 rfl) ?_
      refine lv_lload hx hb dL_law_265 (lv_at hl 0 rfl) ?_
      refine lv_lmul hx hb dL_law_267 ?_
      refine lv_bipush (v := 32) hx hb dL_law_268 (by decide) ?_
      refine lv_lushr hx hb dL_law_270 rfl ?_
      refine lv_ladd hx hb dL_law_271 ?_
      refine lv_topl (fun mm em => ?_)
      refine lv_lstore (lv' := [(22, .long mm), (20, .long yl), (18, .long yh), (16, .long ql), (14, .long qh), (12, .long rr), (10, .long qq), (9, .ref h0), (7, .long yy), (5, .long nn), (4, .int k4), (3, .int k3), (2, .int k2), (1, .int k1), (0, .ref b)]) hx hb dL_law_272 hl (by decide) rfl (fun ls hl => ?_)
      refine lv_lload hx hb dL_law_274 (lv_at hl 0 rfl) ?_
      refine lv_bipush (v := 32) hx hb dL_law_276 (by decide) ?_
      refine lv_lushr hx hb dL_law_278 rfl ?_
      have e6 := ud_law_mid (n := nn) (y := yy) (q := qq) eq
      rw [← eqh, ← eql, ← eyh, ← eyl, ← em] at e6
      refine lv_lconst (v := 0) hx hb dL_law_279 (by decide) ?_
      refine W.lcmp hx hb dL_law_280 ?_
      refine lv_if_ne (tgt := 297) hx hb dL_law_281 (by decide) (fun c6 => ?_) (fun c6 => ?_)
      · exact absurd ((lg_cmp_eq _ _).mpr e6) c6
      refine lv_lload hx hb dL_law_284 (lv_at hl 6 rfl) ?_
      refine lv_lload hx hb dL_law_286 (lv_at hl 8 rfl) ?_
      refine lv_lmul hx hb dL_law_288 ?_
      refine lv_lload hx hb dL_law_289 (lv_at hl 9 rfl) ?_
      refine vp_callSi (W.runS (As := [.long (qq * yy), .long nn]) (rest := []) ⟨hx, hb, hml, hown, hts⟩ (ct_X0_sign l (qq * yy) nn) (va_cwS 2 hts (lw_S q54 q55 q0 q56) rfl rfl rfl (by decide +kernel) ⟨Nat.le_of_ble_eq_true rfl, Nat.le_of_ble_eq_true rfl⟩) preEq rfl rfl hl.1 rfl (lv_room (Nat.le_of_ble_eq_true rfl)) dL_law_291 ⟨Nat.le_of_ble_eq_true rfl, Nat.le_of_ble_eq_true rfl⟩) (fun r7 er7 => ?_)
      refine lv_if_le (tgt := 299) hx hb dL_law_294 (by decide) (fun c7 => ?_) (fun c7 => ?_)
      rotate_left
      · exact absurd (by rw [er7]; exact ud_law_top eq) c7
      refine lv_iconst (v := 1) hx hb dL_law_299 (by decide) ?_
      exact lw_ret hx hb hr hlocks dL_law_300
    refine lv_lload hx hb dL_law_236 (lv_at hl 3 rfl) ?_
    refine lv_lconst (v := 0) hx hb dL_law_238 (by decide) ?_
    refine W.lcmp hx hb dL_law_239 ?_
    refine lv_if_eq (tgt := 252) hx hb dL_law_240 (by decide) (fun c8 => ?_) (fun c8 => ?_)
    · exact tail
    refine lv_lload hx hb dL_law_243 (lv_at hl 1 rfl) ?_
    refine lv_lconst (v := 0) hx hb dL_law_245 (by decide) ?_
    refine W.lcmp hx hb dL_law_246 ?_
    refine lv_if_eq (tgt := 252) hx hb dL_law_247 (by decide) (fun c9 => ?_) (fun c9 => ?_)
    · exact tail
    · exact absurd (ud_law_high eq (fun h => c8 ((lg_cmp_eq _ _).mpr (eqh.trans h))) (fun h => c9 ((lg_cmp_eq _ _).mpr (eyh.trans h)))) (fun h => h)
  · have c3 : yy = 0 := (lg_cmp_eq yy 0).mp c3
    refine lv_aload hx hb dL_law_116 (lv_at hl 0 rfl) ?_
    refine lv_iload_n hx hb dL_law_118 rfl (lv_at hl 6 rfl) ?_
    refine lv_iload_n hx hb dL_law_119 rfl (lv_at hl 5 rfl) ?_
    refine lv_iload_n hx hb dL_law_120 rfl (lv_at hl 4 rfl) ?_
    refine lv_iload hx hb dL_law_121 (lv_at hl 3 rfl) ?_
    refine vp_callSl (W.runV (As := [.int k1, .int k2, .int k3, .int k4]) (rest := []) ⟨hx, hb, hml, hown, hts⟩ (ct_X1_divide l h0 k1 k2 k3 k4) (cwV 4 hts (lw_V q14 q15 q16 q1 q17) rfl rfl rfl (by decide +kernel) ⟨Nat.le_of_ble_eq_true rfl, Nat.le_of_ble_eq_true rfl⟩) ⟨fun _ _ _ _ q => q, va_recv hK hP (ci := 0) (q0 := 0) rfl rfl, fun _ _ _ => rfl⟩ rfl rfl hl.1 rfl (lv_room (Nat.le_of_ble_eq_true rfl)) dL_law_123 ⟨Nat.le_of_ble_eq_true rfl, Nat.le_of_ble_eq_true rfl⟩) (fun qq eq => ?_)
    refine lv_ldc2 hx hb hown (hts _ q59) dL_law_126 ?_
    refine W.lcmp hx hb dL_law_129 ?_
    refine lv_if_ne (tgt := 154) hx hb dL_law_130 (by decide) (fun c4 => ?_) (fun c4 => ?_)
    · exact absurd ((lg_cmp_eq _ _).mpr (eq.1 (ey.symm.trans c3))) c4
    refine lv_aload hx hb dL_law_133 (lv_at hl 0 rfl) ?_
    refine lv_iload_n hx hb dL_law_135 rfl (lv_at hl 6 rfl) ?_
    refine lv_iload_n hx hb dL_law_136 rfl (lv_at hl 5 rfl) ?_
    refine lv_iload_n hx hb dL_law_137 rfl (lv_at hl 4 rfl) ?_
    refine lv_iload hx hb dL_law_138 (lv_at hl 3 rfl) ?_
    refine vp_callSl (W.runV (As := [.int k1, .int k2, .int k3, .int k4]) (rest := []) ⟨hx, hb, hml, hown, hts⟩ (ct_X1_remainder l h0 k1 k2 k3 k4) (cwV 4 hts (lw_V q39 q40 q41 q1 q42) rfl rfl rfl (by decide +kernel) ⟨Nat.le_of_ble_eq_true rfl, Nat.le_of_ble_eq_true rfl⟩) ⟨fun _ _ _ _ q => q, va_recv hK hP (ci := 0) (q0 := 0) rfl rfl, fun _ _ _ => rfl⟩ rfl rfl hl.1 rfl (lv_room (Nat.le_of_ble_eq_true rfl)) dL_law_140 ⟨Nat.le_of_ble_eq_true rfl, Nat.le_of_ble_eq_true rfl⟩) (fun rr er => ?_)
    refine lv_ldc2 hx hb hown (hts _ q59) dL_law_143 ?_
    refine W.lcmp hx hb dL_law_146 ?_
    refine lv_if_ne (tgt := 154) hx hb dL_law_147 (by decide) (fun c5 => ?_) (fun c5 => ?_)
    · exact absurd ((lg_cmp_eq _ _).mpr (er.1 (ey.symm.trans c3))) c5
    refine lv_iconst (v := 1) hx hb dL_law_150 (by decide) ?_
    refine lv_goto (tgt := 155) hx hb dL_law_151 (by decide) ?_
    exact lw_ret hx hb hr hlocks dL_law_155
end
section
set_option maxHeartbeats 4000000 in
theorem lw_walk (l : Launch) (hflags : l.flags = flags0) (b : Addr) (xs : List Int32) : MetFree l x (headSpec (Jvm.Cond.code x code maxLocals ret :: tables_1) room_1) (lw_P b xs) (fun _ _ _ _ _ => True) lw_Q := by
  refine MetFree.of_bodyS (code := code) (maxLocals := maxLocals) (ret := ret) (by decide) ?_ ?_
  · intro args s m h hn
    obtain ⟨meth, c, h1, h2, h3, h4, h5, h6, -, -⟩ := Cond.code_spec hn (atoms_spec (ws := Jvm.Cond.code x code maxLocals ret :: tables_1) h _ List.mem_cons_self)
    exact ⟨meth, c, h1, h2, h3, h4, h5, h6⟩
  · intro p e s m args below meth c s₁ B hml0 hP _
    obtain ⟨rfl, hx, hbd, hgv⟩ := hP
    obtain ⟨scr, harrAt, hlist, hof, hsmall⟩ := hx
    obtain ⟨hcb, hkn, -, -⟩ := State.arrayAt?_spec harrAt
    have hown : s.vm.findClass R_law = some m.cls := findClass_of_methodNamed B.named
    have hts0 : ∀ c ∈ (Jvm.Cond.code x code maxLocals ret :: tables_1), c.before #[Value.ref b] s = true := atoms_spec (ws := Jvm.Cond.code x code maxLocals ret :: tables_1) B.pre
    have hts : ∀ w ∈ lw_tbl, w.before #[Value.ref b] s = true := k2_hts_sels lw_privs (fun w hw => hts0 w (List.mem_cons_of_mem _ hw)) lw_privs_ok
    have hml : c.maxLocals = 24 := B.maxLocals_eq (hts0 _ List.mem_cons_self)
    have X₀ : Stand p l e room_1 s m #[Value.ref b] below meth c s₁ [] 0 0 := Stand.of_body B
    have hh0 : s₁.heap = s.heap := by rw [B.state]; rfl
    have hsz : scr.slots.size = xs.length := by rw [← Array.length_toList, hlist, List.length_map]
    have hval : ∀ j : Nat, j < xs.length → scr.slots[j]? = some (.int (xs.getD j 0)) := fun j hj => by
      rw [← Array.getElem?_toList, hlist]
      simp [hj]
    have hbl : b < s.heap.size := (Array.getElem?_eq_some_iff.mp hcb).1
    have hX : va_X b xs.length (fun j => xs.getD j 0) s s.heap := ⟨scr, hcb, hof, hkn, hsz, hval⟩
    have K : W p l e room_1 s m #[Value.ref b] below meth c s₁.heap [] 0 0 (lw_Z below #[Value.ref b] s) (entryFrame m ([Value.ref b] : List Value).toArray 24) := by
      rw [hh0]
      exact whole_start l hflags hbd ⟨B.exec, B.bytes, B.returns, hml, hown, hts, hX, hbl, B.notSynchronized, hgv⟩
    obtain ⟨t, a1, o, b1, b2, b3⟩ := K s₁ rfl X₀
    exact ⟨t, o, a1, b1, b2, b3⟩
theorem lw_pre_spec {args : Array Value} {s : State} (h : (Jvm.Cond.and given_1 narrow_1).before args s = true) (hr : rest_1_c.before args s = true) : ∃ (b : Addr) (xs : List Int32), lw_P b xs args s := by
  have hs := flat_of_before _ h
  have hq := flat_of_before _ hr
  have hc : (Cond.count 1).before args s = true := hs _ (by decide +kernel)
  have harr : (Cond.arrayOf (.arg 0) .int).before args s = true := hs _ (by decide +kernel)
  have hle : (Cond.le (.length (.arg 0)) (.int 4)).before args s = true := hs _ (by decide +kernel)
  have hlen : (Cond.isInt (.length (.arg 0))).before args s = true := hq _ (by decide +kernel)
  have hall : (Cond.all (.arg 0) (.isInt (.elem (.arg 0) (.index 0)))).before args s = true := hq _ (by decide +kernel)
  obtain ⟨b, xs, hb, hx⟩ := State.ints_of_pre rfl harr hlen hall
  have hsm : xs.length < 2 ^ 31 := hx.choose_spec.2.2.2
  have hev : (Term.length (.arg 0)).eval args s none [] s = some (.int xs.length.toInt32) := hx.length_eval hb
  have hv := Cond.le_ints hev (show (Term.int 4).eval args s none [] s = some (.int 4) from rfl)
  have hd : xs.length.toInt32 ≤ 4 := by
    simpa [Cond.before, Cond.holds, hv] using hle
  have hN : xs.length ≤ 4 := (Int32.ofNat_le_ofNat hsm (by decide)).mp (show Int32.ofNat xs.length ≤ Int32.ofNat 4 from hd)
  exact ⟨b, xs, Cond.one_arg hc (show args[0]? = some (.ref b) from hb), hx, hN, h⟩
theorem lw_comes (l : Launch) (hflags : l.flags = flags0) : Comes l x (Jvm.Cond.code x code maxLocals ret :: tables_1) room_1 (fun tb e args s => Calls_1 tb e args s ∧ rest_1 tb e args s ∧ Pre_1 tb e args s)
    (fun _ _ args s o t => lw_Q args s o t) := by
  intro p e ha hc hk s m args below hf hfit hheap happ hpre
  obtain ⟨b, xs, hP⟩ := lw_pre_spec hpre.2.2 hpre.2.1
  obtain ⟨k, o, h1, h2, h3, hQ⟩ := lw_walk l hflags b xs p e ha hc hk s m args below hf ((Spec.applies_iff_loose hf).mp happ).1 hP trivial
  exact ⟨k, o, h1, h2, h3, hQ⟩
theorem lw_frame {s t : State} {o : Outcome} {args : Array Value} (h : Framed s o t [] 600000 7290000) :
    Framed s o t (fieldLocs frame_1_writes args s ++ arrayLocs frame_1_arrays args s ++ staticLocs frame_1_statics s) 600000 7290000 := h
theorem lw_limb (L : Cond) (hL : ∀ (args : Array Value) (s t : State), L.after args s (.returned (some (.int 1))) t = true) :
    ArmFor flags0 classFile x code maxLocals ret World_1 tables_1 room_1 Calls_1 rest_1 Pre_1
      (fun tb e a s o t => postC L tb e a s o t ∧ Framed s o t (fieldLocs frame_1_writes a s ++ arrayLocs frame_1_arrays a s ++ staticLocs frame_1_statics s) 600000 7290000) := by
  intro l hflags _ _ p e ha hc hk s m args below hf hfit hheap happ hpre
  obtain ⟨k, o, h1, h2, h3, rfl, hF⟩ := lw_comes l hflags p e ha hc hk s m args below hf hfit hheap happ hpre
  exact ⟨k, _, h1, h2, h3, hL args s _, lw_frame hF⟩
theorem i_vc : Claimed_1_1 ∧ Claimed_1_2 := ⟨lw_limb limb_1_1 (fun args s t => by simp [limb_1_1, Cond.after, Cond.holds, Cond.value]), lw_limb limb_1_2 (fun args s t => Cond.after_iff.mpr (by
  first | (rw [show limb_1_2 = Cond.eq .result (.int 1) from rfl, Cond.eq_ints (x := 1) (y := 1) rfl rfl]; simp; done) | (simp [limb_1_2, Cond.value, Term.eval]; done)))⟩
end
