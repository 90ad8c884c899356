section
-- ===== PART A: goes FIRST, ahead of the names: the tables' words, and 'selects' of the private methods out of them =====
/-- a private method of a class that the tables say can be made, by its rows of tables_1 -/
def lw_okq (q : MethodName × Nat) : Prop := (q.1.cls ≠ "java/lang/invoke/MethodHandle" ∧ q.1.cls ≠ "java/lang/invoke/VarHandle") ∧ Cond.instantiable q.1.cls q.2 ∈ tables_1 ∧ Cond.privateMethod q.1 ∈ tables_1 ∧ Cond.instanceMethod q.1 ∈ tables_1
set_option maxRecDepth 100000
theorem lw_t1 {w : Cond} (h : w ∈ tables_1_1) : w ∈ tables_1 := List.mem_append_left _ h
theorem lw_t2 {w : Cond} (h : w ∈ tables_1_2) : w ∈ tables_1 := List.mem_append_right _ h
theorem lw_p0 : lw_okq (⟨"SmFourDesk", "run", "(ZI)V"⟩, 3) := ⟨⟨by decide +kernel, by decide +kernel⟩, lw_t1 (List.mem_of_getElem? (i := 16) rfl), lw_t1 (List.mem_of_getElem? (i := 50) rfl), lw_t1 (List.mem_of_getElem? (i := 51) rfl)⟩
theorem lw_p1 : lw_okq (⟨"java/lang/Throwable", "fillInStackTrace", "(I)Ljava/lang/Throwable;"⟩, 6) := ⟨⟨by decide +kernel, by decide +kernel⟩, lw_t1 (List.mem_of_getElem? (i := 144) rfl), lw_t1 (List.mem_of_getElem? (i := 142) rfl), lw_t1 (List.mem_of_getElem? (i := 143) rfl)⟩
theorem lw_p2 : lw_okq (⟨"SM4Engine", "expandKey", "(Z[B)[I"⟩, 2) := ⟨⟨by decide +kernel, by decide +kernel⟩, lw_t1 (List.mem_of_getElem? (i := 57) rfl), lw_t1 (List.mem_of_getElem? (i := 173) rfl), lw_t1 (List.mem_of_getElem? (i := 174) rfl)⟩
theorem lw_p3 : lw_okq (⟨"SM4Engine", "T_ap", "(I)I"⟩, 2) := ⟨⟨by decide +kernel, by decide +kernel⟩, lw_t1 (List.mem_of_getElem? (i := 57) rfl), lw_t1 (List.mem_of_getElem? (i := 184) rfl), lw_t1 (List.mem_of_getElem? (i := 185) rfl)⟩
theorem lw_p4 : lw_okq (⟨"SM4Engine", "tau", "(I)I"⟩, 2) := ⟨⟨by decide +kernel, by decide +kernel⟩, lw_t1 (List.mem_of_getElem? (i := 57) rfl), lw_t1 (List.mem_of_getElem? (i := 188) rfl), lw_t1 (List.mem_of_getElem? (i := 189) rfl)⟩
theorem lw_p5 : lw_okq (⟨"SM4Engine", "L_ap", "(I)I"⟩, 2) := ⟨⟨by decide +kernel, by decide +kernel⟩, lw_t1 (List.mem_of_getElem? (i := 57) rfl), lw_t1 (List.mem_of_getElem? (i := 194) rfl), lw_t1 (List.mem_of_getElem? (i := 195) rfl)⟩
theorem lw_p6 : lw_okq (⟨"SM4Engine", "rotateLeft", "(II)I"⟩, 2) := ⟨⟨by decide +kernel, by decide +kernel⟩, lw_t1 (List.mem_of_getElem? (i := 57) rfl), lw_t1 (List.mem_of_getElem? (i := 198) rfl), lw_t1 (List.mem_of_getElem? (i := 199) rfl)⟩
theorem lw_p7 : lw_okq (⟨"SM4Engine", "F0", "([II)I"⟩, 2) := ⟨⟨by decide +kernel, by decide +kernel⟩, lw_t1 (List.mem_of_getElem? (i := 57) rfl), lw_t2 (List.mem_of_getElem? (i := 25) rfl), lw_t2 (List.mem_of_getElem? (i := 26) rfl)⟩
theorem lw_p8 : lw_okq (⟨"SM4Engine", "T", "(I)I"⟩, 2) := ⟨⟨by decide +kernel, by decide +kernel⟩, lw_t1 (List.mem_of_getElem? (i := 57) rfl), lw_t2 (List.mem_of_getElem? (i := 29) rfl), lw_t2 (List.mem_of_getElem? (i := 30) rfl)⟩
theorem lw_p9 : lw_okq (⟨"SM4Engine", "L", "(I)I"⟩, 2) := ⟨⟨by decide +kernel, by decide +kernel⟩, lw_t1 (List.mem_of_getElem? (i := 57) rfl), lw_t2 (List.mem_of_getElem? (i := 33) rfl), lw_t2 (List.mem_of_getElem? (i := 34) rfl)⟩
theorem lw_p10 : lw_okq (⟨"SM4Engine", "F1", "([II)I"⟩, 2) := ⟨⟨by decide +kernel, by decide +kernel⟩, lw_t1 (List.mem_of_getElem? (i := 57) rfl), lw_t2 (List.mem_of_getElem? (i := 37) rfl), lw_t2 (List.mem_of_getElem? (i := 38) rfl)⟩
theorem lw_p11 : lw_okq (⟨"SM4Engine", "F2", "([II)I"⟩, 2) := ⟨⟨by decide +kernel, by decide +kernel⟩, lw_t1 (List.mem_of_getElem? (i := 57) rfl), lw_t2 (List.mem_of_getElem? (i := 41) rfl), lw_t2 (List.mem_of_getElem? (i := 42) rfl)⟩
theorem lw_p12 : lw_okq (⟨"SM4Engine", "F3", "([II)I"⟩, 2) := ⟨⟨by decide +kernel, by decide +kernel⟩, lw_t1 (List.mem_of_getElem? (i := 57) rfl), lw_t2 (List.mem_of_getElem? (i := 45) rfl), lw_t2 (List.mem_of_getElem? (i := 46) rfl)⟩
theorem lw_p13 : lw_okq (⟨"SmFourDeskModel", "runs", "(Z)V"⟩, 6) := ⟨⟨by decide +kernel, by decide +kernel⟩, lw_t2 (List.mem_of_getElem? (i := 64) rfl), lw_t2 (List.mem_of_getElem? (i := 102) rfl), lw_t2 (List.mem_of_getElem? (i := 103) rfl)⟩
theorem lw_p14 : lw_okq (⟨"SmFourDeskModel", "expands", "()V"⟩, 6) := ⟨⟨by decide +kernel, by decide +kernel⟩, lw_t2 (List.mem_of_getElem? (i := 64) rfl), lw_t2 (List.mem_of_getElem? (i := 106) rfl), lw_t2 (List.mem_of_getElem? (i := 107) rfl)⟩
theorem lw_p15 : lw_okq (⟨"SmFourDeskModel", "boxed", "(I)I"⟩, 6) := ⟨⟨by decide +kernel, by decide +kernel⟩, lw_t2 (List.mem_of_getElem? (i := 64) rfl), lw_t2 (List.mem_of_getElem? (i := 123) rfl), lw_t2 (List.mem_of_getElem? (i := 124) rfl)⟩
def lw_privs_1 : List (MethodName × Nat) := [(⟨"SmFourDesk", "run", "(ZI)V"⟩, 3), (⟨"java/lang/Throwable", "fillInStackTrace", "(I)Ljava/lang/Throwable;"⟩, 6), (⟨"SM4Engine", "expandKey", "(Z[B)[I"⟩, 2), (⟨"SM4Engine", "T_ap", "(I)I"⟩, 2), (⟨"SM4Engine", "tau", "(I)I"⟩, 2), (⟨"SM4Engine", "L_ap", "(I)I"⟩, 2), (⟨"SM4Engine", "rotateLeft", "(II)I"⟩, 2), (⟨"SM4Engine", "F0", "([II)I"⟩, 2), (⟨"SM4Engine", "T", "(I)I"⟩, 2), (⟨"SM4Engine", "L", "(I)I"⟩, 2), (⟨"SM4Engine", "F1", "([II)I"⟩, 2), (⟨"SM4Engine", "F2", "([II)I"⟩, 2), (⟨"SM4Engine", "F3", "([II)I"⟩, 2), (⟨"SmFourDeskModel", "runs", "(Z)V"⟩, 6), (⟨"SmFourDeskModel", "expands", "()V"⟩, 6), (⟨"SmFourDeskModel", "boxed", "(I)I"⟩, 6)]
theorem lw_r1 : ∀ q ∈ lw_privs_1, lw_okq q := List.forall_mem_cons.mpr ⟨lw_p0, List.forall_mem_cons.mpr ⟨lw_p1, List.forall_mem_cons.mpr ⟨lw_p2, List.forall_mem_cons.mpr ⟨lw_p3, List.forall_mem_cons.mpr ⟨lw_p4, List.forall_mem_cons.mpr ⟨lw_p5, List.forall_mem_cons.mpr ⟨lw_p6, List.forall_mem_cons.mpr ⟨lw_p7, List.forall_mem_cons.mpr ⟨lw_p8, List.forall_mem_cons.mpr ⟨lw_p9, List.forall_mem_cons.mpr ⟨lw_p10, List.forall_mem_cons.mpr ⟨lw_p11, List.forall_mem_cons.mpr ⟨lw_p12, List.forall_mem_cons.mpr ⟨lw_p13, List.forall_mem_cons.mpr ⟨lw_p14, List.forall_mem_cons.mpr ⟨lw_p15, fun _ h => absurd h List.not_mem_nil⟩⟩⟩⟩⟩⟩⟩⟩⟩⟩⟩⟩⟩⟩⟩⟩
def lw_privs : List (MethodName × Nat) := lw_privs_1
def lw_tbl : List Cond := k2_sels lw_privs ++ tables_1
theorem lw_privs_ok : ∀ q ∈ lw_privs, lw_okq q := lw_r1
-- ===== ONE list of words for every method: the tables' words that hold all through a run =====
def lw_all : List Cond := lw_tbl.filter goodWord
/-- a word of the tables by its place: claim/WORDS.tsv -/
theorem lw_w {w : Cond} (i : Nat) (h : lw_tbl[i]? = some w) (g : goodWord w = true) : w ∈ lw_all := List.mem_filter.mpr ⟨List.mem_of_getElem? h, g⟩
theorem lw_all_tbl {w : Cond} (h : w ∈ lw_all) : w ∈ lw_tbl := (List.mem_filter.mp h).1
theorem lw_self : GoodIn lw_all lw_all := fun w h => ⟨h, good_of_word (List.mem_filter.mp h).2⟩
/-- a class's field words, by their places -/
theorem lw_in (ws : List Cond) (ps : List Nat) (hp : ws = ps.filterMap (fun i => lw_tbl[i]?)) (hg : ws.all goodWord = true) : ∀ w ∈ ws, w ∈ lw_all := by
  intro w h
  have h1 := List.all_eq_true.mp hg w h
  rw [hp] at h
  obtain ⟨i, -, hi⟩ := List.mem_filterMap.mp h
  exact lw_w i hi h1
/-- the words of a contract for the method y with code b, L locals, answer r -/
abbrev ws_ (y : MethodName) (b : ByteArray) (L : Nat) (r : Option FieldType) : List Cond := Cond.code y b L r :: lw_all
theorem lw_meth {y : MethodName} {b : ByteArray} {L : Nat} {r : Option FieldType} (h : Cond.code y b L r ∈ lw_all) : GoodIn lw_all (ws_ y b L r) := by
  intro w hw
  rcases List.mem_cons.mp hw with e | e
  · rw [e]
    exact lw_self _ h
  · exact lw_self _ e
theorem lw_app {a c : List Cond} (ha : ∀ w ∈ a, w ∈ lw_all) (hc : GoodIn lw_all c) : GoodIn lw_all (a ++ c) := by
  intro w hw
  rcases List.mem_append.mp hw with e | e
  · exact lw_self w (ha w e)
  · exact hc w e
/-- what a call through an object asks: cwV n hts (lw_V ..) -/
theorem lw_V {own : String} {idx : Nat} {C : String} {y : MethodName} {b : ByteArray} {L : Nat} {r : Option FieldType} (h1 : Cond.methodLink own idx y ∈ lw_all) (h2 : Cond.instanceMethod y ∈ lw_all) (h3 : Cond.selects C y y ∈ lw_all) (h4 : Cond.initialized C ∈ lw_all) (h5 : Cond.code y b L r ∈ lw_all) : GoodIn lw_all (wsV own idx C y (ws_ y b L r)) := by
  refine lw_app ?_ (lw_meth h5)
  intro w hw
  simp only [List.mem_cons, List.not_mem_nil, or_false] at hw
  rcases hw with e | e | e | e
  · rw [e]; exact h1
  · rw [e]; exact h2
  · rw [e]; exact h3
  · rw [e]; exact h4
/-- what a static call asks: va_cwS n hts (lw_S ..) -/
theorem lw_S {own : String} {idx : Nat} {y : MethodName} {b : ByteArray} {L : Nat} {r : Option FieldType} (h1 : Cond.methodLink own idx y ∈ lw_all) (h2 : Cond.static y ∈ lw_all) (h3 : Cond.initialized y.cls ∈ lw_all) (h4 : Cond.code y b L r ∈ lw_all) : GoodIn lw_all (va_wsS own idx y (ws_ y b L r)) := by
  refine lw_app ?_ (lw_meth h4)
  intro w hw
  simp only [List.mem_cons, List.not_mem_nil, or_false] at hw
  rcases hw with e | e | e
  · rw [e]; exact h1
  · rw [e]; exact h2
  · rw [e]; exact h3
/-- the words of a contract for a method WITH HANDLERS (hh: its table) -/
abbrev wsW_ (y : MethodName) (b : ByteArray) (L : Nat) (r : Option FieldType) (hh : List (Nat × Nat × Nat × Nat)) : List Cond := Cond.codeWith y b L r hh :: lw_all
theorem lw_methW {y : MethodName} {b : ByteArray} {L : Nat} {r : Option FieldType} {hh : List (Nat × Nat × Nat × Nat)} (h : Cond.codeWith y b L r hh ∈ lw_all) : GoodIn lw_all (wsW_ y b L r hh) := by
  intro w hw
  rcases List.mem_cons.mp hw with e | e
  · rw [e]
    exact lw_self _ h
  · exact lw_self _ e
/-- any list of words by their places (lw_in), good -/
theorem lw_good {ws : List Cond} (h : ∀ w ∈ ws, w ∈ lw_all) : GoodIn lw_all ws := fun w hw => lw_self w (h w hw)
/-- what a call of a method with handlers asks: vx_cwVW n hts (lw_VW ..), vx_cwSW n hts (lw_SW ..) -/
theorem lw_VW {own : String} {idx : Nat} {C : String} {y : MethodName} {b : ByteArray} {L : Nat} {r : Option FieldType} {hh : List (Nat × Nat × Nat × Nat)} (h1 : Cond.methodLink own idx y ∈ lw_all) (h2 : Cond.instanceMethod y ∈ lw_all) (h3 : Cond.selects C y y ∈ lw_all) (h4 : Cond.initialized C ∈ lw_all) (h5 : Cond.codeWith y b L r hh ∈ lw_all) : GoodIn lw_all (wsV own idx C y (wsW_ y b L r hh)) := by
  refine lw_app ?_ (lw_methW h5)
  intro w hw
  simp only [List.mem_cons, List.not_mem_nil, or_false] at hw
  rcases hw with e | e | e | e
  · rw [e]; exact h1
  · rw [e]; exact h2
  · rw [e]; exact h3
  · rw [e]; exact h4
theorem lw_SW {own : String} {idx : Nat} {y : MethodName} {b : ByteArray} {L : Nat} {r : Option FieldType} {hh : List (Nat × Nat × Nat × Nat)} (h1 : Cond.methodLink own idx y ∈ lw_all) (h2 : Cond.static y ∈ lw_all) (h3 : Cond.initialized y.cls ∈ lw_all) (h4 : Cond.codeWith y b L r hh ∈ lw_all) : GoodIn lw_all (va_wsS own idx y (wsW_ y b L r hh)) := by
  refine lw_app ?_ (lw_methW h4)
  intro w hw
  simp only [List.mem_cons, List.not_mem_nil, or_false] at hw
  rcases hw with e | e | e
  · rw [e]; exact h1
  · rw [e]; exact h2
  · rw [e]; exact h3
/-- a word by its place in its run of the tables -/
theorem lw_at {r : List Cond} (hr : ∀ w ∈ r, w ∈ lw_tbl) {w : Cond} (i : Nat) (h : r[i]? = some w) : w ∈ lw_tbl := hr w (List.mem_of_getElem? h)
theorem lw_g {w : Cond} (h : w ∈ lw_tbl) (g : goodWord w = true) : w ∈ lw_all := List.mem_filter.mpr ⟨h, g⟩
theorem lw_ms : ∀ w ∈ k2_sels lw_privs, w ∈ lw_tbl := fun w h => show w ∈ k2_sels lw_privs ++ tables_1 from List.mem_append_left _ h
theorem lw_m1 : ∀ w ∈ tables_1_1, w ∈ lw_tbl := fun w h => show w ∈ k2_sels lw_privs ++ tables_1 from List.mem_append_right (k2_sels lw_privs) (show w ∈ tables_1 from List.mem_append_left _ h)
theorem lw_m2 : ∀ w ∈ tables_1_2, w ∈ lw_tbl := fun w h => show w ∈ k2_sels lw_privs ++ tables_1 from List.mem_append_right (k2_sels lw_privs) (show w ∈ tables_1 from List.mem_append_right _ h)
theorem qs0 : (Cond.selects "SmFourDesk" ⟨"SmFourDesk", "run", "(ZI)V"⟩ ⟨"SmFourDesk", "run", "(ZI)V"⟩) ∈ lw_all := lw_g (lw_at lw_ms 0 rfl) rfl
theorem qs1 : (Cond.selects "java/lang/Throwable" ⟨"java/lang/Throwable", "fillInStackTrace", "(I)Ljava/lang/Throwable;"⟩ ⟨"java/lang/Throwable", "fillInStackTrace", "(I)Ljava/lang/Throwable;"⟩) ∈ lw_all := lw_g (lw_at lw_ms 1 rfl) rfl
theorem qs2 : (Cond.selects "SM4Engine" ⟨"SM4Engine", "expandKey", "(Z[B)[I"⟩ ⟨"SM4Engine", "expandKey", "(Z[B)[I"⟩) ∈ lw_all := lw_g (lw_at lw_ms 2 rfl) rfl
theorem qs3 : (Cond.selects "SM4Engine" ⟨"SM4Engine", "T_ap", "(I)I"⟩ ⟨"SM4Engine", "T_ap", "(I)I"⟩) ∈ lw_all := lw_g (lw_at lw_ms 3 rfl) rfl
theorem qs4 : (Cond.selects "SM4Engine" ⟨"SM4Engine", "tau", "(I)I"⟩ ⟨"SM4Engine", "tau", "(I)I"⟩) ∈ lw_all := lw_g (lw_at lw_ms 4 rfl) rfl
theorem qs5 : (Cond.selects "SM4Engine" ⟨"SM4Engine", "L_ap", "(I)I"⟩ ⟨"SM4Engine", "L_ap", "(I)I"⟩) ∈ lw_all := lw_g (lw_at lw_ms 5 rfl) rfl
theorem qs6 : (Cond.selects "SM4Engine" ⟨"SM4Engine", "rotateLeft", "(II)I"⟩ ⟨"SM4Engine", "rotateLeft", "(II)I"⟩) ∈ lw_all := lw_g (lw_at lw_ms 6 rfl) rfl
theorem qs7 : (Cond.selects "SM4Engine" ⟨"SM4Engine", "F0", "([II)I"⟩ ⟨"SM4Engine", "F0", "([II)I"⟩) ∈ lw_all := lw_g (lw_at lw_ms 7 rfl) rfl
theorem qs8 : (Cond.selects "SM4Engine" ⟨"SM4Engine", "T", "(I)I"⟩ ⟨"SM4Engine", "T", "(I)I"⟩) ∈ lw_all := lw_g (lw_at lw_ms 8 rfl) rfl
theorem qs9 : (Cond.selects "SM4Engine" ⟨"SM4Engine", "L", "(I)I"⟩ ⟨"SM4Engine", "L", "(I)I"⟩) ∈ lw_all := lw_g (lw_at lw_ms 9 rfl) rfl
theorem qs10 : (Cond.selects "SM4Engine" ⟨"SM4Engine", "F1", "([II)I"⟩ ⟨"SM4Engine", "F1", "([II)I"⟩) ∈ lw_all := lw_g (lw_at lw_ms 10 rfl) rfl
theorem qs11 : (Cond.selects "SM4Engine" ⟨"SM4Engine", "F2", "([II)I"⟩ ⟨"SM4Engine", "F2", "([II)I"⟩) ∈ lw_all := lw_g (lw_at lw_ms 11 rfl) rfl
theorem qs12 : (Cond.selects "SM4Engine" ⟨"SM4Engine", "F3", "([II)I"⟩ ⟨"SM4Engine", "F3", "([II)I"⟩) ∈ lw_all := lw_g (lw_at lw_ms 12 rfl) rfl
theorem qs13 : (Cond.selects "SmFourDeskModel" ⟨"SmFourDeskModel", "runs", "(Z)V"⟩ ⟨"SmFourDeskModel", "runs", "(Z)V"⟩) ∈ lw_all := lw_g (lw_at lw_ms 13 rfl) rfl
theorem qs14 : (Cond.selects "SmFourDeskModel" ⟨"SmFourDeskModel", "expands", "()V"⟩ ⟨"SmFourDeskModel", "expands", "()V"⟩) ∈ lw_all := lw_g (lw_at lw_ms 14 rfl) rfl
theorem qs15 : (Cond.selects "SmFourDeskModel" ⟨"SmFourDeskModel", "boxed", "(I)I"⟩ ⟨"SmFourDeskModel", "boxed", "(I)I"⟩) ∈ lw_all := lw_g (lw_at lw_ms 15 rfl) rfl
end
section
/-! DECODE ROWS BY BYTES: one lemma an opcode; a method's code is cut into short pieces once, and a row reads its own piece alone. -/
set_option maxRecDepth 100000
/-- the code has just these bytes from pc on -/
def DkAt (code : ByteArray) (pc : Nat) (bs : List UInt8) : Prop := ∀ (j : Nat) (b : UInt8), bs[j]? = some b → code.data.toList[pc + j]? = some b
/-- the piece W has the bytes bs from its place j on -/
def dkIn (W : List UInt8) (j : Nat) (bs : List UInt8) : Bool := decide ((W.drop j).take bs.length = bs)
theorem dk_seg {l W T : List UInt8} {o o2 : Nat} (h : l.drop o = W ++ T) (n : Nat) (hn : W.length = n) (ho : o + n = o2) : l.drop o2 = T := by
  subst ho
  rw [← List.drop_drop, h, List.drop_left' hn]
theorem dk_at {code : ByteArray} {W T bs : List UInt8} {o pc : Nat} (h : code.data.toList.drop o = W ++ T) (j : Nat) (hp : o + j = pc) (hw : dkIn W j bs = true) : DkAt code pc bs := by
  subst hp
  intro i b e
  have h1 := of_decide_eq_true hw
  have h2 : i < bs.length := (List.getElem?_eq_some_iff.mp e).1
  have h3 : W[j + i]? = some b := by
    rw [← h1, List.getElem?_take, if_pos h2, List.getElem?_drop] at e
    exact e
  have h4 : j + i < W.length := (List.getElem?_eq_some_iff.mp h3).1
  have h5 : (code.data.toList.drop o)[j + i]? = some b := by
    rw [h, List.getElem?_append_left h4]
    exact h3
  rw [List.getElem?_drop, ← Nat.add_assoc] at h5
  exact h5
theorem dk_u1 {A : ByteArray} {p : Nat} {b : UInt8} (h : A.data.toList[p]? = some b) : (Reader.u1 : Reader DecodeError Nat) A p = .ok (b.toNat, p + 1) := by
  obtain ⟨h1, h2⟩ := List.getElem?_eq_some_iff.mp h
  have h3 : p < A.size := by simpa using h1
  have h4 : A[p]'h3 = b := h2
  have e : (Reader.u1 : Reader DecodeError Nat) A p = (if h : p < A.size then .ok (A[p].toNat, p + 1) else .error (HasTruncated.truncated p)) := by
    show (do if h : p < A.size then do set (p + 1); Pure.pure A[p].toNat else MonadExcept.throw (HasTruncated.truncated p) : Reader DecodeError Nat) A p = _
    by_cases hi : p < A.size
    · rw [dif_pos hi, dif_pos hi]; rfl
    · rw [dif_neg hi, dif_neg hi]; rfl
  rw [e, dif_pos h3, h4]
theorem dk_bind {α β : Type} {r : Reader DecodeError α} {f : α → Reader DecodeError β} {A : ByteArray} {p s : Nat} {a : α} (h : r A p = .ok (a, s)) : (r >>= f) A p = f a A s := by
  show (do let (a, s) ← r A p; f a A s : Except DecodeError (β × Nat)) = _
  rw [h]
  rfl
theorem dk_map {α β : Type} {r : Reader DecodeError α} {g : α → β} {A : ByteArray} {p s : Nat} {a : α} (h : r A p = .ok (a, s)) : (g <$> r) A p = .ok (g a, s) := by
  show (do let (a, s) ← r A p; .ok (g a, s) : Except DecodeError (β × Nat)) = _
  rw [h]
  rfl
theorem dk_u2 {A : ByteArray} {p : Nat} {a b : UInt8} (h : A.data.toList[p]? = some a) (h2 : A.data.toList[p + 1]? = some b) : (Reader.u2 : Reader DecodeError Nat) A p = .ok (a.toNat * 256 + b.toNat, p + 2) := by
  show (Reader.u1 >>= fun hi => Reader.u1 >>= fun lo => Pure.pure (hi * 256 + lo) : Reader DecodeError Nat) A p = _
  rw [dk_bind (dk_u1 h), dk_bind (dk_u1 h2)]
  rfl
theorem dk_of {code : ByteArray} {pc n : Nat} {i : Instr} (h : Decoder.instr pc code pc = .ok (i, pc + n)) : decode code pc = .ok (i, n) := by
  have e : decode code pc = (match Decoder.instr pc code pc with | .error x => .error x | .ok (j, s) => .ok (j, s - pc)) := by
    show (do let (j, s) ← Decoder.instr pc code pc; Pure.pure (j, s - pc) : Except DecodeError (Instr × Nat)) = _
    cases Decoder.instr pc code pc <;> rfl
  rw [e, h]
  show Except.ok (i, pc + n - pc) = _
  rw [Nat.add_sub_cancel_left]
theorem dk_3 {code : ByteArray} {pc : Nat} (h : DkAt code pc [3]) : decode code pc = .ok (.iconst 0, 1) := dk_of ((dk_bind (dk_u1 (h 0 _ rfl))).trans rfl)
theorem dk_4 {code : ByteArray} {pc : Nat} (h : DkAt code pc [4]) : decode code pc = .ok (.iconst 1, 1) := dk_of ((dk_bind (dk_u1 (h 0 _ rfl))).trans rfl)
theorem dk_5 {code : ByteArray} {pc : Nat} (h : DkAt code pc [5]) : decode code pc = .ok (.iconst 2, 1) := dk_of ((dk_bind (dk_u1 (h 0 _ rfl))).trans rfl)
theorem dk_6 {code : ByteArray} {pc : Nat} (h : DkAt code pc [6]) : decode code pc = .ok (.iconst 3, 1) := dk_of ((dk_bind (dk_u1 (h 0 _ rfl))).trans rfl)
theorem dk_7 {code : ByteArray} {pc : Nat} (h : DkAt code pc [7]) : decode code pc = .ok (.iconst 4, 1) := dk_of ((dk_bind (dk_u1 (h 0 _ rfl))).trans rfl)
theorem dk_8 {code : ByteArray} {pc : Nat} (h : DkAt code pc [8]) : decode code pc = .ok (.iconst 5, 1) := dk_of ((dk_bind (dk_u1 (h 0 _ rfl))).trans rfl)
theorem dk_16 {code : ByteArray} {pc : Nat} (a : UInt8) (h : DkAt code pc [16, a]) : decode code pc = .ok (.bipush (Reader.signed 8 a.toNat), 2) := dk_of ((dk_bind (dk_u1 (h 0 _ rfl))).trans ((dk_bind (dk_map (dk_u1 (h 1 _ rfl)))).trans rfl))
theorem dk_17 {code : ByteArray} {pc : Nat} (a b : UInt8) (h : DkAt code pc [17, a, b]) : decode code pc = .ok (.sipush (Reader.signed 16 (a.toNat * 256 + b.toNat)), 3) := dk_of ((dk_bind (dk_u1 (h 0 _ rfl))).trans ((dk_bind (dk_map (dk_u2 (h 1 _ rfl) (h 2 _ rfl)))).trans rfl))
theorem dk_18 {code : ByteArray} {pc : Nat} (a : UInt8) (h : DkAt code pc [18, a]) : decode code pc = .ok (.ldc a.toNat, 2) := dk_of ((dk_bind (dk_u1 (h 0 _ rfl))).trans ((dk_bind (dk_u1 (h 1 _ rfl))).trans rfl))
theorem dk_21 {code : ByteArray} {pc : Nat} (a : UInt8) (h : DkAt code pc [21, a]) : decode code pc = .ok (.iload a.toNat, 2) := dk_of ((dk_bind (dk_u1 (h 0 _ rfl))).trans ((dk_bind (dk_u1 (h 1 _ rfl))).trans rfl))
theorem dk_25 {code : ByteArray} {pc : Nat} (a : UInt8) (h : DkAt code pc [25, a]) : decode code pc = .ok (.aload a.toNat, 2) := dk_of ((dk_bind (dk_u1 (h 0 _ rfl))).trans ((dk_bind (dk_u1 (h 1 _ rfl))).trans rfl))
theorem dk_26 {code : ByteArray} {pc : Nat} (h : DkAt code pc [26]) : decode code pc = .ok (.iload_n 0, 1) := dk_of ((dk_bind (dk_u1 (h 0 _ rfl))).trans rfl)
theorem dk_27 {code : ByteArray} {pc : Nat} (h : DkAt code pc [27]) : decode code pc = .ok (.iload_n 1, 1) := dk_of ((dk_bind (dk_u1 (h 0 _ rfl))).trans rfl)
theorem dk_28 {code : ByteArray} {pc : Nat} (h : DkAt code pc [28]) : decode code pc = .ok (.iload_n 2, 1) := dk_of ((dk_bind (dk_u1 (h 0 _ rfl))).trans rfl)
theorem dk_29 {code : ByteArray} {pc : Nat} (h : DkAt code pc [29]) : decode code pc = .ok (.iload_n 3, 1) := dk_of ((dk_bind (dk_u1 (h 0 _ rfl))).trans rfl)
theorem dk_42 {code : ByteArray} {pc : Nat} (h : DkAt code pc [42]) : decode code pc = .ok (.aload_n 0, 1) := dk_of ((dk_bind (dk_u1 (h 0 _ rfl))).trans rfl)
theorem dk_43 {code : ByteArray} {pc : Nat} (h : DkAt code pc [43]) : decode code pc = .ok (.aload_n 1, 1) := dk_of ((dk_bind (dk_u1 (h 0 _ rfl))).trans rfl)
theorem dk_44 {code : ByteArray} {pc : Nat} (h : DkAt code pc [44]) : decode code pc = .ok (.aload_n 2, 1) := dk_of ((dk_bind (dk_u1 (h 0 _ rfl))).trans rfl)
theorem dk_45 {code : ByteArray} {pc : Nat} (h : DkAt code pc [45]) : decode code pc = .ok (.aload_n 3, 1) := dk_of ((dk_bind (dk_u1 (h 0 _ rfl))).trans rfl)
theorem dk_46 {code : ByteArray} {pc : Nat} (h : DkAt code pc [46]) : decode code pc = .ok (.iaload, 1) := dk_of ((dk_bind (dk_u1 (h 0 _ rfl))).trans rfl)
theorem dk_51 {code : ByteArray} {pc : Nat} (h : DkAt code pc [51]) : decode code pc = .ok (.baload, 1) := dk_of ((dk_bind (dk_u1 (h 0 _ rfl))).trans rfl)
theorem dk_54 {code : ByteArray} {pc : Nat} (a : UInt8) (h : DkAt code pc [54, a]) : decode code pc = .ok (.istore a.toNat, 2) := dk_of ((dk_bind (dk_u1 (h 0 _ rfl))).trans ((dk_bind (dk_u1 (h 1 _ rfl))).trans rfl))
theorem dk_58 {code : ByteArray} {pc : Nat} (a : UInt8) (h : DkAt code pc [58, a]) : decode code pc = .ok (.astore a.toNat, 2) := dk_of ((dk_bind (dk_u1 (h 0 _ rfl))).trans ((dk_bind (dk_u1 (h 1 _ rfl))).trans rfl))
theorem dk_60 {code : ByteArray} {pc : Nat} (h : DkAt code pc [60]) : decode code pc = .ok (.istore_n 1, 1) := dk_of ((dk_bind (dk_u1 (h 0 _ rfl))).trans rfl)
theorem dk_61 {code : ByteArray} {pc : Nat} (h : DkAt code pc [61]) : decode code pc = .ok (.istore_n 2, 1) := dk_of ((dk_bind (dk_u1 (h 0 _ rfl))).trans rfl)
theorem dk_62 {code : ByteArray} {pc : Nat} (h : DkAt code pc [62]) : decode code pc = .ok (.istore_n 3, 1) := dk_of ((dk_bind (dk_u1 (h 0 _ rfl))).trans rfl)
theorem dk_76 {code : ByteArray} {pc : Nat} (h : DkAt code pc [76]) : decode code pc = .ok (.astore_n 1, 1) := dk_of ((dk_bind (dk_u1 (h 0 _ rfl))).trans rfl)
theorem dk_77 {code : ByteArray} {pc : Nat} (h : DkAt code pc [77]) : decode code pc = .ok (.astore_n 2, 1) := dk_of ((dk_bind (dk_u1 (h 0 _ rfl))).trans rfl)
theorem dk_78 {code : ByteArray} {pc : Nat} (h : DkAt code pc [78]) : decode code pc = .ok (.astore_n 3, 1) := dk_of ((dk_bind (dk_u1 (h 0 _ rfl))).trans rfl)
theorem dk_79 {code : ByteArray} {pc : Nat} (h : DkAt code pc [79]) : decode code pc = .ok (.iastore, 1) := dk_of ((dk_bind (dk_u1 (h 0 _ rfl))).trans rfl)
theorem dk_84 {code : ByteArray} {pc : Nat} (h : DkAt code pc [84]) : decode code pc = .ok (.bastore, 1) := dk_of ((dk_bind (dk_u1 (h 0 _ rfl))).trans rfl)
theorem dk_87 {code : ByteArray} {pc : Nat} (h : DkAt code pc [87]) : decode code pc = .ok (.pop, 1) := dk_of ((dk_bind (dk_u1 (h 0 _ rfl))).trans rfl)
theorem dk_89 {code : ByteArray} {pc : Nat} (h : DkAt code pc [89]) : decode code pc = .ok (.dup, 1) := dk_of ((dk_bind (dk_u1 (h 0 _ rfl))).trans rfl)
theorem dk_96 {code : ByteArray} {pc : Nat} (h : DkAt code pc [96]) : decode code pc = .ok (.iadd, 1) := dk_of ((dk_bind (dk_u1 (h 0 _ rfl))).trans rfl)
theorem dk_100 {code : ByteArray} {pc : Nat} (h : DkAt code pc [100]) : decode code pc = .ok (.isub, 1) := dk_of ((dk_bind (dk_u1 (h 0 _ rfl))).trans rfl)
theorem dk_104 {code : ByteArray} {pc : Nat} (h : DkAt code pc [104]) : decode code pc = .ok (.imul, 1) := dk_of ((dk_bind (dk_u1 (h 0 _ rfl))).trans rfl)
theorem dk_108 {code : ByteArray} {pc : Nat} (h : DkAt code pc [108]) : decode code pc = .ok (.idiv, 1) := dk_of ((dk_bind (dk_u1 (h 0 _ rfl))).trans rfl)
theorem dk_112 {code : ByteArray} {pc : Nat} (h : DkAt code pc [112]) : decode code pc = .ok (.irem, 1) := dk_of ((dk_bind (dk_u1 (h 0 _ rfl))).trans rfl)
theorem dk_116 {code : ByteArray} {pc : Nat} (h : DkAt code pc [116]) : decode code pc = .ok (.ineg, 1) := dk_of ((dk_bind (dk_u1 (h 0 _ rfl))).trans rfl)
theorem dk_120 {code : ByteArray} {pc : Nat} (h : DkAt code pc [120]) : decode code pc = .ok (.ishl, 1) := dk_of ((dk_bind (dk_u1 (h 0 _ rfl))).trans rfl)
theorem dk_122 {code : ByteArray} {pc : Nat} (h : DkAt code pc [122]) : decode code pc = .ok (.ishr, 1) := dk_of ((dk_bind (dk_u1 (h 0 _ rfl))).trans rfl)
theorem dk_124 {code : ByteArray} {pc : Nat} (h : DkAt code pc [124]) : decode code pc = .ok (.iushr, 1) := dk_of ((dk_bind (dk_u1 (h 0 _ rfl))).trans rfl)
theorem dk_126 {code : ByteArray} {pc : Nat} (h : DkAt code pc [126]) : decode code pc = .ok (.iand, 1) := dk_of ((dk_bind (dk_u1 (h 0 _ rfl))).trans rfl)
theorem dk_128 {code : ByteArray} {pc : Nat} (h : DkAt code pc [128]) : decode code pc = .ok (.ior, 1) := dk_of ((dk_bind (dk_u1 (h 0 _ rfl))).trans rfl)
theorem dk_130 {code : ByteArray} {pc : Nat} (h : DkAt code pc [130]) : decode code pc = .ok (.ixor, 1) := dk_of ((dk_bind (dk_u1 (h 0 _ rfl))).trans rfl)
theorem dk_132 {code : ByteArray} {pc : Nat} (a b : UInt8) (h : DkAt code pc [132, a, b]) : decode code pc = .ok (.iinc a.toNat (Reader.signed 8 b.toNat), 3) := dk_of ((dk_bind (dk_u1 (h 0 _ rfl))).trans ((dk_bind (dk_u1 (h 1 _ rfl))).trans ((dk_bind (dk_map (dk_u1 (h 2 _ rfl)))).trans rfl)))
theorem dk_145 {code : ByteArray} {pc : Nat} (h : DkAt code pc [145]) : decode code pc = .ok (.i2b, 1) := dk_of ((dk_bind (dk_u1 (h 0 _ rfl))).trans rfl)
theorem dk_153 {code : ByteArray} {pc : Nat} (a b : UInt8) (h : DkAt code pc [153, a, b]) : decode code pc = .ok (.ifCond .eq (Reader.signed 16 (a.toNat * 256 + b.toNat)), 3) := dk_of ((dk_bind (dk_u1 (h 0 _ rfl))).trans ((dk_bind (dk_map (dk_u2 (h 1 _ rfl) (h 2 _ rfl)))).trans rfl))
theorem dk_154 {code : ByteArray} {pc : Nat} (a b : UInt8) (h : DkAt code pc [154, a, b]) : decode code pc = .ok (.ifCond .ne (Reader.signed 16 (a.toNat * 256 + b.toNat)), 3) := dk_of ((dk_bind (dk_u1 (h 0 _ rfl))).trans ((dk_bind (dk_map (dk_u2 (h 1 _ rfl) (h 2 _ rfl)))).trans rfl))
theorem dk_155 {code : ByteArray} {pc : Nat} (a b : UInt8) (h : DkAt code pc [155, a, b]) : decode code pc = .ok (.ifCond .lt (Reader.signed 16 (a.toNat * 256 + b.toNat)), 3) := dk_of ((dk_bind (dk_u1 (h 0 _ rfl))).trans ((dk_bind (dk_map (dk_u2 (h 1 _ rfl) (h 2 _ rfl)))).trans rfl))
theorem dk_159 {code : ByteArray} {pc : Nat} (a b : UInt8) (h : DkAt code pc [159, a, b]) : decode code pc = .ok (.if_icmp .eq (Reader.signed 16 (a.toNat * 256 + b.toNat)), 3) := dk_of ((dk_bind (dk_u1 (h 0 _ rfl))).trans ((dk_bind (dk_map (dk_u2 (h 1 _ rfl) (h 2 _ rfl)))).trans rfl))
theorem dk_160 {code : ByteArray} {pc : Nat} (a b : UInt8) (h : DkAt code pc [160, a, b]) : decode code pc = .ok (.if_icmp .ne (Reader.signed 16 (a.toNat * 256 + b.toNat)), 3) := dk_of ((dk_bind (dk_u1 (h 0 _ rfl))).trans ((dk_bind (dk_map (dk_u2 (h 1 _ rfl) (h 2 _ rfl)))).trans rfl))
theorem dk_162 {code : ByteArray} {pc : Nat} (a b : UInt8) (h : DkAt code pc [162, a, b]) : decode code pc = .ok (.if_icmp .ge (Reader.signed 16 (a.toNat * 256 + b.toNat)), 3) := dk_of ((dk_bind (dk_u1 (h 0 _ rfl))).trans ((dk_bind (dk_map (dk_u2 (h 1 _ rfl) (h 2 _ rfl)))).trans rfl))
theorem dk_163 {code : ByteArray} {pc : Nat} (a b : UInt8) (h : DkAt code pc [163, a, b]) : decode code pc = .ok (.if_icmp .gt (Reader.signed 16 (a.toNat * 256 + b.toNat)), 3) := dk_of ((dk_bind (dk_u1 (h 0 _ rfl))).trans ((dk_bind (dk_map (dk_u2 (h 1 _ rfl) (h 2 _ rfl)))).trans rfl))
theorem dk_164 {code : ByteArray} {pc : Nat} (a b : UInt8) (h : DkAt code pc [164, a, b]) : decode code pc = .ok (.if_icmp .le (Reader.signed 16 (a.toNat * 256 + b.toNat)), 3) := dk_of ((dk_bind (dk_u1 (h 0 _ rfl))).trans ((dk_bind (dk_map (dk_u2 (h 1 _ rfl) (h 2 _ rfl)))).trans rfl))
theorem dk_167 {code : ByteArray} {pc : Nat} (a b : UInt8) (h : DkAt code pc [167, a, b]) : decode code pc = .ok (.goto (Reader.signed 16 (a.toNat * 256 + b.toNat)), 3) := dk_of ((dk_bind (dk_u1 (h 0 _ rfl))).trans ((dk_bind (dk_map (dk_u2 (h 1 _ rfl) (h 2 _ rfl)))).trans rfl))
theorem dk_172 {code : ByteArray} {pc : Nat} (h : DkAt code pc [172]) : decode code pc = .ok (.ireturn, 1) := dk_of ((dk_bind (dk_u1 (h 0 _ rfl))).trans rfl)
theorem dk_176 {code : ByteArray} {pc : Nat} (h : DkAt code pc [176]) : decode code pc = .ok (.areturn, 1) := dk_of ((dk_bind (dk_u1 (h 0 _ rfl))).trans rfl)
theorem dk_177 {code : ByteArray} {pc : Nat} (h : DkAt code pc [177]) : decode code pc = .ok (.return_, 1) := dk_of ((dk_bind (dk_u1 (h 0 _ rfl))).trans rfl)
theorem dk_178 {code : ByteArray} {pc : Nat} (a b : UInt8) (h : DkAt code pc [178, a, b]) : decode code pc = .ok (.getstatic (a.toNat * 256 + b.toNat), 3) := dk_of ((dk_bind (dk_u1 (h 0 _ rfl))).trans ((dk_bind (dk_u2 (h 1 _ rfl) (h 2 _ rfl))).trans rfl))
theorem dk_180 {code : ByteArray} {pc : Nat} (a b : UInt8) (h : DkAt code pc [180, a, b]) : decode code pc = .ok (.getfield (a.toNat * 256 + b.toNat), 3) := dk_of ((dk_bind (dk_u1 (h 0 _ rfl))).trans ((dk_bind (dk_u2 (h 1 _ rfl) (h 2 _ rfl))).trans rfl))
theorem dk_181 {code : ByteArray} {pc : Nat} (a b : UInt8) (h : DkAt code pc [181, a, b]) : decode code pc = .ok (.putfield (a.toNat * 256 + b.toNat), 3) := dk_of ((dk_bind (dk_u1 (h 0 _ rfl))).trans ((dk_bind (dk_u2 (h 1 _ rfl) (h 2 _ rfl))).trans rfl))
theorem dk_182 {code : ByteArray} {pc : Nat} (a b : UInt8) (h : DkAt code pc [182, a, b]) : decode code pc = .ok (.invokevirtual (a.toNat * 256 + b.toNat), 3) := dk_of ((dk_bind (dk_u1 (h 0 _ rfl))).trans ((dk_bind (dk_u2 (h 1 _ rfl) (h 2 _ rfl))).trans rfl))
theorem dk_183 {code : ByteArray} {pc : Nat} (a b : UInt8) (h : DkAt code pc [183, a, b]) : decode code pc = .ok (.invokespecial (a.toNat * 256 + b.toNat), 3) := dk_of ((dk_bind (dk_u1 (h 0 _ rfl))).trans ((dk_bind (dk_u2 (h 1 _ rfl) (h 2 _ rfl))).trans rfl))
theorem dk_184 {code : ByteArray} {pc : Nat} (a b : UInt8) (h : DkAt code pc [184, a, b]) : decode code pc = .ok (.invokestatic (a.toNat * 256 + b.toNat), 3) := dk_of ((dk_bind (dk_u1 (h 0 _ rfl))).trans ((dk_bind (dk_u2 (h 1 _ rfl) (h 2 _ rfl))).trans rfl))
theorem dk_187 {code : ByteArray} {pc : Nat} (a b : UInt8) (h : DkAt code pc [187, a, b]) : decode code pc = .ok (.new (a.toNat * 256 + b.toNat), 3) := dk_of ((dk_bind (dk_u1 (h 0 _ rfl))).trans ((dk_bind (dk_u2 (h 1 _ rfl) (h 2 _ rfl))).trans rfl))
theorem dk_188_8 {code : ByteArray} {pc : Nat} (h : DkAt code pc [188, 8]) : decode code pc = .ok (.newarray .byte, 2) := dk_of ((dk_bind (dk_u1 (h 0 _ rfl))).trans ((dk_bind (dk_u1 (h 1 _ rfl))).trans rfl))
theorem dk_188_10 {code : ByteArray} {pc : Nat} (h : DkAt code pc [188, 10]) : decode code pc = .ok (.newarray .int, 2) := dk_of ((dk_bind (dk_u1 (h 0 _ rfl))).trans ((dk_bind (dk_u1 (h 1 _ rfl))).trans rfl))
theorem dk_190 {code : ByteArray} {pc : Nat} (h : DkAt code pc [190]) : decode code pc = .ok (.arraylength, 1) := dk_of ((dk_bind (dk_u1 (h 0 _ rfl))).trans rfl)
theorem dk_191 {code : ByteArray} {pc : Nat} (h : DkAt code pc [191]) : decode code pc = .ok (.athrow, 1) := dk_of ((dk_bind (dk_u1 (h 0 _ rfl))).trans rfl)
theorem dk_192 {code : ByteArray} {pc : Nat} (a b : UInt8) (h : DkAt code pc [192, a, b]) : decode code pc = .ok (.checkcast (a.toNat * 256 + b.toNat), 3) := dk_of ((dk_bind (dk_u1 (h 0 _ rfl))).trans ((dk_bind (dk_u2 (h 1 _ rfl) (h 2 _ rfl))).trans rfl))
theorem dk_193 {code : ByteArray} {pc : Nat} (a b : UInt8) (h : DkAt code pc [193, a, b]) : decode code pc = .ok (.instanceof (a.toNat * 256 + b.toNat), 3) := dk_of ((dk_bind (dk_u1 (h 0 _ rfl))).trans ((dk_bind (dk_u2 (h 1 _ rfl) (h 2 _ rfl))).trans rfl))
theorem dk_199 {code : ByteArray} {pc : Nat} (a b : UInt8) (h : DkAt code pc [199, a, b]) : decode code pc = .ok (.ifnonnull (Reader.signed 16 (a.toNat * 256 + b.toNat)), 3) := dk_of ((dk_bind (dk_u1 (h 0 _ rfl))).trans ((dk_bind (dk_map (dk_u2 (h 1 _ rfl) (h 2 _ rfl)))).trans rfl))
end
section
/-! java/lang/Object -/
set_option maxRecDepth 100000
def RJ5 : String := "java/lang/Object"
abbrev cJ5_init : ByteArray := object_method_1_code
def yJ5_init : MethodName := ⟨RJ5, "<init>", "()V"⟩
theorem dJ5_init_0 : decode cJ5_init 0 = .ok (.return_, 1) := by decide +kernel
theorem q37 : (Jvm.Cond.instanceMethod ({ cls := "java/lang/Object", name := "<init>", desc := "()V" } : Jvm.MethodName)) ∈ lw_all := lw_g (lw_at lw_m1 21 rfl) rfl
theorem q38 : (Jvm.Cond.code ({ cls := "java/lang/Object", name := "<init>", desc := "()V" } : Jvm.MethodName) object_method_1_code (1 : Nat) (Option.none : Option Jvm.ClassFile.FieldType)) ∈ lw_all := lw_g (lw_at lw_m1 22 rfl) rfl
/-! Pack -/
set_option maxRecDepth 100000
def RX4 : String := "Pack"
abbrev cX4_bigEndianToInt : ByteArray := prog_6_method_2_code
def yX4_bigEndianToInt : MethodName := ⟨RX4, "bigEndianToInt", "([BI)I"⟩
def dkwX4_bigEndianToInt_2 : List UInt8 := [17, 0, 255, 126, 128, 61, 28, 172]
abbrev dktX4_bigEndianToInt_2 : List UInt8 := dkwX4_bigEndianToInt_2 ++ []
def dkwX4_bigEndianToInt_1 : List UInt8 := [42, 132, 1, 1, 27, 51, 17, 0, 255, 126, 16, 8, 120, 128, 61, 28, 42, 132, 1, 1, 27, 51]
abbrev dktX4_bigEndianToInt_1 : List UInt8 := dkwX4_bigEndianToInt_1 ++ dktX4_bigEndianToInt_2
def dkwX4_bigEndianToInt_0 : List UInt8 := [42, 27, 51, 16, 24, 120, 61, 28, 42, 132, 1, 1, 27, 51, 17, 0, 255, 126, 16, 16, 120, 128, 61, 28]
abbrev dktX4_bigEndianToInt_0 : List UInt8 := dkwX4_bigEndianToInt_0 ++ dktX4_bigEndianToInt_1
theorem dksX4_bigEndianToInt_0 : cX4_bigEndianToInt.data.toList.drop 0 = dktX4_bigEndianToInt_0 := by decide +kernel
theorem dksX4_bigEndianToInt_1 : cX4_bigEndianToInt.data.toList.drop 24 = dktX4_bigEndianToInt_1 := dk_seg dksX4_bigEndianToInt_0 24 rfl rfl
theorem dksX4_bigEndianToInt_2 : cX4_bigEndianToInt.data.toList.drop 46 = dktX4_bigEndianToInt_2 := dk_seg dksX4_bigEndianToInt_1 22 rfl rfl
theorem dX4_bigEndianToInt_0 : decode cX4_bigEndianToInt 0 = .ok (.aload_n 0, 1) := dk_42 (dk_at dksX4_bigEndianToInt_0 0 rfl rfl)
theorem dX4_bigEndianToInt_1 : decode cX4_bigEndianToInt 1 = .ok (.iload_n 1, 1) := dk_27 (dk_at dksX4_bigEndianToInt_0 1 rfl rfl)
theorem dX4_bigEndianToInt_2 : decode cX4_bigEndianToInt 2 = .ok (.baload, 1) := dk_51 (dk_at dksX4_bigEndianToInt_0 2 rfl rfl)
theorem dX4_bigEndianToInt_3 : decode cX4_bigEndianToInt 3 = .ok (.bipush 24, 2) := dk_16 24 (dk_at dksX4_bigEndianToInt_0 3 rfl rfl)
theorem dX4_bigEndianToInt_5 : decode cX4_bigEndianToInt 5 = .ok (.ishl, 1) := dk_120 (dk_at dksX4_bigEndianToInt_0 5 rfl rfl)
theorem dX4_bigEndianToInt_6 : decode cX4_bigEndianToInt 6 = .ok (.istore_n 2, 1) := dk_61 (dk_at dksX4_bigEndianToInt_0 6 rfl rfl)
theorem dX4_bigEndianToInt_7 : decode cX4_bigEndianToInt 7 = .ok (.iload_n 2, 1) := dk_28 (dk_at dksX4_bigEndianToInt_0 7 rfl rfl)
theorem dX4_bigEndianToInt_8 : decode cX4_bigEndianToInt 8 = .ok (.aload_n 0, 1) := dk_42 (dk_at dksX4_bigEndianToInt_0 8 rfl rfl)
theorem dX4_bigEndianToInt_9 : decode cX4_bigEndianToInt 9 = .ok (.iinc 1 1, 3) := dk_132 1 1 (dk_at dksX4_bigEndianToInt_0 9 rfl rfl)
theorem dX4_bigEndianToInt_12 : decode cX4_bigEndianToInt 12 = .ok (.iload_n 1, 1) := dk_27 (dk_at dksX4_bigEndianToInt_0 12 rfl rfl)
theorem dX4_bigEndianToInt_13 : decode cX4_bigEndianToInt 13 = .ok (.baload, 1) := dk_51 (dk_at dksX4_bigEndianToInt_0 13 rfl rfl)
theorem dX4_bigEndianToInt_14 : decode cX4_bigEndianToInt 14 = .ok (.sipush 255, 3) := dk_17 0 255 (dk_at dksX4_bigEndianToInt_0 14 rfl rfl)
theorem dX4_bigEndianToInt_17 : decode cX4_bigEndianToInt 17 = .ok (.iand, 1) := dk_126 (dk_at dksX4_bigEndianToInt_0 17 rfl rfl)
theorem dX4_bigEndianToInt_18 : decode cX4_bigEndianToInt 18 = .ok (.bipush 16, 2) := dk_16 16 (dk_at dksX4_bigEndianToInt_0 18 rfl rfl)
theorem dX4_bigEndianToInt_20 : decode cX4_bigEndianToInt 20 = .ok (.ishl, 1) := dk_120 (dk_at dksX4_bigEndianToInt_0 20 rfl rfl)
theorem dX4_bigEndianToInt_21 : decode cX4_bigEndianToInt 21 = .ok (.ior, 1) := dk_128 (dk_at dksX4_bigEndianToInt_0 21 rfl rfl)
theorem dX4_bigEndianToInt_22 : decode cX4_bigEndianToInt 22 = .ok (.istore_n 2, 1) := dk_61 (dk_at dksX4_bigEndianToInt_0 22 rfl rfl)
theorem dX4_bigEndianToInt_23 : decode cX4_bigEndianToInt 23 = .ok (.iload_n 2, 1) := dk_28 (dk_at dksX4_bigEndianToInt_0 23 rfl rfl)
theorem dX4_bigEndianToInt_24 : decode cX4_bigEndianToInt 24 = .ok (.aload_n 0, 1) := dk_42 (dk_at dksX4_bigEndianToInt_1 0 rfl rfl)
theorem dX4_bigEndianToInt_25 : decode cX4_bigEndianToInt 25 = .ok (.iinc 1 1, 3) := dk_132 1 1 (dk_at dksX4_bigEndianToInt_1 1 rfl rfl)
theorem dX4_bigEndianToInt_28 : decode cX4_bigEndianToInt 28 = .ok (.iload_n 1, 1) := dk_27 (dk_at dksX4_bigEndianToInt_1 4 rfl rfl)
theorem dX4_bigEndianToInt_29 : decode cX4_bigEndianToInt 29 = .ok (.baload, 1) := dk_51 (dk_at dksX4_bigEndianToInt_1 5 rfl rfl)
theorem dX4_bigEndianToInt_30 : decode cX4_bigEndianToInt 30 = .ok (.sipush 255, 3) := dk_17 0 255 (dk_at dksX4_bigEndianToInt_1 6 rfl rfl)
theorem dX4_bigEndianToInt_33 : decode cX4_bigEndianToInt 33 = .ok (.iand, 1) := dk_126 (dk_at dksX4_bigEndianToInt_1 9 rfl rfl)
theorem dX4_bigEndianToInt_34 : decode cX4_bigEndianToInt 34 = .ok (.bipush 8, 2) := dk_16 8 (dk_at dksX4_bigEndianToInt_1 10 rfl rfl)
theorem dX4_bigEndianToInt_36 : decode cX4_bigEndianToInt 36 = .ok (.ishl, 1) := dk_120 (dk_at dksX4_bigEndianToInt_1 12 rfl rfl)
theorem dX4_bigEndianToInt_37 : decode cX4_bigEndianToInt 37 = .ok (.ior, 1) := dk_128 (dk_at dksX4_bigEndianToInt_1 13 rfl rfl)
theorem dX4_bigEndianToInt_38 : decode cX4_bigEndianToInt 38 = .ok (.istore_n 2, 1) := dk_61 (dk_at dksX4_bigEndianToInt_1 14 rfl rfl)
theorem dX4_bigEndianToInt_39 : decode cX4_bigEndianToInt 39 = .ok (.iload_n 2, 1) := dk_28 (dk_at dksX4_bigEndianToInt_1 15 rfl rfl)
theorem dX4_bigEndianToInt_40 : decode cX4_bigEndianToInt 40 = .ok (.aload_n 0, 1) := dk_42 (dk_at dksX4_bigEndianToInt_1 16 rfl rfl)
theorem dX4_bigEndianToInt_41 : decode cX4_bigEndianToInt 41 = .ok (.iinc 1 1, 3) := dk_132 1 1 (dk_at dksX4_bigEndianToInt_1 17 rfl rfl)
theorem dX4_bigEndianToInt_44 : decode cX4_bigEndianToInt 44 = .ok (.iload_n 1, 1) := dk_27 (dk_at dksX4_bigEndianToInt_1 20 rfl rfl)
theorem dX4_bigEndianToInt_45 : decode cX4_bigEndianToInt 45 = .ok (.baload, 1) := dk_51 (dk_at dksX4_bigEndianToInt_1 21 rfl rfl)
theorem dX4_bigEndianToInt_46 : decode cX4_bigEndianToInt 46 = .ok (.sipush 255, 3) := dk_17 0 255 (dk_at dksX4_bigEndianToInt_2 0 rfl rfl)
theorem dX4_bigEndianToInt_49 : decode cX4_bigEndianToInt 49 = .ok (.iand, 1) := dk_126 (dk_at dksX4_bigEndianToInt_2 3 rfl rfl)
theorem dX4_bigEndianToInt_50 : decode cX4_bigEndianToInt 50 = .ok (.ior, 1) := dk_128 (dk_at dksX4_bigEndianToInt_2 4 rfl rfl)
theorem dX4_bigEndianToInt_51 : decode cX4_bigEndianToInt 51 = .ok (.istore_n 2, 1) := dk_61 (dk_at dksX4_bigEndianToInt_2 5 rfl rfl)
theorem dX4_bigEndianToInt_52 : decode cX4_bigEndianToInt 52 = .ok (.iload_n 2, 1) := dk_28 (dk_at dksX4_bigEndianToInt_2 6 rfl rfl)
theorem dX4_bigEndianToInt_53 : decode cX4_bigEndianToInt 53 = .ok (.ireturn, 1) := dk_172 (dk_at dksX4_bigEndianToInt_2 7 rfl rfl)
abbrev cX4_intToBigEndian : ByteArray := prog_6_method_3_code
def yX4_intToBigEndian : MethodName := ⟨RX4, "intToBigEndian", "(I[BI)V"⟩
def dkwX4_intToBigEndian_1 : List UInt8 := [26, 16, 8, 124, 145, 84, 43, 132, 2, 1, 28, 26, 145, 84, 177]
abbrev dktX4_intToBigEndian_1 : List UInt8 := dkwX4_intToBigEndian_1 ++ []
def dkwX4_intToBigEndian_0 : List UInt8 := [43, 28, 26, 16, 24, 124, 145, 84, 43, 132, 2, 1, 28, 26, 16, 16, 124, 145, 84, 43, 132, 2, 1, 28]
abbrev dktX4_intToBigEndian_0 : List UInt8 := dkwX4_intToBigEndian_0 ++ dktX4_intToBigEndian_1
theorem dksX4_intToBigEndian_0 : cX4_intToBigEndian.data.toList.drop 0 = dktX4_intToBigEndian_0 := by decide +kernel
theorem dksX4_intToBigEndian_1 : cX4_intToBigEndian.data.toList.drop 24 = dktX4_intToBigEndian_1 := dk_seg dksX4_intToBigEndian_0 24 rfl rfl
theorem dX4_intToBigEndian_0 : decode cX4_intToBigEndian 0 = .ok (.aload_n 1, 1) := dk_43 (dk_at dksX4_intToBigEndian_0 0 rfl rfl)
theorem dX4_intToBigEndian_1 : decode cX4_intToBigEndian 1 = .ok (.iload_n 2, 1) := dk_28 (dk_at dksX4_intToBigEndian_0 1 rfl rfl)
theorem dX4_intToBigEndian_2 : decode cX4_intToBigEndian 2 = .ok (.iload_n 0, 1) := dk_26 (dk_at dksX4_intToBigEndian_0 2 rfl rfl)
theorem dX4_intToBigEndian_3 : decode cX4_intToBigEndian 3 = .ok (.bipush 24, 2) := dk_16 24 (dk_at dksX4_intToBigEndian_0 3 rfl rfl)
theorem dX4_intToBigEndian_5 : decode cX4_intToBigEndian 5 = .ok (.iushr, 1) := dk_124 (dk_at dksX4_intToBigEndian_0 5 rfl rfl)
theorem dX4_intToBigEndian_6 : decode cX4_intToBigEndian 6 = .ok (.i2b, 1) := dk_145 (dk_at dksX4_intToBigEndian_0 6 rfl rfl)
theorem dX4_intToBigEndian_7 : decode cX4_intToBigEndian 7 = .ok (.bastore, 1) := dk_84 (dk_at dksX4_intToBigEndian_0 7 rfl rfl)
theorem dX4_intToBigEndian_8 : decode cX4_intToBigEndian 8 = .ok (.aload_n 1, 1) := dk_43 (dk_at dksX4_intToBigEndian_0 8 rfl rfl)
theorem dX4_intToBigEndian_9 : decode cX4_intToBigEndian 9 = .ok (.iinc 2 1, 3) := dk_132 2 1 (dk_at dksX4_intToBigEndian_0 9 rfl rfl)
theorem dX4_intToBigEndian_12 : decode cX4_intToBigEndian 12 = .ok (.iload_n 2, 1) := dk_28 (dk_at dksX4_intToBigEndian_0 12 rfl rfl)
theorem dX4_intToBigEndian_13 : decode cX4_intToBigEndian 13 = .ok (.iload_n 0, 1) := dk_26 (dk_at dksX4_intToBigEndian_0 13 rfl rfl)
theorem dX4_intToBigEndian_14 : decode cX4_intToBigEndian 14 = .ok (.bipush 16, 2) := dk_16 16 (dk_at dksX4_intToBigEndian_0 14 rfl rfl)
theorem dX4_intToBigEndian_16 : decode cX4_intToBigEndian 16 = .ok (.iushr, 1) := dk_124 (dk_at dksX4_intToBigEndian_0 16 rfl rfl)
theorem dX4_intToBigEndian_17 : decode cX4_intToBigEndian 17 = .ok (.i2b, 1) := dk_145 (dk_at dksX4_intToBigEndian_0 17 rfl rfl)
theorem dX4_intToBigEndian_18 : decode cX4_intToBigEndian 18 = .ok (.bastore, 1) := dk_84 (dk_at dksX4_intToBigEndian_0 18 rfl rfl)
theorem dX4_intToBigEndian_19 : decode cX4_intToBigEndian 19 = .ok (.aload_n 1, 1) := dk_43 (dk_at dksX4_intToBigEndian_0 19 rfl rfl)
theorem dX4_intToBigEndian_20 : decode cX4_intToBigEndian 20 = .ok (.iinc 2 1, 3) := dk_132 2 1 (dk_at dksX4_intToBigEndian_0 20 rfl rfl)
theorem dX4_intToBigEndian_23 : decode cX4_intToBigEndian 23 = .ok (.iload_n 2, 1) := dk_28 (dk_at dksX4_intToBigEndian_0 23 rfl rfl)
theorem dX4_intToBigEndian_24 : decode cX4_intToBigEndian 24 = .ok (.iload_n 0, 1) := dk_26 (dk_at dksX4_intToBigEndian_1 0 rfl rfl)
theorem dX4_intToBigEndian_25 : decode cX4_intToBigEndian 25 = .ok (.bipush 8, 2) := dk_16 8 (dk_at dksX4_intToBigEndian_1 1 rfl rfl)
theorem dX4_intToBigEndian_27 : decode cX4_intToBigEndian 27 = .ok (.iushr, 1) := dk_124 (dk_at dksX4_intToBigEndian_1 3 rfl rfl)
theorem dX4_intToBigEndian_28 : decode cX4_intToBigEndian 28 = .ok (.i2b, 1) := dk_145 (dk_at dksX4_intToBigEndian_1 4 rfl rfl)
theorem dX4_intToBigEndian_29 : decode cX4_intToBigEndian 29 = .ok (.bastore, 1) := dk_84 (dk_at dksX4_intToBigEndian_1 5 rfl rfl)
theorem dX4_intToBigEndian_30 : decode cX4_intToBigEndian 30 = .ok (.aload_n 1, 1) := dk_43 (dk_at dksX4_intToBigEndian_1 6 rfl rfl)
theorem dX4_intToBigEndian_31 : decode cX4_intToBigEndian 31 = .ok (.iinc 2 1, 3) := dk_132 2 1 (dk_at dksX4_intToBigEndian_1 7 rfl rfl)
theorem dX4_intToBigEndian_34 : decode cX4_intToBigEndian 34 = .ok (.iload_n 2, 1) := dk_28 (dk_at dksX4_intToBigEndian_1 10 rfl rfl)
theorem dX4_intToBigEndian_35 : decode cX4_intToBigEndian 35 = .ok (.iload_n 0, 1) := dk_26 (dk_at dksX4_intToBigEndian_1 11 rfl rfl)
theorem dX4_intToBigEndian_36 : decode cX4_intToBigEndian 36 = .ok (.i2b, 1) := dk_145 (dk_at dksX4_intToBigEndian_1 12 rfl rfl)
theorem dX4_intToBigEndian_37 : decode cX4_intToBigEndian 37 = .ok (.bastore, 1) := dk_84 (dk_at dksX4_intToBigEndian_1 13 rfl rfl)
theorem dX4_intToBigEndian_38 : decode cX4_intToBigEndian 38 = .ok (.return_, 1) := dk_177 (dk_at dksX4_intToBigEndian_1 14 rfl rfl)
theorem q26 : (Jvm.Cond.initialized "Pack") ∈ lw_all := lw_g (lw_at lw_m1 10 rfl) rfl
theorem q193 : (Jvm.Cond.static ({ cls := "Pack", name := "bigEndianToInt", desc := "([BI)I" } : Jvm.MethodName)) ∈ lw_all := lw_g (lw_at lw_m1 177 rfl) rfl
theorem q194 : (Jvm.Cond.code ({ cls := "Pack", name := "bigEndianToInt", desc := "([BI)I" } : Jvm.MethodName) prog_6_method_2_code (3 : Nat) (Option.some Jvm.ClassFile.FieldType.int)) ∈ lw_all := lw_g (lw_at lw_m1 178 rfl) rfl
theorem q305 : (Jvm.Cond.static ({ cls := "Pack", name := "intToBigEndian", desc := "(I[BI)V" } : Jvm.MethodName)) ∈ lw_all := lw_g (lw_at lw_m2 49 rfl) rfl
theorem q306 : (Jvm.Cond.code ({ cls := "Pack", name := "intToBigEndian", desc := "(I[BI)V" } : Jvm.MethodName) prog_6_method_3_code (3 : Nat) (Option.none : Option Jvm.ClassFile.FieldType)) ∈ lw_all := lw_g (lw_at lw_m2 50 rfl) rfl
/-! KeyParameter -/
set_option maxRecDepth 100000
def RX3 : String := "KeyParameter"
def TX3 : u_T := fun k => match k with
  | _ => ("KeyParameter", "key", "[B", false)
def tyX3 : Nat → FieldType := fun k => match k with
  | _ => .array .byte
abbrev wsX30 : List Cond := u_ws RX3 TX3 1
theorem nmX3 : ∀ a, a < 1 → ∀ b, b < 1 → a ≠ b → (TX3 a).2.1 ≠ (TX3 b).2.1 := by decide +kernel
theorem tyX3_ok : ∀ k, k < 1 → parseFieldDescriptor (TX3 k).2.2.1 = some (tyX3 k) := by decide +kernel
abbrev cX3_init : ByteArray := prog_4_method_1_code
def yX3_init : MethodName := ⟨RX3, "<init>", "([B)V"⟩
def dkwX3_init_0 : List UInt8 := [42, 43, 3, 43, 190, 183, 0, 1, 177]
abbrev dktX3_init_0 : List UInt8 := dkwX3_init_0 ++ []
theorem dksX3_init_0 : cX3_init.data.toList.drop 0 = dktX3_init_0 := by decide +kernel
theorem dX3_init_0 : decode cX3_init 0 = .ok (.aload_n 0, 1) := dk_42 (dk_at dksX3_init_0 0 rfl rfl)
theorem dX3_init_1 : decode cX3_init 1 = .ok (.aload_n 1, 1) := dk_43 (dk_at dksX3_init_0 1 rfl rfl)
theorem dX3_init_2 : decode cX3_init 2 = .ok (.iconst 0, 1) := dk_3 (dk_at dksX3_init_0 2 rfl rfl)
theorem dX3_init_3 : decode cX3_init 3 = .ok (.aload_n 1, 1) := dk_43 (dk_at dksX3_init_0 3 rfl rfl)
theorem dX3_init_4 : decode cX3_init 4 = .ok (.arraylength, 1) := dk_190 (dk_at dksX3_init_0 4 rfl rfl)
theorem dX3_init_5 : decode cX3_init 5 = .ok (.invokespecial 1, 3) := dk_183 0 1 (dk_at dksX3_init_0 5 rfl rfl)
theorem dX3_init_8 : decode cX3_init 8 = .ok (.return_, 1) := dk_177 (dk_at dksX3_init_0 8 rfl rfl)
abbrev cX3_init_2 : ByteArray := prog_4_method_2_code
def yX3_init_2 : MethodName := ⟨RX3, "<init>", "([BII)V"⟩
def dkwX3_init_2_0 : List UInt8 := [42, 29, 183, 0, 7, 43, 28, 42, 180, 0, 10, 3, 29, 184, 0, 14, 177]
abbrev dktX3_init_2_0 : List UInt8 := dkwX3_init_2_0 ++ []
theorem dksX3_init_2_0 : cX3_init_2.data.toList.drop 0 = dktX3_init_2_0 := by decide +kernel
theorem dX3_init_2_0 : decode cX3_init_2 0 = .ok (.aload_n 0, 1) := dk_42 (dk_at dksX3_init_2_0 0 rfl rfl)
theorem dX3_init_2_1 : decode cX3_init_2 1 = .ok (.iload_n 3, 1) := dk_29 (dk_at dksX3_init_2_0 1 rfl rfl)
theorem dX3_init_2_2 : decode cX3_init_2 2 = .ok (.invokespecial 7, 3) := dk_183 0 7 (dk_at dksX3_init_2_0 2 rfl rfl)
theorem dX3_init_2_5 : decode cX3_init_2 5 = .ok (.aload_n 1, 1) := dk_43 (dk_at dksX3_init_2_0 5 rfl rfl)
theorem dX3_init_2_6 : decode cX3_init_2 6 = .ok (.iload_n 2, 1) := dk_28 (dk_at dksX3_init_2_0 6 rfl rfl)
theorem dX3_init_2_7 : decode cX3_init_2 7 = .ok (.aload_n 0, 1) := dk_42 (dk_at dksX3_init_2_0 7 rfl rfl)
theorem dX3_init_2_8 : decode cX3_init_2 8 = .ok (.getfield 10, 3) := dk_180 0 10 (dk_at dksX3_init_2_0 8 rfl rfl)
theorem dX3_init_2_11 : decode cX3_init_2 11 = .ok (.iconst 0, 1) := dk_3 (dk_at dksX3_init_2_0 11 rfl rfl)
theorem dX3_init_2_12 : decode cX3_init_2 12 = .ok (.iload_n 3, 1) := dk_29 (dk_at dksX3_init_2_0 12 rfl rfl)
theorem dX3_init_2_13 : decode cX3_init_2 13 = .ok (.invokestatic 14, 3) := dk_184 0 14 (dk_at dksX3_init_2_0 13 rfl rfl)
theorem dX3_init_2_16 : decode cX3_init_2 16 = .ok (.return_, 1) := dk_177 (dk_at dksX3_init_2_0 16 rfl rfl)
abbrev cX3_init_3 : ByteArray := prog_4_method_3_code
def yX3_init_3 : MethodName := ⟨RX3, "<init>", "(I)V"⟩
def dkwX3_init_3_0 : List UInt8 := [42, 183, 0, 20, 42, 27, 188, 8, 181, 0, 10, 177]
abbrev dktX3_init_3_0 : List UInt8 := dkwX3_init_3_0 ++ []
theorem dksX3_init_3_0 : cX3_init_3.data.toList.drop 0 = dktX3_init_3_0 := by decide +kernel
theorem dX3_init_3_0 : decode cX3_init_3 0 = .ok (.aload_n 0, 1) := dk_42 (dk_at dksX3_init_3_0 0 rfl rfl)
theorem dX3_init_3_1 : decode cX3_init_3 1 = .ok (.invokespecial 20, 3) := dk_183 0 20 (dk_at dksX3_init_3_0 1 rfl rfl)
theorem dX3_init_3_4 : decode cX3_init_3 4 = .ok (.aload_n 0, 1) := dk_42 (dk_at dksX3_init_3_0 4 rfl rfl)
theorem dX3_init_3_5 : decode cX3_init_3 5 = .ok (.iload_n 1, 1) := dk_27 (dk_at dksX3_init_3_0 5 rfl rfl)
theorem dX3_init_3_6 : decode cX3_init_3 6 = .ok (.newarray .byte, 2) := dk_188_8 (dk_at dksX3_init_3_0 6 rfl rfl)
theorem dX3_init_3_8 : decode cX3_init_3 8 = .ok (.putfield 10, 3) := dk_181 0 10 (dk_at dksX3_init_3_0 8 rfl rfl)
theorem dX3_init_3_11 : decode cX3_init_3 11 = .ok (.return_, 1) := dk_177 (dk_at dksX3_init_3_0 11 rfl rfl)
abbrev cX3_getKey : ByteArray := prog_4_method_4_code
def yX3_getKey : MethodName := ⟨RX3, "getKey", "()[B"⟩
theorem dX3_getKey_0 : decode cX3_getKey 0 = .ok (.aload_n 0, 1) := by decide +kernel
theorem dX3_getKey_1 : decode cX3_getKey 1 = .ok (.getfield 10, 3) := by decide +kernel
theorem dX3_getKey_4 : decode cX3_getKey 4 = .ok (.areturn, 1) := by decide +kernel
theorem q20 : (Jvm.Cond.initialized "KeyParameter") ∈ lw_all := lw_g (lw_at lw_m1 4 rfl) rfl
theorem q87 : (Jvm.Cond.instantiable "KeyParameter" (1 : Nat)) ∈ lw_all := lw_g (lw_at lw_m1 71 rfl) rfl
theorem q89 : (Jvm.Cond.instanceMethod ({ cls := "KeyParameter", name := "<init>", desc := "([B)V" } : Jvm.MethodName)) ∈ lw_all := lw_g (lw_at lw_m1 73 rfl) rfl
theorem q90 : (Jvm.Cond.code ({ cls := "KeyParameter", name := "<init>", desc := "([B)V" } : Jvm.MethodName) prog_4_method_1_code (2 : Nat) (Option.none : Option Jvm.ClassFile.FieldType)) ∈ lw_all := lw_g (lw_at lw_m1 74 rfl) rfl
theorem q91 : (Jvm.Cond.methodLink "KeyParameter" (1 : Nat) ({ cls := "KeyParameter", name := "<init>", desc := "([BII)V" } : Jvm.MethodName)) ∈ lw_all := lw_g (lw_at lw_m1 75 rfl) rfl
theorem q92 : (Jvm.Cond.instanceMethod ({ cls := "KeyParameter", name := "<init>", desc := "([BII)V" } : Jvm.MethodName)) ∈ lw_all := lw_g (lw_at lw_m1 76 rfl) rfl
theorem q93 : (Jvm.Cond.code ({ cls := "KeyParameter", name := "<init>", desc := "([BII)V" } : Jvm.MethodName) prog_4_method_2_code (4 : Nat) (Option.none : Option Jvm.ClassFile.FieldType)) ∈ lw_all := lw_g (lw_at lw_m1 77 rfl) rfl
theorem q94 : (Jvm.Cond.methodLink "KeyParameter" (7 : Nat) ({ cls := "KeyParameter", name := "<init>", desc := "(I)V" } : Jvm.MethodName)) ∈ lw_all := lw_g (lw_at lw_m1 78 rfl) rfl
theorem q95 : (Jvm.Cond.instanceMethod ({ cls := "KeyParameter", name := "<init>", desc := "(I)V" } : Jvm.MethodName)) ∈ lw_all := lw_g (lw_at lw_m1 79 rfl) rfl
theorem q96 : (Jvm.Cond.code ({ cls := "KeyParameter", name := "<init>", desc := "(I)V" } : Jvm.MethodName) prog_4_method_3_code (2 : Nat) (Option.none : Option Jvm.ClassFile.FieldType)) ∈ lw_all := lw_g (lw_at lw_m1 80 rfl) rfl
theorem q97 : (Jvm.Cond.methodLink "KeyParameter" (20 : Nat) ({ cls := "java/lang/Object", name := "<init>", desc := "()V" } : Jvm.MethodName)) ∈ lw_all := lw_g (lw_at lw_m1 81 rfl) rfl
theorem q98 : (Jvm.Cond.fieldLink "KeyParameter" (10 : Nat) "KeyParameter" "key" "[B") ∈ lw_all := lw_g (lw_at lw_m1 82 rfl) rfl
theorem q99 : (Jvm.Cond.lays "KeyParameter" "KeyParameter" "key" "[B") ∈ lw_all := lw_g (lw_at lw_m1 83 rfl) rfl
theorem q100 : (Jvm.Cond.soleField "KeyParameter" "key") ∈ lw_all := lw_g (lw_at lw_m1 84 rfl) rfl
theorem q101 : (Jvm.Cond.superclass "KeyParameter" "java/lang/Object") ∈ lw_all := lw_g (lw_at lw_m1 85 rfl) rfl
theorem q102 : (Jvm.Cond.methodLink "KeyParameter" (14 : Nat) ({ cls := "java/lang/System", name := "arraycopy", desc := "(Ljava/lang/Object;ILjava/lang/Object;II)V" } : Jvm.MethodName)) ∈ lw_all := lw_g (lw_at lw_m1 86 rfl) rfl
theorem q117 : (Jvm.Cond.instanceMethod ({ cls := "KeyParameter", name := "getKey", desc := "()[B" } : Jvm.MethodName)) ∈ lw_all := lw_g (lw_at lw_m1 101 rfl) rfl
theorem q118 : (Jvm.Cond.selects "KeyParameter" ({ cls := "KeyParameter", name := "getKey", desc := "()[B" } : Jvm.MethodName) ({ cls := "KeyParameter", name := "getKey", desc := "()[B" } : Jvm.MethodName)) ∈ lw_all := lw_g (lw_at lw_m1 102 rfl) rfl
theorem q119 : (Jvm.Cond.code ({ cls := "KeyParameter", name := "getKey", desc := "()[B" } : Jvm.MethodName) prog_4_method_4_code (1 : Nat) (Option.some (Jvm.ClassFile.FieldType.array Jvm.ClassFile.FieldType.byte))) ∈ lw_all := lw_g (lw_at lw_m1 103 rfl) rfl
theorem in_X3 : ∀ w ∈ wsX30, w ∈ lw_all := lw_in wsX30 [99] (by decide +kernel) (by decide +kernel)
/-! SmFourDesk -/
set_option maxRecDepth 100000
def RX0 : String := "SmFourDesk"
def TX0 : u_T := fun k => match k with
  | 0 => ("SmFourDesk", "key", "[B", true)
  | 1 => ("SmFourDesk", "block", "[B", true)
  | _ => ("SmFourDesk", "out", "[B", true)
def tyX0 : Nat → FieldType := fun k => match k with
  | 0 => .array .byte
  | 1 => .array .byte
  | _ => .array .byte
abbrev wsX00 : List Cond := u_ws RX0 TX0 3
theorem nmX0 : ∀ a, a < 3 → ∀ b, b < 3 → a ≠ b → (TX0 a).2.1 ≠ (TX0 b).2.1 := by decide +kernel
theorem tyX0_ok : ∀ k, k < 3 → parseFieldDescriptor (TX0 k).2.2.1 = some (tyX0 k) := by decide +kernel
abbrev cX0_init : ByteArray := prog_9_method_1_code
def yX0_init : MethodName := ⟨RX0, "<init>", "()V"⟩
def dkwX0_init_1 : List UInt8 := [188, 8, 181, 0, 16, 177]
abbrev dktX0_init_1 : List UInt8 := dkwX0_init_1 ++ []
def dkwX0_init_0 : List UInt8 := [42, 183, 0, 1, 42, 16, 32, 188, 8, 181, 0, 7, 42, 16, 16, 188, 8, 181, 0, 13, 42, 16, 16]
abbrev dktX0_init_0 : List UInt8 := dkwX0_init_0 ++ dktX0_init_1
theorem dksX0_init_0 : cX0_init.data.toList.drop 0 = dktX0_init_0 := by decide +kernel
theorem dksX0_init_1 : cX0_init.data.toList.drop 23 = dktX0_init_1 := dk_seg dksX0_init_0 23 rfl rfl
theorem dX0_init_0 : decode cX0_init 0 = .ok (.aload_n 0, 1) := dk_42 (dk_at dksX0_init_0 0 rfl rfl)
theorem dX0_init_1 : decode cX0_init 1 = .ok (.invokespecial 1, 3) := dk_183 0 1 (dk_at dksX0_init_0 1 rfl rfl)
theorem dX0_init_4 : decode cX0_init 4 = .ok (.aload_n 0, 1) := dk_42 (dk_at dksX0_init_0 4 rfl rfl)
theorem dX0_init_5 : decode cX0_init 5 = .ok (.bipush 32, 2) := dk_16 32 (dk_at dksX0_init_0 5 rfl rfl)
theorem dX0_init_7 : decode cX0_init 7 = .ok (.newarray .byte, 2) := dk_188_8 (dk_at dksX0_init_0 7 rfl rfl)
theorem dX0_init_9 : decode cX0_init 9 = .ok (.putfield 7, 3) := dk_181 0 7 (dk_at dksX0_init_0 9 rfl rfl)
theorem dX0_init_12 : decode cX0_init 12 = .ok (.aload_n 0, 1) := dk_42 (dk_at dksX0_init_0 12 rfl rfl)
theorem dX0_init_13 : decode cX0_init 13 = .ok (.bipush 16, 2) := dk_16 16 (dk_at dksX0_init_0 13 rfl rfl)
theorem dX0_init_15 : decode cX0_init 15 = .ok (.newarray .byte, 2) := dk_188_8 (dk_at dksX0_init_0 15 rfl rfl)
theorem dX0_init_17 : decode cX0_init 17 = .ok (.putfield 13, 3) := dk_181 0 13 (dk_at dksX0_init_0 17 rfl rfl)
theorem dX0_init_20 : decode cX0_init 20 = .ok (.aload_n 0, 1) := dk_42 (dk_at dksX0_init_0 20 rfl rfl)
theorem dX0_init_21 : decode cX0_init 21 = .ok (.bipush 16, 2) := dk_16 16 (dk_at dksX0_init_0 21 rfl rfl)
theorem dX0_init_23 : decode cX0_init 23 = .ok (.newarray .byte, 2) := dk_188_8 (dk_at dksX0_init_1 0 rfl rfl)
theorem dX0_init_25 : decode cX0_init 25 = .ok (.putfield 16, 3) := dk_181 0 16 (dk_at dksX0_init_1 2 rfl rfl)
theorem dX0_init_28 : decode cX0_init 28 = .ok (.return_, 1) := dk_177 (dk_at dksX0_init_1 5 rfl rfl)
abbrev cX0_key : ByteArray := prog_9_method_3_code
def yX0_key : MethodName := ⟨RX0, "key", "(IIIII)V"⟩
def dkwX0_key_2 : List UInt8 := [21, 6, 16, 12, 96, 21, 5, 184, 0, 19, 177]
abbrev dktX0_key_2 : List UInt8 := dkwX0_key_2 ++ []
def dkwX0_key_1 : List UInt8 := [96, 29, 184, 0, 19, 42, 180, 0, 7, 21, 6, 16, 8, 96, 21, 4, 184, 0, 19, 42, 180, 0, 7]
abbrev dktX0_key_1 : List UInt8 := dkwX0_key_1 ++ dktX0_key_2
def dkwX0_key_0 : List UInt8 := [27, 4, 126, 7, 120, 54, 6, 42, 180, 0, 7, 21, 6, 28, 184, 0, 19, 42, 180, 0, 7, 21, 6, 7]
abbrev dktX0_key_0 : List UInt8 := dkwX0_key_0 ++ dktX0_key_1
theorem dksX0_key_0 : cX0_key.data.toList.drop 0 = dktX0_key_0 := by decide +kernel
theorem dksX0_key_1 : cX0_key.data.toList.drop 24 = dktX0_key_1 := dk_seg dksX0_key_0 24 rfl rfl
theorem dksX0_key_2 : cX0_key.data.toList.drop 47 = dktX0_key_2 := dk_seg dksX0_key_1 23 rfl rfl
theorem dX0_key_0 : decode cX0_key 0 = .ok (.iload_n 1, 1) := dk_27 (dk_at dksX0_key_0 0 rfl rfl)
theorem dX0_key_1 : decode cX0_key 1 = .ok (.iconst 1, 1) := dk_4 (dk_at dksX0_key_0 1 rfl rfl)
theorem dX0_key_2 : decode cX0_key 2 = .ok (.iand, 1) := dk_126 (dk_at dksX0_key_0 2 rfl rfl)
theorem dX0_key_3 : decode cX0_key 3 = .ok (.iconst 4, 1) := dk_7 (dk_at dksX0_key_0 3 rfl rfl)
theorem dX0_key_4 : decode cX0_key 4 = .ok (.ishl, 1) := dk_120 (dk_at dksX0_key_0 4 rfl rfl)
theorem dX0_key_5 : decode cX0_key 5 = .ok (.istore 6, 2) := dk_54 6 (dk_at dksX0_key_0 5 rfl rfl)
theorem dX0_key_7 : decode cX0_key 7 = .ok (.aload_n 0, 1) := dk_42 (dk_at dksX0_key_0 7 rfl rfl)
theorem dX0_key_8 : decode cX0_key 8 = .ok (.getfield 7, 3) := dk_180 0 7 (dk_at dksX0_key_0 8 rfl rfl)
theorem dX0_key_11 : decode cX0_key 11 = .ok (.iload 6, 2) := dk_21 6 (dk_at dksX0_key_0 11 rfl rfl)
theorem dX0_key_13 : decode cX0_key 13 = .ok (.iload_n 2, 1) := dk_28 (dk_at dksX0_key_0 13 rfl rfl)
theorem dX0_key_14 : decode cX0_key 14 = .ok (.invokestatic 19, 3) := dk_184 0 19 (dk_at dksX0_key_0 14 rfl rfl)
theorem dX0_key_17 : decode cX0_key 17 = .ok (.aload_n 0, 1) := dk_42 (dk_at dksX0_key_0 17 rfl rfl)
theorem dX0_key_18 : decode cX0_key 18 = .ok (.getfield 7, 3) := dk_180 0 7 (dk_at dksX0_key_0 18 rfl rfl)
theorem dX0_key_21 : decode cX0_key 21 = .ok (.iload 6, 2) := dk_21 6 (dk_at dksX0_key_0 21 rfl rfl)
theorem dX0_key_23 : decode cX0_key 23 = .ok (.iconst 4, 1) := dk_7 (dk_at dksX0_key_0 23 rfl rfl)
theorem dX0_key_24 : decode cX0_key 24 = .ok (.iadd, 1) := dk_96 (dk_at dksX0_key_1 0 rfl rfl)
theorem dX0_key_25 : decode cX0_key 25 = .ok (.iload_n 3, 1) := dk_29 (dk_at dksX0_key_1 1 rfl rfl)
theorem dX0_key_26 : decode cX0_key 26 = .ok (.invokestatic 19, 3) := dk_184 0 19 (dk_at dksX0_key_1 2 rfl rfl)
theorem dX0_key_29 : decode cX0_key 29 = .ok (.aload_n 0, 1) := dk_42 (dk_at dksX0_key_1 5 rfl rfl)
theorem dX0_key_30 : decode cX0_key 30 = .ok (.getfield 7, 3) := dk_180 0 7 (dk_at dksX0_key_1 6 rfl rfl)
theorem dX0_key_33 : decode cX0_key 33 = .ok (.iload 6, 2) := dk_21 6 (dk_at dksX0_key_1 9 rfl rfl)
theorem dX0_key_35 : decode cX0_key 35 = .ok (.bipush 8, 2) := dk_16 8 (dk_at dksX0_key_1 11 rfl rfl)
theorem dX0_key_37 : decode cX0_key 37 = .ok (.iadd, 1) := dk_96 (dk_at dksX0_key_1 13 rfl rfl)
theorem dX0_key_38 : decode cX0_key 38 = .ok (.iload 4, 2) := dk_21 4 (dk_at dksX0_key_1 14 rfl rfl)
theorem dX0_key_40 : decode cX0_key 40 = .ok (.invokestatic 19, 3) := dk_184 0 19 (dk_at dksX0_key_1 16 rfl rfl)
theorem dX0_key_43 : decode cX0_key 43 = .ok (.aload_n 0, 1) := dk_42 (dk_at dksX0_key_1 19 rfl rfl)
theorem dX0_key_44 : decode cX0_key 44 = .ok (.getfield 7, 3) := dk_180 0 7 (dk_at dksX0_key_1 20 rfl rfl)
theorem dX0_key_47 : decode cX0_key 47 = .ok (.iload 6, 2) := dk_21 6 (dk_at dksX0_key_2 0 rfl rfl)
theorem dX0_key_49 : decode cX0_key 49 = .ok (.bipush 12, 2) := dk_16 12 (dk_at dksX0_key_2 2 rfl rfl)
theorem dX0_key_51 : decode cX0_key 51 = .ok (.iadd, 1) := dk_96 (dk_at dksX0_key_2 4 rfl rfl)
theorem dX0_key_52 : decode cX0_key 52 = .ok (.iload 5, 2) := dk_21 5 (dk_at dksX0_key_2 5 rfl rfl)
theorem dX0_key_54 : decode cX0_key 54 = .ok (.invokestatic 19, 3) := dk_184 0 19 (dk_at dksX0_key_2 7 rfl rfl)
theorem dX0_key_57 : decode cX0_key 57 = .ok (.return_, 1) := dk_177 (dk_at dksX0_key_2 10 rfl rfl)
abbrev cX0_word : ByteArray := prog_9_method_2_code
def yX0_word : MethodName := ⟨RX0, "word", "([BII)V"⟩
def dkwX0_word_1 : List UInt8 := [16, 8, 122, 145, 84, 42, 27, 6, 96, 28, 145, 84, 177]
abbrev dktX0_word_1 : List UInt8 := dkwX0_word_1 ++ []
def dkwX0_word_0 : List UInt8 := [42, 27, 28, 16, 24, 122, 145, 84, 42, 27, 4, 96, 28, 16, 16, 122, 145, 84, 42, 27, 5, 96, 28]
abbrev dktX0_word_0 : List UInt8 := dkwX0_word_0 ++ dktX0_word_1
theorem dksX0_word_0 : cX0_word.data.toList.drop 0 = dktX0_word_0 := by decide +kernel
theorem dksX0_word_1 : cX0_word.data.toList.drop 23 = dktX0_word_1 := dk_seg dksX0_word_0 23 rfl rfl
theorem dX0_word_0 : decode cX0_word 0 = .ok (.aload_n 0, 1) := dk_42 (dk_at dksX0_word_0 0 rfl rfl)
theorem dX0_word_1 : decode cX0_word 1 = .ok (.iload_n 1, 1) := dk_27 (dk_at dksX0_word_0 1 rfl rfl)
theorem dX0_word_2 : decode cX0_word 2 = .ok (.iload_n 2, 1) := dk_28 (dk_at dksX0_word_0 2 rfl rfl)
theorem dX0_word_3 : decode cX0_word 3 = .ok (.bipush 24, 2) := dk_16 24 (dk_at dksX0_word_0 3 rfl rfl)
theorem dX0_word_5 : decode cX0_word 5 = .ok (.ishr, 1) := dk_122 (dk_at dksX0_word_0 5 rfl rfl)
theorem dX0_word_6 : decode cX0_word 6 = .ok (.i2b, 1) := dk_145 (dk_at dksX0_word_0 6 rfl rfl)
theorem dX0_word_7 : decode cX0_word 7 = .ok (.bastore, 1) := dk_84 (dk_at dksX0_word_0 7 rfl rfl)
theorem dX0_word_8 : decode cX0_word 8 = .ok (.aload_n 0, 1) := dk_42 (dk_at dksX0_word_0 8 rfl rfl)
theorem dX0_word_9 : decode cX0_word 9 = .ok (.iload_n 1, 1) := dk_27 (dk_at dksX0_word_0 9 rfl rfl)
theorem dX0_word_10 : decode cX0_word 10 = .ok (.iconst 1, 1) := dk_4 (dk_at dksX0_word_0 10 rfl rfl)
theorem dX0_word_11 : decode cX0_word 11 = .ok (.iadd, 1) := dk_96 (dk_at dksX0_word_0 11 rfl rfl)
theorem dX0_word_12 : decode cX0_word 12 = .ok (.iload_n 2, 1) := dk_28 (dk_at dksX0_word_0 12 rfl rfl)
theorem dX0_word_13 : decode cX0_word 13 = .ok (.bipush 16, 2) := dk_16 16 (dk_at dksX0_word_0 13 rfl rfl)
theorem dX0_word_15 : decode cX0_word 15 = .ok (.ishr, 1) := dk_122 (dk_at dksX0_word_0 15 rfl rfl)
theorem dX0_word_16 : decode cX0_word 16 = .ok (.i2b, 1) := dk_145 (dk_at dksX0_word_0 16 rfl rfl)
theorem dX0_word_17 : decode cX0_word 17 = .ok (.bastore, 1) := dk_84 (dk_at dksX0_word_0 17 rfl rfl)
theorem dX0_word_18 : decode cX0_word 18 = .ok (.aload_n 0, 1) := dk_42 (dk_at dksX0_word_0 18 rfl rfl)
theorem dX0_word_19 : decode cX0_word 19 = .ok (.iload_n 1, 1) := dk_27 (dk_at dksX0_word_0 19 rfl rfl)
theorem dX0_word_20 : decode cX0_word 20 = .ok (.iconst 2, 1) := dk_5 (dk_at dksX0_word_0 20 rfl rfl)
theorem dX0_word_21 : decode cX0_word 21 = .ok (.iadd, 1) := dk_96 (dk_at dksX0_word_0 21 rfl rfl)
theorem dX0_word_22 : decode cX0_word 22 = .ok (.iload_n 2, 1) := dk_28 (dk_at dksX0_word_0 22 rfl rfl)
theorem dX0_word_23 : decode cX0_word 23 = .ok (.bipush 8, 2) := dk_16 8 (dk_at dksX0_word_1 0 rfl rfl)
theorem dX0_word_25 : decode cX0_word 25 = .ok (.ishr, 1) := dk_122 (dk_at dksX0_word_1 2 rfl rfl)
theorem dX0_word_26 : decode cX0_word 26 = .ok (.i2b, 1) := dk_145 (dk_at dksX0_word_1 3 rfl rfl)
theorem dX0_word_27 : decode cX0_word 27 = .ok (.bastore, 1) := dk_84 (dk_at dksX0_word_1 4 rfl rfl)
theorem dX0_word_28 : decode cX0_word 28 = .ok (.aload_n 0, 1) := dk_42 (dk_at dksX0_word_1 5 rfl rfl)
theorem dX0_word_29 : decode cX0_word 29 = .ok (.iload_n 1, 1) := dk_27 (dk_at dksX0_word_1 6 rfl rfl)
theorem dX0_word_30 : decode cX0_word 30 = .ok (.iconst 3, 1) := dk_6 (dk_at dksX0_word_1 7 rfl rfl)
theorem dX0_word_31 : decode cX0_word 31 = .ok (.iadd, 1) := dk_96 (dk_at dksX0_word_1 8 rfl rfl)
theorem dX0_word_32 : decode cX0_word 32 = .ok (.iload_n 2, 1) := dk_28 (dk_at dksX0_word_1 9 rfl rfl)
theorem dX0_word_33 : decode cX0_word 33 = .ok (.i2b, 1) := dk_145 (dk_at dksX0_word_1 10 rfl rfl)
theorem dX0_word_34 : decode cX0_word 34 = .ok (.bastore, 1) := dk_84 (dk_at dksX0_word_1 11 rfl rfl)
theorem dX0_word_35 : decode cX0_word 35 = .ok (.return_, 1) := dk_177 (dk_at dksX0_word_1 12 rfl rfl)
abbrev cX0_block : ByteArray := prog_9_method_4_code
def yX0_block : MethodName := ⟨RX0, "block", "(IIII)V"⟩
def dkwX0_block_1 : List UInt8 := [29, 184, 0, 19, 42, 180, 0, 13, 16, 12, 21, 4, 184, 0, 19, 177]
abbrev dktX0_block_1 : List UInt8 := dkwX0_block_1 ++ []
def dkwX0_block_0 : List UInt8 := [42, 180, 0, 13, 3, 27, 184, 0, 19, 42, 180, 0, 13, 7, 28, 184, 0, 19, 42, 180, 0, 13, 16, 8]
abbrev dktX0_block_0 : List UInt8 := dkwX0_block_0 ++ dktX0_block_1
theorem dksX0_block_0 : cX0_block.data.toList.drop 0 = dktX0_block_0 := by decide +kernel
theorem dksX0_block_1 : cX0_block.data.toList.drop 24 = dktX0_block_1 := dk_seg dksX0_block_0 24 rfl rfl
theorem dX0_block_0 : decode cX0_block 0 = .ok (.aload_n 0, 1) := dk_42 (dk_at dksX0_block_0 0 rfl rfl)
theorem dX0_block_1 : decode cX0_block 1 = .ok (.getfield 13, 3) := dk_180 0 13 (dk_at dksX0_block_0 1 rfl rfl)
theorem dX0_block_4 : decode cX0_block 4 = .ok (.iconst 0, 1) := dk_3 (dk_at dksX0_block_0 4 rfl rfl)
theorem dX0_block_5 : decode cX0_block 5 = .ok (.iload_n 1, 1) := dk_27 (dk_at dksX0_block_0 5 rfl rfl)
theorem dX0_block_6 : decode cX0_block 6 = .ok (.invokestatic 19, 3) := dk_184 0 19 (dk_at dksX0_block_0 6 rfl rfl)
theorem dX0_block_9 : decode cX0_block 9 = .ok (.aload_n 0, 1) := dk_42 (dk_at dksX0_block_0 9 rfl rfl)
theorem dX0_block_10 : decode cX0_block 10 = .ok (.getfield 13, 3) := dk_180 0 13 (dk_at dksX0_block_0 10 rfl rfl)
theorem dX0_block_13 : decode cX0_block 13 = .ok (.iconst 4, 1) := dk_7 (dk_at dksX0_block_0 13 rfl rfl)
theorem dX0_block_14 : decode cX0_block 14 = .ok (.iload_n 2, 1) := dk_28 (dk_at dksX0_block_0 14 rfl rfl)
theorem dX0_block_15 : decode cX0_block 15 = .ok (.invokestatic 19, 3) := dk_184 0 19 (dk_at dksX0_block_0 15 rfl rfl)
theorem dX0_block_18 : decode cX0_block 18 = .ok (.aload_n 0, 1) := dk_42 (dk_at dksX0_block_0 18 rfl rfl)
theorem dX0_block_19 : decode cX0_block 19 = .ok (.getfield 13, 3) := dk_180 0 13 (dk_at dksX0_block_0 19 rfl rfl)
theorem dX0_block_22 : decode cX0_block 22 = .ok (.bipush 8, 2) := dk_16 8 (dk_at dksX0_block_0 22 rfl rfl)
theorem dX0_block_24 : decode cX0_block 24 = .ok (.iload_n 3, 1) := dk_29 (dk_at dksX0_block_1 0 rfl rfl)
theorem dX0_block_25 : decode cX0_block 25 = .ok (.invokestatic 19, 3) := dk_184 0 19 (dk_at dksX0_block_1 1 rfl rfl)
theorem dX0_block_28 : decode cX0_block 28 = .ok (.aload_n 0, 1) := dk_42 (dk_at dksX0_block_1 4 rfl rfl)
theorem dX0_block_29 : decode cX0_block 29 = .ok (.getfield 13, 3) := dk_180 0 13 (dk_at dksX0_block_1 5 rfl rfl)
theorem dX0_block_32 : decode cX0_block 32 = .ok (.bipush 12, 2) := dk_16 12 (dk_at dksX0_block_1 8 rfl rfl)
theorem dX0_block_34 : decode cX0_block 34 = .ok (.iload 4, 2) := dk_21 4 (dk_at dksX0_block_1 10 rfl rfl)
theorem dX0_block_36 : decode cX0_block 36 = .ok (.invokestatic 19, 3) := dk_184 0 19 (dk_at dksX0_block_1 12 rfl rfl)
theorem dX0_block_39 : decode cX0_block 39 = .ok (.return_, 1) := dk_177 (dk_at dksX0_block_1 15 rfl rfl)
abbrev cX0_lock : ByteArray := prog_9_method_7_code
def yX0_lock : MethodName := ⟨RX0, "lock", "(I)V"⟩
def dkwX0_lock_0 : List UInt8 := [42, 4, 27, 182, 0, 45, 177]
abbrev dktX0_lock_0 : List UInt8 := dkwX0_lock_0 ++ []
theorem dksX0_lock_0 : cX0_lock.data.toList.drop 0 = dktX0_lock_0 := by decide +kernel
theorem dX0_lock_0 : decode cX0_lock 0 = .ok (.aload_n 0, 1) := dk_42 (dk_at dksX0_lock_0 0 rfl rfl)
theorem dX0_lock_1 : decode cX0_lock 1 = .ok (.iconst 1, 1) := dk_4 (dk_at dksX0_lock_0 1 rfl rfl)
theorem dX0_lock_2 : decode cX0_lock 2 = .ok (.iload_n 1, 1) := dk_27 (dk_at dksX0_lock_0 2 rfl rfl)
theorem dX0_lock_3 : decode cX0_lock 3 = .ok (.invokevirtual 45, 3) := dk_182 0 45 (dk_at dksX0_lock_0 3 rfl rfl)
theorem dX0_lock_6 : decode cX0_lock 6 = .ok (.return_, 1) := dk_177 (dk_at dksX0_lock_0 6 rfl rfl)
abbrev cX0_run : ByteArray := prog_9_method_5_code
def yX0_run : MethodName := ⟨RX0, "run", "(ZI)V"⟩
def dkwX0_run_3 : List UInt8 := [180, 0, 13, 3, 42, 180, 0, 16, 3, 185, 0, 41, 5, 0, 87, 177]
abbrev dktX0_run_3 : List UInt8 := dkwX0_run_3 ++ []
def dkwX0_run_2 : List UInt8 := [58, 5, 25, 5, 27, 187, 0, 30, 89, 25, 4, 183, 0, 32, 185, 0, 35, 3, 0, 25, 5, 42]
abbrev dktX0_run_2 : List UInt8 := dkwX0_run_2 ++ dktX0_run_3
def dkwX0_run_1 : List UInt8 := [21, 5, 42, 180, 0, 7, 21, 5, 51, 84, 132, 5, 1, 167, 255, 235, 187, 0, 27, 89, 183, 0, 29]
abbrev dktX0_run_1 : List UInt8 := dkwX0_run_1 ++ dktX0_run_2
def dkwX0_run_0 : List UInt8 := [28, 6, 126, 184, 0, 23, 62, 29, 188, 8, 58, 4, 3, 54, 5, 21, 5, 29, 162, 0, 21, 25, 4]
abbrev dktX0_run_0 : List UInt8 := dkwX0_run_0 ++ dktX0_run_1
theorem dksX0_run_0 : cX0_run.data.toList.drop 0 = dktX0_run_0 := by decide +kernel
theorem dksX0_run_1 : cX0_run.data.toList.drop 23 = dktX0_run_1 := dk_seg dksX0_run_0 23 rfl rfl
theorem dksX0_run_2 : cX0_run.data.toList.drop 46 = dktX0_run_2 := dk_seg dksX0_run_1 23 rfl rfl
theorem dksX0_run_3 : cX0_run.data.toList.drop 68 = dktX0_run_3 := dk_seg dksX0_run_2 22 rfl rfl
theorem dX0_run_0 : decode cX0_run 0 = .ok (.iload_n 2, 1) := dk_28 (dk_at dksX0_run_0 0 rfl rfl)
theorem dX0_run_1 : decode cX0_run 1 = .ok (.iconst 3, 1) := dk_6 (dk_at dksX0_run_0 1 rfl rfl)
theorem dX0_run_2 : decode cX0_run 2 = .ok (.iand, 1) := dk_126 (dk_at dksX0_run_0 2 rfl rfl)
theorem dX0_run_3 : decode cX0_run 3 = .ok (.invokestatic 23, 3) := dk_184 0 23 (dk_at dksX0_run_0 3 rfl rfl)
theorem dX0_run_6 : decode cX0_run 6 = .ok (.istore_n 3, 1) := dk_62 (dk_at dksX0_run_0 6 rfl rfl)
theorem dX0_run_7 : decode cX0_run 7 = .ok (.iload_n 3, 1) := dk_29 (dk_at dksX0_run_0 7 rfl rfl)
theorem dX0_run_8 : decode cX0_run 8 = .ok (.newarray .byte, 2) := dk_188_8 (dk_at dksX0_run_0 8 rfl rfl)
theorem dX0_run_10 : decode cX0_run 10 = .ok (.astore 4, 2) := dk_58 4 (dk_at dksX0_run_0 10 rfl rfl)
theorem dX0_run_12 : decode cX0_run 12 = .ok (.iconst 0, 1) := dk_3 (dk_at dksX0_run_0 12 rfl rfl)
theorem dX0_run_13 : decode cX0_run 13 = .ok (.istore 5, 2) := dk_54 5 (dk_at dksX0_run_0 13 rfl rfl)
theorem dX0_run_15 : decode cX0_run 15 = .ok (.iload 5, 2) := dk_21 5 (dk_at dksX0_run_0 15 rfl rfl)
theorem dX0_run_17 : decode cX0_run 17 = .ok (.iload_n 3, 1) := dk_29 (dk_at dksX0_run_0 17 rfl rfl)
theorem dX0_run_18 : decode cX0_run 18 = .ok (.if_icmp .ge 21, 3) := dk_162 0 21 (dk_at dksX0_run_0 18 rfl rfl)
theorem dX0_run_21 : decode cX0_run 21 = .ok (.aload 4, 2) := dk_25 4 (dk_at dksX0_run_0 21 rfl rfl)
theorem dX0_run_23 : decode cX0_run 23 = .ok (.iload 5, 2) := dk_21 5 (dk_at dksX0_run_1 0 rfl rfl)
theorem dX0_run_25 : decode cX0_run 25 = .ok (.aload_n 0, 1) := dk_42 (dk_at dksX0_run_1 2 rfl rfl)
theorem dX0_run_26 : decode cX0_run 26 = .ok (.getfield 7, 3) := dk_180 0 7 (dk_at dksX0_run_1 3 rfl rfl)
theorem dX0_run_29 : decode cX0_run 29 = .ok (.iload 5, 2) := dk_21 5 (dk_at dksX0_run_1 6 rfl rfl)
theorem dX0_run_31 : decode cX0_run 31 = .ok (.baload, 1) := dk_51 (dk_at dksX0_run_1 8 rfl rfl)
theorem dX0_run_32 : decode cX0_run 32 = .ok (.bastore, 1) := dk_84 (dk_at dksX0_run_1 9 rfl rfl)
theorem dX0_run_33 : decode cX0_run 33 = .ok (.iinc 5 1, 3) := dk_132 5 1 (dk_at dksX0_run_1 10 rfl rfl)
theorem dX0_run_36 : decode cX0_run 36 = .ok (.goto (-21), 3) := dk_167 255 235 (dk_at dksX0_run_1 13 rfl rfl)
theorem dX0_run_39 : decode cX0_run 39 = .ok (.new 27, 3) := dk_187 0 27 (dk_at dksX0_run_1 16 rfl rfl)
theorem dX0_run_42 : decode cX0_run 42 = .ok (.dup, 1) := dk_89 (dk_at dksX0_run_1 19 rfl rfl)
theorem dX0_run_43 : decode cX0_run 43 = .ok (.invokespecial 29, 3) := dk_183 0 29 (dk_at dksX0_run_1 20 rfl rfl)
theorem dX0_run_46 : decode cX0_run 46 = .ok (.astore 5, 2) := dk_58 5 (dk_at dksX0_run_2 0 rfl rfl)
theorem dX0_run_48 : decode cX0_run 48 = .ok (.aload 5, 2) := dk_25 5 (dk_at dksX0_run_2 2 rfl rfl)
theorem dX0_run_50 : decode cX0_run 50 = .ok (.iload_n 1, 1) := dk_27 (dk_at dksX0_run_2 4 rfl rfl)
theorem dX0_run_51 : decode cX0_run 51 = .ok (.new 30, 3) := dk_187 0 30 (dk_at dksX0_run_2 5 rfl rfl)
theorem dX0_run_54 : decode cX0_run 54 = .ok (.dup, 1) := dk_89 (dk_at dksX0_run_2 8 rfl rfl)
theorem dX0_run_55 : decode cX0_run 55 = .ok (.aload 4, 2) := dk_25 4 (dk_at dksX0_run_2 9 rfl rfl)
theorem dX0_run_57 : decode cX0_run 57 = .ok (.invokespecial 32, 3) := dk_183 0 32 (dk_at dksX0_run_2 11 rfl rfl)
theorem dX0_run_60 : decode cX0_run 60 = .ok (.invokeinterface 35 3, 5) := by decide +kernel
theorem dX0_run_65 : decode cX0_run 65 = .ok (.aload 5, 2) := dk_25 5 (dk_at dksX0_run_2 19 rfl rfl)
theorem dX0_run_67 : decode cX0_run 67 = .ok (.aload_n 0, 1) := dk_42 (dk_at dksX0_run_2 21 rfl rfl)
theorem dX0_run_68 : decode cX0_run 68 = .ok (.getfield 13, 3) := dk_180 0 13 (dk_at dksX0_run_3 0 rfl rfl)
theorem dX0_run_71 : decode cX0_run 71 = .ok (.iconst 0, 1) := dk_3 (dk_at dksX0_run_3 3 rfl rfl)
theorem dX0_run_72 : decode cX0_run 72 = .ok (.aload_n 0, 1) := dk_42 (dk_at dksX0_run_3 4 rfl rfl)
theorem dX0_run_73 : decode cX0_run 73 = .ok (.getfield 16, 3) := dk_180 0 16 (dk_at dksX0_run_3 5 rfl rfl)
theorem dX0_run_76 : decode cX0_run 76 = .ok (.iconst 0, 1) := dk_3 (dk_at dksX0_run_3 8 rfl rfl)
theorem dX0_run_77 : decode cX0_run 77 = .ok (.invokeinterface 41 5, 5) := by decide +kernel
theorem dX0_run_82 : decode cX0_run 82 = .ok (.pop, 1) := dk_87 (dk_at dksX0_run_3 14 rfl rfl)
theorem dX0_run_83 : decode cX0_run 83 = .ok (.return_, 1) := dk_177 (dk_at dksX0_run_3 15 rfl rfl)
abbrev cX0_size : ByteArray := prog_9_method_6_code
def yX0_size : MethodName := ⟨RX0, "size", "(I)I"⟩
theorem dX0_size_0 : decode cX0_size 0 = .ok (.bipush 16, 2) := by decide +kernel
theorem dX0_size_2 : decode cX0_size 2 = .ok (.ireturn, 1) := by decide +kernel
abbrev cX0_open : ByteArray := prog_9_method_8_code
def yX0_open : MethodName := ⟨RX0, "open", "(I)V"⟩
def dkwX0_open_0 : List UInt8 := [42, 3, 27, 182, 0, 45, 177]
abbrev dktX0_open_0 : List UInt8 := dkwX0_open_0 ++ []
theorem dksX0_open_0 : cX0_open.data.toList.drop 0 = dktX0_open_0 := by decide +kernel
theorem dX0_open_0 : decode cX0_open 0 = .ok (.aload_n 0, 1) := dk_42 (dk_at dksX0_open_0 0 rfl rfl)
theorem dX0_open_1 : decode cX0_open 1 = .ok (.iconst 0, 1) := dk_3 (dk_at dksX0_open_0 1 rfl rfl)
theorem dX0_open_2 : decode cX0_open 2 = .ok (.iload_n 1, 1) := dk_27 (dk_at dksX0_open_0 2 rfl rfl)
theorem dX0_open_3 : decode cX0_open 3 = .ok (.invokevirtual 45, 3) := dk_182 0 45 (dk_at dksX0_open_0 3 rfl rfl)
theorem dX0_open_6 : decode cX0_open 6 = .ok (.return_, 1) := dk_177 (dk_at dksX0_open_0 6 rfl rfl)
abbrev cX0_again : ByteArray := prog_9_method_9_code
def yX0_again : MethodName := ⟨RX0, "again", "()V"⟩
def dkwX0_again_1 : List UInt8 := [167, 255, 235, 177]
abbrev dktX0_again_1 : List UInt8 := dkwX0_again_1 ++ []
def dkwX0_again_0 : List UInt8 := [3, 60, 27, 16, 16, 162, 0, 21, 42, 180, 0, 13, 27, 42, 180, 0, 16, 27, 51, 84, 132, 1, 1]
abbrev dktX0_again_0 : List UInt8 := dkwX0_again_0 ++ dktX0_again_1
theorem dksX0_again_0 : cX0_again.data.toList.drop 0 = dktX0_again_0 := by decide +kernel
theorem dksX0_again_1 : cX0_again.data.toList.drop 23 = dktX0_again_1 := dk_seg dksX0_again_0 23 rfl rfl
theorem dX0_again_0 : decode cX0_again 0 = .ok (.iconst 0, 1) := dk_3 (dk_at dksX0_again_0 0 rfl rfl)
theorem dX0_again_1 : decode cX0_again 1 = .ok (.istore_n 1, 1) := dk_60 (dk_at dksX0_again_0 1 rfl rfl)
theorem dX0_again_2 : decode cX0_again 2 = .ok (.iload_n 1, 1) := dk_27 (dk_at dksX0_again_0 2 rfl rfl)
theorem dX0_again_3 : decode cX0_again 3 = .ok (.bipush 16, 2) := dk_16 16 (dk_at dksX0_again_0 3 rfl rfl)
theorem dX0_again_5 : decode cX0_again 5 = .ok (.if_icmp .ge 21, 3) := dk_162 0 21 (dk_at dksX0_again_0 5 rfl rfl)
theorem dX0_again_8 : decode cX0_again 8 = .ok (.aload_n 0, 1) := dk_42 (dk_at dksX0_again_0 8 rfl rfl)
theorem dX0_again_9 : decode cX0_again 9 = .ok (.getfield 13, 3) := dk_180 0 13 (dk_at dksX0_again_0 9 rfl rfl)
theorem dX0_again_12 : decode cX0_again 12 = .ok (.iload_n 1, 1) := dk_27 (dk_at dksX0_again_0 12 rfl rfl)
theorem dX0_again_13 : decode cX0_again 13 = .ok (.aload_n 0, 1) := dk_42 (dk_at dksX0_again_0 13 rfl rfl)
theorem dX0_again_14 : decode cX0_again 14 = .ok (.getfield 16, 3) := dk_180 0 16 (dk_at dksX0_again_0 14 rfl rfl)
theorem dX0_again_17 : decode cX0_again 17 = .ok (.iload_n 1, 1) := dk_27 (dk_at dksX0_again_0 17 rfl rfl)
theorem dX0_again_18 : decode cX0_again 18 = .ok (.baload, 1) := dk_51 (dk_at dksX0_again_0 18 rfl rfl)
theorem dX0_again_19 : decode cX0_again 19 = .ok (.bastore, 1) := dk_84 (dk_at dksX0_again_0 19 rfl rfl)
theorem dX0_again_20 : decode cX0_again 20 = .ok (.iinc 1 1, 3) := dk_132 1 1 (dk_at dksX0_again_0 20 rfl rfl)
theorem dX0_again_23 : decode cX0_again 23 = .ok (.goto (-21), 3) := dk_167 255 235 (dk_at dksX0_again_1 0 rfl rfl)
theorem dX0_again_26 : decode cX0_again 26 = .ok (.return_, 1) := dk_177 (dk_at dksX0_again_1 3 rfl rfl)
abbrev cX0_out : ByteArray := prog_9_method_10_code
def yX0_out : MethodName := ⟨RX0, "out", "(I)I"⟩
def dkwX0_out_0 : List UInt8 := [42, 180, 0, 16, 27, 16, 15, 126, 51, 17, 0, 255, 126, 172]
abbrev dktX0_out_0 : List UInt8 := dkwX0_out_0 ++ []
theorem dksX0_out_0 : cX0_out.data.toList.drop 0 = dktX0_out_0 := by decide +kernel
theorem dX0_out_0 : decode cX0_out 0 = .ok (.aload_n 0, 1) := dk_42 (dk_at dksX0_out_0 0 rfl rfl)
theorem dX0_out_1 : decode cX0_out 1 = .ok (.getfield 16, 3) := dk_180 0 16 (dk_at dksX0_out_0 1 rfl rfl)
theorem dX0_out_4 : decode cX0_out 4 = .ok (.iload_n 1, 1) := dk_27 (dk_at dksX0_out_0 4 rfl rfl)
theorem dX0_out_5 : decode cX0_out 5 = .ok (.bipush 15, 2) := dk_16 15 (dk_at dksX0_out_0 5 rfl rfl)
theorem dX0_out_7 : decode cX0_out 7 = .ok (.iand, 1) := dk_126 (dk_at dksX0_out_0 7 rfl rfl)
theorem dX0_out_8 : decode cX0_out 8 = .ok (.baload, 1) := dk_51 (dk_at dksX0_out_0 8 rfl rfl)
theorem dX0_out_9 : decode cX0_out 9 = .ok (.sipush 255, 3) := dk_17 0 255 (dk_at dksX0_out_0 9 rfl rfl)
theorem dX0_out_12 : decode cX0_out 12 = .ok (.iand, 1) := dk_126 (dk_at dksX0_out_0 12 rfl rfl)
theorem dX0_out_13 : decode cX0_out 13 = .ok (.ireturn, 1) := dk_172 (dk_at dksX0_out_0 13 rfl rfl)
theorem q17 : (Jvm.Cond.initialized "SmFourDesk") ∈ lw_all := lw_g (lw_at lw_m1 1 rfl) rfl
theorem q32 : (Jvm.Cond.instantiable "SmFourDesk" (3 : Nat)) ∈ lw_all := lw_g (lw_at lw_m1 16 rfl) rfl
theorem q34 : (Jvm.Cond.instanceMethod ({ cls := "SmFourDesk", name := "<init>", desc := "()V" } : Jvm.MethodName)) ∈ lw_all := lw_g (lw_at lw_m1 18 rfl) rfl
theorem q35 : (Jvm.Cond.code ({ cls := "SmFourDesk", name := "<init>", desc := "()V" } : Jvm.MethodName) prog_9_method_1_code (1 : Nat) (Option.none : Option Jvm.ClassFile.FieldType)) ∈ lw_all := lw_g (lw_at lw_m1 19 rfl) rfl
theorem q36 : (Jvm.Cond.methodLink "SmFourDesk" (1 : Nat) ({ cls := "java/lang/Object", name := "<init>", desc := "()V" } : Jvm.MethodName)) ∈ lw_all := lw_g (lw_at lw_m1 20 rfl) rfl
theorem q39 : (Jvm.Cond.fieldLink "SmFourDesk" (7 : Nat) "SmFourDesk" "key" "[B") ∈ lw_all := lw_g (lw_at lw_m1 23 rfl) rfl
theorem q40 : (Jvm.Cond.fieldLink "SmFourDesk" (13 : Nat) "SmFourDesk" "block" "[B") ∈ lw_all := lw_g (lw_at lw_m1 24 rfl) rfl
theorem q41 : (Jvm.Cond.fieldLink "SmFourDesk" (16 : Nat) "SmFourDesk" "out" "[B") ∈ lw_all := lw_g (lw_at lw_m1 25 rfl) rfl
theorem q42 : (Jvm.Cond.laysFinal "SmFourDesk" "SmFourDesk" "key" "[B") ∈ lw_all := lw_g (lw_at lw_m1 26 rfl) rfl
theorem q43 : (Jvm.Cond.soleField "SmFourDesk" "key") ∈ lw_all := lw_g (lw_at lw_m1 27 rfl) rfl
theorem q44 : (Jvm.Cond.laysFinal "SmFourDesk" "SmFourDesk" "block" "[B") ∈ lw_all := lw_g (lw_at lw_m1 28 rfl) rfl
theorem q45 : (Jvm.Cond.soleField "SmFourDesk" "block") ∈ lw_all := lw_g (lw_at lw_m1 29 rfl) rfl
theorem q46 : (Jvm.Cond.laysFinal "SmFourDesk" "SmFourDesk" "out" "[B") ∈ lw_all := lw_g (lw_at lw_m1 30 rfl) rfl
theorem q47 : (Jvm.Cond.soleField "SmFourDesk" "out") ∈ lw_all := lw_g (lw_at lw_m1 31 rfl) rfl
theorem q48 : (Jvm.Cond.superclass "SmFourDesk" "java/lang/Object") ∈ lw_all := lw_g (lw_at lw_m1 32 rfl) rfl
theorem q51 : (Jvm.Cond.instanceMethod ({ cls := "SmFourDesk", name := "key", desc := "(IIIII)V" } : Jvm.MethodName)) ∈ lw_all := lw_g (lw_at lw_m1 35 rfl) rfl
theorem q52 : (Jvm.Cond.selects "SmFourDesk" ({ cls := "SmFourDesk", name := "key", desc := "(IIIII)V" } : Jvm.MethodName) ({ cls := "SmFourDesk", name := "key", desc := "(IIIII)V" } : Jvm.MethodName)) ∈ lw_all := lw_g (lw_at lw_m1 36 rfl) rfl
theorem q53 : (Jvm.Cond.code ({ cls := "SmFourDesk", name := "key", desc := "(IIIII)V" } : Jvm.MethodName) prog_9_method_3_code (7 : Nat) (Option.none : Option Jvm.ClassFile.FieldType)) ∈ lw_all := lw_g (lw_at lw_m1 37 rfl) rfl
theorem q54 : (Jvm.Cond.methodLink "SmFourDesk" (19 : Nat) ({ cls := "SmFourDesk", name := "word", desc := "([BII)V" } : Jvm.MethodName)) ∈ lw_all := lw_g (lw_at lw_m1 38 rfl) rfl
theorem q55 : (Jvm.Cond.static ({ cls := "SmFourDesk", name := "word", desc := "([BII)V" } : Jvm.MethodName)) ∈ lw_all := lw_g (lw_at lw_m1 39 rfl) rfl
theorem q56 : (Jvm.Cond.code ({ cls := "SmFourDesk", name := "word", desc := "([BII)V" } : Jvm.MethodName) prog_9_method_2_code (3 : Nat) (Option.none : Option Jvm.ClassFile.FieldType)) ∈ lw_all := lw_g (lw_at lw_m1 40 rfl) rfl
theorem q58 : (Jvm.Cond.instanceMethod ({ cls := "SmFourDesk", name := "block", desc := "(IIII)V" } : Jvm.MethodName)) ∈ lw_all := lw_g (lw_at lw_m1 42 rfl) rfl
theorem q59 : (Jvm.Cond.selects "SmFourDesk" ({ cls := "SmFourDesk", name := "block", desc := "(IIII)V" } : Jvm.MethodName) ({ cls := "SmFourDesk", name := "block", desc := "(IIII)V" } : Jvm.MethodName)) ∈ lw_all := lw_g (lw_at lw_m1 43 rfl) rfl
theorem q60 : (Jvm.Cond.code ({ cls := "SmFourDesk", name := "block", desc := "(IIII)V" } : Jvm.MethodName) prog_9_method_4_code (5 : Nat) (Option.none : Option Jvm.ClassFile.FieldType)) ∈ lw_all := lw_g (lw_at lw_m1 44 rfl) rfl
theorem q62 : (Jvm.Cond.instanceMethod ({ cls := "SmFourDesk", name := "lock", desc := "(I)V" } : Jvm.MethodName)) ∈ lw_all := lw_g (lw_at lw_m1 46 rfl) rfl
theorem q63 : (Jvm.Cond.selects "SmFourDesk" ({ cls := "SmFourDesk", name := "lock", desc := "(I)V" } : Jvm.MethodName) ({ cls := "SmFourDesk", name := "lock", desc := "(I)V" } : Jvm.MethodName)) ∈ lw_all := lw_g (lw_at lw_m1 47 rfl) rfl
theorem q64 : (Jvm.Cond.code ({ cls := "SmFourDesk", name := "lock", desc := "(I)V" } : Jvm.MethodName) prog_9_method_7_code (2 : Nat) (Option.none : Option Jvm.ClassFile.FieldType)) ∈ lw_all := lw_g (lw_at lw_m1 48 rfl) rfl
theorem q65 : (Jvm.Cond.methodLink "SmFourDesk" (45 : Nat) ({ cls := "SmFourDesk", name := "run", desc := "(ZI)V" } : Jvm.MethodName)) ∈ lw_all := lw_g (lw_at lw_m1 49 rfl) rfl
theorem q66 : (Jvm.Cond.privateMethod ({ cls := "SmFourDesk", name := "run", desc := "(ZI)V" } : Jvm.MethodName)) ∈ lw_tbl := lw_at lw_m1 50 rfl
theorem q67 : (Jvm.Cond.instanceMethod ({ cls := "SmFourDesk", name := "run", desc := "(ZI)V" } : Jvm.MethodName)) ∈ lw_all := lw_g (lw_at lw_m1 51 rfl) rfl
theorem q68 : (Jvm.Cond.code ({ cls := "SmFourDesk", name := "run", desc := "(ZI)V" } : Jvm.MethodName) prog_9_method_5_code (6 : Nat) (Option.none : Option Jvm.ClassFile.FieldType)) ∈ lw_all := lw_g (lw_at lw_m1 52 rfl) rfl
theorem q69 : (Jvm.Cond.methodLink "SmFourDesk" (23 : Nat) ({ cls := "SmFourDesk", name := "size", desc := "(I)I" } : Jvm.MethodName)) ∈ lw_all := lw_g (lw_at lw_m1 53 rfl) rfl
theorem q70 : (Jvm.Cond.static ({ cls := "SmFourDesk", name := "size", desc := "(I)I" } : Jvm.MethodName)) ∈ lw_all := lw_g (lw_at lw_m1 54 rfl) rfl
theorem q71 : (Jvm.Cond.code ({ cls := "SmFourDesk", name := "size", desc := "(I)I" } : Jvm.MethodName) prog_9_method_6_code (1 : Nat) (Option.some Jvm.ClassFile.FieldType.int)) ∈ lw_all := lw_g (lw_at lw_m1 55 rfl) rfl
theorem q72 : (Jvm.Cond.classLink "SmFourDesk" (27 : Nat) "SM4Engine") ∈ lw_all := lw_g (lw_at lw_m1 56 rfl) rfl
theorem q74 : (Jvm.Cond.methodLink "SmFourDesk" (29 : Nat) ({ cls := "SM4Engine", name := "<init>", desc := "()V" } : Jvm.MethodName)) ∈ lw_all := lw_g (lw_at lw_m1 58 rfl) rfl
theorem q86 : (Jvm.Cond.classLink "SmFourDesk" (30 : Nat) "KeyParameter") ∈ lw_all := lw_g (lw_at lw_m1 70 rfl) rfl
theorem q88 : (Jvm.Cond.methodLink "SmFourDesk" (32 : Nat) ({ cls := "KeyParameter", name := "<init>", desc := "([B)V" } : Jvm.MethodName)) ∈ lw_all := lw_g (lw_at lw_m1 72 rfl) rfl
theorem q105 : (Jvm.Cond.interfaceEntry "SmFourDesk" (35 : Nat)) ∈ lw_tbl := lw_at lw_m1 89 rfl
theorem q106 : (Jvm.Cond.methodLink "SmFourDesk" (35 : Nat) ({ cls := "BlockCipher", name := "init", desc := "(ZLCipherParameters;)V" } : Jvm.MethodName)) ∈ lw_all := lw_g (lw_at lw_m1 90 rfl) rfl
theorem q218 : (Jvm.Cond.interfaceEntry "SmFourDesk" (41 : Nat)) ∈ lw_tbl := lw_at lw_m1 202 rfl
theorem q219 : (Jvm.Cond.methodLink "SmFourDesk" (41 : Nat) ({ cls := "BlockCipher", name := "processBlock", desc := "([BI[BI)I" } : Jvm.MethodName)) ∈ lw_all := lw_g (lw_at lw_m1 203 rfl) rfl
theorem q308 : (Jvm.Cond.instanceMethod ({ cls := "SmFourDesk", name := "open", desc := "(I)V" } : Jvm.MethodName)) ∈ lw_all := lw_g (lw_at lw_m2 52 rfl) rfl
theorem q309 : (Jvm.Cond.selects "SmFourDesk" ({ cls := "SmFourDesk", name := "open", desc := "(I)V" } : Jvm.MethodName) ({ cls := "SmFourDesk", name := "open", desc := "(I)V" } : Jvm.MethodName)) ∈ lw_all := lw_g (lw_at lw_m2 53 rfl) rfl
theorem q310 : (Jvm.Cond.code ({ cls := "SmFourDesk", name := "open", desc := "(I)V" } : Jvm.MethodName) prog_9_method_8_code (2 : Nat) (Option.none : Option Jvm.ClassFile.FieldType)) ∈ lw_all := lw_g (lw_at lw_m2 54 rfl) rfl
theorem q312 : (Jvm.Cond.instanceMethod ({ cls := "SmFourDesk", name := "again", desc := "()V" } : Jvm.MethodName)) ∈ lw_all := lw_g (lw_at lw_m2 56 rfl) rfl
theorem q313 : (Jvm.Cond.selects "SmFourDesk" ({ cls := "SmFourDesk", name := "again", desc := "()V" } : Jvm.MethodName) ({ cls := "SmFourDesk", name := "again", desc := "()V" } : Jvm.MethodName)) ∈ lw_all := lw_g (lw_at lw_m2 57 rfl) rfl
theorem q314 : (Jvm.Cond.code ({ cls := "SmFourDesk", name := "again", desc := "()V" } : Jvm.MethodName) prog_9_method_9_code (2 : Nat) (Option.none : Option Jvm.ClassFile.FieldType)) ∈ lw_all := lw_g (lw_at lw_m2 58 rfl) rfl
theorem q316 : (Jvm.Cond.instanceMethod ({ cls := "SmFourDesk", name := "out", desc := "(I)I" } : Jvm.MethodName)) ∈ lw_all := lw_g (lw_at lw_m2 60 rfl) rfl
theorem q317 : (Jvm.Cond.selects "SmFourDesk" ({ cls := "SmFourDesk", name := "out", desc := "(I)I" } : Jvm.MethodName) ({ cls := "SmFourDesk", name := "out", desc := "(I)I" } : Jvm.MethodName)) ∈ lw_all := lw_g (lw_at lw_m2 61 rfl) rfl
theorem q318 : (Jvm.Cond.code ({ cls := "SmFourDesk", name := "out", desc := "(I)I" } : Jvm.MethodName) prog_9_method_10_code (2 : Nat) (Option.some Jvm.ClassFile.FieldType.int)) ∈ lw_all := lw_g (lw_at lw_m2 62 rfl) rfl
theorem in_X0 : ∀ w ∈ wsX00, w ∈ lw_all := lw_in wsX00 [42, 44, 46] (by decide +kernel) (by decide +kernel)
theorem q49 : (Jvm.Cond.arrayClass Jvm.ClassFile.FieldType.byte) ∈ lw_all := lw_g (lw_at lw_m1 33 rfl) rfl
set_option maxRecDepth 100000
theorem q85 : (Jvm.Cond.arrayClass Jvm.ClassFile.FieldType.int) ∈ lw_all := lw_g (lw_at lw_m1 69 rfl) rfl
theorem q16 : (Jvm.Cond.initialized "SmFourDeskLaw") ∈ lw_all := lw_g (lw_at lw_m1 0 rfl) rfl
set_option maxRecDepth 100000
theorem q31 : (Jvm.Cond.classLink "SmFourDeskLaw" (7 : Nat) "SmFourDesk") ∈ lw_all := lw_g (lw_at lw_m1 15 rfl) rfl
theorem q33 : (Jvm.Cond.methodLink "SmFourDeskLaw" (9 : Nat) ({ cls := "SmFourDesk", name := "<init>", desc := "()V" } : Jvm.MethodName)) ∈ lw_all := lw_g (lw_at lw_m1 17 rfl) rfl
theorem q50 : (Jvm.Cond.methodLink "SmFourDeskLaw" (13 : Nat) ({ cls := "SmFourDesk", name := "key", desc := "(IIIII)V" } : Jvm.MethodName)) ∈ lw_all := lw_g (lw_at lw_m1 34 rfl) rfl
theorem q57 : (Jvm.Cond.methodLink "SmFourDeskLaw" (18 : Nat) ({ cls := "SmFourDesk", name := "block", desc := "(IIII)V" } : Jvm.MethodName)) ∈ lw_all := lw_g (lw_at lw_m1 41 rfl) rfl
theorem q61 : (Jvm.Cond.methodLink "SmFourDeskLaw" (23 : Nat) ({ cls := "SmFourDesk", name := "lock", desc := "(I)V" } : Jvm.MethodName)) ∈ lw_all := lw_g (lw_at lw_m1 45 rfl) rfl
theorem q307 : (Jvm.Cond.methodLink "SmFourDeskLaw" (28 : Nat) ({ cls := "SmFourDesk", name := "open", desc := "(I)V" } : Jvm.MethodName)) ∈ lw_all := lw_g (lw_at lw_m2 51 rfl) rfl
theorem q311 : (Jvm.Cond.methodLink "SmFourDeskLaw" (32 : Nat) ({ cls := "SmFourDesk", name := "again", desc := "()V" } : Jvm.MethodName)) ∈ lw_all := lw_g (lw_at lw_m2 55 rfl) rfl
theorem q315 : (Jvm.Cond.methodLink "SmFourDeskLaw" (36 : Nat) ({ cls := "SmFourDesk", name := "out", desc := "(I)I" } : Jvm.MethodName)) ∈ lw_all := lw_g (lw_at lw_m2 59 rfl) rfl
theorem q319 : (Jvm.Cond.classLink "SmFourDeskLaw" (10 : Nat) "SmFourDeskModel") ∈ lw_all := lw_g (lw_at lw_m2 63 rfl) rfl
theorem q321 : (Jvm.Cond.methodLink "SmFourDeskLaw" (12 : Nat) ({ cls := "SmFourDeskModel", name := "<init>", desc := "()V" } : Jvm.MethodName)) ∈ lw_all := lw_g (lw_at lw_m2 65 rfl) rfl
theorem q353 : (Jvm.Cond.methodLink "SmFourDeskLaw" (27 : Nat) ({ cls := "SmFourDeskModel", name := "lock", desc := "(I)V" } : Jvm.MethodName)) ∈ lw_all := lw_g (lw_at lw_m2 97 rfl) rfl
theorem q385 : (Jvm.Cond.methodLink "SmFourDeskLaw" (31 : Nat) ({ cls := "SmFourDeskModel", name := "open", desc := "(I)V" } : Jvm.MethodName)) ∈ lw_all := lw_g (lw_at lw_m2 129 rfl) rfl
theorem q389 : (Jvm.Cond.methodLink "SmFourDeskLaw" (17 : Nat) ({ cls := "SmFourDeskModel", name := "key", desc := "(IIIII)V" } : Jvm.MethodName)) ∈ lw_all := lw_g (lw_at lw_m2 133 rfl) rfl
theorem q396 : (Jvm.Cond.methodLink "SmFourDeskLaw" (22 : Nat) ({ cls := "SmFourDeskModel", name := "block", desc := "(IIII)V" } : Jvm.MethodName)) ∈ lw_all := lw_g (lw_at lw_m2 140 rfl) rfl
theorem q400 : (Jvm.Cond.methodLink "SmFourDeskLaw" (35 : Nat) ({ cls := "SmFourDeskModel", name := "again", desc := "()V" } : Jvm.MethodName)) ∈ lw_all := lw_g (lw_at lw_m2 144 rfl) rfl
theorem q404 : (Jvm.Cond.methodLink "SmFourDeskLaw" (40 : Nat) ({ cls := "SmFourDeskModel", name := "out", desc := "(I)I" } : Jvm.MethodName)) ∈ lw_all := lw_g (lw_at lw_m2 148 rfl) rfl
theorem q21 : (Jvm.Cond.initialized "java/lang/System") ∈ lw_all := lw_g (lw_at lw_m1 5 rfl) rfl
set_option maxRecDepth 100000
theorem q103 : (Jvm.Cond.static ({ cls := "java/lang/System", name := "arraycopy", desc := "(Ljava/lang/Object;ILjava/lang/Object;II)V" } : Jvm.MethodName)) ∈ lw_all := lw_g (lw_at lw_m1 87 rfl) rfl
theorem q104 : (Jvm.Cond.native ({ cls := "java/lang/System", name := "arraycopy", desc := "(Ljava/lang/Object;ILjava/lang/Object;II)V" } : Jvm.MethodName)) ∈ lw_all := lw_g (lw_at lw_m1 88 rfl) rfl
theorem q107 : (Jvm.Cond.interfaceMethod "BlockCipher" "BlockCipher" "init" "(ZLCipherParameters;)V") ∈ lw_tbl := lw_at lw_m1 91 rfl
set_option maxRecDepth 100000
theorem q108 : (Jvm.Cond.declares ({ cls := "BlockCipher", name := "init", desc := "(ZLCipherParameters;)V" } : Jvm.MethodName)) ∈ lw_tbl := lw_at lw_m1 92 rfl
theorem q220 : (Jvm.Cond.interfaceMethod "BlockCipher" "BlockCipher" "processBlock" "([BI[BI)I") ∈ lw_tbl := lw_at lw_m1 204 rfl
theorem q221 : (Jvm.Cond.declares ({ cls := "BlockCipher", name := "processBlock", desc := "([BI[BI)I" } : Jvm.MethodName)) ∈ lw_tbl := lw_at lw_m1 205 rfl
/-! the law's own entry -/
set_option maxRecDepth 100000
abbrev cL_law : ByteArray := code
def dkwL_law_11 : List UInt8 := [132, 3, 6, 167, 255, 11, 4, 172]
abbrev dktL_law_11 : List UInt8 := dkwL_law_11 ++ []
def dkwL_law_10 : List UInt8 := [42, 29, 4, 96, 46, 182, 0, 36, 44, 42, 29, 4, 96, 46, 182, 0, 40, 159, 0, 5, 3, 172]
abbrev dktL_law_10 : List UInt8 := dkwL_law_10 ++ dktL_law_11
def dkwL_law_9 : List UInt8 := [44, 42, 29, 4, 96, 46, 182, 0, 31, 167, 0, 37, 43, 182, 0, 32, 44, 182, 0, 35, 167, 0, 26, 43]
abbrev dktL_law_9 : List UInt8 := dkwL_law_9 ++ dktL_law_10
def dkwL_law_8 : List UInt8 := [182, 0, 23, 44, 42, 29, 4, 96, 46, 182, 0, 27, 167, 0, 58, 43, 42, 29, 4, 96, 46, 182, 0, 28]
abbrev dktL_law_8 : List UInt8 := dkwL_law_8 ++ dktL_law_9
def dkwL_law_7 : List UInt8 := [42, 29, 6, 96, 46, 42, 29, 7, 96, 46, 182, 0, 22, 167, 0, 79, 43, 42, 29, 4, 96, 46]
abbrev dktL_law_7 : List UInt8 := dkwL_law_7 ++ dktL_law_8
def dkwL_law_6 : List UInt8 := [42, 29, 6, 96, 46, 42, 29, 7, 96, 46, 182, 0, 18, 44, 42, 29, 4, 96, 46, 42, 29, 5, 96, 46]
abbrev dktL_law_6 : List UInt8 := dkwL_law_6 ++ dktL_law_7
def dkwL_law_5 : List UInt8 := [96, 46, 42, 29, 8, 96, 46, 182, 0, 17, 167, 0, 130, 43, 42, 29, 4, 96, 46, 42, 29, 5, 96, 46]
abbrev dktL_law_5 : List UInt8 := dkwL_law_5 ++ dktL_law_6
def dkwL_law_4 : List UInt8 := [96, 46, 182, 0, 13, 44, 42, 29, 4, 96, 46, 42, 29, 5, 96, 46, 42, 29, 6, 96, 46, 42, 29, 7]
abbrev dktL_law_4 : List UInt8 := dkwL_law_4 ++ dktL_law_5
def dkwL_law_3 : List UInt8 := [43, 42, 29, 4, 96, 46, 42, 29, 5, 96, 46, 42, 29, 6, 96, 46, 42, 29, 7, 96, 46, 42, 29, 8]
abbrev dktL_law_3 : List UInt8 := dkwL_law_3 ++ dktL_law_4
def dkwL_law_2 : List UInt8 := [170, 0, 0, 0, 0, 0, 227, 0, 0, 0, 0, 0, 0, 0, 5, 0, 0, 0, 39, 0, 0, 0, 100, 0, 0, 0, 151, 0, 0, 0, 172, 0, 0, 0, 193, 0, 0, 0, 204]
abbrev dktL_law_2 : List UInt8 := dkwL_law_2 ++ dktL_law_3
def dkwL_law_1 : List UInt8 := [163, 0, 242, 42, 29, 46, 16, 7, 126]
abbrev dktL_law_1 : List UInt8 := dkwL_law_1 ++ dktL_law_2
def dkwL_law_0 : List UInt8 := [187, 0, 7, 89, 183, 0, 9, 76, 187, 0, 10, 89, 183, 0, 12, 77, 3, 62, 29, 42, 190, 16, 6, 100]
abbrev dktL_law_0 : List UInt8 := dkwL_law_0 ++ dktL_law_1
theorem dksL_law_0 : cL_law.data.toList.drop 0 = dktL_law_0 := by decide +kernel
theorem dksL_law_1 : cL_law.data.toList.drop 24 = dktL_law_1 := dk_seg dksL_law_0 24 rfl rfl
theorem dksL_law_2 : cL_law.data.toList.drop 33 = dktL_law_2 := dk_seg dksL_law_1 9 rfl rfl
theorem dksL_law_3 : cL_law.data.toList.drop 72 = dktL_law_3 := dk_seg dksL_law_2 39 rfl rfl
theorem dksL_law_4 : cL_law.data.toList.drop 96 = dktL_law_4 := dk_seg dksL_law_3 24 rfl rfl
theorem dksL_law_5 : cL_law.data.toList.drop 120 = dktL_law_5 := dk_seg dksL_law_4 24 rfl rfl
theorem dksL_law_6 : cL_law.data.toList.drop 144 = dktL_law_6 := dk_seg dksL_law_5 24 rfl rfl
theorem dksL_law_7 : cL_law.data.toList.drop 168 = dktL_law_7 := dk_seg dksL_law_6 24 rfl rfl
theorem dksL_law_8 : cL_law.data.toList.drop 190 = dktL_law_8 := dk_seg dksL_law_7 22 rfl rfl
theorem dksL_law_9 : cL_law.data.toList.drop 214 = dktL_law_9 := dk_seg dksL_law_8 24 rfl rfl
theorem dksL_law_10 : cL_law.data.toList.drop 238 = dktL_law_10 := dk_seg dksL_law_9 24 rfl rfl
theorem dksL_law_11 : cL_law.data.toList.drop 260 = dktL_law_11 := dk_seg dksL_law_10 22 rfl rfl
theorem dL_law_0 : decode cL_law 0 = .ok (.new 7, 3) := dk_187 0 7 (dk_at dksL_law_0 0 rfl rfl)
theorem dL_law_3 : decode cL_law 3 = .ok (.dup, 1) := dk_89 (dk_at dksL_law_0 3 rfl rfl)
theorem dL_law_4 : decode cL_law 4 = .ok (.invokespecial 9, 3) := dk_183 0 9 (dk_at dksL_law_0 4 rfl rfl)
theorem dL_law_7 : decode cL_law 7 = .ok (.astore_n 1, 1) := dk_76 (dk_at dksL_law_0 7 rfl rfl)
theorem dL_law_8 : decode cL_law 8 = .ok (.new 10, 3) := dk_187 0 10 (dk_at dksL_law_0 8 rfl rfl)
theorem dL_law_11 : decode cL_law 11 = .ok (.dup, 1) := dk_89 (dk_at dksL_law_0 11 rfl rfl)
theorem dL_law_12 : decode cL_law 12 = .ok (.invokespecial 12, 3) := dk_183 0 12 (dk_at dksL_law_0 12 rfl rfl)
theorem dL_law_15 : decode cL_law 15 = .ok (.astore_n 2, 1) := dk_77 (dk_at dksL_law_0 15 rfl rfl)
theorem dL_law_16 : decode cL_law 16 = .ok (.iconst 0, 1) := dk_3 (dk_at dksL_law_0 16 rfl rfl)
theorem dL_law_17 : decode cL_law 17 = .ok (.istore_n 3, 1) := dk_62 (dk_at dksL_law_0 17 rfl rfl)
theorem dL_law_18 : decode cL_law 18 = .ok (.iload_n 3, 1) := dk_29 (dk_at dksL_law_0 18 rfl rfl)
theorem dL_law_19 : decode cL_law 19 = .ok (.aload_n 0, 1) := dk_42 (dk_at dksL_law_0 19 rfl rfl)
theorem dL_law_20 : decode cL_law 20 = .ok (.arraylength, 1) := dk_190 (dk_at dksL_law_0 20 rfl rfl)
theorem dL_law_21 : decode cL_law 21 = .ok (.bipush 6, 2) := dk_16 6 (dk_at dksL_law_0 21 rfl rfl)
theorem dL_law_23 : decode cL_law 23 = .ok (.isub, 1) := dk_100 (dk_at dksL_law_0 23 rfl rfl)
theorem dL_law_24 : decode cL_law 24 = .ok (.if_icmp .gt 242, 3) := dk_163 0 242 (dk_at dksL_law_1 0 rfl rfl)
theorem dL_law_27 : decode cL_law 27 = .ok (.aload_n 0, 1) := dk_42 (dk_at dksL_law_1 3 rfl rfl)
theorem dL_law_28 : decode cL_law 28 = .ok (.iload_n 3, 1) := dk_29 (dk_at dksL_law_1 4 rfl rfl)
theorem dL_law_29 : decode cL_law 29 = .ok (.iaload, 1) := dk_46 (dk_at dksL_law_1 5 rfl rfl)
theorem dL_law_30 : decode cL_law 30 = .ok (.bipush 7, 2) := dk_16 7 (dk_at dksL_law_1 6 rfl rfl)
theorem dL_law_32 : decode cL_law 32 = .ok (.iand, 1) := dk_126 (dk_at dksL_law_1 8 rfl rfl)
theorem dL_law_33 : decode cL_law 33 = .ok (.tableswitch 227 0 5 #[39, 100, 151, 172, 193, 204], 39) := by decide +kernel
theorem dL_law_72 : decode cL_law 72 = .ok (.aload_n 1, 1) := dk_43 (dk_at dksL_law_3 0 rfl rfl)
theorem dL_law_73 : decode cL_law 73 = .ok (.aload_n 0, 1) := dk_42 (dk_at dksL_law_3 1 rfl rfl)
theorem dL_law_74 : decode cL_law 74 = .ok (.iload_n 3, 1) := dk_29 (dk_at dksL_law_3 2 rfl rfl)
theorem dL_law_75 : decode cL_law 75 = .ok (.iconst 1, 1) := dk_4 (dk_at dksL_law_3 3 rfl rfl)
theorem dL_law_76 : decode cL_law 76 = .ok (.iadd, 1) := dk_96 (dk_at dksL_law_3 4 rfl rfl)
theorem dL_law_77 : decode cL_law 77 = .ok (.iaload, 1) := dk_46 (dk_at dksL_law_3 5 rfl rfl)
theorem dL_law_78 : decode cL_law 78 = .ok (.aload_n 0, 1) := dk_42 (dk_at dksL_law_3 6 rfl rfl)
theorem dL_law_79 : decode cL_law 79 = .ok (.iload_n 3, 1) := dk_29 (dk_at dksL_law_3 7 rfl rfl)
theorem dL_law_80 : decode cL_law 80 = .ok (.iconst 2, 1) := dk_5 (dk_at dksL_law_3 8 rfl rfl)
theorem dL_law_81 : decode cL_law 81 = .ok (.iadd, 1) := dk_96 (dk_at dksL_law_3 9 rfl rfl)
theorem dL_law_82 : decode cL_law 82 = .ok (.iaload, 1) := dk_46 (dk_at dksL_law_3 10 rfl rfl)
theorem dL_law_83 : decode cL_law 83 = .ok (.aload_n 0, 1) := dk_42 (dk_at dksL_law_3 11 rfl rfl)
theorem dL_law_84 : decode cL_law 84 = .ok (.iload_n 3, 1) := dk_29 (dk_at dksL_law_3 12 rfl rfl)
theorem dL_law_85 : decode cL_law 85 = .ok (.iconst 3, 1) := dk_6 (dk_at dksL_law_3 13 rfl rfl)
theorem dL_law_86 : decode cL_law 86 = .ok (.iadd, 1) := dk_96 (dk_at dksL_law_3 14 rfl rfl)
theorem dL_law_87 : decode cL_law 87 = .ok (.iaload, 1) := dk_46 (dk_at dksL_law_3 15 rfl rfl)
theorem dL_law_88 : decode cL_law 88 = .ok (.aload_n 0, 1) := dk_42 (dk_at dksL_law_3 16 rfl rfl)
theorem dL_law_89 : decode cL_law 89 = .ok (.iload_n 3, 1) := dk_29 (dk_at dksL_law_3 17 rfl rfl)
theorem dL_law_90 : decode cL_law 90 = .ok (.iconst 4, 1) := dk_7 (dk_at dksL_law_3 18 rfl rfl)
theorem dL_law_91 : decode cL_law 91 = .ok (.iadd, 1) := dk_96 (dk_at dksL_law_3 19 rfl rfl)
theorem dL_law_92 : decode cL_law 92 = .ok (.iaload, 1) := dk_46 (dk_at dksL_law_3 20 rfl rfl)
theorem dL_law_93 : decode cL_law 93 = .ok (.aload_n 0, 1) := dk_42 (dk_at dksL_law_3 21 rfl rfl)
theorem dL_law_94 : decode cL_law 94 = .ok (.iload_n 3, 1) := dk_29 (dk_at dksL_law_3 22 rfl rfl)
theorem dL_law_95 : decode cL_law 95 = .ok (.iconst 5, 1) := dk_8 (dk_at dksL_law_3 23 rfl rfl)
theorem dL_law_96 : decode cL_law 96 = .ok (.iadd, 1) := dk_96 (dk_at dksL_law_4 0 rfl rfl)
theorem dL_law_97 : decode cL_law 97 = .ok (.iaload, 1) := dk_46 (dk_at dksL_law_4 1 rfl rfl)
theorem dL_law_98 : decode cL_law 98 = .ok (.invokevirtual 13, 3) := dk_182 0 13 (dk_at dksL_law_4 2 rfl rfl)
theorem dL_law_101 : decode cL_law 101 = .ok (.aload_n 2, 1) := dk_44 (dk_at dksL_law_4 5 rfl rfl)
theorem dL_law_102 : decode cL_law 102 = .ok (.aload_n 0, 1) := dk_42 (dk_at dksL_law_4 6 rfl rfl)
theorem dL_law_103 : decode cL_law 103 = .ok (.iload_n 3, 1) := dk_29 (dk_at dksL_law_4 7 rfl rfl)
theorem dL_law_104 : decode cL_law 104 = .ok (.iconst 1, 1) := dk_4 (dk_at dksL_law_4 8 rfl rfl)
theorem dL_law_105 : decode cL_law 105 = .ok (.iadd, 1) := dk_96 (dk_at dksL_law_4 9 rfl rfl)
theorem dL_law_106 : decode cL_law 106 = .ok (.iaload, 1) := dk_46 (dk_at dksL_law_4 10 rfl rfl)
theorem dL_law_107 : decode cL_law 107 = .ok (.aload_n 0, 1) := dk_42 (dk_at dksL_law_4 11 rfl rfl)
theorem dL_law_108 : decode cL_law 108 = .ok (.iload_n 3, 1) := dk_29 (dk_at dksL_law_4 12 rfl rfl)
theorem dL_law_109 : decode cL_law 109 = .ok (.iconst 2, 1) := dk_5 (dk_at dksL_law_4 13 rfl rfl)
theorem dL_law_110 : decode cL_law 110 = .ok (.iadd, 1) := dk_96 (dk_at dksL_law_4 14 rfl rfl)
theorem dL_law_111 : decode cL_law 111 = .ok (.iaload, 1) := dk_46 (dk_at dksL_law_4 15 rfl rfl)
theorem dL_law_112 : decode cL_law 112 = .ok (.aload_n 0, 1) := dk_42 (dk_at dksL_law_4 16 rfl rfl)
theorem dL_law_113 : decode cL_law 113 = .ok (.iload_n 3, 1) := dk_29 (dk_at dksL_law_4 17 rfl rfl)
theorem dL_law_114 : decode cL_law 114 = .ok (.iconst 3, 1) := dk_6 (dk_at dksL_law_4 18 rfl rfl)
theorem dL_law_115 : decode cL_law 115 = .ok (.iadd, 1) := dk_96 (dk_at dksL_law_4 19 rfl rfl)
theorem dL_law_116 : decode cL_law 116 = .ok (.iaload, 1) := dk_46 (dk_at dksL_law_4 20 rfl rfl)
theorem dL_law_117 : decode cL_law 117 = .ok (.aload_n 0, 1) := dk_42 (dk_at dksL_law_4 21 rfl rfl)
theorem dL_law_118 : decode cL_law 118 = .ok (.iload_n 3, 1) := dk_29 (dk_at dksL_law_4 22 rfl rfl)
theorem dL_law_119 : decode cL_law 119 = .ok (.iconst 4, 1) := dk_7 (dk_at dksL_law_4 23 rfl rfl)
theorem dL_law_120 : decode cL_law 120 = .ok (.iadd, 1) := dk_96 (dk_at dksL_law_5 0 rfl rfl)
theorem dL_law_121 : decode cL_law 121 = .ok (.iaload, 1) := dk_46 (dk_at dksL_law_5 1 rfl rfl)
theorem dL_law_122 : decode cL_law 122 = .ok (.aload_n 0, 1) := dk_42 (dk_at dksL_law_5 2 rfl rfl)
theorem dL_law_123 : decode cL_law 123 = .ok (.iload_n 3, 1) := dk_29 (dk_at dksL_law_5 3 rfl rfl)
theorem dL_law_124 : decode cL_law 124 = .ok (.iconst 5, 1) := dk_8 (dk_at dksL_law_5 4 rfl rfl)
theorem dL_law_125 : decode cL_law 125 = .ok (.iadd, 1) := dk_96 (dk_at dksL_law_5 5 rfl rfl)
theorem dL_law_126 : decode cL_law 126 = .ok (.iaload, 1) := dk_46 (dk_at dksL_law_5 6 rfl rfl)
theorem dL_law_127 : decode cL_law 127 = .ok (.invokevirtual 17, 3) := dk_182 0 17 (dk_at dksL_law_5 7 rfl rfl)
theorem dL_law_130 : decode cL_law 130 = .ok (.goto 130, 3) := dk_167 0 130 (dk_at dksL_law_5 10 rfl rfl)
theorem dL_law_133 : decode cL_law 133 = .ok (.aload_n 1, 1) := dk_43 (dk_at dksL_law_5 13 rfl rfl)
theorem dL_law_134 : decode cL_law 134 = .ok (.aload_n 0, 1) := dk_42 (dk_at dksL_law_5 14 rfl rfl)
theorem dL_law_135 : decode cL_law 135 = .ok (.iload_n 3, 1) := dk_29 (dk_at dksL_law_5 15 rfl rfl)
theorem dL_law_136 : decode cL_law 136 = .ok (.iconst 1, 1) := dk_4 (dk_at dksL_law_5 16 rfl rfl)
theorem dL_law_137 : decode cL_law 137 = .ok (.iadd, 1) := dk_96 (dk_at dksL_law_5 17 rfl rfl)
theorem dL_law_138 : decode cL_law 138 = .ok (.iaload, 1) := dk_46 (dk_at dksL_law_5 18 rfl rfl)
theorem dL_law_139 : decode cL_law 139 = .ok (.aload_n 0, 1) := dk_42 (dk_at dksL_law_5 19 rfl rfl)
theorem dL_law_140 : decode cL_law 140 = .ok (.iload_n 3, 1) := dk_29 (dk_at dksL_law_5 20 rfl rfl)
theorem dL_law_141 : decode cL_law 141 = .ok (.iconst 2, 1) := dk_5 (dk_at dksL_law_5 21 rfl rfl)
theorem dL_law_142 : decode cL_law 142 = .ok (.iadd, 1) := dk_96 (dk_at dksL_law_5 22 rfl rfl)
theorem dL_law_143 : decode cL_law 143 = .ok (.iaload, 1) := dk_46 (dk_at dksL_law_5 23 rfl rfl)
theorem dL_law_144 : decode cL_law 144 = .ok (.aload_n 0, 1) := dk_42 (dk_at dksL_law_6 0 rfl rfl)
theorem dL_law_145 : decode cL_law 145 = .ok (.iload_n 3, 1) := dk_29 (dk_at dksL_law_6 1 rfl rfl)
theorem dL_law_146 : decode cL_law 146 = .ok (.iconst 3, 1) := dk_6 (dk_at dksL_law_6 2 rfl rfl)
theorem dL_law_147 : decode cL_law 147 = .ok (.iadd, 1) := dk_96 (dk_at dksL_law_6 3 rfl rfl)
theorem dL_law_148 : decode cL_law 148 = .ok (.iaload, 1) := dk_46 (dk_at dksL_law_6 4 rfl rfl)
theorem dL_law_149 : decode cL_law 149 = .ok (.aload_n 0, 1) := dk_42 (dk_at dksL_law_6 5 rfl rfl)
theorem dL_law_150 : decode cL_law 150 = .ok (.iload_n 3, 1) := dk_29 (dk_at dksL_law_6 6 rfl rfl)
theorem dL_law_151 : decode cL_law 151 = .ok (.iconst 4, 1) := dk_7 (dk_at dksL_law_6 7 rfl rfl)
theorem dL_law_152 : decode cL_law 152 = .ok (.iadd, 1) := dk_96 (dk_at dksL_law_6 8 rfl rfl)
theorem dL_law_153 : decode cL_law 153 = .ok (.iaload, 1) := dk_46 (dk_at dksL_law_6 9 rfl rfl)
theorem dL_law_154 : decode cL_law 154 = .ok (.invokevirtual 18, 3) := dk_182 0 18 (dk_at dksL_law_6 10 rfl rfl)
theorem dL_law_157 : decode cL_law 157 = .ok (.aload_n 2, 1) := dk_44 (dk_at dksL_law_6 13 rfl rfl)
theorem dL_law_158 : decode cL_law 158 = .ok (.aload_n 0, 1) := dk_42 (dk_at dksL_law_6 14 rfl rfl)
theorem dL_law_159 : decode cL_law 159 = .ok (.iload_n 3, 1) := dk_29 (dk_at dksL_law_6 15 rfl rfl)
theorem dL_law_160 : decode cL_law 160 = .ok (.iconst 1, 1) := dk_4 (dk_at dksL_law_6 16 rfl rfl)
theorem dL_law_161 : decode cL_law 161 = .ok (.iadd, 1) := dk_96 (dk_at dksL_law_6 17 rfl rfl)
theorem dL_law_162 : decode cL_law 162 = .ok (.iaload, 1) := dk_46 (dk_at dksL_law_6 18 rfl rfl)
theorem dL_law_163 : decode cL_law 163 = .ok (.aload_n 0, 1) := dk_42 (dk_at dksL_law_6 19 rfl rfl)
theorem dL_law_164 : decode cL_law 164 = .ok (.iload_n 3, 1) := dk_29 (dk_at dksL_law_6 20 rfl rfl)
theorem dL_law_165 : decode cL_law 165 = .ok (.iconst 2, 1) := dk_5 (dk_at dksL_law_6 21 rfl rfl)
theorem dL_law_166 : decode cL_law 166 = .ok (.iadd, 1) := dk_96 (dk_at dksL_law_6 22 rfl rfl)
theorem dL_law_167 : decode cL_law 167 = .ok (.iaload, 1) := dk_46 (dk_at dksL_law_6 23 rfl rfl)
theorem dL_law_168 : decode cL_law 168 = .ok (.aload_n 0, 1) := dk_42 (dk_at dksL_law_7 0 rfl rfl)
theorem dL_law_169 : decode cL_law 169 = .ok (.iload_n 3, 1) := dk_29 (dk_at dksL_law_7 1 rfl rfl)
theorem dL_law_170 : decode cL_law 170 = .ok (.iconst 3, 1) := dk_6 (dk_at dksL_law_7 2 rfl rfl)
theorem dL_law_171 : decode cL_law 171 = .ok (.iadd, 1) := dk_96 (dk_at dksL_law_7 3 rfl rfl)
theorem dL_law_172 : decode cL_law 172 = .ok (.iaload, 1) := dk_46 (dk_at dksL_law_7 4 rfl rfl)
theorem dL_law_173 : decode cL_law 173 = .ok (.aload_n 0, 1) := dk_42 (dk_at dksL_law_7 5 rfl rfl)
theorem dL_law_174 : decode cL_law 174 = .ok (.iload_n 3, 1) := dk_29 (dk_at dksL_law_7 6 rfl rfl)
theorem dL_law_175 : decode cL_law 175 = .ok (.iconst 4, 1) := dk_7 (dk_at dksL_law_7 7 rfl rfl)
theorem dL_law_176 : decode cL_law 176 = .ok (.iadd, 1) := dk_96 (dk_at dksL_law_7 8 rfl rfl)
theorem dL_law_177 : decode cL_law 177 = .ok (.iaload, 1) := dk_46 (dk_at dksL_law_7 9 rfl rfl)
theorem dL_law_178 : decode cL_law 178 = .ok (.invokevirtual 22, 3) := dk_182 0 22 (dk_at dksL_law_7 10 rfl rfl)
theorem dL_law_181 : decode cL_law 181 = .ok (.goto 79, 3) := dk_167 0 79 (dk_at dksL_law_7 13 rfl rfl)
theorem dL_law_184 : decode cL_law 184 = .ok (.aload_n 1, 1) := dk_43 (dk_at dksL_law_7 16 rfl rfl)
theorem dL_law_185 : decode cL_law 185 = .ok (.aload_n 0, 1) := dk_42 (dk_at dksL_law_7 17 rfl rfl)
theorem dL_law_186 : decode cL_law 186 = .ok (.iload_n 3, 1) := dk_29 (dk_at dksL_law_7 18 rfl rfl)
theorem dL_law_187 : decode cL_law 187 = .ok (.iconst 1, 1) := dk_4 (dk_at dksL_law_7 19 rfl rfl)
theorem dL_law_188 : decode cL_law 188 = .ok (.iadd, 1) := dk_96 (dk_at dksL_law_7 20 rfl rfl)
theorem dL_law_189 : decode cL_law 189 = .ok (.iaload, 1) := dk_46 (dk_at dksL_law_7 21 rfl rfl)
theorem dL_law_190 : decode cL_law 190 = .ok (.invokevirtual 23, 3) := dk_182 0 23 (dk_at dksL_law_8 0 rfl rfl)
theorem dL_law_193 : decode cL_law 193 = .ok (.aload_n 2, 1) := dk_44 (dk_at dksL_law_8 3 rfl rfl)
theorem dL_law_194 : decode cL_law 194 = .ok (.aload_n 0, 1) := dk_42 (dk_at dksL_law_8 4 rfl rfl)
theorem dL_law_195 : decode cL_law 195 = .ok (.iload_n 3, 1) := dk_29 (dk_at dksL_law_8 5 rfl rfl)
theorem dL_law_196 : decode cL_law 196 = .ok (.iconst 1, 1) := dk_4 (dk_at dksL_law_8 6 rfl rfl)
theorem dL_law_197 : decode cL_law 197 = .ok (.iadd, 1) := dk_96 (dk_at dksL_law_8 7 rfl rfl)
theorem dL_law_198 : decode cL_law 198 = .ok (.iaload, 1) := dk_46 (dk_at dksL_law_8 8 rfl rfl)
theorem dL_law_199 : decode cL_law 199 = .ok (.invokevirtual 27, 3) := dk_182 0 27 (dk_at dksL_law_8 9 rfl rfl)
theorem dL_law_202 : decode cL_law 202 = .ok (.goto 58, 3) := dk_167 0 58 (dk_at dksL_law_8 12 rfl rfl)
theorem dL_law_205 : decode cL_law 205 = .ok (.aload_n 1, 1) := dk_43 (dk_at dksL_law_8 15 rfl rfl)
theorem dL_law_206 : decode cL_law 206 = .ok (.aload_n 0, 1) := dk_42 (dk_at dksL_law_8 16 rfl rfl)
theorem dL_law_207 : decode cL_law 207 = .ok (.iload_n 3, 1) := dk_29 (dk_at dksL_law_8 17 rfl rfl)
theorem dL_law_208 : decode cL_law 208 = .ok (.iconst 1, 1) := dk_4 (dk_at dksL_law_8 18 rfl rfl)
theorem dL_law_209 : decode cL_law 209 = .ok (.iadd, 1) := dk_96 (dk_at dksL_law_8 19 rfl rfl)
theorem dL_law_210 : decode cL_law 210 = .ok (.iaload, 1) := dk_46 (dk_at dksL_law_8 20 rfl rfl)
theorem dL_law_211 : decode cL_law 211 = .ok (.invokevirtual 28, 3) := dk_182 0 28 (dk_at dksL_law_8 21 rfl rfl)
theorem dL_law_214 : decode cL_law 214 = .ok (.aload_n 2, 1) := dk_44 (dk_at dksL_law_9 0 rfl rfl)
theorem dL_law_215 : decode cL_law 215 = .ok (.aload_n 0, 1) := dk_42 (dk_at dksL_law_9 1 rfl rfl)
theorem dL_law_216 : decode cL_law 216 = .ok (.iload_n 3, 1) := dk_29 (dk_at dksL_law_9 2 rfl rfl)
theorem dL_law_217 : decode cL_law 217 = .ok (.iconst 1, 1) := dk_4 (dk_at dksL_law_9 3 rfl rfl)
theorem dL_law_218 : decode cL_law 218 = .ok (.iadd, 1) := dk_96 (dk_at dksL_law_9 4 rfl rfl)
theorem dL_law_219 : decode cL_law 219 = .ok (.iaload, 1) := dk_46 (dk_at dksL_law_9 5 rfl rfl)
theorem dL_law_220 : decode cL_law 220 = .ok (.invokevirtual 31, 3) := dk_182 0 31 (dk_at dksL_law_9 6 rfl rfl)
theorem dL_law_223 : decode cL_law 223 = .ok (.goto 37, 3) := dk_167 0 37 (dk_at dksL_law_9 9 rfl rfl)
theorem dL_law_226 : decode cL_law 226 = .ok (.aload_n 1, 1) := dk_43 (dk_at dksL_law_9 12 rfl rfl)
theorem dL_law_227 : decode cL_law 227 = .ok (.invokevirtual 32, 3) := dk_182 0 32 (dk_at dksL_law_9 13 rfl rfl)
theorem dL_law_230 : decode cL_law 230 = .ok (.aload_n 2, 1) := dk_44 (dk_at dksL_law_9 16 rfl rfl)
theorem dL_law_231 : decode cL_law 231 = .ok (.invokevirtual 35, 3) := dk_182 0 35 (dk_at dksL_law_9 17 rfl rfl)
theorem dL_law_234 : decode cL_law 234 = .ok (.goto 26, 3) := dk_167 0 26 (dk_at dksL_law_9 20 rfl rfl)
theorem dL_law_237 : decode cL_law 237 = .ok (.aload_n 1, 1) := dk_43 (dk_at dksL_law_9 23 rfl rfl)
theorem dL_law_238 : decode cL_law 238 = .ok (.aload_n 0, 1) := dk_42 (dk_at dksL_law_10 0 rfl rfl)
theorem dL_law_239 : decode cL_law 239 = .ok (.iload_n 3, 1) := dk_29 (dk_at dksL_law_10 1 rfl rfl)
theorem dL_law_240 : decode cL_law 240 = .ok (.iconst 1, 1) := dk_4 (dk_at dksL_law_10 2 rfl rfl)
theorem dL_law_241 : decode cL_law 241 = .ok (.iadd, 1) := dk_96 (dk_at dksL_law_10 3 rfl rfl)
theorem dL_law_242 : decode cL_law 242 = .ok (.iaload, 1) := dk_46 (dk_at dksL_law_10 4 rfl rfl)
theorem dL_law_243 : decode cL_law 243 = .ok (.invokevirtual 36, 3) := dk_182 0 36 (dk_at dksL_law_10 5 rfl rfl)
theorem dL_law_246 : decode cL_law 246 = .ok (.aload_n 2, 1) := dk_44 (dk_at dksL_law_10 8 rfl rfl)
theorem dL_law_247 : decode cL_law 247 = .ok (.aload_n 0, 1) := dk_42 (dk_at dksL_law_10 9 rfl rfl)
theorem dL_law_248 : decode cL_law 248 = .ok (.iload_n 3, 1) := dk_29 (dk_at dksL_law_10 10 rfl rfl)
theorem dL_law_249 : decode cL_law 249 = .ok (.iconst 1, 1) := dk_4 (dk_at dksL_law_10 11 rfl rfl)
theorem dL_law_250 : decode cL_law 250 = .ok (.iadd, 1) := dk_96 (dk_at dksL_law_10 12 rfl rfl)
theorem dL_law_251 : decode cL_law 251 = .ok (.iaload, 1) := dk_46 (dk_at dksL_law_10 13 rfl rfl)
theorem dL_law_252 : decode cL_law 252 = .ok (.invokevirtual 40, 3) := dk_182 0 40 (dk_at dksL_law_10 14 rfl rfl)
theorem dL_law_255 : decode cL_law 255 = .ok (.if_icmp .eq 5, 3) := dk_159 0 5 (dk_at dksL_law_10 17 rfl rfl)
theorem dL_law_258 : decode cL_law 258 = .ok (.iconst 0, 1) := dk_3 (dk_at dksL_law_10 20 rfl rfl)
theorem dL_law_259 : decode cL_law 259 = .ok (.ireturn, 1) := dk_172 (dk_at dksL_law_10 21 rfl rfl)
theorem dL_law_260 : decode cL_law 260 = .ok (.iinc 3 6, 3) := dk_132 3 6 (dk_at dksL_law_11 0 rfl rfl)
theorem dL_law_263 : decode cL_law 263 = .ok (.goto (-245), 3) := dk_167 255 11 (dk_at dksL_law_11 3 rfl rfl)
theorem dL_law_266 : decode cL_law 266 = .ok (.iconst 1, 1) := dk_4 (dk_at dksL_law_11 6 rfl rfl)
theorem dL_law_267 : decode cL_law 267 = .ok (.ireturn, 1) := dk_172 (dk_at dksL_law_11 7 rfl rfl)
end
section
/-! SmFourDeskModel -/
set_option maxRecDepth 100000
def RX1 : String := "SmFourDeskModel"
def TX1 : u_T := fun k => match k with
  | 0 => ("SmFourDeskModel", "key", "[B", true)
  | 1 => ("SmFourDeskModel", "block", "[B", true)
  | 2 => ("SmFourDeskModel", "out", "[B", true)
  | 3 => ("SmFourDeskModel", "box", "[I", true)
  | 4 => ("SmFourDeskModel", "rounds", "[I", true)
  | _ => ("SmFourDeskModel", "words", "[I", true)
def tyX1 : Nat → FieldType := fun k => match k with
  | 0 => .array .byte
  | 1 => .array .byte
  | 2 => .array .byte
  | 3 => .array .int
  | 4 => .array .int
  | _ => .array .int
abbrev wsX10 : List Cond := u_ws RX1 TX1 6
theorem nmX1 : ∀ a, a < 6 → ∀ b, b < 6 → a ≠ b → (TX1 a).2.1 ≠ (TX1 b).2.1 := by decide +kernel
theorem tyX1_ok : ∀ k, k < 6 → parseFieldDescriptor (TX1 k).2.2.1 = some (tyX1 k) := by decide +kernel
abbrev cX1_init : ByteArray := prog_11_method_1_code
def yX1_init : MethodName := ⟨RX1, "<init>", "()V"⟩
def dkwX1_init_4 : List UInt8 := [177]
abbrev dktX1_init_4 : List UInt8 := dkwX1_init_4 ++ []
def dkwX1_init_3 : List UInt8 := [184, 0, 29, 17, 0, 211, 130, 184, 0, 33, 184, 0, 29, 17, 0, 211, 130, 79, 132, 1, 1, 167, 255, 222]
abbrev dktX1_init_3 : List UInt8 := dkwX1_init_3 ++ dktX1_init_4
def dkwX1_init_2 : List UInt8 := [16, 36, 188, 10, 181, 0, 26, 3, 60, 27, 17, 1, 0, 162, 0, 33, 42, 180, 0, 19, 27, 27]
abbrev dktX1_init_2 : List UInt8 := dkwX1_init_2 ++ dktX1_init_3
def dkwX1_init_1 : List UInt8 := [188, 8, 181, 0, 16, 42, 17, 1, 0, 188, 10, 181, 0, 19, 42, 16, 32, 188, 10, 181, 0, 23, 42]
abbrev dktX1_init_1 : List UInt8 := dkwX1_init_1 ++ dktX1_init_2
def dkwX1_init_0 : List UInt8 := [42, 183, 0, 1, 42, 16, 32, 188, 8, 181, 0, 7, 42, 16, 16, 188, 8, 181, 0, 13, 42, 16, 16]
abbrev dktX1_init_0 : List UInt8 := dkwX1_init_0 ++ dktX1_init_1
theorem dksX1_init_0 : cX1_init.data.toList.drop 0 = dktX1_init_0 := by decide +kernel
theorem dksX1_init_1 : cX1_init.data.toList.drop 23 = dktX1_init_1 := dk_seg dksX1_init_0 23 rfl rfl
theorem dksX1_init_2 : cX1_init.data.toList.drop 46 = dktX1_init_2 := dk_seg dksX1_init_1 23 rfl rfl
theorem dksX1_init_3 : cX1_init.data.toList.drop 68 = dktX1_init_3 := dk_seg dksX1_init_2 22 rfl rfl
theorem dksX1_init_4 : cX1_init.data.toList.drop 92 = dktX1_init_4 := dk_seg dksX1_init_3 24 rfl rfl
theorem dX1_init_0 : decode cX1_init 0 = .ok (.aload_n 0, 1) := dk_42 (dk_at dksX1_init_0 0 rfl rfl)
theorem dX1_init_1 : decode cX1_init 1 = .ok (.invokespecial 1, 3) := dk_183 0 1 (dk_at dksX1_init_0 1 rfl rfl)
theorem dX1_init_4 : decode cX1_init 4 = .ok (.aload_n 0, 1) := dk_42 (dk_at dksX1_init_0 4 rfl rfl)
theorem dX1_init_5 : decode cX1_init 5 = .ok (.bipush 32, 2) := dk_16 32 (dk_at dksX1_init_0 5 rfl rfl)
theorem dX1_init_7 : decode cX1_init 7 = .ok (.newarray .byte, 2) := dk_188_8 (dk_at dksX1_init_0 7 rfl rfl)
theorem dX1_init_9 : decode cX1_init 9 = .ok (.putfield 7, 3) := dk_181 0 7 (dk_at dksX1_init_0 9 rfl rfl)
theorem dX1_init_12 : decode cX1_init 12 = .ok (.aload_n 0, 1) := dk_42 (dk_at dksX1_init_0 12 rfl rfl)
theorem dX1_init_13 : decode cX1_init 13 = .ok (.bipush 16, 2) := dk_16 16 (dk_at dksX1_init_0 13 rfl rfl)
theorem dX1_init_15 : decode cX1_init 15 = .ok (.newarray .byte, 2) := dk_188_8 (dk_at dksX1_init_0 15 rfl rfl)
theorem dX1_init_17 : decode cX1_init 17 = .ok (.putfield 13, 3) := dk_181 0 13 (dk_at dksX1_init_0 17 rfl rfl)
theorem dX1_init_20 : decode cX1_init 20 = .ok (.aload_n 0, 1) := dk_42 (dk_at dksX1_init_0 20 rfl rfl)
theorem dX1_init_21 : decode cX1_init 21 = .ok (.bipush 16, 2) := dk_16 16 (dk_at dksX1_init_0 21 rfl rfl)
theorem dX1_init_23 : decode cX1_init 23 = .ok (.newarray .byte, 2) := dk_188_8 (dk_at dksX1_init_1 0 rfl rfl)
theorem dX1_init_25 : decode cX1_init 25 = .ok (.putfield 16, 3) := dk_181 0 16 (dk_at dksX1_init_1 2 rfl rfl)
theorem dX1_init_28 : decode cX1_init 28 = .ok (.aload_n 0, 1) := dk_42 (dk_at dksX1_init_1 5 rfl rfl)
theorem dX1_init_29 : decode cX1_init 29 = .ok (.sipush 256, 3) := dk_17 1 0 (dk_at dksX1_init_1 6 rfl rfl)
theorem dX1_init_32 : decode cX1_init 32 = .ok (.newarray .int, 2) := dk_188_10 (dk_at dksX1_init_1 9 rfl rfl)
theorem dX1_init_34 : decode cX1_init 34 = .ok (.putfield 19, 3) := dk_181 0 19 (dk_at dksX1_init_1 11 rfl rfl)
theorem dX1_init_37 : decode cX1_init 37 = .ok (.aload_n 0, 1) := dk_42 (dk_at dksX1_init_1 14 rfl rfl)
theorem dX1_init_38 : decode cX1_init 38 = .ok (.bipush 32, 2) := dk_16 32 (dk_at dksX1_init_1 15 rfl rfl)
theorem dX1_init_40 : decode cX1_init 40 = .ok (.newarray .int, 2) := dk_188_10 (dk_at dksX1_init_1 17 rfl rfl)
theorem dX1_init_42 : decode cX1_init 42 = .ok (.putfield 23, 3) := dk_181 0 23 (dk_at dksX1_init_1 19 rfl rfl)
theorem dX1_init_45 : decode cX1_init 45 = .ok (.aload_n 0, 1) := dk_42 (dk_at dksX1_init_1 22 rfl rfl)
theorem dX1_init_46 : decode cX1_init 46 = .ok (.bipush 36, 2) := dk_16 36 (dk_at dksX1_init_2 0 rfl rfl)
theorem dX1_init_48 : decode cX1_init 48 = .ok (.newarray .int, 2) := dk_188_10 (dk_at dksX1_init_2 2 rfl rfl)
theorem dX1_init_50 : decode cX1_init 50 = .ok (.putfield 26, 3) := dk_181 0 26 (dk_at dksX1_init_2 4 rfl rfl)
theorem dX1_init_53 : decode cX1_init 53 = .ok (.iconst 0, 1) := dk_3 (dk_at dksX1_init_2 7 rfl rfl)
theorem dX1_init_54 : decode cX1_init 54 = .ok (.istore_n 1, 1) := dk_60 (dk_at dksX1_init_2 8 rfl rfl)
theorem dX1_init_55 : decode cX1_init 55 = .ok (.iload_n 1, 1) := dk_27 (dk_at dksX1_init_2 9 rfl rfl)
theorem dX1_init_56 : decode cX1_init 56 = .ok (.sipush 256, 3) := dk_17 1 0 (dk_at dksX1_init_2 10 rfl rfl)
theorem dX1_init_59 : decode cX1_init 59 = .ok (.if_icmp .ge 33, 3) := dk_162 0 33 (dk_at dksX1_init_2 13 rfl rfl)
theorem dX1_init_62 : decode cX1_init 62 = .ok (.aload_n 0, 1) := dk_42 (dk_at dksX1_init_2 16 rfl rfl)
theorem dX1_init_63 : decode cX1_init 63 = .ok (.getfield 19, 3) := dk_180 0 19 (dk_at dksX1_init_2 17 rfl rfl)
theorem dX1_init_66 : decode cX1_init 66 = .ok (.iload_n 1, 1) := dk_27 (dk_at dksX1_init_2 20 rfl rfl)
theorem dX1_init_67 : decode cX1_init 67 = .ok (.iload_n 1, 1) := dk_27 (dk_at dksX1_init_2 21 rfl rfl)
theorem dX1_init_68 : decode cX1_init 68 = .ok (.invokestatic 29, 3) := dk_184 0 29 (dk_at dksX1_init_3 0 rfl rfl)
theorem dX1_init_71 : decode cX1_init 71 = .ok (.sipush 211, 3) := dk_17 0 211 (dk_at dksX1_init_3 3 rfl rfl)
theorem dX1_init_74 : decode cX1_init 74 = .ok (.ixor, 1) := dk_130 (dk_at dksX1_init_3 6 rfl rfl)
theorem dX1_init_75 : decode cX1_init 75 = .ok (.invokestatic 33, 3) := dk_184 0 33 (dk_at dksX1_init_3 7 rfl rfl)
theorem dX1_init_78 : decode cX1_init 78 = .ok (.invokestatic 29, 3) := dk_184 0 29 (dk_at dksX1_init_3 10 rfl rfl)
theorem dX1_init_81 : decode cX1_init 81 = .ok (.sipush 211, 3) := dk_17 0 211 (dk_at dksX1_init_3 13 rfl rfl)
theorem dX1_init_84 : decode cX1_init 84 = .ok (.ixor, 1) := dk_130 (dk_at dksX1_init_3 16 rfl rfl)
theorem dX1_init_85 : decode cX1_init 85 = .ok (.iastore, 1) := dk_79 (dk_at dksX1_init_3 17 rfl rfl)
theorem dX1_init_86 : decode cX1_init 86 = .ok (.iinc 1 1, 3) := dk_132 1 1 (dk_at dksX1_init_3 18 rfl rfl)
theorem dX1_init_89 : decode cX1_init 89 = .ok (.goto (-34), 3) := dk_167 255 222 (dk_at dksX1_init_3 21 rfl rfl)
theorem dX1_init_92 : decode cX1_init 92 = .ok (.return_, 1) := dk_177 (dk_at dksX1_init_4 0 rfl rfl)
abbrev cX1_mixed : ByteArray := prog_11_method_2_code
def yX1_mixed : MethodName := ⟨RX1, "mixed", "(I)I"⟩
def dkwX1_mixed_3 : List UInt8 := [167, 255, 189, 27, 172]
abbrev dktX1_mixed_3 : List UInt8 := dkwX1_mixed_3 ++ []
def dkwX1_mixed_2 : List UInt8 := [21, 5, 122, 4, 126, 130, 54, 4, 132, 5, 1, 167, 255, 233, 27, 21, 4, 28, 120, 128, 60, 132, 2, 1]
abbrev dktX1_mixed_2 : List UInt8 := dkwX1_mixed_2 ++ dktX1_mixed_3
def dkwX1_mixed_1 : List UInt8 := [17, 0, 255, 126, 62, 3, 54, 4, 3, 54, 5, 21, 5, 16, 8, 162, 0, 22, 21, 4, 26, 29, 126]
abbrev dktX1_mixed_1 : List UInt8 := dkwX1_mixed_1 ++ dktX1_mixed_2
def dkwX1_mixed_0 : List UInt8 := [3, 60, 3, 61, 28, 16, 8, 162, 0, 67, 17, 0, 167, 28, 120, 17, 0, 167, 16, 8, 28, 100, 122, 128]
abbrev dktX1_mixed_0 : List UInt8 := dkwX1_mixed_0 ++ dktX1_mixed_1
theorem dksX1_mixed_0 : cX1_mixed.data.toList.drop 0 = dktX1_mixed_0 := by decide +kernel
theorem dksX1_mixed_1 : cX1_mixed.data.toList.drop 24 = dktX1_mixed_1 := dk_seg dksX1_mixed_0 24 rfl rfl
theorem dksX1_mixed_2 : cX1_mixed.data.toList.drop 47 = dktX1_mixed_2 := dk_seg dksX1_mixed_1 23 rfl rfl
theorem dksX1_mixed_3 : cX1_mixed.data.toList.drop 71 = dktX1_mixed_3 := dk_seg dksX1_mixed_2 24 rfl rfl
theorem dX1_mixed_0 : decode cX1_mixed 0 = .ok (.iconst 0, 1) := dk_3 (dk_at dksX1_mixed_0 0 rfl rfl)
theorem dX1_mixed_1 : decode cX1_mixed 1 = .ok (.istore_n 1, 1) := dk_60 (dk_at dksX1_mixed_0 1 rfl rfl)
theorem dX1_mixed_2 : decode cX1_mixed 2 = .ok (.iconst 0, 1) := dk_3 (dk_at dksX1_mixed_0 2 rfl rfl)
theorem dX1_mixed_3 : decode cX1_mixed 3 = .ok (.istore_n 2, 1) := dk_61 (dk_at dksX1_mixed_0 3 rfl rfl)
theorem dX1_mixed_4 : decode cX1_mixed 4 = .ok (.iload_n 2, 1) := dk_28 (dk_at dksX1_mixed_0 4 rfl rfl)
theorem dX1_mixed_5 : decode cX1_mixed 5 = .ok (.bipush 8, 2) := dk_16 8 (dk_at dksX1_mixed_0 5 rfl rfl)
theorem dX1_mixed_7 : decode cX1_mixed 7 = .ok (.if_icmp .ge 67, 3) := dk_162 0 67 (dk_at dksX1_mixed_0 7 rfl rfl)
theorem dX1_mixed_10 : decode cX1_mixed 10 = .ok (.sipush 167, 3) := dk_17 0 167 (dk_at dksX1_mixed_0 10 rfl rfl)
theorem dX1_mixed_13 : decode cX1_mixed 13 = .ok (.iload_n 2, 1) := dk_28 (dk_at dksX1_mixed_0 13 rfl rfl)
theorem dX1_mixed_14 : decode cX1_mixed 14 = .ok (.ishl, 1) := dk_120 (dk_at dksX1_mixed_0 14 rfl rfl)
theorem dX1_mixed_15 : decode cX1_mixed 15 = .ok (.sipush 167, 3) := dk_17 0 167 (dk_at dksX1_mixed_0 15 rfl rfl)
theorem dX1_mixed_18 : decode cX1_mixed 18 = .ok (.bipush 8, 2) := dk_16 8 (dk_at dksX1_mixed_0 18 rfl rfl)
theorem dX1_mixed_20 : decode cX1_mixed 20 = .ok (.iload_n 2, 1) := dk_28 (dk_at dksX1_mixed_0 20 rfl rfl)
theorem dX1_mixed_21 : decode cX1_mixed 21 = .ok (.isub, 1) := dk_100 (dk_at dksX1_mixed_0 21 rfl rfl)
theorem dX1_mixed_22 : decode cX1_mixed 22 = .ok (.ishr, 1) := dk_122 (dk_at dksX1_mixed_0 22 rfl rfl)
theorem dX1_mixed_23 : decode cX1_mixed 23 = .ok (.ior, 1) := dk_128 (dk_at dksX1_mixed_0 23 rfl rfl)
theorem dX1_mixed_24 : decode cX1_mixed 24 = .ok (.sipush 255, 3) := dk_17 0 255 (dk_at dksX1_mixed_1 0 rfl rfl)
theorem dX1_mixed_27 : decode cX1_mixed 27 = .ok (.iand, 1) := dk_126 (dk_at dksX1_mixed_1 3 rfl rfl)
theorem dX1_mixed_28 : decode cX1_mixed 28 = .ok (.istore_n 3, 1) := dk_62 (dk_at dksX1_mixed_1 4 rfl rfl)
theorem dX1_mixed_29 : decode cX1_mixed 29 = .ok (.iconst 0, 1) := dk_3 (dk_at dksX1_mixed_1 5 rfl rfl)
theorem dX1_mixed_30 : decode cX1_mixed 30 = .ok (.istore 4, 2) := dk_54 4 (dk_at dksX1_mixed_1 6 rfl rfl)
theorem dX1_mixed_32 : decode cX1_mixed 32 = .ok (.iconst 0, 1) := dk_3 (dk_at dksX1_mixed_1 8 rfl rfl)
theorem dX1_mixed_33 : decode cX1_mixed 33 = .ok (.istore 5, 2) := dk_54 5 (dk_at dksX1_mixed_1 9 rfl rfl)
theorem dX1_mixed_35 : decode cX1_mixed 35 = .ok (.iload 5, 2) := dk_21 5 (dk_at dksX1_mixed_1 11 rfl rfl)
theorem dX1_mixed_37 : decode cX1_mixed 37 = .ok (.bipush 8, 2) := dk_16 8 (dk_at dksX1_mixed_1 13 rfl rfl)
theorem dX1_mixed_39 : decode cX1_mixed 39 = .ok (.if_icmp .ge 22, 3) := dk_162 0 22 (dk_at dksX1_mixed_1 15 rfl rfl)
theorem dX1_mixed_42 : decode cX1_mixed 42 = .ok (.iload 4, 2) := dk_21 4 (dk_at dksX1_mixed_1 18 rfl rfl)
theorem dX1_mixed_44 : decode cX1_mixed 44 = .ok (.iload_n 0, 1) := dk_26 (dk_at dksX1_mixed_1 20 rfl rfl)
theorem dX1_mixed_45 : decode cX1_mixed 45 = .ok (.iload_n 3, 1) := dk_29 (dk_at dksX1_mixed_1 21 rfl rfl)
theorem dX1_mixed_46 : decode cX1_mixed 46 = .ok (.iand, 1) := dk_126 (dk_at dksX1_mixed_1 22 rfl rfl)
theorem dX1_mixed_47 : decode cX1_mixed 47 = .ok (.iload 5, 2) := dk_21 5 (dk_at dksX1_mixed_2 0 rfl rfl)
theorem dX1_mixed_49 : decode cX1_mixed 49 = .ok (.ishr, 1) := dk_122 (dk_at dksX1_mixed_2 2 rfl rfl)
theorem dX1_mixed_50 : decode cX1_mixed 50 = .ok (.iconst 1, 1) := dk_4 (dk_at dksX1_mixed_2 3 rfl rfl)
theorem dX1_mixed_51 : decode cX1_mixed 51 = .ok (.iand, 1) := dk_126 (dk_at dksX1_mixed_2 4 rfl rfl)
theorem dX1_mixed_52 : decode cX1_mixed 52 = .ok (.ixor, 1) := dk_130 (dk_at dksX1_mixed_2 5 rfl rfl)
theorem dX1_mixed_53 : decode cX1_mixed 53 = .ok (.istore 4, 2) := dk_54 4 (dk_at dksX1_mixed_2 6 rfl rfl)
theorem dX1_mixed_55 : decode cX1_mixed 55 = .ok (.iinc 5 1, 3) := dk_132 5 1 (dk_at dksX1_mixed_2 8 rfl rfl)
theorem dX1_mixed_58 : decode cX1_mixed 58 = .ok (.goto (-23), 3) := dk_167 255 233 (dk_at dksX1_mixed_2 11 rfl rfl)
theorem dX1_mixed_61 : decode cX1_mixed 61 = .ok (.iload_n 1, 1) := dk_27 (dk_at dksX1_mixed_2 14 rfl rfl)
theorem dX1_mixed_62 : decode cX1_mixed 62 = .ok (.iload 4, 2) := dk_21 4 (dk_at dksX1_mixed_2 15 rfl rfl)
theorem dX1_mixed_64 : decode cX1_mixed 64 = .ok (.iload_n 2, 1) := dk_28 (dk_at dksX1_mixed_2 17 rfl rfl)
theorem dX1_mixed_65 : decode cX1_mixed 65 = .ok (.ishl, 1) := dk_120 (dk_at dksX1_mixed_2 18 rfl rfl)
theorem dX1_mixed_66 : decode cX1_mixed 66 = .ok (.ior, 1) := dk_128 (dk_at dksX1_mixed_2 19 rfl rfl)
theorem dX1_mixed_67 : decode cX1_mixed 67 = .ok (.istore_n 1, 1) := dk_60 (dk_at dksX1_mixed_2 20 rfl rfl)
theorem dX1_mixed_68 : decode cX1_mixed 68 = .ok (.iinc 2 1, 3) := dk_132 2 1 (dk_at dksX1_mixed_2 21 rfl rfl)
theorem dX1_mixed_71 : decode cX1_mixed 71 = .ok (.goto (-67), 3) := dk_167 255 189 (dk_at dksX1_mixed_3 0 rfl rfl)
theorem dX1_mixed_74 : decode cX1_mixed 74 = .ok (.iload_n 1, 1) := dk_27 (dk_at dksX1_mixed_3 3 rfl rfl)
theorem dX1_mixed_75 : decode cX1_mixed 75 = .ok (.ireturn, 1) := dk_172 (dk_at dksX1_mixed_3 4 rfl rfl)
abbrev cX1_inverse : ByteArray := prog_11_method_4_code
def yX1_inverse : MethodName := ⟨RX1, "inverse", "(I)I"⟩
def dkwX1_inverse_1 : List UInt8 := [167, 255, 235, 3, 172]
abbrev dktX1_inverse_1 : List UInt8 := dkwX1_inverse_1 ++ []
def dkwX1_inverse_0 : List UInt8 := [4, 60, 27, 17, 1, 0, 162, 0, 20, 26, 27, 184, 0, 36, 4, 160, 0, 5, 27, 172, 132, 1, 1]
abbrev dktX1_inverse_0 : List UInt8 := dkwX1_inverse_0 ++ dktX1_inverse_1
theorem dksX1_inverse_0 : cX1_inverse.data.toList.drop 0 = dktX1_inverse_0 := by decide +kernel
theorem dksX1_inverse_1 : cX1_inverse.data.toList.drop 23 = dktX1_inverse_1 := dk_seg dksX1_inverse_0 23 rfl rfl
theorem dX1_inverse_0 : decode cX1_inverse 0 = .ok (.iconst 1, 1) := dk_4 (dk_at dksX1_inverse_0 0 rfl rfl)
theorem dX1_inverse_1 : decode cX1_inverse 1 = .ok (.istore_n 1, 1) := dk_60 (dk_at dksX1_inverse_0 1 rfl rfl)
theorem dX1_inverse_2 : decode cX1_inverse 2 = .ok (.iload_n 1, 1) := dk_27 (dk_at dksX1_inverse_0 2 rfl rfl)
theorem dX1_inverse_3 : decode cX1_inverse 3 = .ok (.sipush 256, 3) := dk_17 1 0 (dk_at dksX1_inverse_0 3 rfl rfl)
theorem dX1_inverse_6 : decode cX1_inverse 6 = .ok (.if_icmp .ge 20, 3) := dk_162 0 20 (dk_at dksX1_inverse_0 6 rfl rfl)
theorem dX1_inverse_9 : decode cX1_inverse 9 = .ok (.iload_n 0, 1) := dk_26 (dk_at dksX1_inverse_0 9 rfl rfl)
theorem dX1_inverse_10 : decode cX1_inverse 10 = .ok (.iload_n 1, 1) := dk_27 (dk_at dksX1_inverse_0 10 rfl rfl)
theorem dX1_inverse_11 : decode cX1_inverse 11 = .ok (.invokestatic 36, 3) := dk_184 0 36 (dk_at dksX1_inverse_0 11 rfl rfl)
theorem dX1_inverse_14 : decode cX1_inverse 14 = .ok (.iconst 1, 1) := dk_4 (dk_at dksX1_inverse_0 14 rfl rfl)
theorem dX1_inverse_15 : decode cX1_inverse 15 = .ok (.if_icmp .ne 5, 3) := dk_160 0 5 (dk_at dksX1_inverse_0 15 rfl rfl)
theorem dX1_inverse_18 : decode cX1_inverse 18 = .ok (.iload_n 1, 1) := dk_27 (dk_at dksX1_inverse_0 18 rfl rfl)
theorem dX1_inverse_19 : decode cX1_inverse 19 = .ok (.ireturn, 1) := dk_172 (dk_at dksX1_inverse_0 19 rfl rfl)
theorem dX1_inverse_20 : decode cX1_inverse 20 = .ok (.iinc 1 1, 3) := dk_132 1 1 (dk_at dksX1_inverse_0 20 rfl rfl)
theorem dX1_inverse_23 : decode cX1_inverse 23 = .ok (.goto (-21), 3) := dk_167 255 235 (dk_at dksX1_inverse_1 0 rfl rfl)
theorem dX1_inverse_26 : decode cX1_inverse 26 = .ok (.iconst 0, 1) := dk_3 (dk_at dksX1_inverse_1 3 rfl rfl)
theorem dX1_inverse_27 : decode cX1_inverse 27 = .ok (.ireturn, 1) := dk_172 (dk_at dksX1_inverse_1 4 rfl rfl)
abbrev cX1_times : ByteArray := prog_11_method_3_code
def yX1_times : MethodName := ⟨RX1, "times", "(II)I"⟩
def dkwX1_times_2 : List UInt8 := [17, 1, 245, 167, 0, 4, 3, 130, 62, 132, 4, 1, 167, 255, 206, 28, 172]
abbrev dktX1_times_2 : List UInt8 := dkwX1_times_2 ++ []
def dkwX1_times_1 : List UInt8 := [160, 0, 7, 29, 167, 0, 4, 3, 130, 61, 29, 4, 120, 62, 29, 29, 17, 1, 0, 126, 153, 0, 9]
abbrev dktX1_times_1 : List UInt8 := dkwX1_times_1 ++ dktX1_times_2
def dkwX1_times_0 : List UInt8 := [3, 61, 26, 62, 3, 54, 4, 21, 4, 16, 8, 162, 0, 49, 28, 27, 21, 4, 122, 4, 126, 4]
abbrev dktX1_times_0 : List UInt8 := dkwX1_times_0 ++ dktX1_times_1
theorem dksX1_times_0 : cX1_times.data.toList.drop 0 = dktX1_times_0 := by decide +kernel
theorem dksX1_times_1 : cX1_times.data.toList.drop 22 = dktX1_times_1 := dk_seg dksX1_times_0 22 rfl rfl
theorem dksX1_times_2 : cX1_times.data.toList.drop 45 = dktX1_times_2 := dk_seg dksX1_times_1 23 rfl rfl
theorem dX1_times_0 : decode cX1_times 0 = .ok (.iconst 0, 1) := dk_3 (dk_at dksX1_times_0 0 rfl rfl)
theorem dX1_times_1 : decode cX1_times 1 = .ok (.istore_n 2, 1) := dk_61 (dk_at dksX1_times_0 1 rfl rfl)
theorem dX1_times_2 : decode cX1_times 2 = .ok (.iload_n 0, 1) := dk_26 (dk_at dksX1_times_0 2 rfl rfl)
theorem dX1_times_3 : decode cX1_times 3 = .ok (.istore_n 3, 1) := dk_62 (dk_at dksX1_times_0 3 rfl rfl)
theorem dX1_times_4 : decode cX1_times 4 = .ok (.iconst 0, 1) := dk_3 (dk_at dksX1_times_0 4 rfl rfl)
theorem dX1_times_5 : decode cX1_times 5 = .ok (.istore 4, 2) := dk_54 4 (dk_at dksX1_times_0 5 rfl rfl)
theorem dX1_times_7 : decode cX1_times 7 = .ok (.iload 4, 2) := dk_21 4 (dk_at dksX1_times_0 7 rfl rfl)
theorem dX1_times_9 : decode cX1_times 9 = .ok (.bipush 8, 2) := dk_16 8 (dk_at dksX1_times_0 9 rfl rfl)
theorem dX1_times_11 : decode cX1_times 11 = .ok (.if_icmp .ge 49, 3) := dk_162 0 49 (dk_at dksX1_times_0 11 rfl rfl)
theorem dX1_times_14 : decode cX1_times 14 = .ok (.iload_n 2, 1) := dk_28 (dk_at dksX1_times_0 14 rfl rfl)
theorem dX1_times_15 : decode cX1_times 15 = .ok (.iload_n 1, 1) := dk_27 (dk_at dksX1_times_0 15 rfl rfl)
theorem dX1_times_16 : decode cX1_times 16 = .ok (.iload 4, 2) := dk_21 4 (dk_at dksX1_times_0 16 rfl rfl)
theorem dX1_times_18 : decode cX1_times 18 = .ok (.ishr, 1) := dk_122 (dk_at dksX1_times_0 18 rfl rfl)
theorem dX1_times_19 : decode cX1_times 19 = .ok (.iconst 1, 1) := dk_4 (dk_at dksX1_times_0 19 rfl rfl)
theorem dX1_times_20 : decode cX1_times 20 = .ok (.iand, 1) := dk_126 (dk_at dksX1_times_0 20 rfl rfl)
theorem dX1_times_21 : decode cX1_times 21 = .ok (.iconst 1, 1) := dk_4 (dk_at dksX1_times_0 21 rfl rfl)
theorem dX1_times_22 : decode cX1_times 22 = .ok (.if_icmp .ne 7, 3) := dk_160 0 7 (dk_at dksX1_times_1 0 rfl rfl)
theorem dX1_times_25 : decode cX1_times 25 = .ok (.iload_n 3, 1) := dk_29 (dk_at dksX1_times_1 3 rfl rfl)
theorem dX1_times_26 : decode cX1_times 26 = .ok (.goto 4, 3) := dk_167 0 4 (dk_at dksX1_times_1 4 rfl rfl)
theorem dX1_times_29 : decode cX1_times 29 = .ok (.iconst 0, 1) := dk_3 (dk_at dksX1_times_1 7 rfl rfl)
theorem dX1_times_30 : decode cX1_times 30 = .ok (.ixor, 1) := dk_130 (dk_at dksX1_times_1 8 rfl rfl)
theorem dX1_times_31 : decode cX1_times 31 = .ok (.istore_n 2, 1) := dk_61 (dk_at dksX1_times_1 9 rfl rfl)
theorem dX1_times_32 : decode cX1_times 32 = .ok (.iload_n 3, 1) := dk_29 (dk_at dksX1_times_1 10 rfl rfl)
theorem dX1_times_33 : decode cX1_times 33 = .ok (.iconst 1, 1) := dk_4 (dk_at dksX1_times_1 11 rfl rfl)
theorem dX1_times_34 : decode cX1_times 34 = .ok (.ishl, 1) := dk_120 (dk_at dksX1_times_1 12 rfl rfl)
theorem dX1_times_35 : decode cX1_times 35 = .ok (.istore_n 3, 1) := dk_62 (dk_at dksX1_times_1 13 rfl rfl)
theorem dX1_times_36 : decode cX1_times 36 = .ok (.iload_n 3, 1) := dk_29 (dk_at dksX1_times_1 14 rfl rfl)
theorem dX1_times_37 : decode cX1_times 37 = .ok (.iload_n 3, 1) := dk_29 (dk_at dksX1_times_1 15 rfl rfl)
theorem dX1_times_38 : decode cX1_times 38 = .ok (.sipush 256, 3) := dk_17 1 0 (dk_at dksX1_times_1 16 rfl rfl)
theorem dX1_times_41 : decode cX1_times 41 = .ok (.iand, 1) := dk_126 (dk_at dksX1_times_1 19 rfl rfl)
theorem dX1_times_42 : decode cX1_times 42 = .ok (.ifCond .eq 9, 3) := dk_153 0 9 (dk_at dksX1_times_1 20 rfl rfl)
theorem dX1_times_45 : decode cX1_times 45 = .ok (.sipush 501, 3) := dk_17 1 245 (dk_at dksX1_times_2 0 rfl rfl)
theorem dX1_times_48 : decode cX1_times 48 = .ok (.goto 4, 3) := dk_167 0 4 (dk_at dksX1_times_2 3 rfl rfl)
theorem dX1_times_51 : decode cX1_times 51 = .ok (.iconst 0, 1) := dk_3 (dk_at dksX1_times_2 6 rfl rfl)
theorem dX1_times_52 : decode cX1_times 52 = .ok (.ixor, 1) := dk_130 (dk_at dksX1_times_2 7 rfl rfl)
theorem dX1_times_53 : decode cX1_times 53 = .ok (.istore_n 3, 1) := dk_62 (dk_at dksX1_times_2 8 rfl rfl)
theorem dX1_times_54 : decode cX1_times 54 = .ok (.iinc 4 1, 3) := dk_132 4 1 (dk_at dksX1_times_2 9 rfl rfl)
theorem dX1_times_57 : decode cX1_times 57 = .ok (.goto (-50), 3) := dk_167 255 206 (dk_at dksX1_times_2 12 rfl rfl)
theorem dX1_times_60 : decode cX1_times 60 = .ok (.iload_n 2, 1) := dk_28 (dk_at dksX1_times_2 15 rfl rfl)
theorem dX1_times_61 : decode cX1_times 61 = .ok (.ireturn, 1) := dk_172 (dk_at dksX1_times_2 16 rfl rfl)
abbrev cX1_lock : ByteArray := prog_11_method_12_code
def yX1_lock : MethodName := ⟨RX1, "lock", "(I)V"⟩
def dkwX1_lock_0 : List UInt8 := [42, 4, 182, 0, 63, 177]
abbrev dktX1_lock_0 : List UInt8 := dkwX1_lock_0 ++ []
theorem dksX1_lock_0 : cX1_lock.data.toList.drop 0 = dktX1_lock_0 := by decide +kernel
theorem dX1_lock_0 : decode cX1_lock 0 = .ok (.aload_n 0, 1) := dk_42 (dk_at dksX1_lock_0 0 rfl rfl)
theorem dX1_lock_1 : decode cX1_lock 1 = .ok (.iconst 1, 1) := dk_4 (dk_at dksX1_lock_0 1 rfl rfl)
theorem dX1_lock_2 : decode cX1_lock 2 = .ok (.invokevirtual 63, 3) := dk_182 0 63 (dk_at dksX1_lock_0 2 rfl rfl)
theorem dX1_lock_5 : decode cX1_lock 5 = .ok (.return_, 1) := dk_177 (dk_at dksX1_lock_0 5 rfl rfl)
abbrev cX1_runs : ByteArray := prog_11_method_11_code
def yX1_runs : MethodName := ⟨RX1, "runs", "(Z)V"⟩
def dkwX1_runs_7 : List UInt8 := [7, 112, 104, 100, 124, 145, 84, 132, 2, 1, 167, 255, 219, 177]
abbrev dktX1_runs_7 : List UInt8 := dkwX1_runs_7 ++ []
def dkwX1_runs_6 : List UInt8 := [162, 0, 37, 42, 180, 0, 16, 28, 42, 180, 0, 26, 16, 35, 28, 7, 108, 100, 46, 16, 24, 16, 8, 28]
abbrev dktX1_runs_6 : List UInt8 := dkwX1_runs_6 ++ dktX1_runs_7
def dkwX1_runs_5 : List UInt8 := [184, 0, 57, 130, 29, 16, 24, 184, 0, 57, 130, 79, 132, 2, 1, 167, 255, 155, 3, 61, 28, 16, 16]
abbrev dktX1_runs_5 : List UInt8 := dkwX1_runs_5 ++ dktX1_runs_6
def dkwX1_runs_4 : List UInt8 := [42, 180, 0, 26, 28, 46, 29, 130, 29, 5, 184, 0, 57, 130, 29, 16, 10, 184, 0, 57, 130, 29, 16, 18]
abbrev dktX1_runs_4 : List UInt8 := dkwX1_runs_4 ++ dktX1_runs_5
def dkwX1_runs_3 : List UInt8 := [153, 0, 7, 28, 167, 0, 7, 16, 31, 28, 100, 46, 130, 182, 0, 54, 62, 42, 180, 0, 26, 28, 7, 96]
abbrev dktX1_runs_3 : List UInt8 := dkwX1_runs_3 ++ dktX1_runs_4
def dkwX1_runs_2 : List UInt8 := [42, 180, 0, 26, 28, 5, 96, 46, 130, 42, 180, 0, 26, 28, 6, 96, 46, 130, 42, 180, 0, 23, 27]
abbrev dktX1_runs_2 : List UInt8 := dkwX1_runs_2 ++ dktX1_runs_3
def dkwX1_runs_1 : List UInt8 := [79, 132, 2, 1, 167, 255, 234, 3, 61, 28, 16, 32, 162, 0, 101, 42, 42, 180, 0, 26, 28, 4, 96, 46]
abbrev dktX1_runs_1 : List UInt8 := dkwX1_runs_1 ++ dktX1_runs_2
def dkwX1_runs_0 : List UInt8 := [42, 182, 0, 60, 3, 61, 28, 7, 162, 0, 23, 42, 180, 0, 26, 28, 42, 180, 0, 13, 28, 184, 0, 44]
abbrev dktX1_runs_0 : List UInt8 := dkwX1_runs_0 ++ dktX1_runs_1
theorem dksX1_runs_0 : cX1_runs.data.toList.drop 0 = dktX1_runs_0 := by decide +kernel
theorem dksX1_runs_1 : cX1_runs.data.toList.drop 24 = dktX1_runs_1 := dk_seg dksX1_runs_0 24 rfl rfl
theorem dksX1_runs_2 : cX1_runs.data.toList.drop 48 = dktX1_runs_2 := dk_seg dksX1_runs_1 24 rfl rfl
theorem dksX1_runs_3 : cX1_runs.data.toList.drop 71 = dktX1_runs_3 := dk_seg dksX1_runs_2 23 rfl rfl
theorem dksX1_runs_4 : cX1_runs.data.toList.drop 95 = dktX1_runs_4 := dk_seg dksX1_runs_3 24 rfl rfl
theorem dksX1_runs_5 : cX1_runs.data.toList.drop 119 = dktX1_runs_5 := dk_seg dksX1_runs_4 24 rfl rfl
theorem dksX1_runs_6 : cX1_runs.data.toList.drop 142 = dktX1_runs_6 := dk_seg dksX1_runs_5 23 rfl rfl
theorem dksX1_runs_7 : cX1_runs.data.toList.drop 166 = dktX1_runs_7 := dk_seg dksX1_runs_6 24 rfl rfl
theorem dX1_runs_0 : decode cX1_runs 0 = .ok (.aload_n 0, 1) := dk_42 (dk_at dksX1_runs_0 0 rfl rfl)
theorem dX1_runs_1 : decode cX1_runs 1 = .ok (.invokevirtual 60, 3) := dk_182 0 60 (dk_at dksX1_runs_0 1 rfl rfl)
theorem dX1_runs_4 : decode cX1_runs 4 = .ok (.iconst 0, 1) := dk_3 (dk_at dksX1_runs_0 4 rfl rfl)
theorem dX1_runs_5 : decode cX1_runs 5 = .ok (.istore_n 2, 1) := dk_61 (dk_at dksX1_runs_0 5 rfl rfl)
theorem dX1_runs_6 : decode cX1_runs 6 = .ok (.iload_n 2, 1) := dk_28 (dk_at dksX1_runs_0 6 rfl rfl)
theorem dX1_runs_7 : decode cX1_runs 7 = .ok (.iconst 4, 1) := dk_7 (dk_at dksX1_runs_0 7 rfl rfl)
theorem dX1_runs_8 : decode cX1_runs 8 = .ok (.if_icmp .ge 23, 3) := dk_162 0 23 (dk_at dksX1_runs_0 8 rfl rfl)
theorem dX1_runs_11 : decode cX1_runs 11 = .ok (.aload_n 0, 1) := dk_42 (dk_at dksX1_runs_0 11 rfl rfl)
theorem dX1_runs_12 : decode cX1_runs 12 = .ok (.getfield 26, 3) := dk_180 0 26 (dk_at dksX1_runs_0 12 rfl rfl)
theorem dX1_runs_15 : decode cX1_runs 15 = .ok (.iload_n 2, 1) := dk_28 (dk_at dksX1_runs_0 15 rfl rfl)
theorem dX1_runs_16 : decode cX1_runs 16 = .ok (.aload_n 0, 1) := dk_42 (dk_at dksX1_runs_0 16 rfl rfl)
theorem dX1_runs_17 : decode cX1_runs 17 = .ok (.getfield 13, 3) := dk_180 0 13 (dk_at dksX1_runs_0 17 rfl rfl)
theorem dX1_runs_20 : decode cX1_runs 20 = .ok (.iload_n 2, 1) := dk_28 (dk_at dksX1_runs_0 20 rfl rfl)
theorem dX1_runs_21 : decode cX1_runs 21 = .ok (.invokestatic 44, 3) := dk_184 0 44 (dk_at dksX1_runs_0 21 rfl rfl)
theorem dX1_runs_24 : decode cX1_runs 24 = .ok (.iastore, 1) := dk_79 (dk_at dksX1_runs_1 0 rfl rfl)
theorem dX1_runs_25 : decode cX1_runs 25 = .ok (.iinc 2 1, 3) := dk_132 2 1 (dk_at dksX1_runs_1 1 rfl rfl)
theorem dX1_runs_28 : decode cX1_runs 28 = .ok (.goto (-22), 3) := dk_167 255 234 (dk_at dksX1_runs_1 4 rfl rfl)
theorem dX1_runs_31 : decode cX1_runs 31 = .ok (.iconst 0, 1) := dk_3 (dk_at dksX1_runs_1 7 rfl rfl)
theorem dX1_runs_32 : decode cX1_runs 32 = .ok (.istore_n 2, 1) := dk_61 (dk_at dksX1_runs_1 8 rfl rfl)
theorem dX1_runs_33 : decode cX1_runs 33 = .ok (.iload_n 2, 1) := dk_28 (dk_at dksX1_runs_1 9 rfl rfl)
theorem dX1_runs_34 : decode cX1_runs 34 = .ok (.bipush 32, 2) := dk_16 32 (dk_at dksX1_runs_1 10 rfl rfl)
theorem dX1_runs_36 : decode cX1_runs 36 = .ok (.if_icmp .ge 101, 3) := dk_162 0 101 (dk_at dksX1_runs_1 12 rfl rfl)
theorem dX1_runs_39 : decode cX1_runs 39 = .ok (.aload_n 0, 1) := dk_42 (dk_at dksX1_runs_1 15 rfl rfl)
theorem dX1_runs_40 : decode cX1_runs 40 = .ok (.aload_n 0, 1) := dk_42 (dk_at dksX1_runs_1 16 rfl rfl)
theorem dX1_runs_41 : decode cX1_runs 41 = .ok (.getfield 26, 3) := dk_180 0 26 (dk_at dksX1_runs_1 17 rfl rfl)
theorem dX1_runs_44 : decode cX1_runs 44 = .ok (.iload_n 2, 1) := dk_28 (dk_at dksX1_runs_1 20 rfl rfl)
theorem dX1_runs_45 : decode cX1_runs 45 = .ok (.iconst 1, 1) := dk_4 (dk_at dksX1_runs_1 21 rfl rfl)
theorem dX1_runs_46 : decode cX1_runs 46 = .ok (.iadd, 1) := dk_96 (dk_at dksX1_runs_1 22 rfl rfl)
theorem dX1_runs_47 : decode cX1_runs 47 = .ok (.iaload, 1) := dk_46 (dk_at dksX1_runs_1 23 rfl rfl)
theorem dX1_runs_48 : decode cX1_runs 48 = .ok (.aload_n 0, 1) := dk_42 (dk_at dksX1_runs_2 0 rfl rfl)
theorem dX1_runs_49 : decode cX1_runs 49 = .ok (.getfield 26, 3) := dk_180 0 26 (dk_at dksX1_runs_2 1 rfl rfl)
theorem dX1_runs_52 : decode cX1_runs 52 = .ok (.iload_n 2, 1) := dk_28 (dk_at dksX1_runs_2 4 rfl rfl)
theorem dX1_runs_53 : decode cX1_runs 53 = .ok (.iconst 2, 1) := dk_5 (dk_at dksX1_runs_2 5 rfl rfl)
theorem dX1_runs_54 : decode cX1_runs 54 = .ok (.iadd, 1) := dk_96 (dk_at dksX1_runs_2 6 rfl rfl)
theorem dX1_runs_55 : decode cX1_runs 55 = .ok (.iaload, 1) := dk_46 (dk_at dksX1_runs_2 7 rfl rfl)
theorem dX1_runs_56 : decode cX1_runs 56 = .ok (.ixor, 1) := dk_130 (dk_at dksX1_runs_2 8 rfl rfl)
theorem dX1_runs_57 : decode cX1_runs 57 = .ok (.aload_n 0, 1) := dk_42 (dk_at dksX1_runs_2 9 rfl rfl)
theorem dX1_runs_58 : decode cX1_runs 58 = .ok (.getfield 26, 3) := dk_180 0 26 (dk_at dksX1_runs_2 10 rfl rfl)
theorem dX1_runs_61 : decode cX1_runs 61 = .ok (.iload_n 2, 1) := dk_28 (dk_at dksX1_runs_2 13 rfl rfl)
theorem dX1_runs_62 : decode cX1_runs 62 = .ok (.iconst 3, 1) := dk_6 (dk_at dksX1_runs_2 14 rfl rfl)
theorem dX1_runs_63 : decode cX1_runs 63 = .ok (.iadd, 1) := dk_96 (dk_at dksX1_runs_2 15 rfl rfl)
theorem dX1_runs_64 : decode cX1_runs 64 = .ok (.iaload, 1) := dk_46 (dk_at dksX1_runs_2 16 rfl rfl)
theorem dX1_runs_65 : decode cX1_runs 65 = .ok (.ixor, 1) := dk_130 (dk_at dksX1_runs_2 17 rfl rfl)
theorem dX1_runs_66 : decode cX1_runs 66 = .ok (.aload_n 0, 1) := dk_42 (dk_at dksX1_runs_2 18 rfl rfl)
theorem dX1_runs_67 : decode cX1_runs 67 = .ok (.getfield 23, 3) := dk_180 0 23 (dk_at dksX1_runs_2 19 rfl rfl)
theorem dX1_runs_70 : decode cX1_runs 70 = .ok (.iload_n 1, 1) := dk_27 (dk_at dksX1_runs_2 22 rfl rfl)
theorem dX1_runs_71 : decode cX1_runs 71 = .ok (.ifCond .eq 7, 3) := dk_153 0 7 (dk_at dksX1_runs_3 0 rfl rfl)
theorem dX1_runs_74 : decode cX1_runs 74 = .ok (.iload_n 2, 1) := dk_28 (dk_at dksX1_runs_3 3 rfl rfl)
theorem dX1_runs_75 : decode cX1_runs 75 = .ok (.goto 7, 3) := dk_167 0 7 (dk_at dksX1_runs_3 4 rfl rfl)
theorem dX1_runs_78 : decode cX1_runs 78 = .ok (.bipush 31, 2) := dk_16 31 (dk_at dksX1_runs_3 7 rfl rfl)
theorem dX1_runs_80 : decode cX1_runs 80 = .ok (.iload_n 2, 1) := dk_28 (dk_at dksX1_runs_3 9 rfl rfl)
theorem dX1_runs_81 : decode cX1_runs 81 = .ok (.isub, 1) := dk_100 (dk_at dksX1_runs_3 10 rfl rfl)
theorem dX1_runs_82 : decode cX1_runs 82 = .ok (.iaload, 1) := dk_46 (dk_at dksX1_runs_3 11 rfl rfl)
theorem dX1_runs_83 : decode cX1_runs 83 = .ok (.ixor, 1) := dk_130 (dk_at dksX1_runs_3 12 rfl rfl)
theorem dX1_runs_84 : decode cX1_runs 84 = .ok (.invokevirtual 54, 3) := dk_182 0 54 (dk_at dksX1_runs_3 13 rfl rfl)
theorem dX1_runs_87 : decode cX1_runs 87 = .ok (.istore_n 3, 1) := dk_62 (dk_at dksX1_runs_3 16 rfl rfl)
theorem dX1_runs_88 : decode cX1_runs 88 = .ok (.aload_n 0, 1) := dk_42 (dk_at dksX1_runs_3 17 rfl rfl)
theorem dX1_runs_89 : decode cX1_runs 89 = .ok (.getfield 26, 3) := dk_180 0 26 (dk_at dksX1_runs_3 18 rfl rfl)
theorem dX1_runs_92 : decode cX1_runs 92 = .ok (.iload_n 2, 1) := dk_28 (dk_at dksX1_runs_3 21 rfl rfl)
theorem dX1_runs_93 : decode cX1_runs 93 = .ok (.iconst 4, 1) := dk_7 (dk_at dksX1_runs_3 22 rfl rfl)
theorem dX1_runs_94 : decode cX1_runs 94 = .ok (.iadd, 1) := dk_96 (dk_at dksX1_runs_3 23 rfl rfl)
theorem dX1_runs_95 : decode cX1_runs 95 = .ok (.aload_n 0, 1) := dk_42 (dk_at dksX1_runs_4 0 rfl rfl)
theorem dX1_runs_96 : decode cX1_runs 96 = .ok (.getfield 26, 3) := dk_180 0 26 (dk_at dksX1_runs_4 1 rfl rfl)
theorem dX1_runs_99 : decode cX1_runs 99 = .ok (.iload_n 2, 1) := dk_28 (dk_at dksX1_runs_4 4 rfl rfl)
theorem dX1_runs_100 : decode cX1_runs 100 = .ok (.iaload, 1) := dk_46 (dk_at dksX1_runs_4 5 rfl rfl)
theorem dX1_runs_101 : decode cX1_runs 101 = .ok (.iload_n 3, 1) := dk_29 (dk_at dksX1_runs_4 6 rfl rfl)
theorem dX1_runs_102 : decode cX1_runs 102 = .ok (.ixor, 1) := dk_130 (dk_at dksX1_runs_4 7 rfl rfl)
theorem dX1_runs_103 : decode cX1_runs 103 = .ok (.iload_n 3, 1) := dk_29 (dk_at dksX1_runs_4 8 rfl rfl)
theorem dX1_runs_104 : decode cX1_runs 104 = .ok (.iconst 2, 1) := dk_5 (dk_at dksX1_runs_4 9 rfl rfl)
theorem dX1_runs_105 : decode cX1_runs 105 = .ok (.invokestatic 57, 3) := dk_184 0 57 (dk_at dksX1_runs_4 10 rfl rfl)
theorem dX1_runs_108 : decode cX1_runs 108 = .ok (.ixor, 1) := dk_130 (dk_at dksX1_runs_4 13 rfl rfl)
theorem dX1_runs_109 : decode cX1_runs 109 = .ok (.iload_n 3, 1) := dk_29 (dk_at dksX1_runs_4 14 rfl rfl)
theorem dX1_runs_110 : decode cX1_runs 110 = .ok (.bipush 10, 2) := dk_16 10 (dk_at dksX1_runs_4 15 rfl rfl)
theorem dX1_runs_112 : decode cX1_runs 112 = .ok (.invokestatic 57, 3) := dk_184 0 57 (dk_at dksX1_runs_4 17 rfl rfl)
theorem dX1_runs_115 : decode cX1_runs 115 = .ok (.ixor, 1) := dk_130 (dk_at dksX1_runs_4 20 rfl rfl)
theorem dX1_runs_116 : decode cX1_runs 116 = .ok (.iload_n 3, 1) := dk_29 (dk_at dksX1_runs_4 21 rfl rfl)
theorem dX1_runs_117 : decode cX1_runs 117 = .ok (.bipush 18, 2) := dk_16 18 (dk_at dksX1_runs_4 22 rfl rfl)
theorem dX1_runs_119 : decode cX1_runs 119 = .ok (.invokestatic 57, 3) := dk_184 0 57 (dk_at dksX1_runs_5 0 rfl rfl)
theorem dX1_runs_122 : decode cX1_runs 122 = .ok (.ixor, 1) := dk_130 (dk_at dksX1_runs_5 3 rfl rfl)
theorem dX1_runs_123 : decode cX1_runs 123 = .ok (.iload_n 3, 1) := dk_29 (dk_at dksX1_runs_5 4 rfl rfl)
theorem dX1_runs_124 : decode cX1_runs 124 = .ok (.bipush 24, 2) := dk_16 24 (dk_at dksX1_runs_5 5 rfl rfl)
theorem dX1_runs_126 : decode cX1_runs 126 = .ok (.invokestatic 57, 3) := dk_184 0 57 (dk_at dksX1_runs_5 7 rfl rfl)
theorem dX1_runs_129 : decode cX1_runs 129 = .ok (.ixor, 1) := dk_130 (dk_at dksX1_runs_5 10 rfl rfl)
theorem dX1_runs_130 : decode cX1_runs 130 = .ok (.iastore, 1) := dk_79 (dk_at dksX1_runs_5 11 rfl rfl)
theorem dX1_runs_131 : decode cX1_runs 131 = .ok (.iinc 2 1, 3) := dk_132 2 1 (dk_at dksX1_runs_5 12 rfl rfl)
theorem dX1_runs_134 : decode cX1_runs 134 = .ok (.goto (-101), 3) := dk_167 255 155 (dk_at dksX1_runs_5 15 rfl rfl)
theorem dX1_runs_137 : decode cX1_runs 137 = .ok (.iconst 0, 1) := dk_3 (dk_at dksX1_runs_5 18 rfl rfl)
theorem dX1_runs_138 : decode cX1_runs 138 = .ok (.istore_n 2, 1) := dk_61 (dk_at dksX1_runs_5 19 rfl rfl)
theorem dX1_runs_139 : decode cX1_runs 139 = .ok (.iload_n 2, 1) := dk_28 (dk_at dksX1_runs_5 20 rfl rfl)
theorem dX1_runs_140 : decode cX1_runs 140 = .ok (.bipush 16, 2) := dk_16 16 (dk_at dksX1_runs_5 21 rfl rfl)
theorem dX1_runs_142 : decode cX1_runs 142 = .ok (.if_icmp .ge 37, 3) := dk_162 0 37 (dk_at dksX1_runs_6 0 rfl rfl)
theorem dX1_runs_145 : decode cX1_runs 145 = .ok (.aload_n 0, 1) := dk_42 (dk_at dksX1_runs_6 3 rfl rfl)
theorem dX1_runs_146 : decode cX1_runs 146 = .ok (.getfield 16, 3) := dk_180 0 16 (dk_at dksX1_runs_6 4 rfl rfl)
theorem dX1_runs_149 : decode cX1_runs 149 = .ok (.iload_n 2, 1) := dk_28 (dk_at dksX1_runs_6 7 rfl rfl)
theorem dX1_runs_150 : decode cX1_runs 150 = .ok (.aload_n 0, 1) := dk_42 (dk_at dksX1_runs_6 8 rfl rfl)
theorem dX1_runs_151 : decode cX1_runs 151 = .ok (.getfield 26, 3) := dk_180 0 26 (dk_at dksX1_runs_6 9 rfl rfl)
theorem dX1_runs_154 : decode cX1_runs 154 = .ok (.bipush 35, 2) := dk_16 35 (dk_at dksX1_runs_6 12 rfl rfl)
theorem dX1_runs_156 : decode cX1_runs 156 = .ok (.iload_n 2, 1) := dk_28 (dk_at dksX1_runs_6 14 rfl rfl)
theorem dX1_runs_157 : decode cX1_runs 157 = .ok (.iconst 4, 1) := dk_7 (dk_at dksX1_runs_6 15 rfl rfl)
theorem dX1_runs_158 : decode cX1_runs 158 = .ok (.idiv, 1) := dk_108 (dk_at dksX1_runs_6 16 rfl rfl)
theorem dX1_runs_159 : decode cX1_runs 159 = .ok (.isub, 1) := dk_100 (dk_at dksX1_runs_6 17 rfl rfl)
theorem dX1_runs_160 : decode cX1_runs 160 = .ok (.iaload, 1) := dk_46 (dk_at dksX1_runs_6 18 rfl rfl)
theorem dX1_runs_161 : decode cX1_runs 161 = .ok (.bipush 24, 2) := dk_16 24 (dk_at dksX1_runs_6 19 rfl rfl)
theorem dX1_runs_163 : decode cX1_runs 163 = .ok (.bipush 8, 2) := dk_16 8 (dk_at dksX1_runs_6 21 rfl rfl)
theorem dX1_runs_165 : decode cX1_runs 165 = .ok (.iload_n 2, 1) := dk_28 (dk_at dksX1_runs_6 23 rfl rfl)
theorem dX1_runs_166 : decode cX1_runs 166 = .ok (.iconst 4, 1) := dk_7 (dk_at dksX1_runs_7 0 rfl rfl)
theorem dX1_runs_167 : decode cX1_runs 167 = .ok (.irem, 1) := dk_112 (dk_at dksX1_runs_7 1 rfl rfl)
theorem dX1_runs_168 : decode cX1_runs 168 = .ok (.imul, 1) := dk_104 (dk_at dksX1_runs_7 2 rfl rfl)
theorem dX1_runs_169 : decode cX1_runs 169 = .ok (.isub, 1) := dk_100 (dk_at dksX1_runs_7 3 rfl rfl)
theorem dX1_runs_170 : decode cX1_runs 170 = .ok (.iushr, 1) := dk_124 (dk_at dksX1_runs_7 4 rfl rfl)
theorem dX1_runs_171 : decode cX1_runs 171 = .ok (.i2b, 1) := dk_145 (dk_at dksX1_runs_7 5 rfl rfl)
theorem dX1_runs_172 : decode cX1_runs 172 = .ok (.bastore, 1) := dk_84 (dk_at dksX1_runs_7 6 rfl rfl)
theorem dX1_runs_173 : decode cX1_runs 173 = .ok (.iinc 2 1, 3) := dk_132 2 1 (dk_at dksX1_runs_7 7 rfl rfl)
theorem dX1_runs_176 : decode cX1_runs 176 = .ok (.goto (-37), 3) := dk_167 255 219 (dk_at dksX1_runs_7 10 rfl rfl)
theorem dX1_runs_179 : decode cX1_runs 179 = .ok (.return_, 1) := dk_177 (dk_at dksX1_runs_7 13 rfl rfl)
abbrev cX1_expands : ByteArray := prog_11_method_10_code
def yX1_expands : MethodName := ⟨RX1, "expands", "()V"⟩
def dkwX1_expands_5 : List UInt8 := [46, 79, 132, 1, 1, 167, 255, 167, 177]
abbrev dktX1_expands_5 : List UInt8 := dkwX1_expands_5 ++ []
def dkwX1_expands_4 : List UInt8 := [184, 0, 57, 130, 28, 16, 23, 184, 0, 57, 130, 79, 42, 180, 0, 23, 27, 42, 180, 0, 26, 27, 7, 96]
abbrev dktX1_expands_4 : List UInt8 := dkwX1_expands_4 ++ dktX1_expands_5
def dkwX1_expands_3 : List UInt8 := [182, 0, 54, 61, 42, 180, 0, 26, 27, 7, 96, 42, 180, 0, 26, 27, 46, 28, 130, 28, 16, 13]
abbrev dktX1_expands_3 : List UInt8 := dkwX1_expands_3 ++ dktX1_expands_4
def dkwX1_expands_2 : List UInt8 := [46, 42, 180, 0, 26, 27, 5, 96, 46, 130, 42, 180, 0, 26, 27, 6, 96, 46, 130, 27, 184, 0, 51, 130]
abbrev dktX1_expands_2 : List UInt8 := dkwX1_expands_2 ++ dktX1_expands_3
def dkwX1_expands_1 : List UInt8 := [130, 79, 132, 1, 1, 167, 255, 229, 3, 60, 27, 16, 32, 162, 0, 89, 42, 42, 180, 0, 26, 27, 4, 96]
abbrev dktX1_expands_1 : List UInt8 := dkwX1_expands_1 ++ dktX1_expands_2
def dkwX1_expands_0 : List UInt8 := [3, 60, 27, 7, 162, 0, 28, 42, 180, 0, 26, 27, 42, 180, 0, 7, 27, 184, 0, 44, 27, 184, 0, 48]
abbrev dktX1_expands_0 : List UInt8 := dkwX1_expands_0 ++ dktX1_expands_1
theorem dksX1_expands_0 : cX1_expands.data.toList.drop 0 = dktX1_expands_0 := by decide +kernel
theorem dksX1_expands_1 : cX1_expands.data.toList.drop 24 = dktX1_expands_1 := dk_seg dksX1_expands_0 24 rfl rfl
theorem dksX1_expands_2 : cX1_expands.data.toList.drop 48 = dktX1_expands_2 := dk_seg dksX1_expands_1 24 rfl rfl
theorem dksX1_expands_3 : cX1_expands.data.toList.drop 72 = dktX1_expands_3 := dk_seg dksX1_expands_2 24 rfl rfl
theorem dksX1_expands_4 : cX1_expands.data.toList.drop 94 = dktX1_expands_4 := dk_seg dksX1_expands_3 22 rfl rfl
theorem dksX1_expands_5 : cX1_expands.data.toList.drop 118 = dktX1_expands_5 := dk_seg dksX1_expands_4 24 rfl rfl
theorem dX1_expands_0 : decode cX1_expands 0 = .ok (.iconst 0, 1) := dk_3 (dk_at dksX1_expands_0 0 rfl rfl)
theorem dX1_expands_1 : decode cX1_expands 1 = .ok (.istore_n 1, 1) := dk_60 (dk_at dksX1_expands_0 1 rfl rfl)
theorem dX1_expands_2 : decode cX1_expands 2 = .ok (.iload_n 1, 1) := dk_27 (dk_at dksX1_expands_0 2 rfl rfl)
theorem dX1_expands_3 : decode cX1_expands 3 = .ok (.iconst 4, 1) := dk_7 (dk_at dksX1_expands_0 3 rfl rfl)
theorem dX1_expands_4 : decode cX1_expands 4 = .ok (.if_icmp .ge 28, 3) := dk_162 0 28 (dk_at dksX1_expands_0 4 rfl rfl)
theorem dX1_expands_7 : decode cX1_expands 7 = .ok (.aload_n 0, 1) := dk_42 (dk_at dksX1_expands_0 7 rfl rfl)
theorem dX1_expands_8 : decode cX1_expands 8 = .ok (.getfield 26, 3) := dk_180 0 26 (dk_at dksX1_expands_0 8 rfl rfl)
theorem dX1_expands_11 : decode cX1_expands 11 = .ok (.iload_n 1, 1) := dk_27 (dk_at dksX1_expands_0 11 rfl rfl)
theorem dX1_expands_12 : decode cX1_expands 12 = .ok (.aload_n 0, 1) := dk_42 (dk_at dksX1_expands_0 12 rfl rfl)
theorem dX1_expands_13 : decode cX1_expands 13 = .ok (.getfield 7, 3) := dk_180 0 7 (dk_at dksX1_expands_0 13 rfl rfl)
theorem dX1_expands_16 : decode cX1_expands 16 = .ok (.iload_n 1, 1) := dk_27 (dk_at dksX1_expands_0 16 rfl rfl)
theorem dX1_expands_17 : decode cX1_expands 17 = .ok (.invokestatic 44, 3) := dk_184 0 44 (dk_at dksX1_expands_0 17 rfl rfl)
theorem dX1_expands_20 : decode cX1_expands 20 = .ok (.iload_n 1, 1) := dk_27 (dk_at dksX1_expands_0 20 rfl rfl)
theorem dX1_expands_21 : decode cX1_expands 21 = .ok (.invokestatic 48, 3) := dk_184 0 48 (dk_at dksX1_expands_0 21 rfl rfl)
theorem dX1_expands_24 : decode cX1_expands 24 = .ok (.ixor, 1) := dk_130 (dk_at dksX1_expands_1 0 rfl rfl)
theorem dX1_expands_25 : decode cX1_expands 25 = .ok (.iastore, 1) := dk_79 (dk_at dksX1_expands_1 1 rfl rfl)
theorem dX1_expands_26 : decode cX1_expands 26 = .ok (.iinc 1 1, 3) := dk_132 1 1 (dk_at dksX1_expands_1 2 rfl rfl)
theorem dX1_expands_29 : decode cX1_expands 29 = .ok (.goto (-27), 3) := dk_167 255 229 (dk_at dksX1_expands_1 5 rfl rfl)
theorem dX1_expands_32 : decode cX1_expands 32 = .ok (.iconst 0, 1) := dk_3 (dk_at dksX1_expands_1 8 rfl rfl)
theorem dX1_expands_33 : decode cX1_expands 33 = .ok (.istore_n 1, 1) := dk_60 (dk_at dksX1_expands_1 9 rfl rfl)
theorem dX1_expands_34 : decode cX1_expands 34 = .ok (.iload_n 1, 1) := dk_27 (dk_at dksX1_expands_1 10 rfl rfl)
theorem dX1_expands_35 : decode cX1_expands 35 = .ok (.bipush 32, 2) := dk_16 32 (dk_at dksX1_expands_1 11 rfl rfl)
theorem dX1_expands_37 : decode cX1_expands 37 = .ok (.if_icmp .ge 89, 3) := dk_162 0 89 (dk_at dksX1_expands_1 13 rfl rfl)
theorem dX1_expands_40 : decode cX1_expands 40 = .ok (.aload_n 0, 1) := dk_42 (dk_at dksX1_expands_1 16 rfl rfl)
theorem dX1_expands_41 : decode cX1_expands 41 = .ok (.aload_n 0, 1) := dk_42 (dk_at dksX1_expands_1 17 rfl rfl)
theorem dX1_expands_42 : decode cX1_expands 42 = .ok (.getfield 26, 3) := dk_180 0 26 (dk_at dksX1_expands_1 18 rfl rfl)
theorem dX1_expands_45 : decode cX1_expands 45 = .ok (.iload_n 1, 1) := dk_27 (dk_at dksX1_expands_1 21 rfl rfl)
theorem dX1_expands_46 : decode cX1_expands 46 = .ok (.iconst 1, 1) := dk_4 (dk_at dksX1_expands_1 22 rfl rfl)
theorem dX1_expands_47 : decode cX1_expands 47 = .ok (.iadd, 1) := dk_96 (dk_at dksX1_expands_1 23 rfl rfl)
theorem dX1_expands_48 : decode cX1_expands 48 = .ok (.iaload, 1) := dk_46 (dk_at dksX1_expands_2 0 rfl rfl)
theorem dX1_expands_49 : decode cX1_expands 49 = .ok (.aload_n 0, 1) := dk_42 (dk_at dksX1_expands_2 1 rfl rfl)
theorem dX1_expands_50 : decode cX1_expands 50 = .ok (.getfield 26, 3) := dk_180 0 26 (dk_at dksX1_expands_2 2 rfl rfl)
theorem dX1_expands_53 : decode cX1_expands 53 = .ok (.iload_n 1, 1) := dk_27 (dk_at dksX1_expands_2 5 rfl rfl)
theorem dX1_expands_54 : decode cX1_expands 54 = .ok (.iconst 2, 1) := dk_5 (dk_at dksX1_expands_2 6 rfl rfl)
theorem dX1_expands_55 : decode cX1_expands 55 = .ok (.iadd, 1) := dk_96 (dk_at dksX1_expands_2 7 rfl rfl)
theorem dX1_expands_56 : decode cX1_expands 56 = .ok (.iaload, 1) := dk_46 (dk_at dksX1_expands_2 8 rfl rfl)
theorem dX1_expands_57 : decode cX1_expands 57 = .ok (.ixor, 1) := dk_130 (dk_at dksX1_expands_2 9 rfl rfl)
theorem dX1_expands_58 : decode cX1_expands 58 = .ok (.aload_n 0, 1) := dk_42 (dk_at dksX1_expands_2 10 rfl rfl)
theorem dX1_expands_59 : decode cX1_expands 59 = .ok (.getfield 26, 3) := dk_180 0 26 (dk_at dksX1_expands_2 11 rfl rfl)
theorem dX1_expands_62 : decode cX1_expands 62 = .ok (.iload_n 1, 1) := dk_27 (dk_at dksX1_expands_2 14 rfl rfl)
theorem dX1_expands_63 : decode cX1_expands 63 = .ok (.iconst 3, 1) := dk_6 (dk_at dksX1_expands_2 15 rfl rfl)
theorem dX1_expands_64 : decode cX1_expands 64 = .ok (.iadd, 1) := dk_96 (dk_at dksX1_expands_2 16 rfl rfl)
theorem dX1_expands_65 : decode cX1_expands 65 = .ok (.iaload, 1) := dk_46 (dk_at dksX1_expands_2 17 rfl rfl)
theorem dX1_expands_66 : decode cX1_expands 66 = .ok (.ixor, 1) := dk_130 (dk_at dksX1_expands_2 18 rfl rfl)
theorem dX1_expands_67 : decode cX1_expands 67 = .ok (.iload_n 1, 1) := dk_27 (dk_at dksX1_expands_2 19 rfl rfl)
theorem dX1_expands_68 : decode cX1_expands 68 = .ok (.invokestatic 51, 3) := dk_184 0 51 (dk_at dksX1_expands_2 20 rfl rfl)
theorem dX1_expands_71 : decode cX1_expands 71 = .ok (.ixor, 1) := dk_130 (dk_at dksX1_expands_2 23 rfl rfl)
theorem dX1_expands_72 : decode cX1_expands 72 = .ok (.invokevirtual 54, 3) := dk_182 0 54 (dk_at dksX1_expands_3 0 rfl rfl)
theorem dX1_expands_75 : decode cX1_expands 75 = .ok (.istore_n 2, 1) := dk_61 (dk_at dksX1_expands_3 3 rfl rfl)
theorem dX1_expands_76 : decode cX1_expands 76 = .ok (.aload_n 0, 1) := dk_42 (dk_at dksX1_expands_3 4 rfl rfl)
theorem dX1_expands_77 : decode cX1_expands 77 = .ok (.getfield 26, 3) := dk_180 0 26 (dk_at dksX1_expands_3 5 rfl rfl)
theorem dX1_expands_80 : decode cX1_expands 80 = .ok (.iload_n 1, 1) := dk_27 (dk_at dksX1_expands_3 8 rfl rfl)
theorem dX1_expands_81 : decode cX1_expands 81 = .ok (.iconst 4, 1) := dk_7 (dk_at dksX1_expands_3 9 rfl rfl)
theorem dX1_expands_82 : decode cX1_expands 82 = .ok (.iadd, 1) := dk_96 (dk_at dksX1_expands_3 10 rfl rfl)
theorem dX1_expands_83 : decode cX1_expands 83 = .ok (.aload_n 0, 1) := dk_42 (dk_at dksX1_expands_3 11 rfl rfl)
theorem dX1_expands_84 : decode cX1_expands 84 = .ok (.getfield 26, 3) := dk_180 0 26 (dk_at dksX1_expands_3 12 rfl rfl)
theorem dX1_expands_87 : decode cX1_expands 87 = .ok (.iload_n 1, 1) := dk_27 (dk_at dksX1_expands_3 15 rfl rfl)
theorem dX1_expands_88 : decode cX1_expands 88 = .ok (.iaload, 1) := dk_46 (dk_at dksX1_expands_3 16 rfl rfl)
theorem dX1_expands_89 : decode cX1_expands 89 = .ok (.iload_n 2, 1) := dk_28 (dk_at dksX1_expands_3 17 rfl rfl)
theorem dX1_expands_90 : decode cX1_expands 90 = .ok (.ixor, 1) := dk_130 (dk_at dksX1_expands_3 18 rfl rfl)
theorem dX1_expands_91 : decode cX1_expands 91 = .ok (.iload_n 2, 1) := dk_28 (dk_at dksX1_expands_3 19 rfl rfl)
theorem dX1_expands_92 : decode cX1_expands 92 = .ok (.bipush 13, 2) := dk_16 13 (dk_at dksX1_expands_3 20 rfl rfl)
theorem dX1_expands_94 : decode cX1_expands 94 = .ok (.invokestatic 57, 3) := dk_184 0 57 (dk_at dksX1_expands_4 0 rfl rfl)
theorem dX1_expands_97 : decode cX1_expands 97 = .ok (.ixor, 1) := dk_130 (dk_at dksX1_expands_4 3 rfl rfl)
theorem dX1_expands_98 : decode cX1_expands 98 = .ok (.iload_n 2, 1) := dk_28 (dk_at dksX1_expands_4 4 rfl rfl)
theorem dX1_expands_99 : decode cX1_expands 99 = .ok (.bipush 23, 2) := dk_16 23 (dk_at dksX1_expands_4 5 rfl rfl)
theorem dX1_expands_101 : decode cX1_expands 101 = .ok (.invokestatic 57, 3) := dk_184 0 57 (dk_at dksX1_expands_4 7 rfl rfl)
theorem dX1_expands_104 : decode cX1_expands 104 = .ok (.ixor, 1) := dk_130 (dk_at dksX1_expands_4 10 rfl rfl)
theorem dX1_expands_105 : decode cX1_expands 105 = .ok (.iastore, 1) := dk_79 (dk_at dksX1_expands_4 11 rfl rfl)
theorem dX1_expands_106 : decode cX1_expands 106 = .ok (.aload_n 0, 1) := dk_42 (dk_at dksX1_expands_4 12 rfl rfl)
theorem dX1_expands_107 : decode cX1_expands 107 = .ok (.getfield 23, 3) := dk_180 0 23 (dk_at dksX1_expands_4 13 rfl rfl)
theorem dX1_expands_110 : decode cX1_expands 110 = .ok (.iload_n 1, 1) := dk_27 (dk_at dksX1_expands_4 16 rfl rfl)
theorem dX1_expands_111 : decode cX1_expands 111 = .ok (.aload_n 0, 1) := dk_42 (dk_at dksX1_expands_4 17 rfl rfl)
theorem dX1_expands_112 : decode cX1_expands 112 = .ok (.getfield 26, 3) := dk_180 0 26 (dk_at dksX1_expands_4 18 rfl rfl)
theorem dX1_expands_115 : decode cX1_expands 115 = .ok (.iload_n 1, 1) := dk_27 (dk_at dksX1_expands_4 21 rfl rfl)
theorem dX1_expands_116 : decode cX1_expands 116 = .ok (.iconst 4, 1) := dk_7 (dk_at dksX1_expands_4 22 rfl rfl)
theorem dX1_expands_117 : decode cX1_expands 117 = .ok (.iadd, 1) := dk_96 (dk_at dksX1_expands_4 23 rfl rfl)
theorem dX1_expands_118 : decode cX1_expands 118 = .ok (.iaload, 1) := dk_46 (dk_at dksX1_expands_5 0 rfl rfl)
theorem dX1_expands_119 : decode cX1_expands 119 = .ok (.iastore, 1) := dk_79 (dk_at dksX1_expands_5 1 rfl rfl)
theorem dX1_expands_120 : decode cX1_expands 120 = .ok (.iinc 1 1, 3) := dk_132 1 1 (dk_at dksX1_expands_5 2 rfl rfl)
theorem dX1_expands_123 : decode cX1_expands 123 = .ok (.goto (-89), 3) := dk_167 255 167 (dk_at dksX1_expands_5 5 rfl rfl)
theorem dX1_expands_126 : decode cX1_expands 126 = .ok (.return_, 1) := dk_177 (dk_at dksX1_expands_5 8 rfl rfl)
abbrev cX1_word : ByteArray := prog_11_method_7_code
def yX1_word : MethodName := ⟨RX1, "word", "([BI)I"⟩
def dkwX1_word_2 : List UInt8 := [96, 51, 17, 0, 255, 126, 128, 172]
abbrev dktX1_word_2 : List UInt8 := dkwX1_word_2 ++ []
def dkwX1_word_1 : List UInt8 := [16, 16, 120, 128, 42, 7, 27, 104, 5, 96, 51, 17, 0, 255, 126, 16, 8, 120, 128, 42, 7, 27, 104, 6]
abbrev dktX1_word_1 : List UInt8 := dkwX1_word_1 ++ dktX1_word_2
def dkwX1_word_0 : List UInt8 := [42, 7, 27, 104, 51, 17, 0, 255, 126, 16, 24, 120, 42, 7, 27, 104, 4, 96, 51, 17, 0, 255, 126]
abbrev dktX1_word_0 : List UInt8 := dkwX1_word_0 ++ dktX1_word_1
theorem dksX1_word_0 : cX1_word.data.toList.drop 0 = dktX1_word_0 := by decide +kernel
theorem dksX1_word_1 : cX1_word.data.toList.drop 23 = dktX1_word_1 := dk_seg dksX1_word_0 23 rfl rfl
theorem dksX1_word_2 : cX1_word.data.toList.drop 47 = dktX1_word_2 := dk_seg dksX1_word_1 24 rfl rfl
theorem dX1_word_0 : decode cX1_word 0 = .ok (.aload_n 0, 1) := dk_42 (dk_at dksX1_word_0 0 rfl rfl)
theorem dX1_word_1 : decode cX1_word 1 = .ok (.iconst 4, 1) := dk_7 (dk_at dksX1_word_0 1 rfl rfl)
theorem dX1_word_2 : decode cX1_word 2 = .ok (.iload_n 1, 1) := dk_27 (dk_at dksX1_word_0 2 rfl rfl)
theorem dX1_word_3 : decode cX1_word 3 = .ok (.imul, 1) := dk_104 (dk_at dksX1_word_0 3 rfl rfl)
theorem dX1_word_4 : decode cX1_word 4 = .ok (.baload, 1) := dk_51 (dk_at dksX1_word_0 4 rfl rfl)
theorem dX1_word_5 : decode cX1_word 5 = .ok (.sipush 255, 3) := dk_17 0 255 (dk_at dksX1_word_0 5 rfl rfl)
theorem dX1_word_8 : decode cX1_word 8 = .ok (.iand, 1) := dk_126 (dk_at dksX1_word_0 8 rfl rfl)
theorem dX1_word_9 : decode cX1_word 9 = .ok (.bipush 24, 2) := dk_16 24 (dk_at dksX1_word_0 9 rfl rfl)
theorem dX1_word_11 : decode cX1_word 11 = .ok (.ishl, 1) := dk_120 (dk_at dksX1_word_0 11 rfl rfl)
theorem dX1_word_12 : decode cX1_word 12 = .ok (.aload_n 0, 1) := dk_42 (dk_at dksX1_word_0 12 rfl rfl)
theorem dX1_word_13 : decode cX1_word 13 = .ok (.iconst 4, 1) := dk_7 (dk_at dksX1_word_0 13 rfl rfl)
theorem dX1_word_14 : decode cX1_word 14 = .ok (.iload_n 1, 1) := dk_27 (dk_at dksX1_word_0 14 rfl rfl)
theorem dX1_word_15 : decode cX1_word 15 = .ok (.imul, 1) := dk_104 (dk_at dksX1_word_0 15 rfl rfl)
theorem dX1_word_16 : decode cX1_word 16 = .ok (.iconst 1, 1) := dk_4 (dk_at dksX1_word_0 16 rfl rfl)
theorem dX1_word_17 : decode cX1_word 17 = .ok (.iadd, 1) := dk_96 (dk_at dksX1_word_0 17 rfl rfl)
theorem dX1_word_18 : decode cX1_word 18 = .ok (.baload, 1) := dk_51 (dk_at dksX1_word_0 18 rfl rfl)
theorem dX1_word_19 : decode cX1_word 19 = .ok (.sipush 255, 3) := dk_17 0 255 (dk_at dksX1_word_0 19 rfl rfl)
theorem dX1_word_22 : decode cX1_word 22 = .ok (.iand, 1) := dk_126 (dk_at dksX1_word_0 22 rfl rfl)
theorem dX1_word_23 : decode cX1_word 23 = .ok (.bipush 16, 2) := dk_16 16 (dk_at dksX1_word_1 0 rfl rfl)
theorem dX1_word_25 : decode cX1_word 25 = .ok (.ishl, 1) := dk_120 (dk_at dksX1_word_1 2 rfl rfl)
theorem dX1_word_26 : decode cX1_word 26 = .ok (.ior, 1) := dk_128 (dk_at dksX1_word_1 3 rfl rfl)
theorem dX1_word_27 : decode cX1_word 27 = .ok (.aload_n 0, 1) := dk_42 (dk_at dksX1_word_1 4 rfl rfl)
theorem dX1_word_28 : decode cX1_word 28 = .ok (.iconst 4, 1) := dk_7 (dk_at dksX1_word_1 5 rfl rfl)
theorem dX1_word_29 : decode cX1_word 29 = .ok (.iload_n 1, 1) := dk_27 (dk_at dksX1_word_1 6 rfl rfl)
theorem dX1_word_30 : decode cX1_word 30 = .ok (.imul, 1) := dk_104 (dk_at dksX1_word_1 7 rfl rfl)
theorem dX1_word_31 : decode cX1_word 31 = .ok (.iconst 2, 1) := dk_5 (dk_at dksX1_word_1 8 rfl rfl)
theorem dX1_word_32 : decode cX1_word 32 = .ok (.iadd, 1) := dk_96 (dk_at dksX1_word_1 9 rfl rfl)
theorem dX1_word_33 : decode cX1_word 33 = .ok (.baload, 1) := dk_51 (dk_at dksX1_word_1 10 rfl rfl)
theorem dX1_word_34 : decode cX1_word 34 = .ok (.sipush 255, 3) := dk_17 0 255 (dk_at dksX1_word_1 11 rfl rfl)
theorem dX1_word_37 : decode cX1_word 37 = .ok (.iand, 1) := dk_126 (dk_at dksX1_word_1 14 rfl rfl)
theorem dX1_word_38 : decode cX1_word 38 = .ok (.bipush 8, 2) := dk_16 8 (dk_at dksX1_word_1 15 rfl rfl)
theorem dX1_word_40 : decode cX1_word 40 = .ok (.ishl, 1) := dk_120 (dk_at dksX1_word_1 17 rfl rfl)
theorem dX1_word_41 : decode cX1_word 41 = .ok (.ior, 1) := dk_128 (dk_at dksX1_word_1 18 rfl rfl)
theorem dX1_word_42 : decode cX1_word 42 = .ok (.aload_n 0, 1) := dk_42 (dk_at dksX1_word_1 19 rfl rfl)
theorem dX1_word_43 : decode cX1_word 43 = .ok (.iconst 4, 1) := dk_7 (dk_at dksX1_word_1 20 rfl rfl)
theorem dX1_word_44 : decode cX1_word 44 = .ok (.iload_n 1, 1) := dk_27 (dk_at dksX1_word_1 21 rfl rfl)
theorem dX1_word_45 : decode cX1_word 45 = .ok (.imul, 1) := dk_104 (dk_at dksX1_word_1 22 rfl rfl)
theorem dX1_word_46 : decode cX1_word 46 = .ok (.iconst 3, 1) := dk_6 (dk_at dksX1_word_1 23 rfl rfl)
theorem dX1_word_47 : decode cX1_word 47 = .ok (.iadd, 1) := dk_96 (dk_at dksX1_word_2 0 rfl rfl)
theorem dX1_word_48 : decode cX1_word 48 = .ok (.baload, 1) := dk_51 (dk_at dksX1_word_2 1 rfl rfl)
theorem dX1_word_49 : decode cX1_word 49 = .ok (.sipush 255, 3) := dk_17 0 255 (dk_at dksX1_word_2 2 rfl rfl)
theorem dX1_word_52 : decode cX1_word 52 = .ok (.iand, 1) := dk_126 (dk_at dksX1_word_2 5 rfl rfl)
theorem dX1_word_53 : decode cX1_word 53 = .ok (.ior, 1) := dk_128 (dk_at dksX1_word_2 6 rfl rfl)
theorem dX1_word_54 : decode cX1_word 54 = .ok (.ireturn, 1) := dk_172 (dk_at dksX1_word_2 7 rfl rfl)
abbrev cX1_system : ByteArray := prog_11_method_8_code
def yX1_system : MethodName := ⟨RX1, "system", "(I)I"⟩
def dkwX1_system_1 : List UInt8 := [18, 42, 167, 0, 5, 18, 43, 172]
abbrev dktX1_system_1 : List UInt8 := dkwX1_system_1 ++ []
def dkwX1_system_0 : List UInt8 := [26, 154, 0, 8, 18, 40, 167, 0, 25, 26, 4, 160, 0, 8, 18, 41, 167, 0, 15, 26, 5, 160, 0, 8]
abbrev dktX1_system_0 : List UInt8 := dkwX1_system_0 ++ dktX1_system_1
theorem dksX1_system_0 : cX1_system.data.toList.drop 0 = dktX1_system_0 := by decide +kernel
theorem dksX1_system_1 : cX1_system.data.toList.drop 24 = dktX1_system_1 := dk_seg dksX1_system_0 24 rfl rfl
theorem dX1_system_0 : decode cX1_system 0 = .ok (.iload_n 0, 1) := dk_26 (dk_at dksX1_system_0 0 rfl rfl)
theorem dX1_system_1 : decode cX1_system 1 = .ok (.ifCond .ne 8, 3) := dk_154 0 8 (dk_at dksX1_system_0 1 rfl rfl)
theorem dX1_system_4 : decode cX1_system 4 = .ok (.ldc 40, 2) := dk_18 40 (dk_at dksX1_system_0 4 rfl rfl)
theorem dX1_system_6 : decode cX1_system 6 = .ok (.goto 25, 3) := dk_167 0 25 (dk_at dksX1_system_0 6 rfl rfl)
theorem dX1_system_9 : decode cX1_system 9 = .ok (.iload_n 0, 1) := dk_26 (dk_at dksX1_system_0 9 rfl rfl)
theorem dX1_system_10 : decode cX1_system 10 = .ok (.iconst 1, 1) := dk_4 (dk_at dksX1_system_0 10 rfl rfl)
theorem dX1_system_11 : decode cX1_system 11 = .ok (.if_icmp .ne 8, 3) := dk_160 0 8 (dk_at dksX1_system_0 11 rfl rfl)
theorem dX1_system_14 : decode cX1_system 14 = .ok (.ldc 41, 2) := dk_18 41 (dk_at dksX1_system_0 14 rfl rfl)
theorem dX1_system_16 : decode cX1_system 16 = .ok (.goto 15, 3) := dk_167 0 15 (dk_at dksX1_system_0 16 rfl rfl)
theorem dX1_system_19 : decode cX1_system 19 = .ok (.iload_n 0, 1) := dk_26 (dk_at dksX1_system_0 19 rfl rfl)
theorem dX1_system_20 : decode cX1_system 20 = .ok (.iconst 2, 1) := dk_5 (dk_at dksX1_system_0 20 rfl rfl)
theorem dX1_system_21 : decode cX1_system 21 = .ok (.if_icmp .ne 8, 3) := dk_160 0 8 (dk_at dksX1_system_0 21 rfl rfl)
theorem dX1_system_24 : decode cX1_system 24 = .ok (.ldc 42, 2) := dk_18 42 (dk_at dksX1_system_1 0 rfl rfl)
theorem dX1_system_26 : decode cX1_system 26 = .ok (.goto 5, 3) := dk_167 0 5 (dk_at dksX1_system_1 2 rfl rfl)
theorem dX1_system_29 : decode cX1_system 29 = .ok (.ldc 43, 2) := dk_18 43 (dk_at dksX1_system_1 5 rfl rfl)
theorem dX1_system_31 : decode cX1_system 31 = .ok (.ireturn, 1) := dk_172 (dk_at dksX1_system_1 7 rfl rfl)
abbrev cX1_fixed : ByteArray := prog_11_method_9_code
def yX1_fixed : MethodName := ⟨RX1, "fixed", "(I)I"⟩
def dkwX1_fixed_1 : List UInt8 := [126, 128, 60, 132, 2, 1, 167, 255, 230, 27, 172]
abbrev dktX1_fixed_1 : List UInt8 := dkwX1_fixed_1 ++ []
def dkwX1_fixed_0 : List UInt8 := [3, 60, 3, 61, 28, 7, 162, 0, 27, 27, 16, 8, 120, 7, 26, 104, 28, 96, 16, 7, 104, 17, 0, 255]
abbrev dktX1_fixed_0 : List UInt8 := dkwX1_fixed_0 ++ dktX1_fixed_1
theorem dksX1_fixed_0 : cX1_fixed.data.toList.drop 0 = dktX1_fixed_0 := by decide +kernel
theorem dksX1_fixed_1 : cX1_fixed.data.toList.drop 24 = dktX1_fixed_1 := dk_seg dksX1_fixed_0 24 rfl rfl
theorem dX1_fixed_0 : decode cX1_fixed 0 = .ok (.iconst 0, 1) := dk_3 (dk_at dksX1_fixed_0 0 rfl rfl)
theorem dX1_fixed_1 : decode cX1_fixed 1 = .ok (.istore_n 1, 1) := dk_60 (dk_at dksX1_fixed_0 1 rfl rfl)
theorem dX1_fixed_2 : decode cX1_fixed 2 = .ok (.iconst 0, 1) := dk_3 (dk_at dksX1_fixed_0 2 rfl rfl)
theorem dX1_fixed_3 : decode cX1_fixed 3 = .ok (.istore_n 2, 1) := dk_61 (dk_at dksX1_fixed_0 3 rfl rfl)
theorem dX1_fixed_4 : decode cX1_fixed 4 = .ok (.iload_n 2, 1) := dk_28 (dk_at dksX1_fixed_0 4 rfl rfl)
theorem dX1_fixed_5 : decode cX1_fixed 5 = .ok (.iconst 4, 1) := dk_7 (dk_at dksX1_fixed_0 5 rfl rfl)
theorem dX1_fixed_6 : decode cX1_fixed 6 = .ok (.if_icmp .ge 27, 3) := dk_162 0 27 (dk_at dksX1_fixed_0 6 rfl rfl)
theorem dX1_fixed_9 : decode cX1_fixed 9 = .ok (.iload_n 1, 1) := dk_27 (dk_at dksX1_fixed_0 9 rfl rfl)
theorem dX1_fixed_10 : decode cX1_fixed 10 = .ok (.bipush 8, 2) := dk_16 8 (dk_at dksX1_fixed_0 10 rfl rfl)
theorem dX1_fixed_12 : decode cX1_fixed 12 = .ok (.ishl, 1) := dk_120 (dk_at dksX1_fixed_0 12 rfl rfl)
theorem dX1_fixed_13 : decode cX1_fixed 13 = .ok (.iconst 4, 1) := dk_7 (dk_at dksX1_fixed_0 13 rfl rfl)
theorem dX1_fixed_14 : decode cX1_fixed 14 = .ok (.iload_n 0, 1) := dk_26 (dk_at dksX1_fixed_0 14 rfl rfl)
theorem dX1_fixed_15 : decode cX1_fixed 15 = .ok (.imul, 1) := dk_104 (dk_at dksX1_fixed_0 15 rfl rfl)
theorem dX1_fixed_16 : decode cX1_fixed 16 = .ok (.iload_n 2, 1) := dk_28 (dk_at dksX1_fixed_0 16 rfl rfl)
theorem dX1_fixed_17 : decode cX1_fixed 17 = .ok (.iadd, 1) := dk_96 (dk_at dksX1_fixed_0 17 rfl rfl)
theorem dX1_fixed_18 : decode cX1_fixed 18 = .ok (.bipush 7, 2) := dk_16 7 (dk_at dksX1_fixed_0 18 rfl rfl)
theorem dX1_fixed_20 : decode cX1_fixed 20 = .ok (.imul, 1) := dk_104 (dk_at dksX1_fixed_0 20 rfl rfl)
theorem dX1_fixed_21 : decode cX1_fixed 21 = .ok (.sipush 255, 3) := dk_17 0 255 (dk_at dksX1_fixed_0 21 rfl rfl)
theorem dX1_fixed_24 : decode cX1_fixed 24 = .ok (.iand, 1) := dk_126 (dk_at dksX1_fixed_1 0 rfl rfl)
theorem dX1_fixed_25 : decode cX1_fixed 25 = .ok (.ior, 1) := dk_128 (dk_at dksX1_fixed_1 1 rfl rfl)
theorem dX1_fixed_26 : decode cX1_fixed 26 = .ok (.istore_n 1, 1) := dk_60 (dk_at dksX1_fixed_1 2 rfl rfl)
theorem dX1_fixed_27 : decode cX1_fixed 27 = .ok (.iinc 2 1, 3) := dk_132 2 1 (dk_at dksX1_fixed_1 3 rfl rfl)
theorem dX1_fixed_30 : decode cX1_fixed 30 = .ok (.goto (-26), 3) := dk_167 255 230 (dk_at dksX1_fixed_1 6 rfl rfl)
theorem dX1_fixed_33 : decode cX1_fixed 33 = .ok (.iload_n 1, 1) := dk_27 (dk_at dksX1_fixed_1 9 rfl rfl)
theorem dX1_fixed_34 : decode cX1_fixed 34 = .ok (.ireturn, 1) := dk_172 (dk_at dksX1_fixed_1 10 rfl rfl)
abbrev cX1_boxed : ByteArray := prog_11_method_6_code
def yX1_boxed : MethodName := ⟨RX1, "boxed", "(I)I"⟩
def dkwX1_boxed_1 : List UInt8 := [46, 16, 8, 29, 104, 120, 128, 61, 132, 3, 1, 167, 255, 225, 28, 172]
abbrev dktX1_boxed_1 : List UInt8 := dkwX1_boxed_1 ++ []
def dkwX1_boxed_0 : List UInt8 := [3, 61, 3, 62, 29, 7, 162, 0, 32, 28, 42, 180, 0, 19, 27, 16, 8, 29, 104, 124, 17, 0, 255, 126]
abbrev dktX1_boxed_0 : List UInt8 := dkwX1_boxed_0 ++ dktX1_boxed_1
theorem dksX1_boxed_0 : cX1_boxed.data.toList.drop 0 = dktX1_boxed_0 := by decide +kernel
theorem dksX1_boxed_1 : cX1_boxed.data.toList.drop 24 = dktX1_boxed_1 := dk_seg dksX1_boxed_0 24 rfl rfl
theorem dX1_boxed_0 : decode cX1_boxed 0 = .ok (.iconst 0, 1) := dk_3 (dk_at dksX1_boxed_0 0 rfl rfl)
theorem dX1_boxed_1 : decode cX1_boxed 1 = .ok (.istore_n 2, 1) := dk_61 (dk_at dksX1_boxed_0 1 rfl rfl)
theorem dX1_boxed_2 : decode cX1_boxed 2 = .ok (.iconst 0, 1) := dk_3 (dk_at dksX1_boxed_0 2 rfl rfl)
theorem dX1_boxed_3 : decode cX1_boxed 3 = .ok (.istore_n 3, 1) := dk_62 (dk_at dksX1_boxed_0 3 rfl rfl)
theorem dX1_boxed_4 : decode cX1_boxed 4 = .ok (.iload_n 3, 1) := dk_29 (dk_at dksX1_boxed_0 4 rfl rfl)
theorem dX1_boxed_5 : decode cX1_boxed 5 = .ok (.iconst 4, 1) := dk_7 (dk_at dksX1_boxed_0 5 rfl rfl)
theorem dX1_boxed_6 : decode cX1_boxed 6 = .ok (.if_icmp .ge 32, 3) := dk_162 0 32 (dk_at dksX1_boxed_0 6 rfl rfl)
theorem dX1_boxed_9 : decode cX1_boxed 9 = .ok (.iload_n 2, 1) := dk_28 (dk_at dksX1_boxed_0 9 rfl rfl)
theorem dX1_boxed_10 : decode cX1_boxed 10 = .ok (.aload_n 0, 1) := dk_42 (dk_at dksX1_boxed_0 10 rfl rfl)
theorem dX1_boxed_11 : decode cX1_boxed 11 = .ok (.getfield 19, 3) := dk_180 0 19 (dk_at dksX1_boxed_0 11 rfl rfl)
theorem dX1_boxed_14 : decode cX1_boxed 14 = .ok (.iload_n 1, 1) := dk_27 (dk_at dksX1_boxed_0 14 rfl rfl)
theorem dX1_boxed_15 : decode cX1_boxed 15 = .ok (.bipush 8, 2) := dk_16 8 (dk_at dksX1_boxed_0 15 rfl rfl)
theorem dX1_boxed_17 : decode cX1_boxed 17 = .ok (.iload_n 3, 1) := dk_29 (dk_at dksX1_boxed_0 17 rfl rfl)
theorem dX1_boxed_18 : decode cX1_boxed 18 = .ok (.imul, 1) := dk_104 (dk_at dksX1_boxed_0 18 rfl rfl)
theorem dX1_boxed_19 : decode cX1_boxed 19 = .ok (.iushr, 1) := dk_124 (dk_at dksX1_boxed_0 19 rfl rfl)
theorem dX1_boxed_20 : decode cX1_boxed 20 = .ok (.sipush 255, 3) := dk_17 0 255 (dk_at dksX1_boxed_0 20 rfl rfl)
theorem dX1_boxed_23 : decode cX1_boxed 23 = .ok (.iand, 1) := dk_126 (dk_at dksX1_boxed_0 23 rfl rfl)
theorem dX1_boxed_24 : decode cX1_boxed 24 = .ok (.iaload, 1) := dk_46 (dk_at dksX1_boxed_1 0 rfl rfl)
theorem dX1_boxed_25 : decode cX1_boxed 25 = .ok (.bipush 8, 2) := dk_16 8 (dk_at dksX1_boxed_1 1 rfl rfl)
theorem dX1_boxed_27 : decode cX1_boxed 27 = .ok (.iload_n 3, 1) := dk_29 (dk_at dksX1_boxed_1 3 rfl rfl)
theorem dX1_boxed_28 : decode cX1_boxed 28 = .ok (.imul, 1) := dk_104 (dk_at dksX1_boxed_1 4 rfl rfl)
theorem dX1_boxed_29 : decode cX1_boxed 29 = .ok (.ishl, 1) := dk_120 (dk_at dksX1_boxed_1 5 rfl rfl)
theorem dX1_boxed_30 : decode cX1_boxed 30 = .ok (.ior, 1) := dk_128 (dk_at dksX1_boxed_1 6 rfl rfl)
theorem dX1_boxed_31 : decode cX1_boxed 31 = .ok (.istore_n 2, 1) := dk_61 (dk_at dksX1_boxed_1 7 rfl rfl)
theorem dX1_boxed_32 : decode cX1_boxed 32 = .ok (.iinc 3 1, 3) := dk_132 3 1 (dk_at dksX1_boxed_1 8 rfl rfl)
theorem dX1_boxed_35 : decode cX1_boxed 35 = .ok (.goto (-31), 3) := dk_167 255 225 (dk_at dksX1_boxed_1 11 rfl rfl)
theorem dX1_boxed_38 : decode cX1_boxed 38 = .ok (.iload_n 2, 1) := dk_28 (dk_at dksX1_boxed_1 14 rfl rfl)
theorem dX1_boxed_39 : decode cX1_boxed 39 = .ok (.ireturn, 1) := dk_172 (dk_at dksX1_boxed_1 15 rfl rfl)
abbrev cX1_turned : ByteArray := prog_11_method_5_code
def yX1_turned : MethodName := ⟨RX1, "turned", "(II)I"⟩
def dkwX1_turned_0 : List UInt8 := [26, 27, 120, 26, 16, 32, 27, 100, 124, 128, 172]
abbrev dktX1_turned_0 : List UInt8 := dkwX1_turned_0 ++ []
theorem dksX1_turned_0 : cX1_turned.data.toList.drop 0 = dktX1_turned_0 := by decide +kernel
theorem dX1_turned_0 : decode cX1_turned 0 = .ok (.iload_n 0, 1) := dk_26 (dk_at dksX1_turned_0 0 rfl rfl)
theorem dX1_turned_1 : decode cX1_turned 1 = .ok (.iload_n 1, 1) := dk_27 (dk_at dksX1_turned_0 1 rfl rfl)
theorem dX1_turned_2 : decode cX1_turned 2 = .ok (.ishl, 1) := dk_120 (dk_at dksX1_turned_0 2 rfl rfl)
theorem dX1_turned_3 : decode cX1_turned 3 = .ok (.iload_n 0, 1) := dk_26 (dk_at dksX1_turned_0 3 rfl rfl)
theorem dX1_turned_4 : decode cX1_turned 4 = .ok (.bipush 32, 2) := dk_16 32 (dk_at dksX1_turned_0 4 rfl rfl)
theorem dX1_turned_6 : decode cX1_turned 6 = .ok (.iload_n 1, 1) := dk_27 (dk_at dksX1_turned_0 6 rfl rfl)
theorem dX1_turned_7 : decode cX1_turned 7 = .ok (.isub, 1) := dk_100 (dk_at dksX1_turned_0 7 rfl rfl)
theorem dX1_turned_8 : decode cX1_turned 8 = .ok (.iushr, 1) := dk_124 (dk_at dksX1_turned_0 8 rfl rfl)
theorem dX1_turned_9 : decode cX1_turned 9 = .ok (.ior, 1) := dk_128 (dk_at dksX1_turned_0 9 rfl rfl)
theorem dX1_turned_10 : decode cX1_turned 10 = .ok (.ireturn, 1) := dk_172 (dk_at dksX1_turned_0 10 rfl rfl)
abbrev cX1_open : ByteArray := prog_11_method_13_code
def yX1_open : MethodName := ⟨RX1, "open", "(I)V"⟩
def dkwX1_open_0 : List UInt8 := [42, 3, 182, 0, 63, 177]
abbrev dktX1_open_0 : List UInt8 := dkwX1_open_0 ++ []
theorem dksX1_open_0 : cX1_open.data.toList.drop 0 = dktX1_open_0 := by decide +kernel
theorem dX1_open_0 : decode cX1_open 0 = .ok (.aload_n 0, 1) := dk_42 (dk_at dksX1_open_0 0 rfl rfl)
theorem dX1_open_1 : decode cX1_open 1 = .ok (.iconst 0, 1) := dk_3 (dk_at dksX1_open_0 1 rfl rfl)
theorem dX1_open_2 : decode cX1_open 2 = .ok (.invokevirtual 63, 3) := dk_182 0 63 (dk_at dksX1_open_0 2 rfl rfl)
theorem dX1_open_5 : decode cX1_open 5 = .ok (.return_, 1) := dk_177 (dk_at dksX1_open_0 5 rfl rfl)
abbrev cX1_key : ByteArray := prog_11_method_15_code
def yX1_key : MethodName := ⟨RX1, "key", "(IIIII)V"⟩
def dkwX1_key_2 : List UInt8 := [167, 255, 214, 177]
abbrev dktX1_key_2 : List UInt8 := dkwX1_key_2 ++ []
def dkwX1_key_1 : List UInt8 := [21, 6, 7, 108, 21, 6, 7, 112, 28, 29, 21, 4, 21, 5, 184, 0, 67, 145, 84, 132, 6, 1]
abbrev dktX1_key_1 : List UInt8 := dkwX1_key_1 ++ dktX1_key_2
def dkwX1_key_0 : List UInt8 := [3, 54, 6, 21, 6, 16, 16, 162, 0, 41, 42, 180, 0, 7, 16, 16, 27, 4, 126, 104, 21, 6, 96]
abbrev dktX1_key_0 : List UInt8 := dkwX1_key_0 ++ dktX1_key_1
theorem dksX1_key_0 : cX1_key.data.toList.drop 0 = dktX1_key_0 := by decide +kernel
theorem dksX1_key_1 : cX1_key.data.toList.drop 23 = dktX1_key_1 := dk_seg dksX1_key_0 23 rfl rfl
theorem dksX1_key_2 : cX1_key.data.toList.drop 45 = dktX1_key_2 := dk_seg dksX1_key_1 22 rfl rfl
theorem dX1_key_0 : decode cX1_key 0 = .ok (.iconst 0, 1) := dk_3 (dk_at dksX1_key_0 0 rfl rfl)
theorem dX1_key_1 : decode cX1_key 1 = .ok (.istore 6, 2) := dk_54 6 (dk_at dksX1_key_0 1 rfl rfl)
theorem dX1_key_3 : decode cX1_key 3 = .ok (.iload 6, 2) := dk_21 6 (dk_at dksX1_key_0 3 rfl rfl)
theorem dX1_key_5 : decode cX1_key 5 = .ok (.bipush 16, 2) := dk_16 16 (dk_at dksX1_key_0 5 rfl rfl)
theorem dX1_key_7 : decode cX1_key 7 = .ok (.if_icmp .ge 41, 3) := dk_162 0 41 (dk_at dksX1_key_0 7 rfl rfl)
theorem dX1_key_10 : decode cX1_key 10 = .ok (.aload_n 0, 1) := dk_42 (dk_at dksX1_key_0 10 rfl rfl)
theorem dX1_key_11 : decode cX1_key 11 = .ok (.getfield 7, 3) := dk_180 0 7 (dk_at dksX1_key_0 11 rfl rfl)
theorem dX1_key_14 : decode cX1_key 14 = .ok (.bipush 16, 2) := dk_16 16 (dk_at dksX1_key_0 14 rfl rfl)
theorem dX1_key_16 : decode cX1_key 16 = .ok (.iload_n 1, 1) := dk_27 (dk_at dksX1_key_0 16 rfl rfl)
theorem dX1_key_17 : decode cX1_key 17 = .ok (.iconst 1, 1) := dk_4 (dk_at dksX1_key_0 17 rfl rfl)
theorem dX1_key_18 : decode cX1_key 18 = .ok (.iand, 1) := dk_126 (dk_at dksX1_key_0 18 rfl rfl)
theorem dX1_key_19 : decode cX1_key 19 = .ok (.imul, 1) := dk_104 (dk_at dksX1_key_0 19 rfl rfl)
theorem dX1_key_20 : decode cX1_key 20 = .ok (.iload 6, 2) := dk_21 6 (dk_at dksX1_key_0 20 rfl rfl)
theorem dX1_key_22 : decode cX1_key 22 = .ok (.iadd, 1) := dk_96 (dk_at dksX1_key_0 22 rfl rfl)
theorem dX1_key_23 : decode cX1_key 23 = .ok (.iload 6, 2) := dk_21 6 (dk_at dksX1_key_1 0 rfl rfl)
theorem dX1_key_25 : decode cX1_key 25 = .ok (.iconst 4, 1) := dk_7 (dk_at dksX1_key_1 2 rfl rfl)
theorem dX1_key_26 : decode cX1_key 26 = .ok (.idiv, 1) := dk_108 (dk_at dksX1_key_1 3 rfl rfl)
theorem dX1_key_27 : decode cX1_key 27 = .ok (.iload 6, 2) := dk_21 6 (dk_at dksX1_key_1 4 rfl rfl)
theorem dX1_key_29 : decode cX1_key 29 = .ok (.iconst 4, 1) := dk_7 (dk_at dksX1_key_1 6 rfl rfl)
theorem dX1_key_30 : decode cX1_key 30 = .ok (.irem, 1) := dk_112 (dk_at dksX1_key_1 7 rfl rfl)
theorem dX1_key_31 : decode cX1_key 31 = .ok (.iload_n 2, 1) := dk_28 (dk_at dksX1_key_1 8 rfl rfl)
theorem dX1_key_32 : decode cX1_key 32 = .ok (.iload_n 3, 1) := dk_29 (dk_at dksX1_key_1 9 rfl rfl)
theorem dX1_key_33 : decode cX1_key 33 = .ok (.iload 4, 2) := dk_21 4 (dk_at dksX1_key_1 10 rfl rfl)
theorem dX1_key_35 : decode cX1_key 35 = .ok (.iload 5, 2) := dk_21 5 (dk_at dksX1_key_1 12 rfl rfl)
theorem dX1_key_37 : decode cX1_key 37 = .ok (.invokestatic 67, 3) := dk_184 0 67 (dk_at dksX1_key_1 14 rfl rfl)
theorem dX1_key_40 : decode cX1_key 40 = .ok (.i2b, 1) := dk_145 (dk_at dksX1_key_1 17 rfl rfl)
theorem dX1_key_41 : decode cX1_key 41 = .ok (.bastore, 1) := dk_84 (dk_at dksX1_key_1 18 rfl rfl)
theorem dX1_key_42 : decode cX1_key 42 = .ok (.iinc 6 1, 3) := dk_132 6 1 (dk_at dksX1_key_1 19 rfl rfl)
theorem dX1_key_45 : decode cX1_key 45 = .ok (.goto (-42), 3) := dk_167 255 214 (dk_at dksX1_key_2 0 rfl rfl)
theorem dX1_key_48 : decode cX1_key 48 = .ok (.return_, 1) := dk_177 (dk_at dksX1_key_2 3 rfl rfl)
abbrev cX1_at : ByteArray := prog_11_method_14_code
def yX1_at : MethodName := ⟨RX1, "at", "(IIIIII)I"⟩
def dkwX1_at_1 : List UInt8 := [167, 0, 5, 21, 5, 54, 6, 21, 6, 16, 24, 16, 8, 27, 104, 100, 124, 172]
abbrev dktX1_at_1 : List UInt8 := dkwX1_at_1 ++ []
def dkwX1_at_0 : List UInt8 := [26, 154, 0, 7, 28, 167, 0, 24, 26, 4, 160, 0, 7, 29, 167, 0, 15, 26, 5, 160, 0, 8, 21, 4]
abbrev dktX1_at_0 : List UInt8 := dkwX1_at_0 ++ dktX1_at_1
theorem dksX1_at_0 : cX1_at.data.toList.drop 0 = dktX1_at_0 := by decide +kernel
theorem dksX1_at_1 : cX1_at.data.toList.drop 24 = dktX1_at_1 := dk_seg dksX1_at_0 24 rfl rfl
theorem dX1_at_0 : decode cX1_at 0 = .ok (.iload_n 0, 1) := dk_26 (dk_at dksX1_at_0 0 rfl rfl)
theorem dX1_at_1 : decode cX1_at 1 = .ok (.ifCond .ne 7, 3) := dk_154 0 7 (dk_at dksX1_at_0 1 rfl rfl)
theorem dX1_at_4 : decode cX1_at 4 = .ok (.iload_n 2, 1) := dk_28 (dk_at dksX1_at_0 4 rfl rfl)
theorem dX1_at_5 : decode cX1_at 5 = .ok (.goto 24, 3) := dk_167 0 24 (dk_at dksX1_at_0 5 rfl rfl)
theorem dX1_at_8 : decode cX1_at 8 = .ok (.iload_n 0, 1) := dk_26 (dk_at dksX1_at_0 8 rfl rfl)
theorem dX1_at_9 : decode cX1_at 9 = .ok (.iconst 1, 1) := dk_4 (dk_at dksX1_at_0 9 rfl rfl)
theorem dX1_at_10 : decode cX1_at 10 = .ok (.if_icmp .ne 7, 3) := dk_160 0 7 (dk_at dksX1_at_0 10 rfl rfl)
theorem dX1_at_13 : decode cX1_at 13 = .ok (.iload_n 3, 1) := dk_29 (dk_at dksX1_at_0 13 rfl rfl)
theorem dX1_at_14 : decode cX1_at 14 = .ok (.goto 15, 3) := dk_167 0 15 (dk_at dksX1_at_0 14 rfl rfl)
theorem dX1_at_17 : decode cX1_at 17 = .ok (.iload_n 0, 1) := dk_26 (dk_at dksX1_at_0 17 rfl rfl)
theorem dX1_at_18 : decode cX1_at 18 = .ok (.iconst 2, 1) := dk_5 (dk_at dksX1_at_0 18 rfl rfl)
theorem dX1_at_19 : decode cX1_at 19 = .ok (.if_icmp .ne 8, 3) := dk_160 0 8 (dk_at dksX1_at_0 19 rfl rfl)
theorem dX1_at_22 : decode cX1_at 22 = .ok (.iload 4, 2) := dk_21 4 (dk_at dksX1_at_0 22 rfl rfl)
theorem dX1_at_24 : decode cX1_at 24 = .ok (.goto 5, 3) := dk_167 0 5 (dk_at dksX1_at_1 0 rfl rfl)
theorem dX1_at_27 : decode cX1_at 27 = .ok (.iload 5, 2) := dk_21 5 (dk_at dksX1_at_1 3 rfl rfl)
theorem dX1_at_29 : decode cX1_at 29 = .ok (.istore 6, 2) := dk_54 6 (dk_at dksX1_at_1 5 rfl rfl)
theorem dX1_at_31 : decode cX1_at 31 = .ok (.iload 6, 2) := dk_21 6 (dk_at dksX1_at_1 7 rfl rfl)
theorem dX1_at_33 : decode cX1_at 33 = .ok (.bipush 24, 2) := dk_16 24 (dk_at dksX1_at_1 9 rfl rfl)
theorem dX1_at_35 : decode cX1_at 35 = .ok (.bipush 8, 2) := dk_16 8 (dk_at dksX1_at_1 11 rfl rfl)
theorem dX1_at_37 : decode cX1_at 37 = .ok (.iload_n 1, 1) := dk_27 (dk_at dksX1_at_1 13 rfl rfl)
theorem dX1_at_38 : decode cX1_at 38 = .ok (.imul, 1) := dk_104 (dk_at dksX1_at_1 14 rfl rfl)
theorem dX1_at_39 : decode cX1_at 39 = .ok (.isub, 1) := dk_100 (dk_at dksX1_at_1 15 rfl rfl)
theorem dX1_at_40 : decode cX1_at 40 = .ok (.iushr, 1) := dk_124 (dk_at dksX1_at_1 16 rfl rfl)
theorem dX1_at_41 : decode cX1_at 41 = .ok (.ireturn, 1) := dk_172 (dk_at dksX1_at_1 17 rfl rfl)
abbrev cX1_block : ByteArray := prog_11_method_16_code
def yX1_block : MethodName := ⟨RX1, "block", "(IIII)V"⟩
def dkwX1_block_1 : List UInt8 := [27, 28, 29, 21, 4, 184, 0, 67, 145, 84, 132, 5, 1, 167, 255, 222, 177]
abbrev dktX1_block_1 : List UInt8 := dkwX1_block_1 ++ []
def dkwX1_block_0 : List UInt8 := [3, 54, 5, 21, 5, 16, 16, 162, 0, 33, 42, 180, 0, 13, 21, 5, 21, 5, 7, 108, 21, 5, 7, 112]
abbrev dktX1_block_0 : List UInt8 := dkwX1_block_0 ++ dktX1_block_1
theorem dksX1_block_0 : cX1_block.data.toList.drop 0 = dktX1_block_0 := by decide +kernel
theorem dksX1_block_1 : cX1_block.data.toList.drop 24 = dktX1_block_1 := dk_seg dksX1_block_0 24 rfl rfl
theorem dX1_block_0 : decode cX1_block 0 = .ok (.iconst 0, 1) := dk_3 (dk_at dksX1_block_0 0 rfl rfl)
theorem dX1_block_1 : decode cX1_block 1 = .ok (.istore 5, 2) := dk_54 5 (dk_at dksX1_block_0 1 rfl rfl)
theorem dX1_block_3 : decode cX1_block 3 = .ok (.iload 5, 2) := dk_21 5 (dk_at dksX1_block_0 3 rfl rfl)
theorem dX1_block_5 : decode cX1_block 5 = .ok (.bipush 16, 2) := dk_16 16 (dk_at dksX1_block_0 5 rfl rfl)
theorem dX1_block_7 : decode cX1_block 7 = .ok (.if_icmp .ge 33, 3) := dk_162 0 33 (dk_at dksX1_block_0 7 rfl rfl)
theorem dX1_block_10 : decode cX1_block 10 = .ok (.aload_n 0, 1) := dk_42 (dk_at dksX1_block_0 10 rfl rfl)
theorem dX1_block_11 : decode cX1_block 11 = .ok (.getfield 13, 3) := dk_180 0 13 (dk_at dksX1_block_0 11 rfl rfl)
theorem dX1_block_14 : decode cX1_block 14 = .ok (.iload 5, 2) := dk_21 5 (dk_at dksX1_block_0 14 rfl rfl)
theorem dX1_block_16 : decode cX1_block 16 = .ok (.iload 5, 2) := dk_21 5 (dk_at dksX1_block_0 16 rfl rfl)
theorem dX1_block_18 : decode cX1_block 18 = .ok (.iconst 4, 1) := dk_7 (dk_at dksX1_block_0 18 rfl rfl)
theorem dX1_block_19 : decode cX1_block 19 = .ok (.idiv, 1) := dk_108 (dk_at dksX1_block_0 19 rfl rfl)
theorem dX1_block_20 : decode cX1_block 20 = .ok (.iload 5, 2) := dk_21 5 (dk_at dksX1_block_0 20 rfl rfl)
theorem dX1_block_22 : decode cX1_block 22 = .ok (.iconst 4, 1) := dk_7 (dk_at dksX1_block_0 22 rfl rfl)
theorem dX1_block_23 : decode cX1_block 23 = .ok (.irem, 1) := dk_112 (dk_at dksX1_block_0 23 rfl rfl)
theorem dX1_block_24 : decode cX1_block 24 = .ok (.iload_n 1, 1) := dk_27 (dk_at dksX1_block_1 0 rfl rfl)
theorem dX1_block_25 : decode cX1_block 25 = .ok (.iload_n 2, 1) := dk_28 (dk_at dksX1_block_1 1 rfl rfl)
theorem dX1_block_26 : decode cX1_block 26 = .ok (.iload_n 3, 1) := dk_29 (dk_at dksX1_block_1 2 rfl rfl)
theorem dX1_block_27 : decode cX1_block 27 = .ok (.iload 4, 2) := dk_21 4 (dk_at dksX1_block_1 3 rfl rfl)
theorem dX1_block_29 : decode cX1_block 29 = .ok (.invokestatic 67, 3) := dk_184 0 67 (dk_at dksX1_block_1 5 rfl rfl)
theorem dX1_block_32 : decode cX1_block 32 = .ok (.i2b, 1) := dk_145 (dk_at dksX1_block_1 8 rfl rfl)
theorem dX1_block_33 : decode cX1_block 33 = .ok (.bastore, 1) := dk_84 (dk_at dksX1_block_1 9 rfl rfl)
theorem dX1_block_34 : decode cX1_block 34 = .ok (.iinc 5 1, 3) := dk_132 5 1 (dk_at dksX1_block_1 10 rfl rfl)
theorem dX1_block_37 : decode cX1_block 37 = .ok (.goto (-34), 3) := dk_167 255 222 (dk_at dksX1_block_1 13 rfl rfl)
theorem dX1_block_40 : decode cX1_block 40 = .ok (.return_, 1) := dk_177 (dk_at dksX1_block_1 16 rfl rfl)
abbrev cX1_again : ByteArray := prog_11_method_17_code
def yX1_again : MethodName := ⟨RX1, "again", "()V"⟩
def dkwX1_again_1 : List UInt8 := [167, 255, 235, 177]
abbrev dktX1_again_1 : List UInt8 := dkwX1_again_1 ++ []
def dkwX1_again_0 : List UInt8 := [3, 60, 27, 16, 16, 162, 0, 21, 42, 180, 0, 13, 27, 42, 180, 0, 16, 27, 51, 84, 132, 1, 1]
abbrev dktX1_again_0 : List UInt8 := dkwX1_again_0 ++ dktX1_again_1
theorem dksX1_again_0 : cX1_again.data.toList.drop 0 = dktX1_again_0 := by decide +kernel
theorem dksX1_again_1 : cX1_again.data.toList.drop 23 = dktX1_again_1 := dk_seg dksX1_again_0 23 rfl rfl
theorem dX1_again_0 : decode cX1_again 0 = .ok (.iconst 0, 1) := dk_3 (dk_at dksX1_again_0 0 rfl rfl)
theorem dX1_again_1 : decode cX1_again 1 = .ok (.istore_n 1, 1) := dk_60 (dk_at dksX1_again_0 1 rfl rfl)
theorem dX1_again_2 : decode cX1_again 2 = .ok (.iload_n 1, 1) := dk_27 (dk_at dksX1_again_0 2 rfl rfl)
theorem dX1_again_3 : decode cX1_again 3 = .ok (.bipush 16, 2) := dk_16 16 (dk_at dksX1_again_0 3 rfl rfl)
theorem dX1_again_5 : decode cX1_again 5 = .ok (.if_icmp .ge 21, 3) := dk_162 0 21 (dk_at dksX1_again_0 5 rfl rfl)
theorem dX1_again_8 : decode cX1_again 8 = .ok (.aload_n 0, 1) := dk_42 (dk_at dksX1_again_0 8 rfl rfl)
theorem dX1_again_9 : decode cX1_again 9 = .ok (.getfield 13, 3) := dk_180 0 13 (dk_at dksX1_again_0 9 rfl rfl)
theorem dX1_again_12 : decode cX1_again 12 = .ok (.iload_n 1, 1) := dk_27 (dk_at dksX1_again_0 12 rfl rfl)
theorem dX1_again_13 : decode cX1_again 13 = .ok (.aload_n 0, 1) := dk_42 (dk_at dksX1_again_0 13 rfl rfl)
theorem dX1_again_14 : decode cX1_again 14 = .ok (.getfield 16, 3) := dk_180 0 16 (dk_at dksX1_again_0 14 rfl rfl)
theorem dX1_again_17 : decode cX1_again 17 = .ok (.iload_n 1, 1) := dk_27 (dk_at dksX1_again_0 17 rfl rfl)
theorem dX1_again_18 : decode cX1_again 18 = .ok (.baload, 1) := dk_51 (dk_at dksX1_again_0 18 rfl rfl)
theorem dX1_again_19 : decode cX1_again 19 = .ok (.bastore, 1) := dk_84 (dk_at dksX1_again_0 19 rfl rfl)
theorem dX1_again_20 : decode cX1_again 20 = .ok (.iinc 1 1, 3) := dk_132 1 1 (dk_at dksX1_again_0 20 rfl rfl)
theorem dX1_again_23 : decode cX1_again 23 = .ok (.goto (-21), 3) := dk_167 255 235 (dk_at dksX1_again_1 0 rfl rfl)
theorem dX1_again_26 : decode cX1_again 26 = .ok (.return_, 1) := dk_177 (dk_at dksX1_again_1 3 rfl rfl)
abbrev cX1_out : ByteArray := prog_11_method_18_code
def yX1_out : MethodName := ⟨RX1, "out", "(I)I"⟩
def dkwX1_out_0 : List UInt8 := [42, 180, 0, 16, 27, 16, 15, 126, 51, 17, 0, 255, 126, 172]
abbrev dktX1_out_0 : List UInt8 := dkwX1_out_0 ++ []
theorem dksX1_out_0 : cX1_out.data.toList.drop 0 = dktX1_out_0 := by decide +kernel
theorem dX1_out_0 : decode cX1_out 0 = .ok (.aload_n 0, 1) := dk_42 (dk_at dksX1_out_0 0 rfl rfl)
theorem dX1_out_1 : decode cX1_out 1 = .ok (.getfield 16, 3) := dk_180 0 16 (dk_at dksX1_out_0 1 rfl rfl)
theorem dX1_out_4 : decode cX1_out 4 = .ok (.iload_n 1, 1) := dk_27 (dk_at dksX1_out_0 4 rfl rfl)
theorem dX1_out_5 : decode cX1_out 5 = .ok (.bipush 15, 2) := dk_16 15 (dk_at dksX1_out_0 5 rfl rfl)
theorem dX1_out_7 : decode cX1_out 7 = .ok (.iand, 1) := dk_126 (dk_at dksX1_out_0 7 rfl rfl)
theorem dX1_out_8 : decode cX1_out 8 = .ok (.baload, 1) := dk_51 (dk_at dksX1_out_0 8 rfl rfl)
theorem dX1_out_9 : decode cX1_out 9 = .ok (.sipush 255, 3) := dk_17 0 255 (dk_at dksX1_out_0 9 rfl rfl)
theorem dX1_out_12 : decode cX1_out 12 = .ok (.iand, 1) := dk_126 (dk_at dksX1_out_0 12 rfl rfl)
theorem dX1_out_13 : decode cX1_out 13 = .ok (.ireturn, 1) := dk_172 (dk_at dksX1_out_0 13 rfl rfl)
theorem q18 : (Jvm.Cond.initialized "SmFourDeskModel") ∈ lw_all := lw_g (lw_at lw_m1 2 rfl) rfl
theorem q320 : (Jvm.Cond.instantiable "SmFourDeskModel" (6 : Nat)) ∈ lw_all := lw_g (lw_at lw_m2 64 rfl) rfl
theorem q322 : (Jvm.Cond.instanceMethod ({ cls := "SmFourDeskModel", name := "<init>", desc := "()V" } : Jvm.MethodName)) ∈ lw_all := lw_g (lw_at lw_m2 66 rfl) rfl
theorem q323 : (Jvm.Cond.code ({ cls := "SmFourDeskModel", name := "<init>", desc := "()V" } : Jvm.MethodName) prog_11_method_1_code (2 : Nat) (Option.none : Option Jvm.ClassFile.FieldType)) ∈ lw_all := lw_g (lw_at lw_m2 67 rfl) rfl
theorem q324 : (Jvm.Cond.methodLink "SmFourDeskModel" (1 : Nat) ({ cls := "java/lang/Object", name := "<init>", desc := "()V" } : Jvm.MethodName)) ∈ lw_all := lw_g (lw_at lw_m2 68 rfl) rfl
theorem q325 : (Jvm.Cond.methodLink "SmFourDeskModel" (29 : Nat) ({ cls := "SmFourDeskModel", name := "mixed", desc := "(I)I" } : Jvm.MethodName)) ∈ lw_all := lw_g (lw_at lw_m2 69 rfl) rfl
theorem q326 : (Jvm.Cond.static ({ cls := "SmFourDeskModel", name := "mixed", desc := "(I)I" } : Jvm.MethodName)) ∈ lw_all := lw_g (lw_at lw_m2 70 rfl) rfl
theorem q327 : (Jvm.Cond.code ({ cls := "SmFourDeskModel", name := "mixed", desc := "(I)I" } : Jvm.MethodName) prog_11_method_2_code (6 : Nat) (Option.some Jvm.ClassFile.FieldType.int)) ∈ lw_all := lw_g (lw_at lw_m2 71 rfl) rfl
theorem q328 : (Jvm.Cond.methodLink "SmFourDeskModel" (33 : Nat) ({ cls := "SmFourDeskModel", name := "inverse", desc := "(I)I" } : Jvm.MethodName)) ∈ lw_all := lw_g (lw_at lw_m2 72 rfl) rfl
theorem q329 : (Jvm.Cond.static ({ cls := "SmFourDeskModel", name := "inverse", desc := "(I)I" } : Jvm.MethodName)) ∈ lw_all := lw_g (lw_at lw_m2 73 rfl) rfl
theorem q330 : (Jvm.Cond.code ({ cls := "SmFourDeskModel", name := "inverse", desc := "(I)I" } : Jvm.MethodName) prog_11_method_4_code (2 : Nat) (Option.some Jvm.ClassFile.FieldType.int)) ∈ lw_all := lw_g (lw_at lw_m2 74 rfl) rfl
theorem q331 : (Jvm.Cond.methodLink "SmFourDeskModel" (36 : Nat) ({ cls := "SmFourDeskModel", name := "times", desc := "(II)I" } : Jvm.MethodName)) ∈ lw_all := lw_g (lw_at lw_m2 75 rfl) rfl
theorem q332 : (Jvm.Cond.static ({ cls := "SmFourDeskModel", name := "times", desc := "(II)I" } : Jvm.MethodName)) ∈ lw_all := lw_g (lw_at lw_m2 76 rfl) rfl
theorem q333 : (Jvm.Cond.code ({ cls := "SmFourDeskModel", name := "times", desc := "(II)I" } : Jvm.MethodName) prog_11_method_3_code (5 : Nat) (Option.some Jvm.ClassFile.FieldType.int)) ∈ lw_all := lw_g (lw_at lw_m2 77 rfl) rfl
theorem q334 : (Jvm.Cond.fieldLink "SmFourDeskModel" (7 : Nat) "SmFourDeskModel" "key" "[B") ∈ lw_all := lw_g (lw_at lw_m2 78 rfl) rfl
theorem q335 : (Jvm.Cond.fieldLink "SmFourDeskModel" (13 : Nat) "SmFourDeskModel" "block" "[B") ∈ lw_all := lw_g (lw_at lw_m2 79 rfl) rfl
theorem q336 : (Jvm.Cond.fieldLink "SmFourDeskModel" (16 : Nat) "SmFourDeskModel" "out" "[B") ∈ lw_all := lw_g (lw_at lw_m2 80 rfl) rfl
theorem q337 : (Jvm.Cond.fieldLink "SmFourDeskModel" (19 : Nat) "SmFourDeskModel" "box" "[I") ∈ lw_all := lw_g (lw_at lw_m2 81 rfl) rfl
theorem q338 : (Jvm.Cond.fieldLink "SmFourDeskModel" (23 : Nat) "SmFourDeskModel" "rounds" "[I") ∈ lw_all := lw_g (lw_at lw_m2 82 rfl) rfl
theorem q339 : (Jvm.Cond.fieldLink "SmFourDeskModel" (26 : Nat) "SmFourDeskModel" "words" "[I") ∈ lw_all := lw_g (lw_at lw_m2 83 rfl) rfl
theorem q340 : (Jvm.Cond.laysFinal "SmFourDeskModel" "SmFourDeskModel" "key" "[B") ∈ lw_all := lw_g (lw_at lw_m2 84 rfl) rfl
theorem q341 : (Jvm.Cond.soleField "SmFourDeskModel" "key") ∈ lw_all := lw_g (lw_at lw_m2 85 rfl) rfl
theorem q342 : (Jvm.Cond.laysFinal "SmFourDeskModel" "SmFourDeskModel" "block" "[B") ∈ lw_all := lw_g (lw_at lw_m2 86 rfl) rfl
theorem q343 : (Jvm.Cond.soleField "SmFourDeskModel" "block") ∈ lw_all := lw_g (lw_at lw_m2 87 rfl) rfl
theorem q344 : (Jvm.Cond.laysFinal "SmFourDeskModel" "SmFourDeskModel" "out" "[B") ∈ lw_all := lw_g (lw_at lw_m2 88 rfl) rfl
theorem q345 : (Jvm.Cond.soleField "SmFourDeskModel" "out") ∈ lw_all := lw_g (lw_at lw_m2 89 rfl) rfl
theorem q346 : (Jvm.Cond.laysFinal "SmFourDeskModel" "SmFourDeskModel" "box" "[I") ∈ lw_all := lw_g (lw_at lw_m2 90 rfl) rfl
theorem q347 : (Jvm.Cond.soleField "SmFourDeskModel" "box") ∈ lw_all := lw_g (lw_at lw_m2 91 rfl) rfl
theorem q348 : (Jvm.Cond.laysFinal "SmFourDeskModel" "SmFourDeskModel" "rounds" "[I") ∈ lw_all := lw_g (lw_at lw_m2 92 rfl) rfl
theorem q349 : (Jvm.Cond.soleField "SmFourDeskModel" "rounds") ∈ lw_all := lw_g (lw_at lw_m2 93 rfl) rfl
theorem q350 : (Jvm.Cond.laysFinal "SmFourDeskModel" "SmFourDeskModel" "words" "[I") ∈ lw_all := lw_g (lw_at lw_m2 94 rfl) rfl
theorem q351 : (Jvm.Cond.soleField "SmFourDeskModel" "words") ∈ lw_all := lw_g (lw_at lw_m2 95 rfl) rfl
theorem q352 : (Jvm.Cond.superclass "SmFourDeskModel" "java/lang/Object") ∈ lw_all := lw_g (lw_at lw_m2 96 rfl) rfl
theorem q354 : (Jvm.Cond.instanceMethod ({ cls := "SmFourDeskModel", name := "lock", desc := "(I)V" } : Jvm.MethodName)) ∈ lw_all := lw_g (lw_at lw_m2 98 rfl) rfl
theorem q355 : (Jvm.Cond.selects "SmFourDeskModel" ({ cls := "SmFourDeskModel", name := "lock", desc := "(I)V" } : Jvm.MethodName) ({ cls := "SmFourDeskModel", name := "lock", desc := "(I)V" } : Jvm.MethodName)) ∈ lw_all := lw_g (lw_at lw_m2 99 rfl) rfl
theorem q356 : (Jvm.Cond.code ({ cls := "SmFourDeskModel", name := "lock", desc := "(I)V" } : Jvm.MethodName) prog_11_method_12_code (2 : Nat) (Option.none : Option Jvm.ClassFile.FieldType)) ∈ lw_all := lw_g (lw_at lw_m2 100 rfl) rfl
theorem q357 : (Jvm.Cond.methodLink "SmFourDeskModel" (63 : Nat) ({ cls := "SmFourDeskModel", name := "runs", desc := "(Z)V" } : Jvm.MethodName)) ∈ lw_all := lw_g (lw_at lw_m2 101 rfl) rfl
theorem q358 : (Jvm.Cond.privateMethod ({ cls := "SmFourDeskModel", name := "runs", desc := "(Z)V" } : Jvm.MethodName)) ∈ lw_tbl := lw_at lw_m2 102 rfl
theorem q359 : (Jvm.Cond.instanceMethod ({ cls := "SmFourDeskModel", name := "runs", desc := "(Z)V" } : Jvm.MethodName)) ∈ lw_all := lw_g (lw_at lw_m2 103 rfl) rfl
theorem q360 : (Jvm.Cond.code ({ cls := "SmFourDeskModel", name := "runs", desc := "(Z)V" } : Jvm.MethodName) prog_11_method_11_code (4 : Nat) (Option.none : Option Jvm.ClassFile.FieldType)) ∈ lw_all := lw_g (lw_at lw_m2 104 rfl) rfl
theorem q361 : (Jvm.Cond.methodLink "SmFourDeskModel" (60 : Nat) ({ cls := "SmFourDeskModel", name := "expands", desc := "()V" } : Jvm.MethodName)) ∈ lw_all := lw_g (lw_at lw_m2 105 rfl) rfl
theorem q362 : (Jvm.Cond.privateMethod ({ cls := "SmFourDeskModel", name := "expands", desc := "()V" } : Jvm.MethodName)) ∈ lw_tbl := lw_at lw_m2 106 rfl
theorem q363 : (Jvm.Cond.instanceMethod ({ cls := "SmFourDeskModel", name := "expands", desc := "()V" } : Jvm.MethodName)) ∈ lw_all := lw_g (lw_at lw_m2 107 rfl) rfl
theorem q364 : (Jvm.Cond.code ({ cls := "SmFourDeskModel", name := "expands", desc := "()V" } : Jvm.MethodName) prog_11_method_10_code (3 : Nat) (Option.none : Option Jvm.ClassFile.FieldType)) ∈ lw_all := lw_g (lw_at lw_m2 108 rfl) rfl
theorem q365 : (Jvm.Cond.methodLink "SmFourDeskModel" (44 : Nat) ({ cls := "SmFourDeskModel", name := "word", desc := "([BI)I" } : Jvm.MethodName)) ∈ lw_all := lw_g (lw_at lw_m2 109 rfl) rfl
theorem q366 : (Jvm.Cond.static ({ cls := "SmFourDeskModel", name := "word", desc := "([BI)I" } : Jvm.MethodName)) ∈ lw_all := lw_g (lw_at lw_m2 110 rfl) rfl
theorem q367 : (Jvm.Cond.code ({ cls := "SmFourDeskModel", name := "word", desc := "([BI)I" } : Jvm.MethodName) prog_11_method_7_code (2 : Nat) (Option.some Jvm.ClassFile.FieldType.int)) ∈ lw_all := lw_g (lw_at lw_m2 111 rfl) rfl
theorem q368 : (Jvm.Cond.methodLink "SmFourDeskModel" (48 : Nat) ({ cls := "SmFourDeskModel", name := "system", desc := "(I)I" } : Jvm.MethodName)) ∈ lw_all := lw_g (lw_at lw_m2 112 rfl) rfl
theorem q369 : (Jvm.Cond.static ({ cls := "SmFourDeskModel", name := "system", desc := "(I)I" } : Jvm.MethodName)) ∈ lw_all := lw_g (lw_at lw_m2 113 rfl) rfl
theorem q370 : (Jvm.Cond.code ({ cls := "SmFourDeskModel", name := "system", desc := "(I)I" } : Jvm.MethodName) prog_11_method_8_code (1 : Nat) (Option.some Jvm.ClassFile.FieldType.int)) ∈ lw_all := lw_g (lw_at lw_m2 114 rfl) rfl
theorem q371 : (Jvm.Cond.constant "SmFourDeskModel" (40 : Nat) (-1548633402 : Int32)) ∈ lw_all := lw_g (lw_at lw_m2 115 rfl) rfl
theorem q372 : (Jvm.Cond.constant "SmFourDeskModel" (41 : Nat) (1453994832 : Int32)) ∈ lw_all := lw_g (lw_at lw_m2 116 rfl) rfl
theorem q373 : (Jvm.Cond.constant "SmFourDeskModel" (42 : Nat) (1736282519 : Int32)) ∈ lw_all := lw_g (lw_at lw_m2 117 rfl) rfl
theorem q374 : (Jvm.Cond.constant "SmFourDeskModel" (43 : Nat) (-1301273892 : Int32)) ∈ lw_all := lw_g (lw_at lw_m2 118 rfl) rfl
theorem q375 : (Jvm.Cond.methodLink "SmFourDeskModel" (51 : Nat) ({ cls := "SmFourDeskModel", name := "fixed", desc := "(I)I" } : Jvm.MethodName)) ∈ lw_all := lw_g (lw_at lw_m2 119 rfl) rfl
theorem q376 : (Jvm.Cond.static ({ cls := "SmFourDeskModel", name := "fixed", desc := "(I)I" } : Jvm.MethodName)) ∈ lw_all := lw_g (lw_at lw_m2 120 rfl) rfl
theorem q377 : (Jvm.Cond.code ({ cls := "SmFourDeskModel", name := "fixed", desc := "(I)I" } : Jvm.MethodName) prog_11_method_9_code (3 : Nat) (Option.some Jvm.ClassFile.FieldType.int)) ∈ lw_all := lw_g (lw_at lw_m2 121 rfl) rfl
theorem q378 : (Jvm.Cond.methodLink "SmFourDeskModel" (54 : Nat) ({ cls := "SmFourDeskModel", name := "boxed", desc := "(I)I" } : Jvm.MethodName)) ∈ lw_all := lw_g (lw_at lw_m2 122 rfl) rfl
theorem q379 : (Jvm.Cond.privateMethod ({ cls := "SmFourDeskModel", name := "boxed", desc := "(I)I" } : Jvm.MethodName)) ∈ lw_tbl := lw_at lw_m2 123 rfl
theorem q380 : (Jvm.Cond.instanceMethod ({ cls := "SmFourDeskModel", name := "boxed", desc := "(I)I" } : Jvm.MethodName)) ∈ lw_all := lw_g (lw_at lw_m2 124 rfl) rfl
theorem q381 : (Jvm.Cond.code ({ cls := "SmFourDeskModel", name := "boxed", desc := "(I)I" } : Jvm.MethodName) prog_11_method_6_code (4 : Nat) (Option.some Jvm.ClassFile.FieldType.int)) ∈ lw_all := lw_g (lw_at lw_m2 125 rfl) rfl
theorem q382 : (Jvm.Cond.methodLink "SmFourDeskModel" (57 : Nat) ({ cls := "SmFourDeskModel", name := "turned", desc := "(II)I" } : Jvm.MethodName)) ∈ lw_all := lw_g (lw_at lw_m2 126 rfl) rfl
theorem q383 : (Jvm.Cond.static ({ cls := "SmFourDeskModel", name := "turned", desc := "(II)I" } : Jvm.MethodName)) ∈ lw_all := lw_g (lw_at lw_m2 127 rfl) rfl
theorem q384 : (Jvm.Cond.code ({ cls := "SmFourDeskModel", name := "turned", desc := "(II)I" } : Jvm.MethodName) prog_11_method_5_code (2 : Nat) (Option.some Jvm.ClassFile.FieldType.int)) ∈ lw_all := lw_g (lw_at lw_m2 128 rfl) rfl
theorem q386 : (Jvm.Cond.instanceMethod ({ cls := "SmFourDeskModel", name := "open", desc := "(I)V" } : Jvm.MethodName)) ∈ lw_all := lw_g (lw_at lw_m2 130 rfl) rfl
theorem q387 : (Jvm.Cond.selects "SmFourDeskModel" ({ cls := "SmFourDeskModel", name := "open", desc := "(I)V" } : Jvm.MethodName) ({ cls := "SmFourDeskModel", name := "open", desc := "(I)V" } : Jvm.MethodName)) ∈ lw_all := lw_g (lw_at lw_m2 131 rfl) rfl
theorem q388 : (Jvm.Cond.code ({ cls := "SmFourDeskModel", name := "open", desc := "(I)V" } : Jvm.MethodName) prog_11_method_13_code (2 : Nat) (Option.none : Option Jvm.ClassFile.FieldType)) ∈ lw_all := lw_g (lw_at lw_m2 132 rfl) rfl
theorem q390 : (Jvm.Cond.instanceMethod ({ cls := "SmFourDeskModel", name := "key", desc := "(IIIII)V" } : Jvm.MethodName)) ∈ lw_all := lw_g (lw_at lw_m2 134 rfl) rfl
theorem q391 : (Jvm.Cond.selects "SmFourDeskModel" ({ cls := "SmFourDeskModel", name := "key", desc := "(IIIII)V" } : Jvm.MethodName) ({ cls := "SmFourDeskModel", name := "key", desc := "(IIIII)V" } : Jvm.MethodName)) ∈ lw_all := lw_g (lw_at lw_m2 135 rfl) rfl
theorem q392 : (Jvm.Cond.code ({ cls := "SmFourDeskModel", name := "key", desc := "(IIIII)V" } : Jvm.MethodName) prog_11_method_15_code (7 : Nat) (Option.none : Option Jvm.ClassFile.FieldType)) ∈ lw_all := lw_g (lw_at lw_m2 136 rfl) rfl
theorem q393 : (Jvm.Cond.methodLink "SmFourDeskModel" (67 : Nat) ({ cls := "SmFourDeskModel", name := "at", desc := "(IIIIII)I" } : Jvm.MethodName)) ∈ lw_all := lw_g (lw_at lw_m2 137 rfl) rfl
theorem q394 : (Jvm.Cond.static ({ cls := "SmFourDeskModel", name := "at", desc := "(IIIIII)I" } : Jvm.MethodName)) ∈ lw_all := lw_g (lw_at lw_m2 138 rfl) rfl
theorem q395 : (Jvm.Cond.code ({ cls := "SmFourDeskModel", name := "at", desc := "(IIIIII)I" } : Jvm.MethodName) prog_11_method_14_code (7 : Nat) (Option.some Jvm.ClassFile.FieldType.int)) ∈ lw_all := lw_g (lw_at lw_m2 139 rfl) rfl
theorem q397 : (Jvm.Cond.instanceMethod ({ cls := "SmFourDeskModel", name := "block", desc := "(IIII)V" } : Jvm.MethodName)) ∈ lw_all := lw_g (lw_at lw_m2 141 rfl) rfl
theorem q398 : (Jvm.Cond.selects "SmFourDeskModel" ({ cls := "SmFourDeskModel", name := "block", desc := "(IIII)V" } : Jvm.MethodName) ({ cls := "SmFourDeskModel", name := "block", desc := "(IIII)V" } : Jvm.MethodName)) ∈ lw_all := lw_g (lw_at lw_m2 142 rfl) rfl
theorem q399 : (Jvm.Cond.code ({ cls := "SmFourDeskModel", name := "block", desc := "(IIII)V" } : Jvm.MethodName) prog_11_method_16_code (6 : Nat) (Option.none : Option Jvm.ClassFile.FieldType)) ∈ lw_all := lw_g (lw_at lw_m2 143 rfl) rfl
theorem q401 : (Jvm.Cond.instanceMethod ({ cls := "SmFourDeskModel", name := "again", desc := "()V" } : Jvm.MethodName)) ∈ lw_all := lw_g (lw_at lw_m2 145 rfl) rfl
theorem q402 : (Jvm.Cond.selects "SmFourDeskModel" ({ cls := "SmFourDeskModel", name := "again", desc := "()V" } : Jvm.MethodName) ({ cls := "SmFourDeskModel", name := "again", desc := "()V" } : Jvm.MethodName)) ∈ lw_all := lw_g (lw_at lw_m2 146 rfl) rfl
theorem q403 : (Jvm.Cond.code ({ cls := "SmFourDeskModel", name := "again", desc := "()V" } : Jvm.MethodName) prog_11_method_17_code (2 : Nat) (Option.none : Option Jvm.ClassFile.FieldType)) ∈ lw_all := lw_g (lw_at lw_m2 147 rfl) rfl
theorem q405 : (Jvm.Cond.instanceMethod ({ cls := "SmFourDeskModel", name := "out", desc := "(I)I" } : Jvm.MethodName)) ∈ lw_all := lw_g (lw_at lw_m2 149 rfl) rfl
theorem q406 : (Jvm.Cond.selects "SmFourDeskModel" ({ cls := "SmFourDeskModel", name := "out", desc := "(I)I" } : Jvm.MethodName) ({ cls := "SmFourDeskModel", name := "out", desc := "(I)I" } : Jvm.MethodName)) ∈ lw_all := lw_g (lw_at lw_m2 150 rfl) rfl
theorem q407 : (Jvm.Cond.code ({ cls := "SmFourDeskModel", name := "out", desc := "(I)I" } : Jvm.MethodName) prog_11_method_18_code (2 : Nat) (Option.some Jvm.ClassFile.FieldType.int)) ∈ lw_all := lw_g (lw_at lw_m2 151 rfl) rfl
theorem in_X1 : ∀ w ∈ wsX10, w ∈ lw_all := lw_in wsX10 [340, 342, 344, 346, 348, 350] (by decide +kernel) (by decide +kernel)
end
section
/-! SM4Engine -/
set_option maxRecDepth 100000
def RX2 : String := "SM4Engine"
def TX2 : u_T := fun k => match k with
  | 0 => ("SM4Engine", "X", "[I", true)
  | _ => ("SM4Engine", "rk", "[I", false)
def tyX2 : Nat → FieldType := fun k => match k with
  | 0 => .array .int
  | _ => .array .int
abbrev wsX20 : List Cond := u_ws RX2 TX2 2
theorem nmX2 : ∀ a, a < 2 → ∀ b, b < 2 → a ≠ b → (TX2 a).2.1 ≠ (TX2 b).2.1 := by decide +kernel
theorem tyX2_ok : ∀ k, k < 2 → parseFieldDescriptor (TX2 k).2.2.1 = some (tyX2 k) := by decide +kernel
abbrev cX2_init : ByteArray := prog_8_method_1_code
def yX2_init : MethodName := ⟨RX2, "<init>", "()V"⟩
def dkwX2_init_0 : List UInt8 := [42, 183, 0, 1, 42, 7, 188, 10, 181, 0, 7, 177]
abbrev dktX2_init_0 : List UInt8 := dkwX2_init_0 ++ []
theorem dksX2_init_0 : cX2_init.data.toList.drop 0 = dktX2_init_0 := by decide +kernel
theorem dX2_init_0 : decode cX2_init 0 = .ok (.aload_n 0, 1) := dk_42 (dk_at dksX2_init_0 0 rfl rfl)
theorem dX2_init_1 : decode cX2_init 1 = .ok (.invokespecial 1, 3) := dk_183 0 1 (dk_at dksX2_init_0 1 rfl rfl)
theorem dX2_init_4 : decode cX2_init 4 = .ok (.aload_n 0, 1) := dk_42 (dk_at dksX2_init_0 4 rfl rfl)
theorem dX2_init_5 : decode cX2_init 5 = .ok (.iconst 4, 1) := dk_7 (dk_at dksX2_init_0 5 rfl rfl)
theorem dX2_init_6 : decode cX2_init 6 = .ok (.newarray .int, 2) := dk_188_10 (dk_at dksX2_init_0 6 rfl rfl)
theorem dX2_init_8 : decode cX2_init 8 = .ok (.putfield 7, 3) := dk_181 0 7 (dk_at dksX2_init_0 8 rfl rfl)
theorem dX2_init_11 : decode cX2_init 11 = .ok (.return_, 1) := dk_177 (dk_at dksX2_init_0 11 rfl rfl)
abbrev cX2_init_2 : ByteArray := prog_8_method_13_code
def yX2_init_2 : MethodName := ⟨RX2, "init", "(ZLCipherParameters;)V"⟩
def dkwX2_init_2_2 : List UInt8 := [187, 0, 55, 89, 18, 69, 183, 0, 59, 191, 177]
abbrev dktX2_init_2_2 : List UInt8 := dkwX2_init_2_2 ++ []
def dkwX2_init_2_1 : List UInt8 := [187, 0, 55, 89, 18, 57, 183, 0, 59, 191, 42, 42, 27, 45, 182, 0, 62, 181, 0, 66, 167, 0, 13]
abbrev dktX2_init_2_1 : List UInt8 := dkwX2_init_2_1 ++ dktX2_init_2_2
def dkwX2_init_2_0 : List UInt8 := [44, 193, 0, 49, 153, 0, 41, 44, 192, 0, 49, 182, 0, 51, 78, 45, 190, 16, 16, 159, 0, 13]
abbrev dktX2_init_2_0 : List UInt8 := dkwX2_init_2_0 ++ dktX2_init_2_1
theorem dksX2_init_2_0 : cX2_init_2.data.toList.drop 0 = dktX2_init_2_0 := by decide +kernel
theorem dksX2_init_2_1 : cX2_init_2.data.toList.drop 22 = dktX2_init_2_1 := dk_seg dksX2_init_2_0 22 rfl rfl
theorem dksX2_init_2_2 : cX2_init_2.data.toList.drop 45 = dktX2_init_2_2 := dk_seg dksX2_init_2_1 23 rfl rfl
theorem dX2_init_2_0 : decode cX2_init_2 0 = .ok (.aload_n 2, 1) := dk_44 (dk_at dksX2_init_2_0 0 rfl rfl)
theorem dX2_init_2_1 : decode cX2_init_2 1 = .ok (.instanceof 49, 3) := dk_193 0 49 (dk_at dksX2_init_2_0 1 rfl rfl)
theorem dX2_init_2_4 : decode cX2_init_2 4 = .ok (.ifCond .eq 41, 3) := dk_153 0 41 (dk_at dksX2_init_2_0 4 rfl rfl)
theorem dX2_init_2_7 : decode cX2_init_2 7 = .ok (.aload_n 2, 1) := dk_44 (dk_at dksX2_init_2_0 7 rfl rfl)
theorem dX2_init_2_8 : decode cX2_init_2 8 = .ok (.checkcast 49, 3) := dk_192 0 49 (dk_at dksX2_init_2_0 8 rfl rfl)
theorem dX2_init_2_11 : decode cX2_init_2 11 = .ok (.invokevirtual 51, 3) := dk_182 0 51 (dk_at dksX2_init_2_0 11 rfl rfl)
theorem dX2_init_2_14 : decode cX2_init_2 14 = .ok (.astore_n 3, 1) := dk_78 (dk_at dksX2_init_2_0 14 rfl rfl)
theorem dX2_init_2_15 : decode cX2_init_2 15 = .ok (.aload_n 3, 1) := dk_45 (dk_at dksX2_init_2_0 15 rfl rfl)
theorem dX2_init_2_16 : decode cX2_init_2 16 = .ok (.arraylength, 1) := dk_190 (dk_at dksX2_init_2_0 16 rfl rfl)
theorem dX2_init_2_17 : decode cX2_init_2 17 = .ok (.bipush 16, 2) := dk_16 16 (dk_at dksX2_init_2_0 17 rfl rfl)
theorem dX2_init_2_19 : decode cX2_init_2 19 = .ok (.if_icmp .eq 13, 3) := dk_159 0 13 (dk_at dksX2_init_2_0 19 rfl rfl)
theorem dX2_init_2_22 : decode cX2_init_2 22 = .ok (.new 55, 3) := dk_187 0 55 (dk_at dksX2_init_2_1 0 rfl rfl)
theorem dX2_init_2_25 : decode cX2_init_2 25 = .ok (.dup, 1) := dk_89 (dk_at dksX2_init_2_1 3 rfl rfl)
theorem dX2_init_2_26 : decode cX2_init_2 26 = .ok (.ldc 57, 2) := dk_18 57 (dk_at dksX2_init_2_1 4 rfl rfl)
theorem dX2_init_2_28 : decode cX2_init_2 28 = .ok (.invokespecial 59, 3) := dk_183 0 59 (dk_at dksX2_init_2_1 6 rfl rfl)
theorem dX2_init_2_31 : decode cX2_init_2 31 = .ok (.athrow, 1) := dk_191 (dk_at dksX2_init_2_1 9 rfl rfl)
theorem dX2_init_2_32 : decode cX2_init_2 32 = .ok (.aload_n 0, 1) := dk_42 (dk_at dksX2_init_2_1 10 rfl rfl)
theorem dX2_init_2_33 : decode cX2_init_2 33 = .ok (.aload_n 0, 1) := dk_42 (dk_at dksX2_init_2_1 11 rfl rfl)
theorem dX2_init_2_34 : decode cX2_init_2 34 = .ok (.iload_n 1, 1) := dk_27 (dk_at dksX2_init_2_1 12 rfl rfl)
theorem dX2_init_2_35 : decode cX2_init_2 35 = .ok (.aload_n 3, 1) := dk_45 (dk_at dksX2_init_2_1 13 rfl rfl)
theorem dX2_init_2_36 : decode cX2_init_2 36 = .ok (.invokevirtual 62, 3) := dk_182 0 62 (dk_at dksX2_init_2_1 14 rfl rfl)
theorem dX2_init_2_39 : decode cX2_init_2 39 = .ok (.putfield 66, 3) := dk_181 0 66 (dk_at dksX2_init_2_1 17 rfl rfl)
theorem dX2_init_2_42 : decode cX2_init_2 42 = .ok (.goto 13, 3) := dk_167 0 13 (dk_at dksX2_init_2_1 20 rfl rfl)
theorem dX2_init_2_45 : decode cX2_init_2 45 = .ok (.new 55, 3) := dk_187 0 55 (dk_at dksX2_init_2_2 0 rfl rfl)
theorem dX2_init_2_48 : decode cX2_init_2 48 = .ok (.dup, 1) := dk_89 (dk_at dksX2_init_2_2 3 rfl rfl)
theorem dX2_init_2_49 : decode cX2_init_2 49 = .ok (.ldc 69, 2) := dk_18 69 (dk_at dksX2_init_2_2 4 rfl rfl)
theorem dX2_init_2_51 : decode cX2_init_2 51 = .ok (.invokespecial 59, 3) := dk_183 0 59 (dk_at dksX2_init_2_2 6 rfl rfl)
theorem dX2_init_2_54 : decode cX2_init_2 54 = .ok (.athrow, 1) := dk_191 (dk_at dksX2_init_2_2 9 rfl rfl)
theorem dX2_init_2_55 : decode cX2_init_2 55 = .ok (.return_, 1) := dk_177 (dk_at dksX2_init_2_2 10 rfl rfl)
abbrev cX2_expandKey : ByteArray := prog_8_method_6_code
def yX2_expandKey : MethodName := ⟨RX2, "expandKey", "(Z[B)[I"⟩
def dkwX2_expandKey_20 : List UInt8 := [130, 182, 0, 40, 130, 79, 132, 5, 255, 167, 255, 203, 45, 176]
abbrev dktX2_expandKey_20 : List UInt8 := dkwX2_expandKey_20 ++ []
def dkwX2_expandKey_19 : List UInt8 := [46, 45, 21, 5, 5, 96, 46, 130, 45, 21, 5, 4, 96, 46, 130, 178, 0, 37, 16, 31, 21, 5, 100, 46]
abbrev dktX2_expandKey_19 : List UInt8 := dkwX2_expandKey_19 ++ dktX2_expandKey_20
def dkwX2_expandKey_18 : List UInt8 := [16, 27, 54, 5, 21, 5, 155, 0, 54, 45, 21, 5, 45, 21, 5, 7, 96, 46, 42, 45, 21, 5, 6, 96]
abbrev dktX2_expandKey_18 : List UInt8 := dkwX2_expandKey_18 ++ dktX2_expandKey_19
def dkwX2_expandKey_17 : List UInt8 := [16, 31, 46, 45, 16, 30, 46, 130, 45, 16, 29, 46, 130, 178, 0, 37, 6, 46, 130, 182, 0, 40, 130, 79]
abbrev dktX2_expandKey_17 : List UInt8 := dkwX2_expandKey_17 ++ dktX2_expandKey_18
def dkwX2_expandKey_16 : List UInt8 := [16, 30, 46, 130, 178, 0, 37, 5, 46, 130, 182, 0, 40, 130, 79, 45, 16, 28, 25, 6, 6, 46, 42, 45]
abbrev dktX2_expandKey_16 : List UInt8 := dkwX2_expandKey_16 ++ dktX2_expandKey_17
def dkwX2_expandKey_15 : List UInt8 := [130, 182, 0, 40, 130, 79, 45, 16, 29, 25, 6, 5, 46, 42, 25, 6, 6, 46, 45, 16, 31, 46, 130, 45]
abbrev dktX2_expandKey_15 : List UInt8 := dkwX2_expandKey_15 ++ dktX2_expandKey_16
def dkwX2_expandKey_14 : List UInt8 := [25, 6, 4, 46, 42, 25, 6, 5, 46, 25, 6, 6, 46, 130, 45, 16, 31, 46, 130, 178, 0, 37, 4, 46]
abbrev dktX2_expandKey_14 : List UInt8 := dkwX2_expandKey_14 ++ dktX2_expandKey_15
def dkwX2_expandKey_13 : List UInt8 := [25, 6, 5, 46, 130, 25, 6, 6, 46, 130, 178, 0, 37, 3, 46, 130, 182, 0, 40, 130, 79, 45, 16, 30]
abbrev dktX2_expandKey_13 : List UInt8 := dkwX2_expandKey_13 ++ dktX2_expandKey_14
def dkwX2_expandKey_12 : List UInt8 := [182, 0, 40, 130, 79, 132, 5, 1, 167, 255, 204, 45, 16, 31, 25, 6, 3, 46, 42, 25, 6, 4, 46]
abbrev dktX2_expandKey_12 : List UInt8 := dkwX2_expandKey_12 ++ dktX2_expandKey_13
def dkwX2_expandKey_11 : List UInt8 := [46, 45, 21, 5, 5, 100, 46, 130, 45, 21, 5, 4, 100, 46, 130, 178, 0, 37, 21, 5, 46, 130]
abbrev dktX2_expandKey_11 : List UInt8 := dkwX2_expandKey_11 ++ dktX2_expandKey_12
def dkwX2_expandKey_10 : List UInt8 := [54, 5, 21, 5, 16, 32, 162, 0, 243, 45, 21, 5, 45, 21, 5, 7, 100, 46, 42, 45, 21, 5, 6, 100]
abbrev dktX2_expandKey_10 : List UInt8 := dkwX2_expandKey_10 ++ dktX2_expandKey_11
def dkwX2_expandKey_9 : List UInt8 := [45, 3, 46, 45, 4, 46, 130, 45, 5, 46, 130, 178, 0, 37, 6, 46, 130, 182, 0, 40, 130, 79, 7]
abbrev dktX2_expandKey_9 : List UInt8 := dkwX2_expandKey_9 ++ dktX2_expandKey_10
def dkwX2_expandKey_8 : List UInt8 := [46, 130, 45, 4, 46, 130, 178, 0, 37, 5, 46, 130, 182, 0, 40, 130, 79, 45, 6, 25, 6, 6, 46, 42]
abbrev dktX2_expandKey_8 : List UInt8 := dkwX2_expandKey_8 ++ dktX2_expandKey_9
def dkwX2_expandKey_7 : List UInt8 := [178, 0, 37, 4, 46, 130, 182, 0, 40, 130, 79, 45, 5, 25, 6, 5, 46, 42, 25, 6, 6, 46, 45, 3]
abbrev dktX2_expandKey_7 : List UInt8 := dkwX2_expandKey_7 ++ dktX2_expandKey_8
def dkwX2_expandKey_6 : List UInt8 := [130, 79, 45, 4, 25, 6, 4, 46, 42, 25, 6, 5, 46, 25, 6, 6, 46, 130, 45, 3, 46, 130]
abbrev dktX2_expandKey_6 : List UInt8 := dkwX2_expandKey_6 ++ dktX2_expandKey_7
def dkwX2_expandKey_5 : List UInt8 := [42, 25, 6, 4, 46, 25, 6, 5, 46, 130, 25, 6, 6, 46, 130, 178, 0, 37, 3, 46, 130, 182, 0, 40]
abbrev dktX2_expandKey_5 : List UInt8 := dkwX2_expandKey_5 ++ dktX2_expandKey_6
def dkwX2_expandKey_4 : List UInt8 := [25, 6, 6, 25, 4, 6, 46, 178, 0, 34, 6, 46, 130, 79, 27, 153, 0, 183, 45, 3, 25, 6, 3, 46]
abbrev dktX2_expandKey_4 : List UInt8 := dkwX2_expandKey_4 ++ dktX2_expandKey_5
def dkwX2_expandKey_3 : List UInt8 := [4, 46, 178, 0, 34, 4, 46, 130, 79, 25, 6, 5, 25, 4, 5, 46, 178, 0, 34, 5, 46, 130, 79]
abbrev dktX2_expandKey_3 : List UInt8 := dkwX2_expandKey_3 ++ dktX2_expandKey_4
def dkwX2_expandKey_2 : List UInt8 := [7, 188, 10, 58, 6, 25, 6, 3, 25, 4, 3, 46, 178, 0, 34, 3, 46, 130, 79, 25, 6, 4, 25, 4]
abbrev dktX2_expandKey_2 : List UInt8 := dkwX2_expandKey_2 ++ dktX2_expandKey_3
def dkwX2_expandKey_1 : List UInt8 := [184, 0, 28, 79, 25, 4, 5, 44, 16, 8, 184, 0, 28, 79, 25, 4, 6, 44, 16, 12, 184, 0, 28, 79]
abbrev dktX2_expandKey_1 : List UInt8 := dkwX2_expandKey_1 ++ dktX2_expandKey_2
def dkwX2_expandKey_0 : List UInt8 := [16, 32, 188, 10, 78, 7, 188, 10, 58, 4, 25, 4, 3, 44, 3, 184, 0, 28, 79, 25, 4, 4, 44, 7]
abbrev dktX2_expandKey_0 : List UInt8 := dkwX2_expandKey_0 ++ dktX2_expandKey_1
theorem dksX2_expandKey_0 : cX2_expandKey.data.toList.drop 0 = dktX2_expandKey_0 := by decide +kernel
theorem dksX2_expandKey_1 : cX2_expandKey.data.toList.drop 24 = dktX2_expandKey_1 := dk_seg dksX2_expandKey_0 24 rfl rfl
theorem dksX2_expandKey_2 : cX2_expandKey.data.toList.drop 48 = dktX2_expandKey_2 := dk_seg dksX2_expandKey_1 24 rfl rfl
theorem dksX2_expandKey_3 : cX2_expandKey.data.toList.drop 72 = dktX2_expandKey_3 := dk_seg dksX2_expandKey_2 24 rfl rfl
theorem dksX2_expandKey_4 : cX2_expandKey.data.toList.drop 95 = dktX2_expandKey_4 := dk_seg dksX2_expandKey_3 23 rfl rfl
theorem dksX2_expandKey_5 : cX2_expandKey.data.toList.drop 119 = dktX2_expandKey_5 := dk_seg dksX2_expandKey_4 24 rfl rfl
theorem dksX2_expandKey_6 : cX2_expandKey.data.toList.drop 143 = dktX2_expandKey_6 := dk_seg dksX2_expandKey_5 24 rfl rfl
theorem dksX2_expandKey_7 : cX2_expandKey.data.toList.drop 165 = dktX2_expandKey_7 := dk_seg dksX2_expandKey_6 22 rfl rfl
theorem dksX2_expandKey_8 : cX2_expandKey.data.toList.drop 189 = dktX2_expandKey_8 := dk_seg dksX2_expandKey_7 24 rfl rfl
theorem dksX2_expandKey_9 : cX2_expandKey.data.toList.drop 213 = dktX2_expandKey_9 := dk_seg dksX2_expandKey_8 24 rfl rfl
theorem dksX2_expandKey_10 : cX2_expandKey.data.toList.drop 236 = dktX2_expandKey_10 := dk_seg dksX2_expandKey_9 23 rfl rfl
theorem dksX2_expandKey_11 : cX2_expandKey.data.toList.drop 260 = dktX2_expandKey_11 := dk_seg dksX2_expandKey_10 24 rfl rfl
theorem dksX2_expandKey_12 : cX2_expandKey.data.toList.drop 282 = dktX2_expandKey_12 := dk_seg dksX2_expandKey_11 22 rfl rfl
theorem dksX2_expandKey_13 : cX2_expandKey.data.toList.drop 305 = dktX2_expandKey_13 := dk_seg dksX2_expandKey_12 23 rfl rfl
theorem dksX2_expandKey_14 : cX2_expandKey.data.toList.drop 329 = dktX2_expandKey_14 := dk_seg dksX2_expandKey_13 24 rfl rfl
theorem dksX2_expandKey_15 : cX2_expandKey.data.toList.drop 353 = dktX2_expandKey_15 := dk_seg dksX2_expandKey_14 24 rfl rfl
theorem dksX2_expandKey_16 : cX2_expandKey.data.toList.drop 377 = dktX2_expandKey_16 := dk_seg dksX2_expandKey_15 24 rfl rfl
theorem dksX2_expandKey_17 : cX2_expandKey.data.toList.drop 401 = dktX2_expandKey_17 := dk_seg dksX2_expandKey_16 24 rfl rfl
theorem dksX2_expandKey_18 : cX2_expandKey.data.toList.drop 425 = dktX2_expandKey_18 := dk_seg dksX2_expandKey_17 24 rfl rfl
theorem dksX2_expandKey_19 : cX2_expandKey.data.toList.drop 449 = dktX2_expandKey_19 := dk_seg dksX2_expandKey_18 24 rfl rfl
theorem dksX2_expandKey_20 : cX2_expandKey.data.toList.drop 473 = dktX2_expandKey_20 := dk_seg dksX2_expandKey_19 24 rfl rfl
theorem dX2_expandKey_0 : decode cX2_expandKey 0 = .ok (.bipush 32, 2) := dk_16 32 (dk_at dksX2_expandKey_0 0 rfl rfl)
theorem dX2_expandKey_2 : decode cX2_expandKey 2 = .ok (.newarray .int, 2) := dk_188_10 (dk_at dksX2_expandKey_0 2 rfl rfl)
theorem dX2_expandKey_4 : decode cX2_expandKey 4 = .ok (.astore_n 3, 1) := dk_78 (dk_at dksX2_expandKey_0 4 rfl rfl)
theorem dX2_expandKey_5 : decode cX2_expandKey 5 = .ok (.iconst 4, 1) := dk_7 (dk_at dksX2_expandKey_0 5 rfl rfl)
theorem dX2_expandKey_6 : decode cX2_expandKey 6 = .ok (.newarray .int, 2) := dk_188_10 (dk_at dksX2_expandKey_0 6 rfl rfl)
theorem dX2_expandKey_8 : decode cX2_expandKey 8 = .ok (.astore 4, 2) := dk_58 4 (dk_at dksX2_expandKey_0 8 rfl rfl)
theorem dX2_expandKey_10 : decode cX2_expandKey 10 = .ok (.aload 4, 2) := dk_25 4 (dk_at dksX2_expandKey_0 10 rfl rfl)
theorem dX2_expandKey_12 : decode cX2_expandKey 12 = .ok (.iconst 0, 1) := dk_3 (dk_at dksX2_expandKey_0 12 rfl rfl)
theorem dX2_expandKey_13 : decode cX2_expandKey 13 = .ok (.aload_n 2, 1) := dk_44 (dk_at dksX2_expandKey_0 13 rfl rfl)
theorem dX2_expandKey_14 : decode cX2_expandKey 14 = .ok (.iconst 0, 1) := dk_3 (dk_at dksX2_expandKey_0 14 rfl rfl)
theorem dX2_expandKey_15 : decode cX2_expandKey 15 = .ok (.invokestatic 28, 3) := dk_184 0 28 (dk_at dksX2_expandKey_0 15 rfl rfl)
theorem dX2_expandKey_18 : decode cX2_expandKey 18 = .ok (.iastore, 1) := dk_79 (dk_at dksX2_expandKey_0 18 rfl rfl)
theorem dX2_expandKey_19 : decode cX2_expandKey 19 = .ok (.aload 4, 2) := dk_25 4 (dk_at dksX2_expandKey_0 19 rfl rfl)
theorem dX2_expandKey_21 : decode cX2_expandKey 21 = .ok (.iconst 1, 1) := dk_4 (dk_at dksX2_expandKey_0 21 rfl rfl)
theorem dX2_expandKey_22 : decode cX2_expandKey 22 = .ok (.aload_n 2, 1) := dk_44 (dk_at dksX2_expandKey_0 22 rfl rfl)
theorem dX2_expandKey_23 : decode cX2_expandKey 23 = .ok (.iconst 4, 1) := dk_7 (dk_at dksX2_expandKey_0 23 rfl rfl)
theorem dX2_expandKey_24 : decode cX2_expandKey 24 = .ok (.invokestatic 28, 3) := dk_184 0 28 (dk_at dksX2_expandKey_1 0 rfl rfl)
theorem dX2_expandKey_27 : decode cX2_expandKey 27 = .ok (.iastore, 1) := dk_79 (dk_at dksX2_expandKey_1 3 rfl rfl)
theorem dX2_expandKey_28 : decode cX2_expandKey 28 = .ok (.aload 4, 2) := dk_25 4 (dk_at dksX2_expandKey_1 4 rfl rfl)
theorem dX2_expandKey_30 : decode cX2_expandKey 30 = .ok (.iconst 2, 1) := dk_5 (dk_at dksX2_expandKey_1 6 rfl rfl)
theorem dX2_expandKey_31 : decode cX2_expandKey 31 = .ok (.aload_n 2, 1) := dk_44 (dk_at dksX2_expandKey_1 7 rfl rfl)
theorem dX2_expandKey_32 : decode cX2_expandKey 32 = .ok (.bipush 8, 2) := dk_16 8 (dk_at dksX2_expandKey_1 8 rfl rfl)
theorem dX2_expandKey_34 : decode cX2_expandKey 34 = .ok (.invokestatic 28, 3) := dk_184 0 28 (dk_at dksX2_expandKey_1 10 rfl rfl)
theorem dX2_expandKey_37 : decode cX2_expandKey 37 = .ok (.iastore, 1) := dk_79 (dk_at dksX2_expandKey_1 13 rfl rfl)
theorem dX2_expandKey_38 : decode cX2_expandKey 38 = .ok (.aload 4, 2) := dk_25 4 (dk_at dksX2_expandKey_1 14 rfl rfl)
theorem dX2_expandKey_40 : decode cX2_expandKey 40 = .ok (.iconst 3, 1) := dk_6 (dk_at dksX2_expandKey_1 16 rfl rfl)
theorem dX2_expandKey_41 : decode cX2_expandKey 41 = .ok (.aload_n 2, 1) := dk_44 (dk_at dksX2_expandKey_1 17 rfl rfl)
theorem dX2_expandKey_42 : decode cX2_expandKey 42 = .ok (.bipush 12, 2) := dk_16 12 (dk_at dksX2_expandKey_1 18 rfl rfl)
theorem dX2_expandKey_44 : decode cX2_expandKey 44 = .ok (.invokestatic 28, 3) := dk_184 0 28 (dk_at dksX2_expandKey_1 20 rfl rfl)
theorem dX2_expandKey_47 : decode cX2_expandKey 47 = .ok (.iastore, 1) := dk_79 (dk_at dksX2_expandKey_1 23 rfl rfl)
theorem dX2_expandKey_48 : decode cX2_expandKey 48 = .ok (.iconst 4, 1) := dk_7 (dk_at dksX2_expandKey_2 0 rfl rfl)
theorem dX2_expandKey_49 : decode cX2_expandKey 49 = .ok (.newarray .int, 2) := dk_188_10 (dk_at dksX2_expandKey_2 1 rfl rfl)
theorem dX2_expandKey_51 : decode cX2_expandKey 51 = .ok (.astore 6, 2) := dk_58 6 (dk_at dksX2_expandKey_2 3 rfl rfl)
theorem dX2_expandKey_53 : decode cX2_expandKey 53 = .ok (.aload 6, 2) := dk_25 6 (dk_at dksX2_expandKey_2 5 rfl rfl)
theorem dX2_expandKey_55 : decode cX2_expandKey 55 = .ok (.iconst 0, 1) := dk_3 (dk_at dksX2_expandKey_2 7 rfl rfl)
theorem dX2_expandKey_56 : decode cX2_expandKey 56 = .ok (.aload 4, 2) := dk_25 4 (dk_at dksX2_expandKey_2 8 rfl rfl)
theorem dX2_expandKey_58 : decode cX2_expandKey 58 = .ok (.iconst 0, 1) := dk_3 (dk_at dksX2_expandKey_2 10 rfl rfl)
theorem dX2_expandKey_59 : decode cX2_expandKey 59 = .ok (.iaload, 1) := dk_46 (dk_at dksX2_expandKey_2 11 rfl rfl)
theorem dX2_expandKey_60 : decode cX2_expandKey 60 = .ok (.getstatic 34, 3) := dk_178 0 34 (dk_at dksX2_expandKey_2 12 rfl rfl)
theorem dX2_expandKey_63 : decode cX2_expandKey 63 = .ok (.iconst 0, 1) := dk_3 (dk_at dksX2_expandKey_2 15 rfl rfl)
theorem dX2_expandKey_64 : decode cX2_expandKey 64 = .ok (.iaload, 1) := dk_46 (dk_at dksX2_expandKey_2 16 rfl rfl)
theorem dX2_expandKey_65 : decode cX2_expandKey 65 = .ok (.ixor, 1) := dk_130 (dk_at dksX2_expandKey_2 17 rfl rfl)
theorem dX2_expandKey_66 : decode cX2_expandKey 66 = .ok (.iastore, 1) := dk_79 (dk_at dksX2_expandKey_2 18 rfl rfl)
theorem dX2_expandKey_67 : decode cX2_expandKey 67 = .ok (.aload 6, 2) := dk_25 6 (dk_at dksX2_expandKey_2 19 rfl rfl)
theorem dX2_expandKey_69 : decode cX2_expandKey 69 = .ok (.iconst 1, 1) := dk_4 (dk_at dksX2_expandKey_2 21 rfl rfl)
theorem dX2_expandKey_70 : decode cX2_expandKey 70 = .ok (.aload 4, 2) := dk_25 4 (dk_at dksX2_expandKey_2 22 rfl rfl)
theorem dX2_expandKey_72 : decode cX2_expandKey 72 = .ok (.iconst 1, 1) := dk_4 (dk_at dksX2_expandKey_3 0 rfl rfl)
theorem dX2_expandKey_73 : decode cX2_expandKey 73 = .ok (.iaload, 1) := dk_46 (dk_at dksX2_expandKey_3 1 rfl rfl)
theorem dX2_expandKey_74 : decode cX2_expandKey 74 = .ok (.getstatic 34, 3) := dk_178 0 34 (dk_at dksX2_expandKey_3 2 rfl rfl)
theorem dX2_expandKey_77 : decode cX2_expandKey 77 = .ok (.iconst 1, 1) := dk_4 (dk_at dksX2_expandKey_3 5 rfl rfl)
theorem dX2_expandKey_78 : decode cX2_expandKey 78 = .ok (.iaload, 1) := dk_46 (dk_at dksX2_expandKey_3 6 rfl rfl)
theorem dX2_expandKey_79 : decode cX2_expandKey 79 = .ok (.ixor, 1) := dk_130 (dk_at dksX2_expandKey_3 7 rfl rfl)
theorem dX2_expandKey_80 : decode cX2_expandKey 80 = .ok (.iastore, 1) := dk_79 (dk_at dksX2_expandKey_3 8 rfl rfl)
theorem dX2_expandKey_81 : decode cX2_expandKey 81 = .ok (.aload 6, 2) := dk_25 6 (dk_at dksX2_expandKey_3 9 rfl rfl)
theorem dX2_expandKey_83 : decode cX2_expandKey 83 = .ok (.iconst 2, 1) := dk_5 (dk_at dksX2_expandKey_3 11 rfl rfl)
theorem dX2_expandKey_84 : decode cX2_expandKey 84 = .ok (.aload 4, 2) := dk_25 4 (dk_at dksX2_expandKey_3 12 rfl rfl)
theorem dX2_expandKey_86 : decode cX2_expandKey 86 = .ok (.iconst 2, 1) := dk_5 (dk_at dksX2_expandKey_3 14 rfl rfl)
theorem dX2_expandKey_87 : decode cX2_expandKey 87 = .ok (.iaload, 1) := dk_46 (dk_at dksX2_expandKey_3 15 rfl rfl)
theorem dX2_expandKey_88 : decode cX2_expandKey 88 = .ok (.getstatic 34, 3) := dk_178 0 34 (dk_at dksX2_expandKey_3 16 rfl rfl)
theorem dX2_expandKey_91 : decode cX2_expandKey 91 = .ok (.iconst 2, 1) := dk_5 (dk_at dksX2_expandKey_3 19 rfl rfl)
theorem dX2_expandKey_92 : decode cX2_expandKey 92 = .ok (.iaload, 1) := dk_46 (dk_at dksX2_expandKey_3 20 rfl rfl)
theorem dX2_expandKey_93 : decode cX2_expandKey 93 = .ok (.ixor, 1) := dk_130 (dk_at dksX2_expandKey_3 21 rfl rfl)
theorem dX2_expandKey_94 : decode cX2_expandKey 94 = .ok (.iastore, 1) := dk_79 (dk_at dksX2_expandKey_3 22 rfl rfl)
theorem dX2_expandKey_95 : decode cX2_expandKey 95 = .ok (.aload 6, 2) := dk_25 6 (dk_at dksX2_expandKey_4 0 rfl rfl)
theorem dX2_expandKey_97 : decode cX2_expandKey 97 = .ok (.iconst 3, 1) := dk_6 (dk_at dksX2_expandKey_4 2 rfl rfl)
theorem dX2_expandKey_98 : decode cX2_expandKey 98 = .ok (.aload 4, 2) := dk_25 4 (dk_at dksX2_expandKey_4 3 rfl rfl)
theorem dX2_expandKey_100 : decode cX2_expandKey 100 = .ok (.iconst 3, 1) := dk_6 (dk_at dksX2_expandKey_4 5 rfl rfl)
theorem dX2_expandKey_101 : decode cX2_expandKey 101 = .ok (.iaload, 1) := dk_46 (dk_at dksX2_expandKey_4 6 rfl rfl)
theorem dX2_expandKey_102 : decode cX2_expandKey 102 = .ok (.getstatic 34, 3) := dk_178 0 34 (dk_at dksX2_expandKey_4 7 rfl rfl)
theorem dX2_expandKey_105 : decode cX2_expandKey 105 = .ok (.iconst 3, 1) := dk_6 (dk_at dksX2_expandKey_4 10 rfl rfl)
theorem dX2_expandKey_106 : decode cX2_expandKey 106 = .ok (.iaload, 1) := dk_46 (dk_at dksX2_expandKey_4 11 rfl rfl)
theorem dX2_expandKey_107 : decode cX2_expandKey 107 = .ok (.ixor, 1) := dk_130 (dk_at dksX2_expandKey_4 12 rfl rfl)
theorem dX2_expandKey_108 : decode cX2_expandKey 108 = .ok (.iastore, 1) := dk_79 (dk_at dksX2_expandKey_4 13 rfl rfl)
theorem dX2_expandKey_109 : decode cX2_expandKey 109 = .ok (.iload_n 1, 1) := dk_27 (dk_at dksX2_expandKey_4 14 rfl rfl)
theorem dX2_expandKey_110 : decode cX2_expandKey 110 = .ok (.ifCond .eq 183, 3) := dk_153 0 183 (dk_at dksX2_expandKey_4 15 rfl rfl)
theorem dX2_expandKey_113 : decode cX2_expandKey 113 = .ok (.aload_n 3, 1) := dk_45 (dk_at dksX2_expandKey_4 18 rfl rfl)
theorem dX2_expandKey_114 : decode cX2_expandKey 114 = .ok (.iconst 0, 1) := dk_3 (dk_at dksX2_expandKey_4 19 rfl rfl)
theorem dX2_expandKey_115 : decode cX2_expandKey 115 = .ok (.aload 6, 2) := dk_25 6 (dk_at dksX2_expandKey_4 20 rfl rfl)
theorem dX2_expandKey_117 : decode cX2_expandKey 117 = .ok (.iconst 0, 1) := dk_3 (dk_at dksX2_expandKey_4 22 rfl rfl)
theorem dX2_expandKey_118 : decode cX2_expandKey 118 = .ok (.iaload, 1) := dk_46 (dk_at dksX2_expandKey_4 23 rfl rfl)
theorem dX2_expandKey_119 : decode cX2_expandKey 119 = .ok (.aload_n 0, 1) := dk_42 (dk_at dksX2_expandKey_5 0 rfl rfl)
theorem dX2_expandKey_120 : decode cX2_expandKey 120 = .ok (.aload 6, 2) := dk_25 6 (dk_at dksX2_expandKey_5 1 rfl rfl)
theorem dX2_expandKey_122 : decode cX2_expandKey 122 = .ok (.iconst 1, 1) := dk_4 (dk_at dksX2_expandKey_5 3 rfl rfl)
theorem dX2_expandKey_123 : decode cX2_expandKey 123 = .ok (.iaload, 1) := dk_46 (dk_at dksX2_expandKey_5 4 rfl rfl)
theorem dX2_expandKey_124 : decode cX2_expandKey 124 = .ok (.aload 6, 2) := dk_25 6 (dk_at dksX2_expandKey_5 5 rfl rfl)
theorem dX2_expandKey_126 : decode cX2_expandKey 126 = .ok (.iconst 2, 1) := dk_5 (dk_at dksX2_expandKey_5 7 rfl rfl)
theorem dX2_expandKey_127 : decode cX2_expandKey 127 = .ok (.iaload, 1) := dk_46 (dk_at dksX2_expandKey_5 8 rfl rfl)
theorem dX2_expandKey_128 : decode cX2_expandKey 128 = .ok (.ixor, 1) := dk_130 (dk_at dksX2_expandKey_5 9 rfl rfl)
theorem dX2_expandKey_129 : decode cX2_expandKey 129 = .ok (.aload 6, 2) := dk_25 6 (dk_at dksX2_expandKey_5 10 rfl rfl)
theorem dX2_expandKey_131 : decode cX2_expandKey 131 = .ok (.iconst 3, 1) := dk_6 (dk_at dksX2_expandKey_5 12 rfl rfl)
theorem dX2_expandKey_132 : decode cX2_expandKey 132 = .ok (.iaload, 1) := dk_46 (dk_at dksX2_expandKey_5 13 rfl rfl)
theorem dX2_expandKey_133 : decode cX2_expandKey 133 = .ok (.ixor, 1) := dk_130 (dk_at dksX2_expandKey_5 14 rfl rfl)
theorem dX2_expandKey_134 : decode cX2_expandKey 134 = .ok (.getstatic 37, 3) := dk_178 0 37 (dk_at dksX2_expandKey_5 15 rfl rfl)
theorem dX2_expandKey_137 : decode cX2_expandKey 137 = .ok (.iconst 0, 1) := dk_3 (dk_at dksX2_expandKey_5 18 rfl rfl)
theorem dX2_expandKey_138 : decode cX2_expandKey 138 = .ok (.iaload, 1) := dk_46 (dk_at dksX2_expandKey_5 19 rfl rfl)
theorem dX2_expandKey_139 : decode cX2_expandKey 139 = .ok (.ixor, 1) := dk_130 (dk_at dksX2_expandKey_5 20 rfl rfl)
theorem dX2_expandKey_140 : decode cX2_expandKey 140 = .ok (.invokevirtual 40, 3) := dk_182 0 40 (dk_at dksX2_expandKey_5 21 rfl rfl)
theorem dX2_expandKey_143 : decode cX2_expandKey 143 = .ok (.ixor, 1) := dk_130 (dk_at dksX2_expandKey_6 0 rfl rfl)
theorem dX2_expandKey_144 : decode cX2_expandKey 144 = .ok (.iastore, 1) := dk_79 (dk_at dksX2_expandKey_6 1 rfl rfl)
theorem dX2_expandKey_145 : decode cX2_expandKey 145 = .ok (.aload_n 3, 1) := dk_45 (dk_at dksX2_expandKey_6 2 rfl rfl)
theorem dX2_expandKey_146 : decode cX2_expandKey 146 = .ok (.iconst 1, 1) := dk_4 (dk_at dksX2_expandKey_6 3 rfl rfl)
theorem dX2_expandKey_147 : decode cX2_expandKey 147 = .ok (.aload 6, 2) := dk_25 6 (dk_at dksX2_expandKey_6 4 rfl rfl)
theorem dX2_expandKey_149 : decode cX2_expandKey 149 = .ok (.iconst 1, 1) := dk_4 (dk_at dksX2_expandKey_6 6 rfl rfl)
theorem dX2_expandKey_150 : decode cX2_expandKey 150 = .ok (.iaload, 1) := dk_46 (dk_at dksX2_expandKey_6 7 rfl rfl)
theorem dX2_expandKey_151 : decode cX2_expandKey 151 = .ok (.aload_n 0, 1) := dk_42 (dk_at dksX2_expandKey_6 8 rfl rfl)
theorem dX2_expandKey_152 : decode cX2_expandKey 152 = .ok (.aload 6, 2) := dk_25 6 (dk_at dksX2_expandKey_6 9 rfl rfl)
theorem dX2_expandKey_154 : decode cX2_expandKey 154 = .ok (.iconst 2, 1) := dk_5 (dk_at dksX2_expandKey_6 11 rfl rfl)
theorem dX2_expandKey_155 : decode cX2_expandKey 155 = .ok (.iaload, 1) := dk_46 (dk_at dksX2_expandKey_6 12 rfl rfl)
theorem dX2_expandKey_156 : decode cX2_expandKey 156 = .ok (.aload 6, 2) := dk_25 6 (dk_at dksX2_expandKey_6 13 rfl rfl)
theorem dX2_expandKey_158 : decode cX2_expandKey 158 = .ok (.iconst 3, 1) := dk_6 (dk_at dksX2_expandKey_6 15 rfl rfl)
theorem dX2_expandKey_159 : decode cX2_expandKey 159 = .ok (.iaload, 1) := dk_46 (dk_at dksX2_expandKey_6 16 rfl rfl)
theorem dX2_expandKey_160 : decode cX2_expandKey 160 = .ok (.ixor, 1) := dk_130 (dk_at dksX2_expandKey_6 17 rfl rfl)
theorem dX2_expandKey_161 : decode cX2_expandKey 161 = .ok (.aload_n 3, 1) := dk_45 (dk_at dksX2_expandKey_6 18 rfl rfl)
theorem dX2_expandKey_162 : decode cX2_expandKey 162 = .ok (.iconst 0, 1) := dk_3 (dk_at dksX2_expandKey_6 19 rfl rfl)
theorem dX2_expandKey_163 : decode cX2_expandKey 163 = .ok (.iaload, 1) := dk_46 (dk_at dksX2_expandKey_6 20 rfl rfl)
theorem dX2_expandKey_164 : decode cX2_expandKey 164 = .ok (.ixor, 1) := dk_130 (dk_at dksX2_expandKey_6 21 rfl rfl)
theorem dX2_expandKey_165 : decode cX2_expandKey 165 = .ok (.getstatic 37, 3) := dk_178 0 37 (dk_at dksX2_expandKey_7 0 rfl rfl)
theorem dX2_expandKey_168 : decode cX2_expandKey 168 = .ok (.iconst 1, 1) := dk_4 (dk_at dksX2_expandKey_7 3 rfl rfl)
theorem dX2_expandKey_169 : decode cX2_expandKey 169 = .ok (.iaload, 1) := dk_46 (dk_at dksX2_expandKey_7 4 rfl rfl)
theorem dX2_expandKey_170 : decode cX2_expandKey 170 = .ok (.ixor, 1) := dk_130 (dk_at dksX2_expandKey_7 5 rfl rfl)
theorem dX2_expandKey_171 : decode cX2_expandKey 171 = .ok (.invokevirtual 40, 3) := dk_182 0 40 (dk_at dksX2_expandKey_7 6 rfl rfl)
theorem dX2_expandKey_174 : decode cX2_expandKey 174 = .ok (.ixor, 1) := dk_130 (dk_at dksX2_expandKey_7 9 rfl rfl)
theorem dX2_expandKey_175 : decode cX2_expandKey 175 = .ok (.iastore, 1) := dk_79 (dk_at dksX2_expandKey_7 10 rfl rfl)
theorem dX2_expandKey_176 : decode cX2_expandKey 176 = .ok (.aload_n 3, 1) := dk_45 (dk_at dksX2_expandKey_7 11 rfl rfl)
theorem dX2_expandKey_177 : decode cX2_expandKey 177 = .ok (.iconst 2, 1) := dk_5 (dk_at dksX2_expandKey_7 12 rfl rfl)
theorem dX2_expandKey_178 : decode cX2_expandKey 178 = .ok (.aload 6, 2) := dk_25 6 (dk_at dksX2_expandKey_7 13 rfl rfl)
theorem dX2_expandKey_180 : decode cX2_expandKey 180 = .ok (.iconst 2, 1) := dk_5 (dk_at dksX2_expandKey_7 15 rfl rfl)
theorem dX2_expandKey_181 : decode cX2_expandKey 181 = .ok (.iaload, 1) := dk_46 (dk_at dksX2_expandKey_7 16 rfl rfl)
theorem dX2_expandKey_182 : decode cX2_expandKey 182 = .ok (.aload_n 0, 1) := dk_42 (dk_at dksX2_expandKey_7 17 rfl rfl)
theorem dX2_expandKey_183 : decode cX2_expandKey 183 = .ok (.aload 6, 2) := dk_25 6 (dk_at dksX2_expandKey_7 18 rfl rfl)
theorem dX2_expandKey_185 : decode cX2_expandKey 185 = .ok (.iconst 3, 1) := dk_6 (dk_at dksX2_expandKey_7 20 rfl rfl)
theorem dX2_expandKey_186 : decode cX2_expandKey 186 = .ok (.iaload, 1) := dk_46 (dk_at dksX2_expandKey_7 21 rfl rfl)
theorem dX2_expandKey_187 : decode cX2_expandKey 187 = .ok (.aload_n 3, 1) := dk_45 (dk_at dksX2_expandKey_7 22 rfl rfl)
theorem dX2_expandKey_188 : decode cX2_expandKey 188 = .ok (.iconst 0, 1) := dk_3 (dk_at dksX2_expandKey_7 23 rfl rfl)
theorem dX2_expandKey_189 : decode cX2_expandKey 189 = .ok (.iaload, 1) := dk_46 (dk_at dksX2_expandKey_8 0 rfl rfl)
theorem dX2_expandKey_190 : decode cX2_expandKey 190 = .ok (.ixor, 1) := dk_130 (dk_at dksX2_expandKey_8 1 rfl rfl)
theorem dX2_expandKey_191 : decode cX2_expandKey 191 = .ok (.aload_n 3, 1) := dk_45 (dk_at dksX2_expandKey_8 2 rfl rfl)
theorem dX2_expandKey_192 : decode cX2_expandKey 192 = .ok (.iconst 1, 1) := dk_4 (dk_at dksX2_expandKey_8 3 rfl rfl)
theorem dX2_expandKey_193 : decode cX2_expandKey 193 = .ok (.iaload, 1) := dk_46 (dk_at dksX2_expandKey_8 4 rfl rfl)
theorem dX2_expandKey_194 : decode cX2_expandKey 194 = .ok (.ixor, 1) := dk_130 (dk_at dksX2_expandKey_8 5 rfl rfl)
theorem dX2_expandKey_195 : decode cX2_expandKey 195 = .ok (.getstatic 37, 3) := dk_178 0 37 (dk_at dksX2_expandKey_8 6 rfl rfl)
theorem dX2_expandKey_198 : decode cX2_expandKey 198 = .ok (.iconst 2, 1) := dk_5 (dk_at dksX2_expandKey_8 9 rfl rfl)
theorem dX2_expandKey_199 : decode cX2_expandKey 199 = .ok (.iaload, 1) := dk_46 (dk_at dksX2_expandKey_8 10 rfl rfl)
theorem dX2_expandKey_200 : decode cX2_expandKey 200 = .ok (.ixor, 1) := dk_130 (dk_at dksX2_expandKey_8 11 rfl rfl)
theorem dX2_expandKey_201 : decode cX2_expandKey 201 = .ok (.invokevirtual 40, 3) := dk_182 0 40 (dk_at dksX2_expandKey_8 12 rfl rfl)
theorem dX2_expandKey_204 : decode cX2_expandKey 204 = .ok (.ixor, 1) := dk_130 (dk_at dksX2_expandKey_8 15 rfl rfl)
theorem dX2_expandKey_205 : decode cX2_expandKey 205 = .ok (.iastore, 1) := dk_79 (dk_at dksX2_expandKey_8 16 rfl rfl)
theorem dX2_expandKey_206 : decode cX2_expandKey 206 = .ok (.aload_n 3, 1) := dk_45 (dk_at dksX2_expandKey_8 17 rfl rfl)
theorem dX2_expandKey_207 : decode cX2_expandKey 207 = .ok (.iconst 3, 1) := dk_6 (dk_at dksX2_expandKey_8 18 rfl rfl)
theorem dX2_expandKey_208 : decode cX2_expandKey 208 = .ok (.aload 6, 2) := dk_25 6 (dk_at dksX2_expandKey_8 19 rfl rfl)
theorem dX2_expandKey_210 : decode cX2_expandKey 210 = .ok (.iconst 3, 1) := dk_6 (dk_at dksX2_expandKey_8 21 rfl rfl)
theorem dX2_expandKey_211 : decode cX2_expandKey 211 = .ok (.iaload, 1) := dk_46 (dk_at dksX2_expandKey_8 22 rfl rfl)
theorem dX2_expandKey_212 : decode cX2_expandKey 212 = .ok (.aload_n 0, 1) := dk_42 (dk_at dksX2_expandKey_8 23 rfl rfl)
theorem dX2_expandKey_213 : decode cX2_expandKey 213 = .ok (.aload_n 3, 1) := dk_45 (dk_at dksX2_expandKey_9 0 rfl rfl)
theorem dX2_expandKey_214 : decode cX2_expandKey 214 = .ok (.iconst 0, 1) := dk_3 (dk_at dksX2_expandKey_9 1 rfl rfl)
theorem dX2_expandKey_215 : decode cX2_expandKey 215 = .ok (.iaload, 1) := dk_46 (dk_at dksX2_expandKey_9 2 rfl rfl)
theorem dX2_expandKey_216 : decode cX2_expandKey 216 = .ok (.aload_n 3, 1) := dk_45 (dk_at dksX2_expandKey_9 3 rfl rfl)
theorem dX2_expandKey_217 : decode cX2_expandKey 217 = .ok (.iconst 1, 1) := dk_4 (dk_at dksX2_expandKey_9 4 rfl rfl)
theorem dX2_expandKey_218 : decode cX2_expandKey 218 = .ok (.iaload, 1) := dk_46 (dk_at dksX2_expandKey_9 5 rfl rfl)
theorem dX2_expandKey_219 : decode cX2_expandKey 219 = .ok (.ixor, 1) := dk_130 (dk_at dksX2_expandKey_9 6 rfl rfl)
theorem dX2_expandKey_220 : decode cX2_expandKey 220 = .ok (.aload_n 3, 1) := dk_45 (dk_at dksX2_expandKey_9 7 rfl rfl)
theorem dX2_expandKey_221 : decode cX2_expandKey 221 = .ok (.iconst 2, 1) := dk_5 (dk_at dksX2_expandKey_9 8 rfl rfl)
theorem dX2_expandKey_222 : decode cX2_expandKey 222 = .ok (.iaload, 1) := dk_46 (dk_at dksX2_expandKey_9 9 rfl rfl)
theorem dX2_expandKey_223 : decode cX2_expandKey 223 = .ok (.ixor, 1) := dk_130 (dk_at dksX2_expandKey_9 10 rfl rfl)
theorem dX2_expandKey_224 : decode cX2_expandKey 224 = .ok (.getstatic 37, 3) := dk_178 0 37 (dk_at dksX2_expandKey_9 11 rfl rfl)
theorem dX2_expandKey_227 : decode cX2_expandKey 227 = .ok (.iconst 3, 1) := dk_6 (dk_at dksX2_expandKey_9 14 rfl rfl)
theorem dX2_expandKey_228 : decode cX2_expandKey 228 = .ok (.iaload, 1) := dk_46 (dk_at dksX2_expandKey_9 15 rfl rfl)
theorem dX2_expandKey_229 : decode cX2_expandKey 229 = .ok (.ixor, 1) := dk_130 (dk_at dksX2_expandKey_9 16 rfl rfl)
theorem dX2_expandKey_230 : decode cX2_expandKey 230 = .ok (.invokevirtual 40, 3) := dk_182 0 40 (dk_at dksX2_expandKey_9 17 rfl rfl)
theorem dX2_expandKey_233 : decode cX2_expandKey 233 = .ok (.ixor, 1) := dk_130 (dk_at dksX2_expandKey_9 20 rfl rfl)
theorem dX2_expandKey_234 : decode cX2_expandKey 234 = .ok (.iastore, 1) := dk_79 (dk_at dksX2_expandKey_9 21 rfl rfl)
theorem dX2_expandKey_235 : decode cX2_expandKey 235 = .ok (.iconst 4, 1) := dk_7 (dk_at dksX2_expandKey_9 22 rfl rfl)
theorem dX2_expandKey_236 : decode cX2_expandKey 236 = .ok (.istore 5, 2) := dk_54 5 (dk_at dksX2_expandKey_10 0 rfl rfl)
theorem dX2_expandKey_238 : decode cX2_expandKey 238 = .ok (.iload 5, 2) := dk_21 5 (dk_at dksX2_expandKey_10 2 rfl rfl)
theorem dX2_expandKey_240 : decode cX2_expandKey 240 = .ok (.bipush 32, 2) := dk_16 32 (dk_at dksX2_expandKey_10 4 rfl rfl)
theorem dX2_expandKey_242 : decode cX2_expandKey 242 = .ok (.if_icmp .ge 243, 3) := dk_162 0 243 (dk_at dksX2_expandKey_10 6 rfl rfl)
theorem dX2_expandKey_245 : decode cX2_expandKey 245 = .ok (.aload_n 3, 1) := dk_45 (dk_at dksX2_expandKey_10 9 rfl rfl)
theorem dX2_expandKey_246 : decode cX2_expandKey 246 = .ok (.iload 5, 2) := dk_21 5 (dk_at dksX2_expandKey_10 10 rfl rfl)
theorem dX2_expandKey_248 : decode cX2_expandKey 248 = .ok (.aload_n 3, 1) := dk_45 (dk_at dksX2_expandKey_10 12 rfl rfl)
theorem dX2_expandKey_249 : decode cX2_expandKey 249 = .ok (.iload 5, 2) := dk_21 5 (dk_at dksX2_expandKey_10 13 rfl rfl)
theorem dX2_expandKey_251 : decode cX2_expandKey 251 = .ok (.iconst 4, 1) := dk_7 (dk_at dksX2_expandKey_10 15 rfl rfl)
theorem dX2_expandKey_252 : decode cX2_expandKey 252 = .ok (.isub, 1) := dk_100 (dk_at dksX2_expandKey_10 16 rfl rfl)
theorem dX2_expandKey_253 : decode cX2_expandKey 253 = .ok (.iaload, 1) := dk_46 (dk_at dksX2_expandKey_10 17 rfl rfl)
theorem dX2_expandKey_254 : decode cX2_expandKey 254 = .ok (.aload_n 0, 1) := dk_42 (dk_at dksX2_expandKey_10 18 rfl rfl)
theorem dX2_expandKey_255 : decode cX2_expandKey 255 = .ok (.aload_n 3, 1) := dk_45 (dk_at dksX2_expandKey_10 19 rfl rfl)
theorem dX2_expandKey_256 : decode cX2_expandKey 256 = .ok (.iload 5, 2) := dk_21 5 (dk_at dksX2_expandKey_10 20 rfl rfl)
theorem dX2_expandKey_258 : decode cX2_expandKey 258 = .ok (.iconst 3, 1) := dk_6 (dk_at dksX2_expandKey_10 22 rfl rfl)
theorem dX2_expandKey_259 : decode cX2_expandKey 259 = .ok (.isub, 1) := dk_100 (dk_at dksX2_expandKey_10 23 rfl rfl)
theorem dX2_expandKey_260 : decode cX2_expandKey 260 = .ok (.iaload, 1) := dk_46 (dk_at dksX2_expandKey_11 0 rfl rfl)
theorem dX2_expandKey_261 : decode cX2_expandKey 261 = .ok (.aload_n 3, 1) := dk_45 (dk_at dksX2_expandKey_11 1 rfl rfl)
theorem dX2_expandKey_262 : decode cX2_expandKey 262 = .ok (.iload 5, 2) := dk_21 5 (dk_at dksX2_expandKey_11 2 rfl rfl)
theorem dX2_expandKey_264 : decode cX2_expandKey 264 = .ok (.iconst 2, 1) := dk_5 (dk_at dksX2_expandKey_11 4 rfl rfl)
theorem dX2_expandKey_265 : decode cX2_expandKey 265 = .ok (.isub, 1) := dk_100 (dk_at dksX2_expandKey_11 5 rfl rfl)
theorem dX2_expandKey_266 : decode cX2_expandKey 266 = .ok (.iaload, 1) := dk_46 (dk_at dksX2_expandKey_11 6 rfl rfl)
theorem dX2_expandKey_267 : decode cX2_expandKey 267 = .ok (.ixor, 1) := dk_130 (dk_at dksX2_expandKey_11 7 rfl rfl)
theorem dX2_expandKey_268 : decode cX2_expandKey 268 = .ok (.aload_n 3, 1) := dk_45 (dk_at dksX2_expandKey_11 8 rfl rfl)
theorem dX2_expandKey_269 : decode cX2_expandKey 269 = .ok (.iload 5, 2) := dk_21 5 (dk_at dksX2_expandKey_11 9 rfl rfl)
theorem dX2_expandKey_271 : decode cX2_expandKey 271 = .ok (.iconst 1, 1) := dk_4 (dk_at dksX2_expandKey_11 11 rfl rfl)
theorem dX2_expandKey_272 : decode cX2_expandKey 272 = .ok (.isub, 1) := dk_100 (dk_at dksX2_expandKey_11 12 rfl rfl)
theorem dX2_expandKey_273 : decode cX2_expandKey 273 = .ok (.iaload, 1) := dk_46 (dk_at dksX2_expandKey_11 13 rfl rfl)
theorem dX2_expandKey_274 : decode cX2_expandKey 274 = .ok (.ixor, 1) := dk_130 (dk_at dksX2_expandKey_11 14 rfl rfl)
theorem dX2_expandKey_275 : decode cX2_expandKey 275 = .ok (.getstatic 37, 3) := dk_178 0 37 (dk_at dksX2_expandKey_11 15 rfl rfl)
theorem dX2_expandKey_278 : decode cX2_expandKey 278 = .ok (.iload 5, 2) := dk_21 5 (dk_at dksX2_expandKey_11 18 rfl rfl)
theorem dX2_expandKey_280 : decode cX2_expandKey 280 = .ok (.iaload, 1) := dk_46 (dk_at dksX2_expandKey_11 20 rfl rfl)
theorem dX2_expandKey_281 : decode cX2_expandKey 281 = .ok (.ixor, 1) := dk_130 (dk_at dksX2_expandKey_11 21 rfl rfl)
theorem dX2_expandKey_282 : decode cX2_expandKey 282 = .ok (.invokevirtual 40, 3) := dk_182 0 40 (dk_at dksX2_expandKey_12 0 rfl rfl)
theorem dX2_expandKey_285 : decode cX2_expandKey 285 = .ok (.ixor, 1) := dk_130 (dk_at dksX2_expandKey_12 3 rfl rfl)
theorem dX2_expandKey_286 : decode cX2_expandKey 286 = .ok (.iastore, 1) := dk_79 (dk_at dksX2_expandKey_12 4 rfl rfl)
theorem dX2_expandKey_287 : decode cX2_expandKey 287 = .ok (.iinc 5 1, 3) := dk_132 5 1 (dk_at dksX2_expandKey_12 5 rfl rfl)
theorem dX2_expandKey_290 : decode cX2_expandKey 290 = .ok (.goto (-52), 3) := dk_167 255 204 (dk_at dksX2_expandKey_12 8 rfl rfl)
theorem dX2_expandKey_293 : decode cX2_expandKey 293 = .ok (.aload_n 3, 1) := dk_45 (dk_at dksX2_expandKey_12 11 rfl rfl)
theorem dX2_expandKey_294 : decode cX2_expandKey 294 = .ok (.bipush 31, 2) := dk_16 31 (dk_at dksX2_expandKey_12 12 rfl rfl)
theorem dX2_expandKey_296 : decode cX2_expandKey 296 = .ok (.aload 6, 2) := dk_25 6 (dk_at dksX2_expandKey_12 14 rfl rfl)
theorem dX2_expandKey_298 : decode cX2_expandKey 298 = .ok (.iconst 0, 1) := dk_3 (dk_at dksX2_expandKey_12 16 rfl rfl)
theorem dX2_expandKey_299 : decode cX2_expandKey 299 = .ok (.iaload, 1) := dk_46 (dk_at dksX2_expandKey_12 17 rfl rfl)
theorem dX2_expandKey_300 : decode cX2_expandKey 300 = .ok (.aload_n 0, 1) := dk_42 (dk_at dksX2_expandKey_12 18 rfl rfl)
theorem dX2_expandKey_301 : decode cX2_expandKey 301 = .ok (.aload 6, 2) := dk_25 6 (dk_at dksX2_expandKey_12 19 rfl rfl)
theorem dX2_expandKey_303 : decode cX2_expandKey 303 = .ok (.iconst 1, 1) := dk_4 (dk_at dksX2_expandKey_12 21 rfl rfl)
theorem dX2_expandKey_304 : decode cX2_expandKey 304 = .ok (.iaload, 1) := dk_46 (dk_at dksX2_expandKey_12 22 rfl rfl)
theorem dX2_expandKey_305 : decode cX2_expandKey 305 = .ok (.aload 6, 2) := dk_25 6 (dk_at dksX2_expandKey_13 0 rfl rfl)
theorem dX2_expandKey_307 : decode cX2_expandKey 307 = .ok (.iconst 2, 1) := dk_5 (dk_at dksX2_expandKey_13 2 rfl rfl)
theorem dX2_expandKey_308 : decode cX2_expandKey 308 = .ok (.iaload, 1) := dk_46 (dk_at dksX2_expandKey_13 3 rfl rfl)
theorem dX2_expandKey_309 : decode cX2_expandKey 309 = .ok (.ixor, 1) := dk_130 (dk_at dksX2_expandKey_13 4 rfl rfl)
theorem dX2_expandKey_310 : decode cX2_expandKey 310 = .ok (.aload 6, 2) := dk_25 6 (dk_at dksX2_expandKey_13 5 rfl rfl)
theorem dX2_expandKey_312 : decode cX2_expandKey 312 = .ok (.iconst 3, 1) := dk_6 (dk_at dksX2_expandKey_13 7 rfl rfl)
theorem dX2_expandKey_313 : decode cX2_expandKey 313 = .ok (.iaload, 1) := dk_46 (dk_at dksX2_expandKey_13 8 rfl rfl)
theorem dX2_expandKey_314 : decode cX2_expandKey 314 = .ok (.ixor, 1) := dk_130 (dk_at dksX2_expandKey_13 9 rfl rfl)
theorem dX2_expandKey_315 : decode cX2_expandKey 315 = .ok (.getstatic 37, 3) := dk_178 0 37 (dk_at dksX2_expandKey_13 10 rfl rfl)
theorem dX2_expandKey_318 : decode cX2_expandKey 318 = .ok (.iconst 0, 1) := dk_3 (dk_at dksX2_expandKey_13 13 rfl rfl)
theorem dX2_expandKey_319 : decode cX2_expandKey 319 = .ok (.iaload, 1) := dk_46 (dk_at dksX2_expandKey_13 14 rfl rfl)
theorem dX2_expandKey_320 : decode cX2_expandKey 320 = .ok (.ixor, 1) := dk_130 (dk_at dksX2_expandKey_13 15 rfl rfl)
theorem dX2_expandKey_321 : decode cX2_expandKey 321 = .ok (.invokevirtual 40, 3) := dk_182 0 40 (dk_at dksX2_expandKey_13 16 rfl rfl)
theorem dX2_expandKey_324 : decode cX2_expandKey 324 = .ok (.ixor, 1) := dk_130 (dk_at dksX2_expandKey_13 19 rfl rfl)
theorem dX2_expandKey_325 : decode cX2_expandKey 325 = .ok (.iastore, 1) := dk_79 (dk_at dksX2_expandKey_13 20 rfl rfl)
theorem dX2_expandKey_326 : decode cX2_expandKey 326 = .ok (.aload_n 3, 1) := dk_45 (dk_at dksX2_expandKey_13 21 rfl rfl)
theorem dX2_expandKey_327 : decode cX2_expandKey 327 = .ok (.bipush 30, 2) := dk_16 30 (dk_at dksX2_expandKey_13 22 rfl rfl)
theorem dX2_expandKey_329 : decode cX2_expandKey 329 = .ok (.aload 6, 2) := dk_25 6 (dk_at dksX2_expandKey_14 0 rfl rfl)
theorem dX2_expandKey_331 : decode cX2_expandKey 331 = .ok (.iconst 1, 1) := dk_4 (dk_at dksX2_expandKey_14 2 rfl rfl)
theorem dX2_expandKey_332 : decode cX2_expandKey 332 = .ok (.iaload, 1) := dk_46 (dk_at dksX2_expandKey_14 3 rfl rfl)
theorem dX2_expandKey_333 : decode cX2_expandKey 333 = .ok (.aload_n 0, 1) := dk_42 (dk_at dksX2_expandKey_14 4 rfl rfl)
theorem dX2_expandKey_334 : decode cX2_expandKey 334 = .ok (.aload 6, 2) := dk_25 6 (dk_at dksX2_expandKey_14 5 rfl rfl)
theorem dX2_expandKey_336 : decode cX2_expandKey 336 = .ok (.iconst 2, 1) := dk_5 (dk_at dksX2_expandKey_14 7 rfl rfl)
theorem dX2_expandKey_337 : decode cX2_expandKey 337 = .ok (.iaload, 1) := dk_46 (dk_at dksX2_expandKey_14 8 rfl rfl)
theorem dX2_expandKey_338 : decode cX2_expandKey 338 = .ok (.aload 6, 2) := dk_25 6 (dk_at dksX2_expandKey_14 9 rfl rfl)
theorem dX2_expandKey_340 : decode cX2_expandKey 340 = .ok (.iconst 3, 1) := dk_6 (dk_at dksX2_expandKey_14 11 rfl rfl)
theorem dX2_expandKey_341 : decode cX2_expandKey 341 = .ok (.iaload, 1) := dk_46 (dk_at dksX2_expandKey_14 12 rfl rfl)
theorem dX2_expandKey_342 : decode cX2_expandKey 342 = .ok (.ixor, 1) := dk_130 (dk_at dksX2_expandKey_14 13 rfl rfl)
theorem dX2_expandKey_343 : decode cX2_expandKey 343 = .ok (.aload_n 3, 1) := dk_45 (dk_at dksX2_expandKey_14 14 rfl rfl)
theorem dX2_expandKey_344 : decode cX2_expandKey 344 = .ok (.bipush 31, 2) := dk_16 31 (dk_at dksX2_expandKey_14 15 rfl rfl)
theorem dX2_expandKey_346 : decode cX2_expandKey 346 = .ok (.iaload, 1) := dk_46 (dk_at dksX2_expandKey_14 17 rfl rfl)
theorem dX2_expandKey_347 : decode cX2_expandKey 347 = .ok (.ixor, 1) := dk_130 (dk_at dksX2_expandKey_14 18 rfl rfl)
theorem dX2_expandKey_348 : decode cX2_expandKey 348 = .ok (.getstatic 37, 3) := dk_178 0 37 (dk_at dksX2_expandKey_14 19 rfl rfl)
theorem dX2_expandKey_351 : decode cX2_expandKey 351 = .ok (.iconst 1, 1) := dk_4 (dk_at dksX2_expandKey_14 22 rfl rfl)
theorem dX2_expandKey_352 : decode cX2_expandKey 352 = .ok (.iaload, 1) := dk_46 (dk_at dksX2_expandKey_14 23 rfl rfl)
theorem dX2_expandKey_353 : decode cX2_expandKey 353 = .ok (.ixor, 1) := dk_130 (dk_at dksX2_expandKey_15 0 rfl rfl)
theorem dX2_expandKey_354 : decode cX2_expandKey 354 = .ok (.invokevirtual 40, 3) := dk_182 0 40 (dk_at dksX2_expandKey_15 1 rfl rfl)
theorem dX2_expandKey_357 : decode cX2_expandKey 357 = .ok (.ixor, 1) := dk_130 (dk_at dksX2_expandKey_15 4 rfl rfl)
theorem dX2_expandKey_358 : decode cX2_expandKey 358 = .ok (.iastore, 1) := dk_79 (dk_at dksX2_expandKey_15 5 rfl rfl)
theorem dX2_expandKey_359 : decode cX2_expandKey 359 = .ok (.aload_n 3, 1) := dk_45 (dk_at dksX2_expandKey_15 6 rfl rfl)
theorem dX2_expandKey_360 : decode cX2_expandKey 360 = .ok (.bipush 29, 2) := dk_16 29 (dk_at dksX2_expandKey_15 7 rfl rfl)
theorem dX2_expandKey_362 : decode cX2_expandKey 362 = .ok (.aload 6, 2) := dk_25 6 (dk_at dksX2_expandKey_15 9 rfl rfl)
theorem dX2_expandKey_364 : decode cX2_expandKey 364 = .ok (.iconst 2, 1) := dk_5 (dk_at dksX2_expandKey_15 11 rfl rfl)
theorem dX2_expandKey_365 : decode cX2_expandKey 365 = .ok (.iaload, 1) := dk_46 (dk_at dksX2_expandKey_15 12 rfl rfl)
theorem dX2_expandKey_366 : decode cX2_expandKey 366 = .ok (.aload_n 0, 1) := dk_42 (dk_at dksX2_expandKey_15 13 rfl rfl)
theorem dX2_expandKey_367 : decode cX2_expandKey 367 = .ok (.aload 6, 2) := dk_25 6 (dk_at dksX2_expandKey_15 14 rfl rfl)
theorem dX2_expandKey_369 : decode cX2_expandKey 369 = .ok (.iconst 3, 1) := dk_6 (dk_at dksX2_expandKey_15 16 rfl rfl)
theorem dX2_expandKey_370 : decode cX2_expandKey 370 = .ok (.iaload, 1) := dk_46 (dk_at dksX2_expandKey_15 17 rfl rfl)
theorem dX2_expandKey_371 : decode cX2_expandKey 371 = .ok (.aload_n 3, 1) := dk_45 (dk_at dksX2_expandKey_15 18 rfl rfl)
theorem dX2_expandKey_372 : decode cX2_expandKey 372 = .ok (.bipush 31, 2) := dk_16 31 (dk_at dksX2_expandKey_15 19 rfl rfl)
theorem dX2_expandKey_374 : decode cX2_expandKey 374 = .ok (.iaload, 1) := dk_46 (dk_at dksX2_expandKey_15 21 rfl rfl)
theorem dX2_expandKey_375 : decode cX2_expandKey 375 = .ok (.ixor, 1) := dk_130 (dk_at dksX2_expandKey_15 22 rfl rfl)
theorem dX2_expandKey_376 : decode cX2_expandKey 376 = .ok (.aload_n 3, 1) := dk_45 (dk_at dksX2_expandKey_15 23 rfl rfl)
theorem dX2_expandKey_377 : decode cX2_expandKey 377 = .ok (.bipush 30, 2) := dk_16 30 (dk_at dksX2_expandKey_16 0 rfl rfl)
theorem dX2_expandKey_379 : decode cX2_expandKey 379 = .ok (.iaload, 1) := dk_46 (dk_at dksX2_expandKey_16 2 rfl rfl)
theorem dX2_expandKey_380 : decode cX2_expandKey 380 = .ok (.ixor, 1) := dk_130 (dk_at dksX2_expandKey_16 3 rfl rfl)
theorem dX2_expandKey_381 : decode cX2_expandKey 381 = .ok (.getstatic 37, 3) := dk_178 0 37 (dk_at dksX2_expandKey_16 4 rfl rfl)
theorem dX2_expandKey_384 : decode cX2_expandKey 384 = .ok (.iconst 2, 1) := dk_5 (dk_at dksX2_expandKey_16 7 rfl rfl)
theorem dX2_expandKey_385 : decode cX2_expandKey 385 = .ok (.iaload, 1) := dk_46 (dk_at dksX2_expandKey_16 8 rfl rfl)
theorem dX2_expandKey_386 : decode cX2_expandKey 386 = .ok (.ixor, 1) := dk_130 (dk_at dksX2_expandKey_16 9 rfl rfl)
theorem dX2_expandKey_387 : decode cX2_expandKey 387 = .ok (.invokevirtual 40, 3) := dk_182 0 40 (dk_at dksX2_expandKey_16 10 rfl rfl)
theorem dX2_expandKey_390 : decode cX2_expandKey 390 = .ok (.ixor, 1) := dk_130 (dk_at dksX2_expandKey_16 13 rfl rfl)
theorem dX2_expandKey_391 : decode cX2_expandKey 391 = .ok (.iastore, 1) := dk_79 (dk_at dksX2_expandKey_16 14 rfl rfl)
theorem dX2_expandKey_392 : decode cX2_expandKey 392 = .ok (.aload_n 3, 1) := dk_45 (dk_at dksX2_expandKey_16 15 rfl rfl)
theorem dX2_expandKey_393 : decode cX2_expandKey 393 = .ok (.bipush 28, 2) := dk_16 28 (dk_at dksX2_expandKey_16 16 rfl rfl)
theorem dX2_expandKey_395 : decode cX2_expandKey 395 = .ok (.aload 6, 2) := dk_25 6 (dk_at dksX2_expandKey_16 18 rfl rfl)
theorem dX2_expandKey_397 : decode cX2_expandKey 397 = .ok (.iconst 3, 1) := dk_6 (dk_at dksX2_expandKey_16 20 rfl rfl)
theorem dX2_expandKey_398 : decode cX2_expandKey 398 = .ok (.iaload, 1) := dk_46 (dk_at dksX2_expandKey_16 21 rfl rfl)
theorem dX2_expandKey_399 : decode cX2_expandKey 399 = .ok (.aload_n 0, 1) := dk_42 (dk_at dksX2_expandKey_16 22 rfl rfl)
theorem dX2_expandKey_400 : decode cX2_expandKey 400 = .ok (.aload_n 3, 1) := dk_45 (dk_at dksX2_expandKey_16 23 rfl rfl)
theorem dX2_expandKey_401 : decode cX2_expandKey 401 = .ok (.bipush 31, 2) := dk_16 31 (dk_at dksX2_expandKey_17 0 rfl rfl)
theorem dX2_expandKey_403 : decode cX2_expandKey 403 = .ok (.iaload, 1) := dk_46 (dk_at dksX2_expandKey_17 2 rfl rfl)
theorem dX2_expandKey_404 : decode cX2_expandKey 404 = .ok (.aload_n 3, 1) := dk_45 (dk_at dksX2_expandKey_17 3 rfl rfl)
theorem dX2_expandKey_405 : decode cX2_expandKey 405 = .ok (.bipush 30, 2) := dk_16 30 (dk_at dksX2_expandKey_17 4 rfl rfl)
theorem dX2_expandKey_407 : decode cX2_expandKey 407 = .ok (.iaload, 1) := dk_46 (dk_at dksX2_expandKey_17 6 rfl rfl)
theorem dX2_expandKey_408 : decode cX2_expandKey 408 = .ok (.ixor, 1) := dk_130 (dk_at dksX2_expandKey_17 7 rfl rfl)
theorem dX2_expandKey_409 : decode cX2_expandKey 409 = .ok (.aload_n 3, 1) := dk_45 (dk_at dksX2_expandKey_17 8 rfl rfl)
theorem dX2_expandKey_410 : decode cX2_expandKey 410 = .ok (.bipush 29, 2) := dk_16 29 (dk_at dksX2_expandKey_17 9 rfl rfl)
theorem dX2_expandKey_412 : decode cX2_expandKey 412 = .ok (.iaload, 1) := dk_46 (dk_at dksX2_expandKey_17 11 rfl rfl)
theorem dX2_expandKey_413 : decode cX2_expandKey 413 = .ok (.ixor, 1) := dk_130 (dk_at dksX2_expandKey_17 12 rfl rfl)
theorem dX2_expandKey_414 : decode cX2_expandKey 414 = .ok (.getstatic 37, 3) := dk_178 0 37 (dk_at dksX2_expandKey_17 13 rfl rfl)
theorem dX2_expandKey_417 : decode cX2_expandKey 417 = .ok (.iconst 3, 1) := dk_6 (dk_at dksX2_expandKey_17 16 rfl rfl)
theorem dX2_expandKey_418 : decode cX2_expandKey 418 = .ok (.iaload, 1) := dk_46 (dk_at dksX2_expandKey_17 17 rfl rfl)
theorem dX2_expandKey_419 : decode cX2_expandKey 419 = .ok (.ixor, 1) := dk_130 (dk_at dksX2_expandKey_17 18 rfl rfl)
theorem dX2_expandKey_420 : decode cX2_expandKey 420 = .ok (.invokevirtual 40, 3) := dk_182 0 40 (dk_at dksX2_expandKey_17 19 rfl rfl)
theorem dX2_expandKey_423 : decode cX2_expandKey 423 = .ok (.ixor, 1) := dk_130 (dk_at dksX2_expandKey_17 22 rfl rfl)
theorem dX2_expandKey_424 : decode cX2_expandKey 424 = .ok (.iastore, 1) := dk_79 (dk_at dksX2_expandKey_17 23 rfl rfl)
theorem dX2_expandKey_425 : decode cX2_expandKey 425 = .ok (.bipush 27, 2) := dk_16 27 (dk_at dksX2_expandKey_18 0 rfl rfl)
theorem dX2_expandKey_427 : decode cX2_expandKey 427 = .ok (.istore 5, 2) := dk_54 5 (dk_at dksX2_expandKey_18 2 rfl rfl)
theorem dX2_expandKey_429 : decode cX2_expandKey 429 = .ok (.iload 5, 2) := dk_21 5 (dk_at dksX2_expandKey_18 4 rfl rfl)
theorem dX2_expandKey_431 : decode cX2_expandKey 431 = .ok (.ifCond .lt 54, 3) := dk_155 0 54 (dk_at dksX2_expandKey_18 6 rfl rfl)
theorem dX2_expandKey_434 : decode cX2_expandKey 434 = .ok (.aload_n 3, 1) := dk_45 (dk_at dksX2_expandKey_18 9 rfl rfl)
theorem dX2_expandKey_435 : decode cX2_expandKey 435 = .ok (.iload 5, 2) := dk_21 5 (dk_at dksX2_expandKey_18 10 rfl rfl)
theorem dX2_expandKey_437 : decode cX2_expandKey 437 = .ok (.aload_n 3, 1) := dk_45 (dk_at dksX2_expandKey_18 12 rfl rfl)
theorem dX2_expandKey_438 : decode cX2_expandKey 438 = .ok (.iload 5, 2) := dk_21 5 (dk_at dksX2_expandKey_18 13 rfl rfl)
theorem dX2_expandKey_440 : decode cX2_expandKey 440 = .ok (.iconst 4, 1) := dk_7 (dk_at dksX2_expandKey_18 15 rfl rfl)
theorem dX2_expandKey_441 : decode cX2_expandKey 441 = .ok (.iadd, 1) := dk_96 (dk_at dksX2_expandKey_18 16 rfl rfl)
theorem dX2_expandKey_442 : decode cX2_expandKey 442 = .ok (.iaload, 1) := dk_46 (dk_at dksX2_expandKey_18 17 rfl rfl)
theorem dX2_expandKey_443 : decode cX2_expandKey 443 = .ok (.aload_n 0, 1) := dk_42 (dk_at dksX2_expandKey_18 18 rfl rfl)
theorem dX2_expandKey_444 : decode cX2_expandKey 444 = .ok (.aload_n 3, 1) := dk_45 (dk_at dksX2_expandKey_18 19 rfl rfl)
theorem dX2_expandKey_445 : decode cX2_expandKey 445 = .ok (.iload 5, 2) := dk_21 5 (dk_at dksX2_expandKey_18 20 rfl rfl)
theorem dX2_expandKey_447 : decode cX2_expandKey 447 = .ok (.iconst 3, 1) := dk_6 (dk_at dksX2_expandKey_18 22 rfl rfl)
theorem dX2_expandKey_448 : decode cX2_expandKey 448 = .ok (.iadd, 1) := dk_96 (dk_at dksX2_expandKey_18 23 rfl rfl)
theorem dX2_expandKey_449 : decode cX2_expandKey 449 = .ok (.iaload, 1) := dk_46 (dk_at dksX2_expandKey_19 0 rfl rfl)
theorem dX2_expandKey_450 : decode cX2_expandKey 450 = .ok (.aload_n 3, 1) := dk_45 (dk_at dksX2_expandKey_19 1 rfl rfl)
theorem dX2_expandKey_451 : decode cX2_expandKey 451 = .ok (.iload 5, 2) := dk_21 5 (dk_at dksX2_expandKey_19 2 rfl rfl)
theorem dX2_expandKey_453 : decode cX2_expandKey 453 = .ok (.iconst 2, 1) := dk_5 (dk_at dksX2_expandKey_19 4 rfl rfl)
theorem dX2_expandKey_454 : decode cX2_expandKey 454 = .ok (.iadd, 1) := dk_96 (dk_at dksX2_expandKey_19 5 rfl rfl)
theorem dX2_expandKey_455 : decode cX2_expandKey 455 = .ok (.iaload, 1) := dk_46 (dk_at dksX2_expandKey_19 6 rfl rfl)
theorem dX2_expandKey_456 : decode cX2_expandKey 456 = .ok (.ixor, 1) := dk_130 (dk_at dksX2_expandKey_19 7 rfl rfl)
theorem dX2_expandKey_457 : decode cX2_expandKey 457 = .ok (.aload_n 3, 1) := dk_45 (dk_at dksX2_expandKey_19 8 rfl rfl)
theorem dX2_expandKey_458 : decode cX2_expandKey 458 = .ok (.iload 5, 2) := dk_21 5 (dk_at dksX2_expandKey_19 9 rfl rfl)
theorem dX2_expandKey_460 : decode cX2_expandKey 460 = .ok (.iconst 1, 1) := dk_4 (dk_at dksX2_expandKey_19 11 rfl rfl)
theorem dX2_expandKey_461 : decode cX2_expandKey 461 = .ok (.iadd, 1) := dk_96 (dk_at dksX2_expandKey_19 12 rfl rfl)
theorem dX2_expandKey_462 : decode cX2_expandKey 462 = .ok (.iaload, 1) := dk_46 (dk_at dksX2_expandKey_19 13 rfl rfl)
theorem dX2_expandKey_463 : decode cX2_expandKey 463 = .ok (.ixor, 1) := dk_130 (dk_at dksX2_expandKey_19 14 rfl rfl)
theorem dX2_expandKey_464 : decode cX2_expandKey 464 = .ok (.getstatic 37, 3) := dk_178 0 37 (dk_at dksX2_expandKey_19 15 rfl rfl)
theorem dX2_expandKey_467 : decode cX2_expandKey 467 = .ok (.bipush 31, 2) := dk_16 31 (dk_at dksX2_expandKey_19 18 rfl rfl)
theorem dX2_expandKey_469 : decode cX2_expandKey 469 = .ok (.iload 5, 2) := dk_21 5 (dk_at dksX2_expandKey_19 20 rfl rfl)
theorem dX2_expandKey_471 : decode cX2_expandKey 471 = .ok (.isub, 1) := dk_100 (dk_at dksX2_expandKey_19 22 rfl rfl)
theorem dX2_expandKey_472 : decode cX2_expandKey 472 = .ok (.iaload, 1) := dk_46 (dk_at dksX2_expandKey_19 23 rfl rfl)
theorem dX2_expandKey_473 : decode cX2_expandKey 473 = .ok (.ixor, 1) := dk_130 (dk_at dksX2_expandKey_20 0 rfl rfl)
theorem dX2_expandKey_474 : decode cX2_expandKey 474 = .ok (.invokevirtual 40, 3) := dk_182 0 40 (dk_at dksX2_expandKey_20 1 rfl rfl)
theorem dX2_expandKey_477 : decode cX2_expandKey 477 = .ok (.ixor, 1) := dk_130 (dk_at dksX2_expandKey_20 4 rfl rfl)
theorem dX2_expandKey_478 : decode cX2_expandKey 478 = .ok (.iastore, 1) := dk_79 (dk_at dksX2_expandKey_20 5 rfl rfl)
theorem dX2_expandKey_479 : decode cX2_expandKey 479 = .ok (.iinc 5 (-1), 3) := dk_132 5 255 (dk_at dksX2_expandKey_20 6 rfl rfl)
theorem dX2_expandKey_482 : decode cX2_expandKey 482 = .ok (.goto (-53), 3) := dk_167 255 203 (dk_at dksX2_expandKey_20 9 rfl rfl)
theorem dX2_expandKey_485 : decode cX2_expandKey 485 = .ok (.aload_n 3, 1) := dk_45 (dk_at dksX2_expandKey_20 12 rfl rfl)
theorem dX2_expandKey_486 : decode cX2_expandKey 486 = .ok (.areturn, 1) := dk_176 (dk_at dksX2_expandKey_20 13 rfl rfl)
abbrev cX2_T_ap : ByteArray := prog_8_method_5_code
def yX2_T_ap : MethodName := ⟨RX2, "T_ap", "(I)I"⟩
def dkwX2_T_ap_0 : List UInt8 := [42, 42, 27, 182, 0, 21, 182, 0, 25, 172]
abbrev dktX2_T_ap_0 : List UInt8 := dkwX2_T_ap_0 ++ []
theorem dksX2_T_ap_0 : cX2_T_ap.data.toList.drop 0 = dktX2_T_ap_0 := by decide +kernel
theorem dX2_T_ap_0 : decode cX2_T_ap 0 = .ok (.aload_n 0, 1) := dk_42 (dk_at dksX2_T_ap_0 0 rfl rfl)
theorem dX2_T_ap_1 : decode cX2_T_ap 1 = .ok (.aload_n 0, 1) := dk_42 (dk_at dksX2_T_ap_0 1 rfl rfl)
theorem dX2_T_ap_2 : decode cX2_T_ap 2 = .ok (.iload_n 1, 1) := dk_27 (dk_at dksX2_T_ap_0 2 rfl rfl)
theorem dX2_T_ap_3 : decode cX2_T_ap 3 = .ok (.invokevirtual 21, 3) := dk_182 0 21 (dk_at dksX2_T_ap_0 3 rfl rfl)
theorem dX2_T_ap_6 : decode cX2_T_ap 6 = .ok (.invokevirtual 25, 3) := dk_182 0 25 (dk_at dksX2_T_ap_0 6 rfl rfl)
theorem dX2_T_ap_9 : decode cX2_T_ap 9 = .ok (.ireturn, 1) := dk_172 (dk_at dksX2_T_ap_0 9 rfl rfl)
abbrev cX2_tau : ByteArray := prog_8_method_3_code
def yX2_tau : MethodName := ⟨RX2, "tau", "(I)I"⟩
def dkwX2_tau_3 : List UInt8 := [120, 29, 16, 16, 120, 128, 21, 4, 16, 8, 120, 128, 21, 5, 128, 172]
abbrev dktX2_tau_3 : List UInt8 := dkwX2_tau_3 ++ []
def dkwX2_tau_2 : List UInt8 := [17, 0, 255, 126, 54, 4, 178, 0, 13, 27, 17, 0, 255, 126, 51, 17, 0, 255, 126, 54, 5, 28, 16, 24]
abbrev dktX2_tau_2 : List UInt8 := dkwX2_tau_2 ++ dktX2_tau_3
def dkwX2_tau_1 : List UInt8 := [17, 0, 255, 126, 51, 17, 0, 255, 126, 62, 178, 0, 13, 27, 16, 8, 122, 17, 0, 255, 126, 51]
abbrev dktX2_tau_1 : List UInt8 := dkwX2_tau_1 ++ dktX2_tau_2
def dkwX2_tau_0 : List UInt8 := [178, 0, 13, 27, 16, 24, 122, 17, 0, 255, 126, 51, 17, 0, 255, 126, 61, 178, 0, 13, 27, 16, 16, 122]
abbrev dktX2_tau_0 : List UInt8 := dkwX2_tau_0 ++ dktX2_tau_1
theorem dksX2_tau_0 : cX2_tau.data.toList.drop 0 = dktX2_tau_0 := by decide +kernel
theorem dksX2_tau_1 : cX2_tau.data.toList.drop 24 = dktX2_tau_1 := dk_seg dksX2_tau_0 24 rfl rfl
theorem dksX2_tau_2 : cX2_tau.data.toList.drop 46 = dktX2_tau_2 := dk_seg dksX2_tau_1 22 rfl rfl
theorem dksX2_tau_3 : cX2_tau.data.toList.drop 70 = dktX2_tau_3 := dk_seg dksX2_tau_2 24 rfl rfl
theorem dX2_tau_0 : decode cX2_tau 0 = .ok (.getstatic 13, 3) := dk_178 0 13 (dk_at dksX2_tau_0 0 rfl rfl)
theorem dX2_tau_3 : decode cX2_tau 3 = .ok (.iload_n 1, 1) := dk_27 (dk_at dksX2_tau_0 3 rfl rfl)
theorem dX2_tau_4 : decode cX2_tau 4 = .ok (.bipush 24, 2) := dk_16 24 (dk_at dksX2_tau_0 4 rfl rfl)
theorem dX2_tau_6 : decode cX2_tau 6 = .ok (.ishr, 1) := dk_122 (dk_at dksX2_tau_0 6 rfl rfl)
theorem dX2_tau_7 : decode cX2_tau 7 = .ok (.sipush 255, 3) := dk_17 0 255 (dk_at dksX2_tau_0 7 rfl rfl)
theorem dX2_tau_10 : decode cX2_tau 10 = .ok (.iand, 1) := dk_126 (dk_at dksX2_tau_0 10 rfl rfl)
theorem dX2_tau_11 : decode cX2_tau 11 = .ok (.baload, 1) := dk_51 (dk_at dksX2_tau_0 11 rfl rfl)
theorem dX2_tau_12 : decode cX2_tau 12 = .ok (.sipush 255, 3) := dk_17 0 255 (dk_at dksX2_tau_0 12 rfl rfl)
theorem dX2_tau_15 : decode cX2_tau 15 = .ok (.iand, 1) := dk_126 (dk_at dksX2_tau_0 15 rfl rfl)
theorem dX2_tau_16 : decode cX2_tau 16 = .ok (.istore_n 2, 1) := dk_61 (dk_at dksX2_tau_0 16 rfl rfl)
theorem dX2_tau_17 : decode cX2_tau 17 = .ok (.getstatic 13, 3) := dk_178 0 13 (dk_at dksX2_tau_0 17 rfl rfl)
theorem dX2_tau_20 : decode cX2_tau 20 = .ok (.iload_n 1, 1) := dk_27 (dk_at dksX2_tau_0 20 rfl rfl)
theorem dX2_tau_21 : decode cX2_tau 21 = .ok (.bipush 16, 2) := dk_16 16 (dk_at dksX2_tau_0 21 rfl rfl)
theorem dX2_tau_23 : decode cX2_tau 23 = .ok (.ishr, 1) := dk_122 (dk_at dksX2_tau_0 23 rfl rfl)
theorem dX2_tau_24 : decode cX2_tau 24 = .ok (.sipush 255, 3) := dk_17 0 255 (dk_at dksX2_tau_1 0 rfl rfl)
theorem dX2_tau_27 : decode cX2_tau 27 = .ok (.iand, 1) := dk_126 (dk_at dksX2_tau_1 3 rfl rfl)
theorem dX2_tau_28 : decode cX2_tau 28 = .ok (.baload, 1) := dk_51 (dk_at dksX2_tau_1 4 rfl rfl)
theorem dX2_tau_29 : decode cX2_tau 29 = .ok (.sipush 255, 3) := dk_17 0 255 (dk_at dksX2_tau_1 5 rfl rfl)
theorem dX2_tau_32 : decode cX2_tau 32 = .ok (.iand, 1) := dk_126 (dk_at dksX2_tau_1 8 rfl rfl)
theorem dX2_tau_33 : decode cX2_tau 33 = .ok (.istore_n 3, 1) := dk_62 (dk_at dksX2_tau_1 9 rfl rfl)
theorem dX2_tau_34 : decode cX2_tau 34 = .ok (.getstatic 13, 3) := dk_178 0 13 (dk_at dksX2_tau_1 10 rfl rfl)
theorem dX2_tau_37 : decode cX2_tau 37 = .ok (.iload_n 1, 1) := dk_27 (dk_at dksX2_tau_1 13 rfl rfl)
theorem dX2_tau_38 : decode cX2_tau 38 = .ok (.bipush 8, 2) := dk_16 8 (dk_at dksX2_tau_1 14 rfl rfl)
theorem dX2_tau_40 : decode cX2_tau 40 = .ok (.ishr, 1) := dk_122 (dk_at dksX2_tau_1 16 rfl rfl)
theorem dX2_tau_41 : decode cX2_tau 41 = .ok (.sipush 255, 3) := dk_17 0 255 (dk_at dksX2_tau_1 17 rfl rfl)
theorem dX2_tau_44 : decode cX2_tau 44 = .ok (.iand, 1) := dk_126 (dk_at dksX2_tau_1 20 rfl rfl)
theorem dX2_tau_45 : decode cX2_tau 45 = .ok (.baload, 1) := dk_51 (dk_at dksX2_tau_1 21 rfl rfl)
theorem dX2_tau_46 : decode cX2_tau 46 = .ok (.sipush 255, 3) := dk_17 0 255 (dk_at dksX2_tau_2 0 rfl rfl)
theorem dX2_tau_49 : decode cX2_tau 49 = .ok (.iand, 1) := dk_126 (dk_at dksX2_tau_2 3 rfl rfl)
theorem dX2_tau_50 : decode cX2_tau 50 = .ok (.istore 4, 2) := dk_54 4 (dk_at dksX2_tau_2 4 rfl rfl)
theorem dX2_tau_52 : decode cX2_tau 52 = .ok (.getstatic 13, 3) := dk_178 0 13 (dk_at dksX2_tau_2 6 rfl rfl)
theorem dX2_tau_55 : decode cX2_tau 55 = .ok (.iload_n 1, 1) := dk_27 (dk_at dksX2_tau_2 9 rfl rfl)
theorem dX2_tau_56 : decode cX2_tau 56 = .ok (.sipush 255, 3) := dk_17 0 255 (dk_at dksX2_tau_2 10 rfl rfl)
theorem dX2_tau_59 : decode cX2_tau 59 = .ok (.iand, 1) := dk_126 (dk_at dksX2_tau_2 13 rfl rfl)
theorem dX2_tau_60 : decode cX2_tau 60 = .ok (.baload, 1) := dk_51 (dk_at dksX2_tau_2 14 rfl rfl)
theorem dX2_tau_61 : decode cX2_tau 61 = .ok (.sipush 255, 3) := dk_17 0 255 (dk_at dksX2_tau_2 15 rfl rfl)
theorem dX2_tau_64 : decode cX2_tau 64 = .ok (.iand, 1) := dk_126 (dk_at dksX2_tau_2 18 rfl rfl)
theorem dX2_tau_65 : decode cX2_tau 65 = .ok (.istore 5, 2) := dk_54 5 (dk_at dksX2_tau_2 19 rfl rfl)
theorem dX2_tau_67 : decode cX2_tau 67 = .ok (.iload_n 2, 1) := dk_28 (dk_at dksX2_tau_2 21 rfl rfl)
theorem dX2_tau_68 : decode cX2_tau 68 = .ok (.bipush 24, 2) := dk_16 24 (dk_at dksX2_tau_2 22 rfl rfl)
theorem dX2_tau_70 : decode cX2_tau 70 = .ok (.ishl, 1) := dk_120 (dk_at dksX2_tau_3 0 rfl rfl)
theorem dX2_tau_71 : decode cX2_tau 71 = .ok (.iload_n 3, 1) := dk_29 (dk_at dksX2_tau_3 1 rfl rfl)
theorem dX2_tau_72 : decode cX2_tau 72 = .ok (.bipush 16, 2) := dk_16 16 (dk_at dksX2_tau_3 2 rfl rfl)
theorem dX2_tau_74 : decode cX2_tau 74 = .ok (.ishl, 1) := dk_120 (dk_at dksX2_tau_3 4 rfl rfl)
theorem dX2_tau_75 : decode cX2_tau 75 = .ok (.ior, 1) := dk_128 (dk_at dksX2_tau_3 5 rfl rfl)
theorem dX2_tau_76 : decode cX2_tau 76 = .ok (.iload 4, 2) := dk_21 4 (dk_at dksX2_tau_3 6 rfl rfl)
theorem dX2_tau_78 : decode cX2_tau 78 = .ok (.bipush 8, 2) := dk_16 8 (dk_at dksX2_tau_3 8 rfl rfl)
theorem dX2_tau_80 : decode cX2_tau 80 = .ok (.ishl, 1) := dk_120 (dk_at dksX2_tau_3 10 rfl rfl)
theorem dX2_tau_81 : decode cX2_tau 81 = .ok (.ior, 1) := dk_128 (dk_at dksX2_tau_3 11 rfl rfl)
theorem dX2_tau_82 : decode cX2_tau 82 = .ok (.iload 5, 2) := dk_21 5 (dk_at dksX2_tau_3 12 rfl rfl)
theorem dX2_tau_84 : decode cX2_tau 84 = .ok (.ior, 1) := dk_128 (dk_at dksX2_tau_3 14 rfl rfl)
theorem dX2_tau_85 : decode cX2_tau 85 = .ok (.ireturn, 1) := dk_172 (dk_at dksX2_tau_3 15 rfl rfl)
abbrev cX2_L_ap : ByteArray := prog_8_method_4_code
def yX2_L_ap : MethodName := ⟨RX2, "L_ap", "(I)I"⟩
def dkwX2_L_ap_0 : List UInt8 := [27, 42, 27, 16, 13, 182, 0, 17, 130, 42, 27, 16, 23, 182, 0, 17, 130, 172]
abbrev dktX2_L_ap_0 : List UInt8 := dkwX2_L_ap_0 ++ []
theorem dksX2_L_ap_0 : cX2_L_ap.data.toList.drop 0 = dktX2_L_ap_0 := by decide +kernel
theorem dX2_L_ap_0 : decode cX2_L_ap 0 = .ok (.iload_n 1, 1) := dk_27 (dk_at dksX2_L_ap_0 0 rfl rfl)
theorem dX2_L_ap_1 : decode cX2_L_ap 1 = .ok (.aload_n 0, 1) := dk_42 (dk_at dksX2_L_ap_0 1 rfl rfl)
theorem dX2_L_ap_2 : decode cX2_L_ap 2 = .ok (.iload_n 1, 1) := dk_27 (dk_at dksX2_L_ap_0 2 rfl rfl)
theorem dX2_L_ap_3 : decode cX2_L_ap 3 = .ok (.bipush 13, 2) := dk_16 13 (dk_at dksX2_L_ap_0 3 rfl rfl)
theorem dX2_L_ap_5 : decode cX2_L_ap 5 = .ok (.invokevirtual 17, 3) := dk_182 0 17 (dk_at dksX2_L_ap_0 5 rfl rfl)
theorem dX2_L_ap_8 : decode cX2_L_ap 8 = .ok (.ixor, 1) := dk_130 (dk_at dksX2_L_ap_0 8 rfl rfl)
theorem dX2_L_ap_9 : decode cX2_L_ap 9 = .ok (.aload_n 0, 1) := dk_42 (dk_at dksX2_L_ap_0 9 rfl rfl)
theorem dX2_L_ap_10 : decode cX2_L_ap 10 = .ok (.iload_n 1, 1) := dk_27 (dk_at dksX2_L_ap_0 10 rfl rfl)
theorem dX2_L_ap_11 : decode cX2_L_ap 11 = .ok (.bipush 23, 2) := dk_16 23 (dk_at dksX2_L_ap_0 11 rfl rfl)
theorem dX2_L_ap_13 : decode cX2_L_ap 13 = .ok (.invokevirtual 17, 3) := dk_182 0 17 (dk_at dksX2_L_ap_0 13 rfl rfl)
theorem dX2_L_ap_16 : decode cX2_L_ap 16 = .ok (.ixor, 1) := dk_130 (dk_at dksX2_L_ap_0 16 rfl rfl)
theorem dX2_L_ap_17 : decode cX2_L_ap 17 = .ok (.ireturn, 1) := dk_172 (dk_at dksX2_L_ap_0 17 rfl rfl)
abbrev cX2_rotateLeft : ByteArray := prog_8_method_2_code
def yX2_rotateLeft : MethodName := ⟨RX2, "rotateLeft", "(II)I"⟩
def dkwX2_rotateLeft_0 : List UInt8 := [27, 28, 120, 27, 28, 116, 124, 128, 172]
abbrev dktX2_rotateLeft_0 : List UInt8 := dkwX2_rotateLeft_0 ++ []
theorem dksX2_rotateLeft_0 : cX2_rotateLeft.data.toList.drop 0 = dktX2_rotateLeft_0 := by decide +kernel
theorem dX2_rotateLeft_0 : decode cX2_rotateLeft 0 = .ok (.iload_n 1, 1) := dk_27 (dk_at dksX2_rotateLeft_0 0 rfl rfl)
theorem dX2_rotateLeft_1 : decode cX2_rotateLeft 1 = .ok (.iload_n 2, 1) := dk_28 (dk_at dksX2_rotateLeft_0 1 rfl rfl)
theorem dX2_rotateLeft_2 : decode cX2_rotateLeft 2 = .ok (.ishl, 1) := dk_120 (dk_at dksX2_rotateLeft_0 2 rfl rfl)
theorem dX2_rotateLeft_3 : decode cX2_rotateLeft 3 = .ok (.iload_n 1, 1) := dk_27 (dk_at dksX2_rotateLeft_0 3 rfl rfl)
theorem dX2_rotateLeft_4 : decode cX2_rotateLeft 4 = .ok (.iload_n 2, 1) := dk_28 (dk_at dksX2_rotateLeft_0 4 rfl rfl)
theorem dX2_rotateLeft_5 : decode cX2_rotateLeft 5 = .ok (.ineg, 1) := dk_116 (dk_at dksX2_rotateLeft_0 5 rfl rfl)
theorem dX2_rotateLeft_6 : decode cX2_rotateLeft 6 = .ok (.iushr, 1) := dk_124 (dk_at dksX2_rotateLeft_0 6 rfl rfl)
theorem dX2_rotateLeft_7 : decode cX2_rotateLeft 7 = .ok (.ior, 1) := dk_128 (dk_at dksX2_rotateLeft_0 7 rfl rfl)
theorem dX2_rotateLeft_8 : decode cX2_rotateLeft 8 = .ok (.ireturn, 1) := dk_172 (dk_at dksX2_rotateLeft_0 8 rfl rfl)
abbrev cX2_processBlock : ByteArray := prog_8_method_14_code
def yX2_processBlock : MethodName := ⟨RX2, "processBlock", "([BI[BI)I"⟩
def dkwX2_processBlock_11 : List UInt8 := [96, 184, 0, 99, 42, 180, 0, 7, 3, 46, 45, 21, 4, 16, 12, 96, 184, 0, 99, 16, 16, 172]
abbrev dktX2_processBlock_11 : List UInt8 := dkwX2_processBlock_11 ++ []
def dkwX2_processBlock_10 : List UInt8 := [180, 0, 7, 5, 46, 45, 21, 4, 7, 96, 184, 0, 99, 42, 180, 0, 7, 4, 46, 45, 21, 4, 16, 8]
abbrev dktX2_processBlock_10 : List UInt8 := dkwX2_processBlock_10 ++ dktX2_processBlock_11
def dkwX2_processBlock_9 : List UInt8 := [182, 0, 96, 79, 132, 5, 4, 167, 255, 156, 42, 180, 0, 7, 6, 46, 45, 21, 4, 184, 0, 99, 42]
abbrev dktX2_processBlock_9 : List UInt8 := dkwX2_processBlock_9 ++ dktX2_processBlock_10
def dkwX2_processBlock_8 : List UInt8 := [182, 0, 93, 79, 42, 180, 0, 7, 6, 42, 42, 180, 0, 7, 42, 180, 0, 66, 21, 5, 6, 96, 46]
abbrev dktX2_processBlock_8 : List UInt8 := dkwX2_processBlock_8 ++ dktX2_processBlock_9
def dkwX2_processBlock_7 : List UInt8 := [182, 0, 90, 79, 42, 180, 0, 7, 5, 42, 42, 180, 0, 7, 42, 180, 0, 66, 21, 5, 5, 96, 46]
abbrev dktX2_processBlock_7 : List UInt8 := dkwX2_processBlock_7 ++ dktX2_processBlock_8
def dkwX2_processBlock_6 : List UInt8 := [182, 0, 86, 79, 42, 180, 0, 7, 4, 42, 42, 180, 0, 7, 42, 180, 0, 66, 21, 5, 4, 96, 46]
abbrev dktX2_processBlock_6 : List UInt8 := dkwX2_processBlock_6 ++ dktX2_processBlock_7
def dkwX2_processBlock_5 : List UInt8 := [16, 32, 162, 0, 99, 42, 180, 0, 7, 3, 42, 42, 180, 0, 7, 42, 180, 0, 66, 21, 5, 46]
abbrev dktX2_processBlock_5 : List UInt8 := dkwX2_processBlock_5 ++ dktX2_processBlock_6
def dkwX2_processBlock_4 : List UInt8 := [184, 0, 28, 79, 42, 180, 0, 7, 6, 43, 28, 16, 12, 96, 184, 0, 28, 79, 3, 54, 5, 21, 5]
abbrev dktX2_processBlock_4 : List UInt8 := dkwX2_processBlock_4 ++ dktX2_processBlock_5
def dkwX2_processBlock_3 : List UInt8 := [180, 0, 7, 4, 43, 28, 7, 96, 184, 0, 28, 79, 42, 180, 0, 7, 5, 43, 28, 16, 8, 96]
abbrev dktX2_processBlock_3 : List UInt8 := dkwX2_processBlock_3 ++ dktX2_processBlock_4
def dkwX2_processBlock_2 : List UInt8 := [187, 0, 81, 89, 18, 83, 183, 0, 85, 191, 42, 180, 0, 7, 3, 43, 28, 184, 0, 28, 79, 42]
abbrev dktX2_processBlock_2 : List UInt8 := dkwX2_processBlock_2 ++ dktX2_processBlock_3
def dkwX2_processBlock_1 : List UInt8 := [164, 0, 13, 187, 0, 76, 89, 18, 78, 183, 0, 80, 191, 21, 4, 16, 16, 96, 45, 190, 164, 0, 13]
abbrev dktX2_processBlock_1 : List UInt8 := dkwX2_processBlock_1 ++ dktX2_processBlock_2
def dkwX2_processBlock_0 : List UInt8 := [42, 180, 0, 66, 199, 0, 13, 187, 0, 71, 89, 18, 73, 183, 0, 75, 191, 28, 16, 16, 96, 43, 190]
abbrev dktX2_processBlock_0 : List UInt8 := dkwX2_processBlock_0 ++ dktX2_processBlock_1
theorem dksX2_processBlock_0 : cX2_processBlock.data.toList.drop 0 = dktX2_processBlock_0 := by decide +kernel
theorem dksX2_processBlock_1 : cX2_processBlock.data.toList.drop 23 = dktX2_processBlock_1 := dk_seg dksX2_processBlock_0 23 rfl rfl
theorem dksX2_processBlock_2 : cX2_processBlock.data.toList.drop 46 = dktX2_processBlock_2 := dk_seg dksX2_processBlock_1 23 rfl rfl
theorem dksX2_processBlock_3 : cX2_processBlock.data.toList.drop 68 = dktX2_processBlock_3 := dk_seg dksX2_processBlock_2 22 rfl rfl
theorem dksX2_processBlock_4 : cX2_processBlock.data.toList.drop 90 = dktX2_processBlock_4 := dk_seg dksX2_processBlock_3 22 rfl rfl
theorem dksX2_processBlock_5 : cX2_processBlock.data.toList.drop 113 = dktX2_processBlock_5 := dk_seg dksX2_processBlock_4 23 rfl rfl
theorem dksX2_processBlock_6 : cX2_processBlock.data.toList.drop 135 = dktX2_processBlock_6 := dk_seg dksX2_processBlock_5 22 rfl rfl
theorem dksX2_processBlock_7 : cX2_processBlock.data.toList.drop 158 = dktX2_processBlock_7 := dk_seg dksX2_processBlock_6 23 rfl rfl
theorem dksX2_processBlock_8 : cX2_processBlock.data.toList.drop 181 = dktX2_processBlock_8 := dk_seg dksX2_processBlock_7 23 rfl rfl
theorem dksX2_processBlock_9 : cX2_processBlock.data.toList.drop 204 = dktX2_processBlock_9 := dk_seg dksX2_processBlock_8 23 rfl rfl
theorem dksX2_processBlock_10 : cX2_processBlock.data.toList.drop 227 = dktX2_processBlock_10 := dk_seg dksX2_processBlock_9 23 rfl rfl
theorem dksX2_processBlock_11 : cX2_processBlock.data.toList.drop 251 = dktX2_processBlock_11 := dk_seg dksX2_processBlock_10 24 rfl rfl
theorem dX2_processBlock_0 : decode cX2_processBlock 0 = .ok (.aload_n 0, 1) := dk_42 (dk_at dksX2_processBlock_0 0 rfl rfl)
theorem dX2_processBlock_1 : decode cX2_processBlock 1 = .ok (.getfield 66, 3) := dk_180 0 66 (dk_at dksX2_processBlock_0 1 rfl rfl)
theorem dX2_processBlock_4 : decode cX2_processBlock 4 = .ok (.ifnonnull 13, 3) := dk_199 0 13 (dk_at dksX2_processBlock_0 4 rfl rfl)
theorem dX2_processBlock_7 : decode cX2_processBlock 7 = .ok (.new 71, 3) := dk_187 0 71 (dk_at dksX2_processBlock_0 7 rfl rfl)
theorem dX2_processBlock_10 : decode cX2_processBlock 10 = .ok (.dup, 1) := dk_89 (dk_at dksX2_processBlock_0 10 rfl rfl)
theorem dX2_processBlock_11 : decode cX2_processBlock 11 = .ok (.ldc 73, 2) := dk_18 73 (dk_at dksX2_processBlock_0 11 rfl rfl)
theorem dX2_processBlock_13 : decode cX2_processBlock 13 = .ok (.invokespecial 75, 3) := dk_183 0 75 (dk_at dksX2_processBlock_0 13 rfl rfl)
theorem dX2_processBlock_16 : decode cX2_processBlock 16 = .ok (.athrow, 1) := dk_191 (dk_at dksX2_processBlock_0 16 rfl rfl)
theorem dX2_processBlock_17 : decode cX2_processBlock 17 = .ok (.iload_n 2, 1) := dk_28 (dk_at dksX2_processBlock_0 17 rfl rfl)
theorem dX2_processBlock_18 : decode cX2_processBlock 18 = .ok (.bipush 16, 2) := dk_16 16 (dk_at dksX2_processBlock_0 18 rfl rfl)
theorem dX2_processBlock_20 : decode cX2_processBlock 20 = .ok (.iadd, 1) := dk_96 (dk_at dksX2_processBlock_0 20 rfl rfl)
theorem dX2_processBlock_21 : decode cX2_processBlock 21 = .ok (.aload_n 1, 1) := dk_43 (dk_at dksX2_processBlock_0 21 rfl rfl)
theorem dX2_processBlock_22 : decode cX2_processBlock 22 = .ok (.arraylength, 1) := dk_190 (dk_at dksX2_processBlock_0 22 rfl rfl)
theorem dX2_processBlock_23 : decode cX2_processBlock 23 = .ok (.if_icmp .le 13, 3) := dk_164 0 13 (dk_at dksX2_processBlock_1 0 rfl rfl)
theorem dX2_processBlock_26 : decode cX2_processBlock 26 = .ok (.new 76, 3) := dk_187 0 76 (dk_at dksX2_processBlock_1 3 rfl rfl)
theorem dX2_processBlock_29 : decode cX2_processBlock 29 = .ok (.dup, 1) := dk_89 (dk_at dksX2_processBlock_1 6 rfl rfl)
theorem dX2_processBlock_30 : decode cX2_processBlock 30 = .ok (.ldc 78, 2) := dk_18 78 (dk_at dksX2_processBlock_1 7 rfl rfl)
theorem dX2_processBlock_32 : decode cX2_processBlock 32 = .ok (.invokespecial 80, 3) := dk_183 0 80 (dk_at dksX2_processBlock_1 9 rfl rfl)
theorem dX2_processBlock_35 : decode cX2_processBlock 35 = .ok (.athrow, 1) := dk_191 (dk_at dksX2_processBlock_1 12 rfl rfl)
theorem dX2_processBlock_36 : decode cX2_processBlock 36 = .ok (.iload 4, 2) := dk_21 4 (dk_at dksX2_processBlock_1 13 rfl rfl)
theorem dX2_processBlock_38 : decode cX2_processBlock 38 = .ok (.bipush 16, 2) := dk_16 16 (dk_at dksX2_processBlock_1 15 rfl rfl)
theorem dX2_processBlock_40 : decode cX2_processBlock 40 = .ok (.iadd, 1) := dk_96 (dk_at dksX2_processBlock_1 17 rfl rfl)
theorem dX2_processBlock_41 : decode cX2_processBlock 41 = .ok (.aload_n 3, 1) := dk_45 (dk_at dksX2_processBlock_1 18 rfl rfl)
theorem dX2_processBlock_42 : decode cX2_processBlock 42 = .ok (.arraylength, 1) := dk_190 (dk_at dksX2_processBlock_1 19 rfl rfl)
theorem dX2_processBlock_43 : decode cX2_processBlock 43 = .ok (.if_icmp .le 13, 3) := dk_164 0 13 (dk_at dksX2_processBlock_1 20 rfl rfl)
theorem dX2_processBlock_46 : decode cX2_processBlock 46 = .ok (.new 81, 3) := dk_187 0 81 (dk_at dksX2_processBlock_2 0 rfl rfl)
theorem dX2_processBlock_49 : decode cX2_processBlock 49 = .ok (.dup, 1) := dk_89 (dk_at dksX2_processBlock_2 3 rfl rfl)
theorem dX2_processBlock_50 : decode cX2_processBlock 50 = .ok (.ldc 83, 2) := dk_18 83 (dk_at dksX2_processBlock_2 4 rfl rfl)
theorem dX2_processBlock_52 : decode cX2_processBlock 52 = .ok (.invokespecial 85, 3) := dk_183 0 85 (dk_at dksX2_processBlock_2 6 rfl rfl)
theorem dX2_processBlock_55 : decode cX2_processBlock 55 = .ok (.athrow, 1) := dk_191 (dk_at dksX2_processBlock_2 9 rfl rfl)
theorem dX2_processBlock_56 : decode cX2_processBlock 56 = .ok (.aload_n 0, 1) := dk_42 (dk_at dksX2_processBlock_2 10 rfl rfl)
theorem dX2_processBlock_57 : decode cX2_processBlock 57 = .ok (.getfield 7, 3) := dk_180 0 7 (dk_at dksX2_processBlock_2 11 rfl rfl)
theorem dX2_processBlock_60 : decode cX2_processBlock 60 = .ok (.iconst 0, 1) := dk_3 (dk_at dksX2_processBlock_2 14 rfl rfl)
theorem dX2_processBlock_61 : decode cX2_processBlock 61 = .ok (.aload_n 1, 1) := dk_43 (dk_at dksX2_processBlock_2 15 rfl rfl)
theorem dX2_processBlock_62 : decode cX2_processBlock 62 = .ok (.iload_n 2, 1) := dk_28 (dk_at dksX2_processBlock_2 16 rfl rfl)
theorem dX2_processBlock_63 : decode cX2_processBlock 63 = .ok (.invokestatic 28, 3) := dk_184 0 28 (dk_at dksX2_processBlock_2 17 rfl rfl)
theorem dX2_processBlock_66 : decode cX2_processBlock 66 = .ok (.iastore, 1) := dk_79 (dk_at dksX2_processBlock_2 20 rfl rfl)
theorem dX2_processBlock_67 : decode cX2_processBlock 67 = .ok (.aload_n 0, 1) := dk_42 (dk_at dksX2_processBlock_2 21 rfl rfl)
theorem dX2_processBlock_68 : decode cX2_processBlock 68 = .ok (.getfield 7, 3) := dk_180 0 7 (dk_at dksX2_processBlock_3 0 rfl rfl)
theorem dX2_processBlock_71 : decode cX2_processBlock 71 = .ok (.iconst 1, 1) := dk_4 (dk_at dksX2_processBlock_3 3 rfl rfl)
theorem dX2_processBlock_72 : decode cX2_processBlock 72 = .ok (.aload_n 1, 1) := dk_43 (dk_at dksX2_processBlock_3 4 rfl rfl)
theorem dX2_processBlock_73 : decode cX2_processBlock 73 = .ok (.iload_n 2, 1) := dk_28 (dk_at dksX2_processBlock_3 5 rfl rfl)
theorem dX2_processBlock_74 : decode cX2_processBlock 74 = .ok (.iconst 4, 1) := dk_7 (dk_at dksX2_processBlock_3 6 rfl rfl)
theorem dX2_processBlock_75 : decode cX2_processBlock 75 = .ok (.iadd, 1) := dk_96 (dk_at dksX2_processBlock_3 7 rfl rfl)
theorem dX2_processBlock_76 : decode cX2_processBlock 76 = .ok (.invokestatic 28, 3) := dk_184 0 28 (dk_at dksX2_processBlock_3 8 rfl rfl)
theorem dX2_processBlock_79 : decode cX2_processBlock 79 = .ok (.iastore, 1) := dk_79 (dk_at dksX2_processBlock_3 11 rfl rfl)
theorem dX2_processBlock_80 : decode cX2_processBlock 80 = .ok (.aload_n 0, 1) := dk_42 (dk_at dksX2_processBlock_3 12 rfl rfl)
theorem dX2_processBlock_81 : decode cX2_processBlock 81 = .ok (.getfield 7, 3) := dk_180 0 7 (dk_at dksX2_processBlock_3 13 rfl rfl)
theorem dX2_processBlock_84 : decode cX2_processBlock 84 = .ok (.iconst 2, 1) := dk_5 (dk_at dksX2_processBlock_3 16 rfl rfl)
theorem dX2_processBlock_85 : decode cX2_processBlock 85 = .ok (.aload_n 1, 1) := dk_43 (dk_at dksX2_processBlock_3 17 rfl rfl)
theorem dX2_processBlock_86 : decode cX2_processBlock 86 = .ok (.iload_n 2, 1) := dk_28 (dk_at dksX2_processBlock_3 18 rfl rfl)
theorem dX2_processBlock_87 : decode cX2_processBlock 87 = .ok (.bipush 8, 2) := dk_16 8 (dk_at dksX2_processBlock_3 19 rfl rfl)
theorem dX2_processBlock_89 : decode cX2_processBlock 89 = .ok (.iadd, 1) := dk_96 (dk_at dksX2_processBlock_3 21 rfl rfl)
theorem dX2_processBlock_90 : decode cX2_processBlock 90 = .ok (.invokestatic 28, 3) := dk_184 0 28 (dk_at dksX2_processBlock_4 0 rfl rfl)
theorem dX2_processBlock_93 : decode cX2_processBlock 93 = .ok (.iastore, 1) := dk_79 (dk_at dksX2_processBlock_4 3 rfl rfl)
theorem dX2_processBlock_94 : decode cX2_processBlock 94 = .ok (.aload_n 0, 1) := dk_42 (dk_at dksX2_processBlock_4 4 rfl rfl)
theorem dX2_processBlock_95 : decode cX2_processBlock 95 = .ok (.getfield 7, 3) := dk_180 0 7 (dk_at dksX2_processBlock_4 5 rfl rfl)
theorem dX2_processBlock_98 : decode cX2_processBlock 98 = .ok (.iconst 3, 1) := dk_6 (dk_at dksX2_processBlock_4 8 rfl rfl)
theorem dX2_processBlock_99 : decode cX2_processBlock 99 = .ok (.aload_n 1, 1) := dk_43 (dk_at dksX2_processBlock_4 9 rfl rfl)
theorem dX2_processBlock_100 : decode cX2_processBlock 100 = .ok (.iload_n 2, 1) := dk_28 (dk_at dksX2_processBlock_4 10 rfl rfl)
theorem dX2_processBlock_101 : decode cX2_processBlock 101 = .ok (.bipush 12, 2) := dk_16 12 (dk_at dksX2_processBlock_4 11 rfl rfl)
theorem dX2_processBlock_103 : decode cX2_processBlock 103 = .ok (.iadd, 1) := dk_96 (dk_at dksX2_processBlock_4 13 rfl rfl)
theorem dX2_processBlock_104 : decode cX2_processBlock 104 = .ok (.invokestatic 28, 3) := dk_184 0 28 (dk_at dksX2_processBlock_4 14 rfl rfl)
theorem dX2_processBlock_107 : decode cX2_processBlock 107 = .ok (.iastore, 1) := dk_79 (dk_at dksX2_processBlock_4 17 rfl rfl)
theorem dX2_processBlock_108 : decode cX2_processBlock 108 = .ok (.iconst 0, 1) := dk_3 (dk_at dksX2_processBlock_4 18 rfl rfl)
theorem dX2_processBlock_109 : decode cX2_processBlock 109 = .ok (.istore 5, 2) := dk_54 5 (dk_at dksX2_processBlock_4 19 rfl rfl)
theorem dX2_processBlock_111 : decode cX2_processBlock 111 = .ok (.iload 5, 2) := dk_21 5 (dk_at dksX2_processBlock_4 21 rfl rfl)
theorem dX2_processBlock_113 : decode cX2_processBlock 113 = .ok (.bipush 32, 2) := dk_16 32 (dk_at dksX2_processBlock_5 0 rfl rfl)
theorem dX2_processBlock_115 : decode cX2_processBlock 115 = .ok (.if_icmp .ge 99, 3) := dk_162 0 99 (dk_at dksX2_processBlock_5 2 rfl rfl)
theorem dX2_processBlock_118 : decode cX2_processBlock 118 = .ok (.aload_n 0, 1) := dk_42 (dk_at dksX2_processBlock_5 5 rfl rfl)
theorem dX2_processBlock_119 : decode cX2_processBlock 119 = .ok (.getfield 7, 3) := dk_180 0 7 (dk_at dksX2_processBlock_5 6 rfl rfl)
theorem dX2_processBlock_122 : decode cX2_processBlock 122 = .ok (.iconst 0, 1) := dk_3 (dk_at dksX2_processBlock_5 9 rfl rfl)
theorem dX2_processBlock_123 : decode cX2_processBlock 123 = .ok (.aload_n 0, 1) := dk_42 (dk_at dksX2_processBlock_5 10 rfl rfl)
theorem dX2_processBlock_124 : decode cX2_processBlock 124 = .ok (.aload_n 0, 1) := dk_42 (dk_at dksX2_processBlock_5 11 rfl rfl)
theorem dX2_processBlock_125 : decode cX2_processBlock 125 = .ok (.getfield 7, 3) := dk_180 0 7 (dk_at dksX2_processBlock_5 12 rfl rfl)
theorem dX2_processBlock_128 : decode cX2_processBlock 128 = .ok (.aload_n 0, 1) := dk_42 (dk_at dksX2_processBlock_5 15 rfl rfl)
theorem dX2_processBlock_129 : decode cX2_processBlock 129 = .ok (.getfield 66, 3) := dk_180 0 66 (dk_at dksX2_processBlock_5 16 rfl rfl)
theorem dX2_processBlock_132 : decode cX2_processBlock 132 = .ok (.iload 5, 2) := dk_21 5 (dk_at dksX2_processBlock_5 19 rfl rfl)
theorem dX2_processBlock_134 : decode cX2_processBlock 134 = .ok (.iaload, 1) := dk_46 (dk_at dksX2_processBlock_5 21 rfl rfl)
theorem dX2_processBlock_135 : decode cX2_processBlock 135 = .ok (.invokevirtual 86, 3) := dk_182 0 86 (dk_at dksX2_processBlock_6 0 rfl rfl)
theorem dX2_processBlock_138 : decode cX2_processBlock 138 = .ok (.iastore, 1) := dk_79 (dk_at dksX2_processBlock_6 3 rfl rfl)
theorem dX2_processBlock_139 : decode cX2_processBlock 139 = .ok (.aload_n 0, 1) := dk_42 (dk_at dksX2_processBlock_6 4 rfl rfl)
theorem dX2_processBlock_140 : decode cX2_processBlock 140 = .ok (.getfield 7, 3) := dk_180 0 7 (dk_at dksX2_processBlock_6 5 rfl rfl)
theorem dX2_processBlock_143 : decode cX2_processBlock 143 = .ok (.iconst 1, 1) := dk_4 (dk_at dksX2_processBlock_6 8 rfl rfl)
theorem dX2_processBlock_144 : decode cX2_processBlock 144 = .ok (.aload_n 0, 1) := dk_42 (dk_at dksX2_processBlock_6 9 rfl rfl)
theorem dX2_processBlock_145 : decode cX2_processBlock 145 = .ok (.aload_n 0, 1) := dk_42 (dk_at dksX2_processBlock_6 10 rfl rfl)
theorem dX2_processBlock_146 : decode cX2_processBlock 146 = .ok (.getfield 7, 3) := dk_180 0 7 (dk_at dksX2_processBlock_6 11 rfl rfl)
theorem dX2_processBlock_149 : decode cX2_processBlock 149 = .ok (.aload_n 0, 1) := dk_42 (dk_at dksX2_processBlock_6 14 rfl rfl)
theorem dX2_processBlock_150 : decode cX2_processBlock 150 = .ok (.getfield 66, 3) := dk_180 0 66 (dk_at dksX2_processBlock_6 15 rfl rfl)
theorem dX2_processBlock_153 : decode cX2_processBlock 153 = .ok (.iload 5, 2) := dk_21 5 (dk_at dksX2_processBlock_6 18 rfl rfl)
theorem dX2_processBlock_155 : decode cX2_processBlock 155 = .ok (.iconst 1, 1) := dk_4 (dk_at dksX2_processBlock_6 20 rfl rfl)
theorem dX2_processBlock_156 : decode cX2_processBlock 156 = .ok (.iadd, 1) := dk_96 (dk_at dksX2_processBlock_6 21 rfl rfl)
theorem dX2_processBlock_157 : decode cX2_processBlock 157 = .ok (.iaload, 1) := dk_46 (dk_at dksX2_processBlock_6 22 rfl rfl)
theorem dX2_processBlock_158 : decode cX2_processBlock 158 = .ok (.invokevirtual 90, 3) := dk_182 0 90 (dk_at dksX2_processBlock_7 0 rfl rfl)
theorem dX2_processBlock_161 : decode cX2_processBlock 161 = .ok (.iastore, 1) := dk_79 (dk_at dksX2_processBlock_7 3 rfl rfl)
theorem dX2_processBlock_162 : decode cX2_processBlock 162 = .ok (.aload_n 0, 1) := dk_42 (dk_at dksX2_processBlock_7 4 rfl rfl)
theorem dX2_processBlock_163 : decode cX2_processBlock 163 = .ok (.getfield 7, 3) := dk_180 0 7 (dk_at dksX2_processBlock_7 5 rfl rfl)
theorem dX2_processBlock_166 : decode cX2_processBlock 166 = .ok (.iconst 2, 1) := dk_5 (dk_at dksX2_processBlock_7 8 rfl rfl)
theorem dX2_processBlock_167 : decode cX2_processBlock 167 = .ok (.aload_n 0, 1) := dk_42 (dk_at dksX2_processBlock_7 9 rfl rfl)
theorem dX2_processBlock_168 : decode cX2_processBlock 168 = .ok (.aload_n 0, 1) := dk_42 (dk_at dksX2_processBlock_7 10 rfl rfl)
theorem dX2_processBlock_169 : decode cX2_processBlock 169 = .ok (.getfield 7, 3) := dk_180 0 7 (dk_at dksX2_processBlock_7 11 rfl rfl)
theorem dX2_processBlock_172 : decode cX2_processBlock 172 = .ok (.aload_n 0, 1) := dk_42 (dk_at dksX2_processBlock_7 14 rfl rfl)
theorem dX2_processBlock_173 : decode cX2_processBlock 173 = .ok (.getfield 66, 3) := dk_180 0 66 (dk_at dksX2_processBlock_7 15 rfl rfl)
theorem dX2_processBlock_176 : decode cX2_processBlock 176 = .ok (.iload 5, 2) := dk_21 5 (dk_at dksX2_processBlock_7 18 rfl rfl)
theorem dX2_processBlock_178 : decode cX2_processBlock 178 = .ok (.iconst 2, 1) := dk_5 (dk_at dksX2_processBlock_7 20 rfl rfl)
theorem dX2_processBlock_179 : decode cX2_processBlock 179 = .ok (.iadd, 1) := dk_96 (dk_at dksX2_processBlock_7 21 rfl rfl)
theorem dX2_processBlock_180 : decode cX2_processBlock 180 = .ok (.iaload, 1) := dk_46 (dk_at dksX2_processBlock_7 22 rfl rfl)
theorem dX2_processBlock_181 : decode cX2_processBlock 181 = .ok (.invokevirtual 93, 3) := dk_182 0 93 (dk_at dksX2_processBlock_8 0 rfl rfl)
theorem dX2_processBlock_184 : decode cX2_processBlock 184 = .ok (.iastore, 1) := dk_79 (dk_at dksX2_processBlock_8 3 rfl rfl)
theorem dX2_processBlock_185 : decode cX2_processBlock 185 = .ok (.aload_n 0, 1) := dk_42 (dk_at dksX2_processBlock_8 4 rfl rfl)
theorem dX2_processBlock_186 : decode cX2_processBlock 186 = .ok (.getfield 7, 3) := dk_180 0 7 (dk_at dksX2_processBlock_8 5 rfl rfl)
theorem dX2_processBlock_189 : decode cX2_processBlock 189 = .ok (.iconst 3, 1) := dk_6 (dk_at dksX2_processBlock_8 8 rfl rfl)
theorem dX2_processBlock_190 : decode cX2_processBlock 190 = .ok (.aload_n 0, 1) := dk_42 (dk_at dksX2_processBlock_8 9 rfl rfl)
theorem dX2_processBlock_191 : decode cX2_processBlock 191 = .ok (.aload_n 0, 1) := dk_42 (dk_at dksX2_processBlock_8 10 rfl rfl)
theorem dX2_processBlock_192 : decode cX2_processBlock 192 = .ok (.getfield 7, 3) := dk_180 0 7 (dk_at dksX2_processBlock_8 11 rfl rfl)
theorem dX2_processBlock_195 : decode cX2_processBlock 195 = .ok (.aload_n 0, 1) := dk_42 (dk_at dksX2_processBlock_8 14 rfl rfl)
theorem dX2_processBlock_196 : decode cX2_processBlock 196 = .ok (.getfield 66, 3) := dk_180 0 66 (dk_at dksX2_processBlock_8 15 rfl rfl)
theorem dX2_processBlock_199 : decode cX2_processBlock 199 = .ok (.iload 5, 2) := dk_21 5 (dk_at dksX2_processBlock_8 18 rfl rfl)
theorem dX2_processBlock_201 : decode cX2_processBlock 201 = .ok (.iconst 3, 1) := dk_6 (dk_at dksX2_processBlock_8 20 rfl rfl)
theorem dX2_processBlock_202 : decode cX2_processBlock 202 = .ok (.iadd, 1) := dk_96 (dk_at dksX2_processBlock_8 21 rfl rfl)
theorem dX2_processBlock_203 : decode cX2_processBlock 203 = .ok (.iaload, 1) := dk_46 (dk_at dksX2_processBlock_8 22 rfl rfl)
theorem dX2_processBlock_204 : decode cX2_processBlock 204 = .ok (.invokevirtual 96, 3) := dk_182 0 96 (dk_at dksX2_processBlock_9 0 rfl rfl)
theorem dX2_processBlock_207 : decode cX2_processBlock 207 = .ok (.iastore, 1) := dk_79 (dk_at dksX2_processBlock_9 3 rfl rfl)
theorem dX2_processBlock_208 : decode cX2_processBlock 208 = .ok (.iinc 5 4, 3) := dk_132 5 4 (dk_at dksX2_processBlock_9 4 rfl rfl)
theorem dX2_processBlock_211 : decode cX2_processBlock 211 = .ok (.goto (-100), 3) := dk_167 255 156 (dk_at dksX2_processBlock_9 7 rfl rfl)
theorem dX2_processBlock_214 : decode cX2_processBlock 214 = .ok (.aload_n 0, 1) := dk_42 (dk_at dksX2_processBlock_9 10 rfl rfl)
theorem dX2_processBlock_215 : decode cX2_processBlock 215 = .ok (.getfield 7, 3) := dk_180 0 7 (dk_at dksX2_processBlock_9 11 rfl rfl)
theorem dX2_processBlock_218 : decode cX2_processBlock 218 = .ok (.iconst 3, 1) := dk_6 (dk_at dksX2_processBlock_9 14 rfl rfl)
theorem dX2_processBlock_219 : decode cX2_processBlock 219 = .ok (.iaload, 1) := dk_46 (dk_at dksX2_processBlock_9 15 rfl rfl)
theorem dX2_processBlock_220 : decode cX2_processBlock 220 = .ok (.aload_n 3, 1) := dk_45 (dk_at dksX2_processBlock_9 16 rfl rfl)
theorem dX2_processBlock_221 : decode cX2_processBlock 221 = .ok (.iload 4, 2) := dk_21 4 (dk_at dksX2_processBlock_9 17 rfl rfl)
theorem dX2_processBlock_223 : decode cX2_processBlock 223 = .ok (.invokestatic 99, 3) := dk_184 0 99 (dk_at dksX2_processBlock_9 19 rfl rfl)
theorem dX2_processBlock_226 : decode cX2_processBlock 226 = .ok (.aload_n 0, 1) := dk_42 (dk_at dksX2_processBlock_9 22 rfl rfl)
theorem dX2_processBlock_227 : decode cX2_processBlock 227 = .ok (.getfield 7, 3) := dk_180 0 7 (dk_at dksX2_processBlock_10 0 rfl rfl)
theorem dX2_processBlock_230 : decode cX2_processBlock 230 = .ok (.iconst 2, 1) := dk_5 (dk_at dksX2_processBlock_10 3 rfl rfl)
theorem dX2_processBlock_231 : decode cX2_processBlock 231 = .ok (.iaload, 1) := dk_46 (dk_at dksX2_processBlock_10 4 rfl rfl)
theorem dX2_processBlock_232 : decode cX2_processBlock 232 = .ok (.aload_n 3, 1) := dk_45 (dk_at dksX2_processBlock_10 5 rfl rfl)
theorem dX2_processBlock_233 : decode cX2_processBlock 233 = .ok (.iload 4, 2) := dk_21 4 (dk_at dksX2_processBlock_10 6 rfl rfl)
theorem dX2_processBlock_235 : decode cX2_processBlock 235 = .ok (.iconst 4, 1) := dk_7 (dk_at dksX2_processBlock_10 8 rfl rfl)
theorem dX2_processBlock_236 : decode cX2_processBlock 236 = .ok (.iadd, 1) := dk_96 (dk_at dksX2_processBlock_10 9 rfl rfl)
theorem dX2_processBlock_237 : decode cX2_processBlock 237 = .ok (.invokestatic 99, 3) := dk_184 0 99 (dk_at dksX2_processBlock_10 10 rfl rfl)
theorem dX2_processBlock_240 : decode cX2_processBlock 240 = .ok (.aload_n 0, 1) := dk_42 (dk_at dksX2_processBlock_10 13 rfl rfl)
theorem dX2_processBlock_241 : decode cX2_processBlock 241 = .ok (.getfield 7, 3) := dk_180 0 7 (dk_at dksX2_processBlock_10 14 rfl rfl)
theorem dX2_processBlock_244 : decode cX2_processBlock 244 = .ok (.iconst 1, 1) := dk_4 (dk_at dksX2_processBlock_10 17 rfl rfl)
theorem dX2_processBlock_245 : decode cX2_processBlock 245 = .ok (.iaload, 1) := dk_46 (dk_at dksX2_processBlock_10 18 rfl rfl)
theorem dX2_processBlock_246 : decode cX2_processBlock 246 = .ok (.aload_n 3, 1) := dk_45 (dk_at dksX2_processBlock_10 19 rfl rfl)
theorem dX2_processBlock_247 : decode cX2_processBlock 247 = .ok (.iload 4, 2) := dk_21 4 (dk_at dksX2_processBlock_10 20 rfl rfl)
theorem dX2_processBlock_249 : decode cX2_processBlock 249 = .ok (.bipush 8, 2) := dk_16 8 (dk_at dksX2_processBlock_10 22 rfl rfl)
theorem dX2_processBlock_251 : decode cX2_processBlock 251 = .ok (.iadd, 1) := dk_96 (dk_at dksX2_processBlock_11 0 rfl rfl)
theorem dX2_processBlock_252 : decode cX2_processBlock 252 = .ok (.invokestatic 99, 3) := dk_184 0 99 (dk_at dksX2_processBlock_11 1 rfl rfl)
theorem dX2_processBlock_255 : decode cX2_processBlock 255 = .ok (.aload_n 0, 1) := dk_42 (dk_at dksX2_processBlock_11 4 rfl rfl)
theorem dX2_processBlock_256 : decode cX2_processBlock 256 = .ok (.getfield 7, 3) := dk_180 0 7 (dk_at dksX2_processBlock_11 5 rfl rfl)
theorem dX2_processBlock_259 : decode cX2_processBlock 259 = .ok (.iconst 0, 1) := dk_3 (dk_at dksX2_processBlock_11 8 rfl rfl)
theorem dX2_processBlock_260 : decode cX2_processBlock 260 = .ok (.iaload, 1) := dk_46 (dk_at dksX2_processBlock_11 9 rfl rfl)
theorem dX2_processBlock_261 : decode cX2_processBlock 261 = .ok (.aload_n 3, 1) := dk_45 (dk_at dksX2_processBlock_11 10 rfl rfl)
theorem dX2_processBlock_262 : decode cX2_processBlock 262 = .ok (.iload 4, 2) := dk_21 4 (dk_at dksX2_processBlock_11 11 rfl rfl)
theorem dX2_processBlock_264 : decode cX2_processBlock 264 = .ok (.bipush 12, 2) := dk_16 12 (dk_at dksX2_processBlock_11 13 rfl rfl)
theorem dX2_processBlock_266 : decode cX2_processBlock 266 = .ok (.iadd, 1) := dk_96 (dk_at dksX2_processBlock_11 15 rfl rfl)
theorem dX2_processBlock_267 : decode cX2_processBlock 267 = .ok (.invokestatic 99, 3) := dk_184 0 99 (dk_at dksX2_processBlock_11 16 rfl rfl)
theorem dX2_processBlock_270 : decode cX2_processBlock 270 = .ok (.bipush 16, 2) := dk_16 16 (dk_at dksX2_processBlock_11 19 rfl rfl)
theorem dX2_processBlock_272 : decode cX2_processBlock 272 = .ok (.ireturn, 1) := dk_172 (dk_at dksX2_processBlock_11 21 rfl rfl)
abbrev cX2_F0 : ByteArray := prog_8_method_9_code
def yX2_F0 : MethodName := ⟨RX2, "F0", "([II)I"⟩
def dkwX2_F0_0 : List UInt8 := [43, 3, 46, 42, 43, 4, 46, 43, 5, 46, 130, 43, 6, 46, 130, 28, 130, 182, 0, 46, 130, 172]
abbrev dktX2_F0_0 : List UInt8 := dkwX2_F0_0 ++ []
theorem dksX2_F0_0 : cX2_F0.data.toList.drop 0 = dktX2_F0_0 := by decide +kernel
theorem dX2_F0_0 : decode cX2_F0 0 = .ok (.aload_n 1, 1) := dk_43 (dk_at dksX2_F0_0 0 rfl rfl)
theorem dX2_F0_1 : decode cX2_F0 1 = .ok (.iconst 0, 1) := dk_3 (dk_at dksX2_F0_0 1 rfl rfl)
theorem dX2_F0_2 : decode cX2_F0 2 = .ok (.iaload, 1) := dk_46 (dk_at dksX2_F0_0 2 rfl rfl)
theorem dX2_F0_3 : decode cX2_F0 3 = .ok (.aload_n 0, 1) := dk_42 (dk_at dksX2_F0_0 3 rfl rfl)
theorem dX2_F0_4 : decode cX2_F0 4 = .ok (.aload_n 1, 1) := dk_43 (dk_at dksX2_F0_0 4 rfl rfl)
theorem dX2_F0_5 : decode cX2_F0 5 = .ok (.iconst 1, 1) := dk_4 (dk_at dksX2_F0_0 5 rfl rfl)
theorem dX2_F0_6 : decode cX2_F0 6 = .ok (.iaload, 1) := dk_46 (dk_at dksX2_F0_0 6 rfl rfl)
theorem dX2_F0_7 : decode cX2_F0 7 = .ok (.aload_n 1, 1) := dk_43 (dk_at dksX2_F0_0 7 rfl rfl)
theorem dX2_F0_8 : decode cX2_F0 8 = .ok (.iconst 2, 1) := dk_5 (dk_at dksX2_F0_0 8 rfl rfl)
theorem dX2_F0_9 : decode cX2_F0 9 = .ok (.iaload, 1) := dk_46 (dk_at dksX2_F0_0 9 rfl rfl)
theorem dX2_F0_10 : decode cX2_F0 10 = .ok (.ixor, 1) := dk_130 (dk_at dksX2_F0_0 10 rfl rfl)
theorem dX2_F0_11 : decode cX2_F0 11 = .ok (.aload_n 1, 1) := dk_43 (dk_at dksX2_F0_0 11 rfl rfl)
theorem dX2_F0_12 : decode cX2_F0 12 = .ok (.iconst 3, 1) := dk_6 (dk_at dksX2_F0_0 12 rfl rfl)
theorem dX2_F0_13 : decode cX2_F0 13 = .ok (.iaload, 1) := dk_46 (dk_at dksX2_F0_0 13 rfl rfl)
theorem dX2_F0_14 : decode cX2_F0 14 = .ok (.ixor, 1) := dk_130 (dk_at dksX2_F0_0 14 rfl rfl)
theorem dX2_F0_15 : decode cX2_F0 15 = .ok (.iload_n 2, 1) := dk_28 (dk_at dksX2_F0_0 15 rfl rfl)
theorem dX2_F0_16 : decode cX2_F0 16 = .ok (.ixor, 1) := dk_130 (dk_at dksX2_F0_0 16 rfl rfl)
theorem dX2_F0_17 : decode cX2_F0 17 = .ok (.invokevirtual 46, 3) := dk_182 0 46 (dk_at dksX2_F0_0 17 rfl rfl)
theorem dX2_F0_20 : decode cX2_F0 20 = .ok (.ixor, 1) := dk_130 (dk_at dksX2_F0_0 20 rfl rfl)
theorem dX2_F0_21 : decode cX2_F0 21 = .ok (.ireturn, 1) := dk_172 (dk_at dksX2_F0_0 21 rfl rfl)
abbrev cX2_T : ByteArray := prog_8_method_8_code
def yX2_T : MethodName := ⟨RX2, "T", "(I)I"⟩
def dkwX2_T_0 : List UInt8 := [42, 42, 27, 182, 0, 21, 182, 0, 43, 172]
abbrev dktX2_T_0 : List UInt8 := dkwX2_T_0 ++ []
theorem dksX2_T_0 : cX2_T.data.toList.drop 0 = dktX2_T_0 := by decide +kernel
theorem dX2_T_0 : decode cX2_T 0 = .ok (.aload_n 0, 1) := dk_42 (dk_at dksX2_T_0 0 rfl rfl)
theorem dX2_T_1 : decode cX2_T 1 = .ok (.aload_n 0, 1) := dk_42 (dk_at dksX2_T_0 1 rfl rfl)
theorem dX2_T_2 : decode cX2_T 2 = .ok (.iload_n 1, 1) := dk_27 (dk_at dksX2_T_0 2 rfl rfl)
theorem dX2_T_3 : decode cX2_T 3 = .ok (.invokevirtual 21, 3) := dk_182 0 21 (dk_at dksX2_T_0 3 rfl rfl)
theorem dX2_T_6 : decode cX2_T 6 = .ok (.invokevirtual 43, 3) := dk_182 0 43 (dk_at dksX2_T_0 6 rfl rfl)
theorem dX2_T_9 : decode cX2_T 9 = .ok (.ireturn, 1) := dk_172 (dk_at dksX2_T_0 9 rfl rfl)
abbrev cX2_L : ByteArray := prog_8_method_7_code
def yX2_L : MethodName := ⟨RX2, "L", "(I)I"⟩
def dkwX2_L_1 : List UInt8 := [42, 27, 16, 24, 182, 0, 17, 130, 61, 28, 172]
abbrev dktX2_L_1 : List UInt8 := dkwX2_L_1 ++ []
def dkwX2_L_0 : List UInt8 := [27, 42, 27, 5, 182, 0, 17, 130, 42, 27, 16, 10, 182, 0, 17, 130, 42, 27, 16, 18, 182, 0, 17, 130]
abbrev dktX2_L_0 : List UInt8 := dkwX2_L_0 ++ dktX2_L_1
theorem dksX2_L_0 : cX2_L.data.toList.drop 0 = dktX2_L_0 := by decide +kernel
theorem dksX2_L_1 : cX2_L.data.toList.drop 24 = dktX2_L_1 := dk_seg dksX2_L_0 24 rfl rfl
theorem dX2_L_0 : decode cX2_L 0 = .ok (.iload_n 1, 1) := dk_27 (dk_at dksX2_L_0 0 rfl rfl)
theorem dX2_L_1 : decode cX2_L 1 = .ok (.aload_n 0, 1) := dk_42 (dk_at dksX2_L_0 1 rfl rfl)
theorem dX2_L_2 : decode cX2_L 2 = .ok (.iload_n 1, 1) := dk_27 (dk_at dksX2_L_0 2 rfl rfl)
theorem dX2_L_3 : decode cX2_L 3 = .ok (.iconst 2, 1) := dk_5 (dk_at dksX2_L_0 3 rfl rfl)
theorem dX2_L_4 : decode cX2_L 4 = .ok (.invokevirtual 17, 3) := dk_182 0 17 (dk_at dksX2_L_0 4 rfl rfl)
theorem dX2_L_7 : decode cX2_L 7 = .ok (.ixor, 1) := dk_130 (dk_at dksX2_L_0 7 rfl rfl)
theorem dX2_L_8 : decode cX2_L 8 = .ok (.aload_n 0, 1) := dk_42 (dk_at dksX2_L_0 8 rfl rfl)
theorem dX2_L_9 : decode cX2_L 9 = .ok (.iload_n 1, 1) := dk_27 (dk_at dksX2_L_0 9 rfl rfl)
theorem dX2_L_10 : decode cX2_L 10 = .ok (.bipush 10, 2) := dk_16 10 (dk_at dksX2_L_0 10 rfl rfl)
theorem dX2_L_12 : decode cX2_L 12 = .ok (.invokevirtual 17, 3) := dk_182 0 17 (dk_at dksX2_L_0 12 rfl rfl)
theorem dX2_L_15 : decode cX2_L 15 = .ok (.ixor, 1) := dk_130 (dk_at dksX2_L_0 15 rfl rfl)
theorem dX2_L_16 : decode cX2_L 16 = .ok (.aload_n 0, 1) := dk_42 (dk_at dksX2_L_0 16 rfl rfl)
theorem dX2_L_17 : decode cX2_L 17 = .ok (.iload_n 1, 1) := dk_27 (dk_at dksX2_L_0 17 rfl rfl)
theorem dX2_L_18 : decode cX2_L 18 = .ok (.bipush 18, 2) := dk_16 18 (dk_at dksX2_L_0 18 rfl rfl)
theorem dX2_L_20 : decode cX2_L 20 = .ok (.invokevirtual 17, 3) := dk_182 0 17 (dk_at dksX2_L_0 20 rfl rfl)
theorem dX2_L_23 : decode cX2_L 23 = .ok (.ixor, 1) := dk_130 (dk_at dksX2_L_0 23 rfl rfl)
theorem dX2_L_24 : decode cX2_L 24 = .ok (.aload_n 0, 1) := dk_42 (dk_at dksX2_L_1 0 rfl rfl)
theorem dX2_L_25 : decode cX2_L 25 = .ok (.iload_n 1, 1) := dk_27 (dk_at dksX2_L_1 1 rfl rfl)
theorem dX2_L_26 : decode cX2_L 26 = .ok (.bipush 24, 2) := dk_16 24 (dk_at dksX2_L_1 2 rfl rfl)
theorem dX2_L_28 : decode cX2_L 28 = .ok (.invokevirtual 17, 3) := dk_182 0 17 (dk_at dksX2_L_1 4 rfl rfl)
theorem dX2_L_31 : decode cX2_L 31 = .ok (.ixor, 1) := dk_130 (dk_at dksX2_L_1 7 rfl rfl)
theorem dX2_L_32 : decode cX2_L 32 = .ok (.istore_n 2, 1) := dk_61 (dk_at dksX2_L_1 8 rfl rfl)
theorem dX2_L_33 : decode cX2_L 33 = .ok (.iload_n 2, 1) := dk_28 (dk_at dksX2_L_1 9 rfl rfl)
theorem dX2_L_34 : decode cX2_L 34 = .ok (.ireturn, 1) := dk_172 (dk_at dksX2_L_1 10 rfl rfl)
abbrev cX2_F1 : ByteArray := prog_8_method_10_code
def yX2_F1 : MethodName := ⟨RX2, "F1", "([II)I"⟩
def dkwX2_F1_0 : List UInt8 := [43, 4, 46, 42, 43, 5, 46, 43, 6, 46, 130, 43, 3, 46, 130, 28, 130, 182, 0, 46, 130, 172]
abbrev dktX2_F1_0 : List UInt8 := dkwX2_F1_0 ++ []
theorem dksX2_F1_0 : cX2_F1.data.toList.drop 0 = dktX2_F1_0 := by decide +kernel
theorem dX2_F1_0 : decode cX2_F1 0 = .ok (.aload_n 1, 1) := dk_43 (dk_at dksX2_F1_0 0 rfl rfl)
theorem dX2_F1_1 : decode cX2_F1 1 = .ok (.iconst 1, 1) := dk_4 (dk_at dksX2_F1_0 1 rfl rfl)
theorem dX2_F1_2 : decode cX2_F1 2 = .ok (.iaload, 1) := dk_46 (dk_at dksX2_F1_0 2 rfl rfl)
theorem dX2_F1_3 : decode cX2_F1 3 = .ok (.aload_n 0, 1) := dk_42 (dk_at dksX2_F1_0 3 rfl rfl)
theorem dX2_F1_4 : decode cX2_F1 4 = .ok (.aload_n 1, 1) := dk_43 (dk_at dksX2_F1_0 4 rfl rfl)
theorem dX2_F1_5 : decode cX2_F1 5 = .ok (.iconst 2, 1) := dk_5 (dk_at dksX2_F1_0 5 rfl rfl)
theorem dX2_F1_6 : decode cX2_F1 6 = .ok (.iaload, 1) := dk_46 (dk_at dksX2_F1_0 6 rfl rfl)
theorem dX2_F1_7 : decode cX2_F1 7 = .ok (.aload_n 1, 1) := dk_43 (dk_at dksX2_F1_0 7 rfl rfl)
theorem dX2_F1_8 : decode cX2_F1 8 = .ok (.iconst 3, 1) := dk_6 (dk_at dksX2_F1_0 8 rfl rfl)
theorem dX2_F1_9 : decode cX2_F1 9 = .ok (.iaload, 1) := dk_46 (dk_at dksX2_F1_0 9 rfl rfl)
theorem dX2_F1_10 : decode cX2_F1 10 = .ok (.ixor, 1) := dk_130 (dk_at dksX2_F1_0 10 rfl rfl)
theorem dX2_F1_11 : decode cX2_F1 11 = .ok (.aload_n 1, 1) := dk_43 (dk_at dksX2_F1_0 11 rfl rfl)
theorem dX2_F1_12 : decode cX2_F1 12 = .ok (.iconst 0, 1) := dk_3 (dk_at dksX2_F1_0 12 rfl rfl)
theorem dX2_F1_13 : decode cX2_F1 13 = .ok (.iaload, 1) := dk_46 (dk_at dksX2_F1_0 13 rfl rfl)
theorem dX2_F1_14 : decode cX2_F1 14 = .ok (.ixor, 1) := dk_130 (dk_at dksX2_F1_0 14 rfl rfl)
theorem dX2_F1_15 : decode cX2_F1 15 = .ok (.iload_n 2, 1) := dk_28 (dk_at dksX2_F1_0 15 rfl rfl)
theorem dX2_F1_16 : decode cX2_F1 16 = .ok (.ixor, 1) := dk_130 (dk_at dksX2_F1_0 16 rfl rfl)
theorem dX2_F1_17 : decode cX2_F1 17 = .ok (.invokevirtual 46, 3) := dk_182 0 46 (dk_at dksX2_F1_0 17 rfl rfl)
theorem dX2_F1_20 : decode cX2_F1 20 = .ok (.ixor, 1) := dk_130 (dk_at dksX2_F1_0 20 rfl rfl)
theorem dX2_F1_21 : decode cX2_F1 21 = .ok (.ireturn, 1) := dk_172 (dk_at dksX2_F1_0 21 rfl rfl)
abbrev cX2_F2 : ByteArray := prog_8_method_11_code
def yX2_F2 : MethodName := ⟨RX2, "F2", "([II)I"⟩
def dkwX2_F2_0 : List UInt8 := [43, 5, 46, 42, 43, 6, 46, 43, 3, 46, 130, 43, 4, 46, 130, 28, 130, 182, 0, 46, 130, 172]
abbrev dktX2_F2_0 : List UInt8 := dkwX2_F2_0 ++ []
theorem dksX2_F2_0 : cX2_F2.data.toList.drop 0 = dktX2_F2_0 := by decide +kernel
theorem dX2_F2_0 : decode cX2_F2 0 = .ok (.aload_n 1, 1) := dk_43 (dk_at dksX2_F2_0 0 rfl rfl)
theorem dX2_F2_1 : decode cX2_F2 1 = .ok (.iconst 2, 1) := dk_5 (dk_at dksX2_F2_0 1 rfl rfl)
theorem dX2_F2_2 : decode cX2_F2 2 = .ok (.iaload, 1) := dk_46 (dk_at dksX2_F2_0 2 rfl rfl)
theorem dX2_F2_3 : decode cX2_F2 3 = .ok (.aload_n 0, 1) := dk_42 (dk_at dksX2_F2_0 3 rfl rfl)
theorem dX2_F2_4 : decode cX2_F2 4 = .ok (.aload_n 1, 1) := dk_43 (dk_at dksX2_F2_0 4 rfl rfl)
theorem dX2_F2_5 : decode cX2_F2 5 = .ok (.iconst 3, 1) := dk_6 (dk_at dksX2_F2_0 5 rfl rfl)
theorem dX2_F2_6 : decode cX2_F2 6 = .ok (.iaload, 1) := dk_46 (dk_at dksX2_F2_0 6 rfl rfl)
theorem dX2_F2_7 : decode cX2_F2 7 = .ok (.aload_n 1, 1) := dk_43 (dk_at dksX2_F2_0 7 rfl rfl)
theorem dX2_F2_8 : decode cX2_F2 8 = .ok (.iconst 0, 1) := dk_3 (dk_at dksX2_F2_0 8 rfl rfl)
theorem dX2_F2_9 : decode cX2_F2 9 = .ok (.iaload, 1) := dk_46 (dk_at dksX2_F2_0 9 rfl rfl)
theorem dX2_F2_10 : decode cX2_F2 10 = .ok (.ixor, 1) := dk_130 (dk_at dksX2_F2_0 10 rfl rfl)
theorem dX2_F2_11 : decode cX2_F2 11 = .ok (.aload_n 1, 1) := dk_43 (dk_at dksX2_F2_0 11 rfl rfl)
theorem dX2_F2_12 : decode cX2_F2 12 = .ok (.iconst 1, 1) := dk_4 (dk_at dksX2_F2_0 12 rfl rfl)
theorem dX2_F2_13 : decode cX2_F2 13 = .ok (.iaload, 1) := dk_46 (dk_at dksX2_F2_0 13 rfl rfl)
theorem dX2_F2_14 : decode cX2_F2 14 = .ok (.ixor, 1) := dk_130 (dk_at dksX2_F2_0 14 rfl rfl)
theorem dX2_F2_15 : decode cX2_F2 15 = .ok (.iload_n 2, 1) := dk_28 (dk_at dksX2_F2_0 15 rfl rfl)
theorem dX2_F2_16 : decode cX2_F2 16 = .ok (.ixor, 1) := dk_130 (dk_at dksX2_F2_0 16 rfl rfl)
theorem dX2_F2_17 : decode cX2_F2 17 = .ok (.invokevirtual 46, 3) := dk_182 0 46 (dk_at dksX2_F2_0 17 rfl rfl)
theorem dX2_F2_20 : decode cX2_F2 20 = .ok (.ixor, 1) := dk_130 (dk_at dksX2_F2_0 20 rfl rfl)
theorem dX2_F2_21 : decode cX2_F2 21 = .ok (.ireturn, 1) := dk_172 (dk_at dksX2_F2_0 21 rfl rfl)
abbrev cX2_F3 : ByteArray := prog_8_method_12_code
def yX2_F3 : MethodName := ⟨RX2, "F3", "([II)I"⟩
def dkwX2_F3_0 : List UInt8 := [43, 6, 46, 42, 43, 3, 46, 43, 4, 46, 130, 43, 5, 46, 130, 28, 130, 182, 0, 46, 130, 172]
abbrev dktX2_F3_0 : List UInt8 := dkwX2_F3_0 ++ []
theorem dksX2_F3_0 : cX2_F3.data.toList.drop 0 = dktX2_F3_0 := by decide +kernel
theorem dX2_F3_0 : decode cX2_F3 0 = .ok (.aload_n 1, 1) := dk_43 (dk_at dksX2_F3_0 0 rfl rfl)
theorem dX2_F3_1 : decode cX2_F3 1 = .ok (.iconst 3, 1) := dk_6 (dk_at dksX2_F3_0 1 rfl rfl)
theorem dX2_F3_2 : decode cX2_F3 2 = .ok (.iaload, 1) := dk_46 (dk_at dksX2_F3_0 2 rfl rfl)
theorem dX2_F3_3 : decode cX2_F3 3 = .ok (.aload_n 0, 1) := dk_42 (dk_at dksX2_F3_0 3 rfl rfl)
theorem dX2_F3_4 : decode cX2_F3 4 = .ok (.aload_n 1, 1) := dk_43 (dk_at dksX2_F3_0 4 rfl rfl)
theorem dX2_F3_5 : decode cX2_F3 5 = .ok (.iconst 0, 1) := dk_3 (dk_at dksX2_F3_0 5 rfl rfl)
theorem dX2_F3_6 : decode cX2_F3 6 = .ok (.iaload, 1) := dk_46 (dk_at dksX2_F3_0 6 rfl rfl)
theorem dX2_F3_7 : decode cX2_F3 7 = .ok (.aload_n 1, 1) := dk_43 (dk_at dksX2_F3_0 7 rfl rfl)
theorem dX2_F3_8 : decode cX2_F3 8 = .ok (.iconst 1, 1) := dk_4 (dk_at dksX2_F3_0 8 rfl rfl)
theorem dX2_F3_9 : decode cX2_F3 9 = .ok (.iaload, 1) := dk_46 (dk_at dksX2_F3_0 9 rfl rfl)
theorem dX2_F3_10 : decode cX2_F3 10 = .ok (.ixor, 1) := dk_130 (dk_at dksX2_F3_0 10 rfl rfl)
theorem dX2_F3_11 : decode cX2_F3 11 = .ok (.aload_n 1, 1) := dk_43 (dk_at dksX2_F3_0 11 rfl rfl)
theorem dX2_F3_12 : decode cX2_F3 12 = .ok (.iconst 2, 1) := dk_5 (dk_at dksX2_F3_0 12 rfl rfl)
theorem dX2_F3_13 : decode cX2_F3 13 = .ok (.iaload, 1) := dk_46 (dk_at dksX2_F3_0 13 rfl rfl)
theorem dX2_F3_14 : decode cX2_F3 14 = .ok (.ixor, 1) := dk_130 (dk_at dksX2_F3_0 14 rfl rfl)
theorem dX2_F3_15 : decode cX2_F3 15 = .ok (.iload_n 2, 1) := dk_28 (dk_at dksX2_F3_0 15 rfl rfl)
theorem dX2_F3_16 : decode cX2_F3 16 = .ok (.ixor, 1) := dk_130 (dk_at dksX2_F3_0 16 rfl rfl)
theorem dX2_F3_17 : decode cX2_F3 17 = .ok (.invokevirtual 46, 3) := dk_182 0 46 (dk_at dksX2_F3_0 17 rfl rfl)
theorem dX2_F3_20 : decode cX2_F3 20 = .ok (.ixor, 1) := dk_130 (dk_at dksX2_F3_0 20 rfl rfl)
theorem dX2_F3_21 : decode cX2_F3 21 = .ok (.ireturn, 1) := dk_172 (dk_at dksX2_F3_0 21 rfl rfl)
theorem q19 : (Jvm.Cond.initialized "SM4Engine") ∈ lw_all := lw_g (lw_at lw_m1 3 rfl) rfl
theorem q73 : (Jvm.Cond.instantiable "SM4Engine" (2 : Nat)) ∈ lw_all := lw_g (lw_at lw_m1 57 rfl) rfl
theorem q75 : (Jvm.Cond.instanceMethod ({ cls := "SM4Engine", name := "<init>", desc := "()V" } : Jvm.MethodName)) ∈ lw_all := lw_g (lw_at lw_m1 59 rfl) rfl
theorem q76 : (Jvm.Cond.code ({ cls := "SM4Engine", name := "<init>", desc := "()V" } : Jvm.MethodName) prog_8_method_1_code (1 : Nat) (Option.none : Option Jvm.ClassFile.FieldType)) ∈ lw_all := lw_g (lw_at lw_m1 60 rfl) rfl
theorem q77 : (Jvm.Cond.methodLink "SM4Engine" (1 : Nat) ({ cls := "java/lang/Object", name := "<init>", desc := "()V" } : Jvm.MethodName)) ∈ lw_all := lw_g (lw_at lw_m1 61 rfl) rfl
theorem q78 : (Jvm.Cond.fieldLink "SM4Engine" (7 : Nat) "SM4Engine" "X" "[I") ∈ lw_all := lw_g (lw_at lw_m1 62 rfl) rfl
theorem q79 : (Jvm.Cond.fieldLink "SM4Engine" (66 : Nat) "SM4Engine" "rk" "[I") ∈ lw_all := lw_g (lw_at lw_m1 63 rfl) rfl
theorem q80 : (Jvm.Cond.laysFinal "SM4Engine" "SM4Engine" "X" "[I") ∈ lw_all := lw_g (lw_at lw_m1 64 rfl) rfl
theorem q81 : (Jvm.Cond.soleField "SM4Engine" "X") ∈ lw_all := lw_g (lw_at lw_m1 65 rfl) rfl
theorem q82 : (Jvm.Cond.lays "SM4Engine" "SM4Engine" "rk" "[I") ∈ lw_all := lw_g (lw_at lw_m1 66 rfl) rfl
theorem q83 : (Jvm.Cond.soleField "SM4Engine" "rk") ∈ lw_all := lw_g (lw_at lw_m1 67 rfl) rfl
theorem q84 : (Jvm.Cond.superclass "SM4Engine" "java/lang/Object") ∈ lw_all := lw_g (lw_at lw_m1 68 rfl) rfl
theorem q109 : (Jvm.Cond.castable "SM4Engine" "BlockCipher") ∈ lw_tbl := lw_at lw_m1 93 rfl
theorem q110 : (Jvm.Cond.selects "SM4Engine" ({ cls := "BlockCipher", name := "init", desc := "(ZLCipherParameters;)V" } : Jvm.MethodName) ({ cls := "SM4Engine", name := "init", desc := "(ZLCipherParameters;)V" } : Jvm.MethodName)) ∈ lw_all := lw_g (lw_at lw_m1 94 rfl) rfl
theorem q111 : (Jvm.Cond.unhidden "SM4Engine" "init" "(ZLCipherParameters;)V") ∈ lw_tbl := lw_at lw_m1 95 rfl
theorem q112 : (Jvm.Cond.instanceMethod ({ cls := "SM4Engine", name := "init", desc := "(ZLCipherParameters;)V" } : Jvm.MethodName)) ∈ lw_all := lw_g (lw_at lw_m1 96 rfl) rfl
theorem q113 : (Jvm.Cond.publicMethod ({ cls := "SM4Engine", name := "init", desc := "(ZLCipherParameters;)V" } : Jvm.MethodName)) ∈ lw_tbl := lw_at lw_m1 97 rfl
theorem q114 : (Jvm.Cond.code ({ cls := "SM4Engine", name := "init", desc := "(ZLCipherParameters;)V" } : Jvm.MethodName) prog_8_method_13_code (4 : Nat) (Option.none : Option Jvm.ClassFile.FieldType)) ∈ lw_all := lw_g (lw_at lw_m1 98 rfl) rfl
theorem q115 : (Jvm.Cond.classLink "SM4Engine" (49 : Nat) "KeyParameter") ∈ lw_all := lw_g (lw_at lw_m1 99 rfl) rfl
theorem q116 : (Jvm.Cond.methodLink "SM4Engine" (51 : Nat) ({ cls := "KeyParameter", name := "getKey", desc := "()[B" } : Jvm.MethodName)) ∈ lw_all := lw_g (lw_at lw_m1 100 rfl) rfl
theorem q120 : (Jvm.Cond.classLink "SM4Engine" (55 : Nat) "java/lang/IllegalArgumentException") ∈ lw_all := lw_g (lw_at lw_m1 104 rfl) rfl
theorem q162 : (Jvm.Cond.stringRef "SM4Engine" (57 : Nat) "SM4 requires a 128 bit key") ∈ lw_tbl := lw_at lw_m1 146 rfl
theorem q163 : (Jvm.Cond.methodLink "SM4Engine" (59 : Nat) ({ cls := "java/lang/IllegalArgumentException", name := "<init>", desc := "(Ljava/lang/String;)V" } : Jvm.MethodName)) ∈ lw_all := lw_g (lw_at lw_m1 147 rfl) rfl
theorem q188 : (Jvm.Cond.methodLink "SM4Engine" (62 : Nat) ({ cls := "SM4Engine", name := "expandKey", desc := "(Z[B)[I" } : Jvm.MethodName)) ∈ lw_all := lw_g (lw_at lw_m1 172 rfl) rfl
theorem q189 : (Jvm.Cond.privateMethod ({ cls := "SM4Engine", name := "expandKey", desc := "(Z[B)[I" } : Jvm.MethodName)) ∈ lw_tbl := lw_at lw_m1 173 rfl
theorem q190 : (Jvm.Cond.instanceMethod ({ cls := "SM4Engine", name := "expandKey", desc := "(Z[B)[I" } : Jvm.MethodName)) ∈ lw_all := lw_g (lw_at lw_m1 174 rfl) rfl
theorem q191 : (Jvm.Cond.code ({ cls := "SM4Engine", name := "expandKey", desc := "(Z[B)[I" } : Jvm.MethodName) prog_8_method_6_code (7 : Nat) (Option.some (Jvm.ClassFile.FieldType.array Jvm.ClassFile.FieldType.int))) ∈ lw_all := lw_g (lw_at lw_m1 175 rfl) rfl
theorem q192 : (Jvm.Cond.methodLink "SM4Engine" (28 : Nat) ({ cls := "Pack", name := "bigEndianToInt", desc := "([BI)I" } : Jvm.MethodName)) ∈ lw_all := lw_g (lw_at lw_m1 176 rfl) rfl
theorem q195 : (Jvm.Cond.fieldLink "SM4Engine" (34 : Nat) "SM4Engine" "FK" "[I") ∈ lw_all := lw_g (lw_at lw_m1 179 rfl) rfl
theorem q196 : (Jvm.Cond.laysStatic "SM4Engine" "FK" "[I") ∈ lw_tbl := lw_at lw_m1 180 rfl
theorem q197 : (Jvm.Cond.fieldLink "SM4Engine" (37 : Nat) "SM4Engine" "CK" "[I") ∈ lw_all := lw_g (lw_at lw_m1 181 rfl) rfl
theorem q198 : (Jvm.Cond.laysStatic "SM4Engine" "CK" "[I") ∈ lw_tbl := lw_at lw_m1 182 rfl
theorem q199 : (Jvm.Cond.methodLink "SM4Engine" (40 : Nat) ({ cls := "SM4Engine", name := "T_ap", desc := "(I)I" } : Jvm.MethodName)) ∈ lw_all := lw_g (lw_at lw_m1 183 rfl) rfl
theorem q200 : (Jvm.Cond.privateMethod ({ cls := "SM4Engine", name := "T_ap", desc := "(I)I" } : Jvm.MethodName)) ∈ lw_tbl := lw_at lw_m1 184 rfl
theorem q201 : (Jvm.Cond.instanceMethod ({ cls := "SM4Engine", name := "T_ap", desc := "(I)I" } : Jvm.MethodName)) ∈ lw_all := lw_g (lw_at lw_m1 185 rfl) rfl
theorem q202 : (Jvm.Cond.code ({ cls := "SM4Engine", name := "T_ap", desc := "(I)I" } : Jvm.MethodName) prog_8_method_5_code (2 : Nat) (Option.some Jvm.ClassFile.FieldType.int)) ∈ lw_all := lw_g (lw_at lw_m1 186 rfl) rfl
theorem q203 : (Jvm.Cond.methodLink "SM4Engine" (21 : Nat) ({ cls := "SM4Engine", name := "tau", desc := "(I)I" } : Jvm.MethodName)) ∈ lw_all := lw_g (lw_at lw_m1 187 rfl) rfl
theorem q204 : (Jvm.Cond.privateMethod ({ cls := "SM4Engine", name := "tau", desc := "(I)I" } : Jvm.MethodName)) ∈ lw_tbl := lw_at lw_m1 188 rfl
theorem q205 : (Jvm.Cond.instanceMethod ({ cls := "SM4Engine", name := "tau", desc := "(I)I" } : Jvm.MethodName)) ∈ lw_all := lw_g (lw_at lw_m1 189 rfl) rfl
theorem q206 : (Jvm.Cond.code ({ cls := "SM4Engine", name := "tau", desc := "(I)I" } : Jvm.MethodName) prog_8_method_3_code (6 : Nat) (Option.some Jvm.ClassFile.FieldType.int)) ∈ lw_all := lw_g (lw_at lw_m1 190 rfl) rfl
theorem q207 : (Jvm.Cond.fieldLink "SM4Engine" (13 : Nat) "SM4Engine" "Sbox" "[B") ∈ lw_all := lw_g (lw_at lw_m1 191 rfl) rfl
theorem q208 : (Jvm.Cond.laysStatic "SM4Engine" "Sbox" "[B") ∈ lw_tbl := lw_at lw_m1 192 rfl
theorem q209 : (Jvm.Cond.methodLink "SM4Engine" (25 : Nat) ({ cls := "SM4Engine", name := "L_ap", desc := "(I)I" } : Jvm.MethodName)) ∈ lw_all := lw_g (lw_at lw_m1 193 rfl) rfl
theorem q210 : (Jvm.Cond.privateMethod ({ cls := "SM4Engine", name := "L_ap", desc := "(I)I" } : Jvm.MethodName)) ∈ lw_tbl := lw_at lw_m1 194 rfl
theorem q211 : (Jvm.Cond.instanceMethod ({ cls := "SM4Engine", name := "L_ap", desc := "(I)I" } : Jvm.MethodName)) ∈ lw_all := lw_g (lw_at lw_m1 195 rfl) rfl
theorem q212 : (Jvm.Cond.code ({ cls := "SM4Engine", name := "L_ap", desc := "(I)I" } : Jvm.MethodName) prog_8_method_4_code (2 : Nat) (Option.some Jvm.ClassFile.FieldType.int)) ∈ lw_all := lw_g (lw_at lw_m1 196 rfl) rfl
theorem q213 : (Jvm.Cond.methodLink "SM4Engine" (17 : Nat) ({ cls := "SM4Engine", name := "rotateLeft", desc := "(II)I" } : Jvm.MethodName)) ∈ lw_all := lw_g (lw_at lw_m1 197 rfl) rfl
theorem q214 : (Jvm.Cond.privateMethod ({ cls := "SM4Engine", name := "rotateLeft", desc := "(II)I" } : Jvm.MethodName)) ∈ lw_tbl := lw_at lw_m1 198 rfl
theorem q215 : (Jvm.Cond.instanceMethod ({ cls := "SM4Engine", name := "rotateLeft", desc := "(II)I" } : Jvm.MethodName)) ∈ lw_all := lw_g (lw_at lw_m1 199 rfl) rfl
theorem q216 : (Jvm.Cond.code ({ cls := "SM4Engine", name := "rotateLeft", desc := "(II)I" } : Jvm.MethodName) prog_8_method_2_code (3 : Nat) (Option.some Jvm.ClassFile.FieldType.int)) ∈ lw_all := lw_g (lw_at lw_m1 200 rfl) rfl
theorem q217 : (Jvm.Cond.stringRef "SM4Engine" (69 : Nat) "left out") ∈ lw_tbl := lw_at lw_m1 201 rfl
theorem q222 : (Jvm.Cond.selects "SM4Engine" ({ cls := "BlockCipher", name := "processBlock", desc := "([BI[BI)I" } : Jvm.MethodName) ({ cls := "SM4Engine", name := "processBlock", desc := "([BI[BI)I" } : Jvm.MethodName)) ∈ lw_all := lw_g (lw_at lw_m1 206 rfl) rfl
theorem q223 : (Jvm.Cond.unhidden "SM4Engine" "processBlock" "([BI[BI)I") ∈ lw_tbl := lw_at lw_m1 207 rfl
theorem q224 : (Jvm.Cond.instanceMethod ({ cls := "SM4Engine", name := "processBlock", desc := "([BI[BI)I" } : Jvm.MethodName)) ∈ lw_all := lw_g (lw_at lw_m1 208 rfl) rfl
theorem q225 : (Jvm.Cond.publicMethod ({ cls := "SM4Engine", name := "processBlock", desc := "([BI[BI)I" } : Jvm.MethodName)) ∈ lw_tbl := lw_at lw_m1 209 rfl
theorem q226 : (Jvm.Cond.code ({ cls := "SM4Engine", name := "processBlock", desc := "([BI[BI)I" } : Jvm.MethodName) prog_8_method_14_code (6 : Nat) (Option.some Jvm.ClassFile.FieldType.int)) ∈ lw_all := lw_g (lw_at lw_m1 210 rfl) rfl
theorem q227 : (Jvm.Cond.classLink "SM4Engine" (71 : Nat) "java/lang/IllegalStateException") ∈ lw_all := lw_g (lw_at lw_m1 211 rfl) rfl
theorem q236 : (Jvm.Cond.stringRef "SM4Engine" (73 : Nat) "SM4 not initialised") ∈ lw_tbl := lw_at lw_m1 220 rfl
theorem q237 : (Jvm.Cond.methodLink "SM4Engine" (75 : Nat) ({ cls := "java/lang/IllegalStateException", name := "<init>", desc := "(Ljava/lang/String;)V" } : Jvm.MethodName)) ∈ lw_all := lw_g (lw_at lw_m1 221 rfl) rfl
theorem q243 : (Jvm.Cond.classLink "SM4Engine" (76 : Nat) "DataLengthException") ∈ lw_all := lw_g (lw_at lw_m1 227 rfl) rfl
theorem q253 : (Jvm.Cond.stringRef "SM4Engine" (78 : Nat) "input buffer too short") ∈ lw_tbl := lw_at lw_m1 237 rfl
theorem q254 : (Jvm.Cond.methodLink "SM4Engine" (80 : Nat) ({ cls := "DataLengthException", name := "<init>", desc := "(Ljava/lang/String;)V" } : Jvm.MethodName)) ∈ lw_all := lw_g (lw_at lw_m1 238 rfl) rfl
theorem q263 : (Jvm.Cond.classLink "SM4Engine" (81 : Nat) "OutputLengthException") ∈ lw_all := lw_g (lw_at lw_m2 7 rfl) rfl
theorem q273 : (Jvm.Cond.stringRef "SM4Engine" (83 : Nat) "output buffer too short") ∈ lw_tbl := lw_at lw_m2 17 rfl
theorem q274 : (Jvm.Cond.methodLink "SM4Engine" (85 : Nat) ({ cls := "OutputLengthException", name := "<init>", desc := "(Ljava/lang/String;)V" } : Jvm.MethodName)) ∈ lw_all := lw_g (lw_at lw_m2 18 rfl) rfl
theorem q280 : (Jvm.Cond.methodLink "SM4Engine" (86 : Nat) ({ cls := "SM4Engine", name := "F0", desc := "([II)I" } : Jvm.MethodName)) ∈ lw_all := lw_g (lw_at lw_m2 24 rfl) rfl
theorem q281 : (Jvm.Cond.privateMethod ({ cls := "SM4Engine", name := "F0", desc := "([II)I" } : Jvm.MethodName)) ∈ lw_tbl := lw_at lw_m2 25 rfl
theorem q282 : (Jvm.Cond.instanceMethod ({ cls := "SM4Engine", name := "F0", desc := "([II)I" } : Jvm.MethodName)) ∈ lw_all := lw_g (lw_at lw_m2 26 rfl) rfl
theorem q283 : (Jvm.Cond.code ({ cls := "SM4Engine", name := "F0", desc := "([II)I" } : Jvm.MethodName) prog_8_method_9_code (3 : Nat) (Option.some Jvm.ClassFile.FieldType.int)) ∈ lw_all := lw_g (lw_at lw_m2 27 rfl) rfl
theorem q284 : (Jvm.Cond.methodLink "SM4Engine" (46 : Nat) ({ cls := "SM4Engine", name := "T", desc := "(I)I" } : Jvm.MethodName)) ∈ lw_all := lw_g (lw_at lw_m2 28 rfl) rfl
theorem q285 : (Jvm.Cond.privateMethod ({ cls := "SM4Engine", name := "T", desc := "(I)I" } : Jvm.MethodName)) ∈ lw_tbl := lw_at lw_m2 29 rfl
theorem q286 : (Jvm.Cond.instanceMethod ({ cls := "SM4Engine", name := "T", desc := "(I)I" } : Jvm.MethodName)) ∈ lw_all := lw_g (lw_at lw_m2 30 rfl) rfl
theorem q287 : (Jvm.Cond.code ({ cls := "SM4Engine", name := "T", desc := "(I)I" } : Jvm.MethodName) prog_8_method_8_code (2 : Nat) (Option.some Jvm.ClassFile.FieldType.int)) ∈ lw_all := lw_g (lw_at lw_m2 31 rfl) rfl
theorem q288 : (Jvm.Cond.methodLink "SM4Engine" (43 : Nat) ({ cls := "SM4Engine", name := "L", desc := "(I)I" } : Jvm.MethodName)) ∈ lw_all := lw_g (lw_at lw_m2 32 rfl) rfl
theorem q289 : (Jvm.Cond.privateMethod ({ cls := "SM4Engine", name := "L", desc := "(I)I" } : Jvm.MethodName)) ∈ lw_tbl := lw_at lw_m2 33 rfl
theorem q290 : (Jvm.Cond.instanceMethod ({ cls := "SM4Engine", name := "L", desc := "(I)I" } : Jvm.MethodName)) ∈ lw_all := lw_g (lw_at lw_m2 34 rfl) rfl
theorem q291 : (Jvm.Cond.code ({ cls := "SM4Engine", name := "L", desc := "(I)I" } : Jvm.MethodName) prog_8_method_7_code (3 : Nat) (Option.some Jvm.ClassFile.FieldType.int)) ∈ lw_all := lw_g (lw_at lw_m2 35 rfl) rfl
theorem q292 : (Jvm.Cond.methodLink "SM4Engine" (90 : Nat) ({ cls := "SM4Engine", name := "F1", desc := "([II)I" } : Jvm.MethodName)) ∈ lw_all := lw_g (lw_at lw_m2 36 rfl) rfl
theorem q293 : (Jvm.Cond.privateMethod ({ cls := "SM4Engine", name := "F1", desc := "([II)I" } : Jvm.MethodName)) ∈ lw_tbl := lw_at lw_m2 37 rfl
theorem q294 : (Jvm.Cond.instanceMethod ({ cls := "SM4Engine", name := "F1", desc := "([II)I" } : Jvm.MethodName)) ∈ lw_all := lw_g (lw_at lw_m2 38 rfl) rfl
theorem q295 : (Jvm.Cond.code ({ cls := "SM4Engine", name := "F1", desc := "([II)I" } : Jvm.MethodName) prog_8_method_10_code (3 : Nat) (Option.some Jvm.ClassFile.FieldType.int)) ∈ lw_all := lw_g (lw_at lw_m2 39 rfl) rfl
theorem q296 : (Jvm.Cond.methodLink "SM4Engine" (93 : Nat) ({ cls := "SM4Engine", name := "F2", desc := "([II)I" } : Jvm.MethodName)) ∈ lw_all := lw_g (lw_at lw_m2 40 rfl) rfl
theorem q297 : (Jvm.Cond.privateMethod ({ cls := "SM4Engine", name := "F2", desc := "([II)I" } : Jvm.MethodName)) ∈ lw_tbl := lw_at lw_m2 41 rfl
theorem q298 : (Jvm.Cond.instanceMethod ({ cls := "SM4Engine", name := "F2", desc := "([II)I" } : Jvm.MethodName)) ∈ lw_all := lw_g (lw_at lw_m2 42 rfl) rfl
theorem q299 : (Jvm.Cond.code ({ cls := "SM4Engine", name := "F2", desc := "([II)I" } : Jvm.MethodName) prog_8_method_11_code (3 : Nat) (Option.some Jvm.ClassFile.FieldType.int)) ∈ lw_all := lw_g (lw_at lw_m2 43 rfl) rfl
theorem q300 : (Jvm.Cond.methodLink "SM4Engine" (96 : Nat) ({ cls := "SM4Engine", name := "F3", desc := "([II)I" } : Jvm.MethodName)) ∈ lw_all := lw_g (lw_at lw_m2 44 rfl) rfl
theorem q301 : (Jvm.Cond.privateMethod ({ cls := "SM4Engine", name := "F3", desc := "([II)I" } : Jvm.MethodName)) ∈ lw_tbl := lw_at lw_m2 45 rfl
theorem q302 : (Jvm.Cond.instanceMethod ({ cls := "SM4Engine", name := "F3", desc := "([II)I" } : Jvm.MethodName)) ∈ lw_all := lw_g (lw_at lw_m2 46 rfl) rfl
theorem q303 : (Jvm.Cond.code ({ cls := "SM4Engine", name := "F3", desc := "([II)I" } : Jvm.MethodName) prog_8_method_12_code (3 : Nat) (Option.some Jvm.ClassFile.FieldType.int)) ∈ lw_all := lw_g (lw_at lw_m2 47 rfl) rfl
theorem q304 : (Jvm.Cond.methodLink "SM4Engine" (99 : Nat) ({ cls := "Pack", name := "intToBigEndian", desc := "(I[BI)V" } : Jvm.MethodName)) ∈ lw_all := lw_g (lw_at lw_m2 48 rfl) rfl
theorem in_X2 : ∀ w ∈ wsX20, w ∈ lw_all := lw_in wsX20 [80, 82] (by decide +kernel) (by decide +kernel)
end
section
/-! WRAPPERS of mine over the kit's rows: entry of a method, pure calls, calls with a world, arrays by a Nat place, loops -/
abbrev sCl : List vw_C := [(RX0, TX0, 3), (RX1, TX1, 6), (RX2, TX2, 2), (RX3, TX3, 1)]
abbrev sTy (dB dN : ClassId) : List (ClassId × FieldType) := [(dB, .byte), (dN, .int)]
/-- what is said of tables and a heap holds under any state of the same tables -/
def sm_Mv (Pre : State → Heap → Prop) : Prop := ∀ (s U : State) (H : Heap), s.vm.Alike U.vm → Pre s H → Pre U H
theorem sm_Mv_true : sm_Mv (fun _ _ => True) := fun _ _ _ _ _ => trivial
/-- a part of the start that nobody writes: moved, kept, narrowed -/
def sm_Ok (Ex : (Nat → Prop) → State → Heap → Prop) : Prop := (∀ (A : Nat → Prop) (s U : State) (H : Heap), s.vm.Alike U.vm → Ex A s H → Ex A U H) ∧ (∀ (A : Nat → Prop) (U : State) (H H1 : Heap), Ex A U H → (∀ a : Nat, a < H.size → ¬ A a → H1[a]? = H[a]?) → Ex A U H1) ∧ (∀ (A B : Nat → Prop) (U : State) (H : Heap), Ex A U H → (∀ q, B q → A q) → Ex B U H)
abbrev sm_no : (Nat → Prop) → State → Heap → Prop := fun _ _ _ => True
theorem sm_no_ok : sm_Ok sm_no := ⟨fun _ _ _ _ _ _ => trivial, fun _ _ _ _ _ _ => trivial, fun _ _ _ _ _ _ => trivial⟩
theorem sm_met {l : Launch} {y : MethodName} {cc : ByteArray} {maxL : Nat} {ret : Option FieldType} {rm : Room} {As : List Value} {B : State → Prop} {Qc : Array Value → State → Outcome → State → Prop} {mc ms : Nat} {free : Addr → Prop} (hy : plainName y.cls = true) (hlen : (lg_sl As).length ≤ maxL)
    (body : ∀ (p : Program) (e : Env) (s : State) (m : MethodId) (below : List Frame) (meth : Method) (c : Code) (ls : Array Slot), p.tables.exec = Jvm.exec → c.code = cc → meth.sig.returnType = ret → meth.locks = false → c.maxLocals = maxL → s.vm.findClass y.cls = some m.cls → meth.name = y.name → (∀ w ∈ lw_all, w.before As.toArray s = true) → B s → lv_has ls maxL (lv_args 0 As) → W p l e rm s m As.toArray below meth c s.heap [] 0 0 (MQ below Qc As.toArray s mc ms free) (F0 m 0 ls [])) : Met l y (ws_ y cc maxL ret) rm (va_Pc As B) Qc mc ms free := by
  refine Met.ofW (cc := cc) (maxL := maxL) (ret := ret) hy rfl ?_
  intro p e s m args below meth c s₁ B0 hml hv
  obtain ⟨rfl, hB⟩ := hv
  have hts := atoms_spec (ws := ws_ y cc maxL ret) B0.pre
  have hl := lv_entry As (n := maxL) hlen
  rw [lg_entry_eq]
  generalize (lg_sl As ++ List.replicate (maxL - (lg_sl As).length) Slot.unset).toArray = ls at hl ⊢
  exact body p e s m below meth c ls B0.exec B0.bytes B0.returns B0.notSynchronized hml (findClass_of_methodNamed B0.named) (name_of_methodNamed B0.named B0.method).1 (fun w h => hts w (List.mem_cons_of_mem _ h)) hB hl
/-- a method that writes nothing and answers the int v -/
abbrev sm_Pure (l : Launch) (y : MethodName) (cc : ByteArray) (maxL : Nat) (rm : Room) (As : List Value) (Pre : State → Heap → Prop) (v : Int32) : Prop := Met l y (ws_ y cc maxL (some .int)) rm (va_Pc As (fun U => Pre U U.heap)) (vp_Si (fun r => r = v)) 0 0 (fun _ => False)
section SMW
variable {p : Program} {l : Launch} {e : Env} {R : Room} {s : State} {m : MethodId} {args : Array Value} {below : List Frame} {meth : Method} {c : Code} {H : Heap} {locs : List Loc} {cells slots : Nat} {Q : State → Prop}
variable {cc bytes : ByteArray} {pc nL maxL index : Nat} {ls : Array Slot} {rest st As : List Value} {y : MethodName} {rm : Room} {own C : String}
theorem sm_iret {v w : Int32} (hx : p.tables.exec = Jvm.exec) (hb : c.code = cc) (hr : meth.sig.returnType = some .int) (hlk : meth.locks = false) (hv : w = v) (hdg : decode cc pc = .ok (.ireturn, 1)) : W p l e R s m args below meth c s.heap [] 0 0 (MQ below (vp_Si (fun r => r = v)) args s 0 0 (fun _ => False)) (F0 m pc ls [.int w]) :=
  W.iret (v := w) hx hb hr (fun t ht _ => ⟨w, rfl, hv, ht⟩) (fun _ h => by cases h) hdg
theorem sm_pS {Pre : State → Heap → Prop} {v : Int32} (hF : CallFix p m c cc nL s args lw_all own) (hM : sm_Pure l y bytes maxL rm As Pre v) (hG : GoodIn lw_all (va_wsS own index y (ws_ y bytes maxL (some .int))))
    (hd : y.cls ≠ "java/lang/invoke/MethodHandle" ∧ y.cls ≠ "java/lang/invoke/VarHandle" ∧ (parseMethodDescriptor y.desc).map (fun d => d.parameters.length) = some As.length)
    (hR : rm.cells = 0 ∧ rm.slots = 0 ∧ rm.frames + 1 ≤ R.frames ∧ 8 + (maxL + 11) + rm.locals ≤ R.locals)
    (hmv : sm_Mv Pre) (hpre : Pre s H) (hls : ls.size = nL) (hst : st = As.reverse ++ rest) (hw : (rest.map fun v => v.category).sum ≤ 8) (hdg : decode cc pc = .ok (.invokestatic index, 3)) (hc : cells ≤ R.cells ∧ slots ≤ R.slots)
    (kk : W p l e R s m args below meth c H locs cells slots Q (F0 m (pc + 3) ls (.int v :: rest))) : W p l e R s m args below meth c H locs cells slots Q (F0 m pc ls st) := by
  refine vp_callSi (va_Run.run (va_runS (As := As) (rest := rest) (n := As.length) hF hM (va_cwS As.length hF.2.2.2.2 hG rfl hR.1 hR.2.1 hd hR.2.2) ⟨fun a U g mk q => ?_, fun U hU hW => ?_⟩ rfl rfl hls hst (lv_room hw) hdg hc)) (fun r hr => ?_)
  · obtain ⟨q1, q2⟩ := q
    exact ⟨q1, hmv U _ _ (Vm.Alike.refl U.vm) q2⟩
  · exact ⟨rfl, hmv s U _ hW.alike (by rw [hU]; exact hpre)⟩
  · subst hr
    exact kk
theorem sm_pV {b : Nat} {Pre : State → Heap → Prop} {v : Int32} (hF : CallFix p m c cc nL s args lw_all own) (hM : sm_Pure l y bytes maxL rm (.ref b :: As) Pre v) (hG : GoodIn lw_all (wsV own index C y (ws_ y bytes maxL (some .int))))
    (hd : y.cls = C ∧ y.cls ≠ "java/lang/invoke/MethodHandle" ∧ y.cls ≠ "java/lang/invoke/VarHandle" ∧ (parseMethodDescriptor y.desc).map (fun d => d.parameters.length) = some As.length)
    (hR : rm.cells = 0 ∧ rm.slots = 0 ∧ rm.frames + 1 ≤ R.frames ∧ 8 + (maxL + 11) + rm.locals ≤ R.locals)
    (hrec : ∃ cell : Cell, H[b]? = some cell ∧ cell.vm.isStatics = false ∧ s.vm.findClass C = some cell.cls)
    (hmv : sm_Mv Pre) (hpre : Pre s H) (hls : ls.size = nL) (hst : st = As.reverse ++ .ref b :: rest) (hw : (rest.map fun v => v.category).sum ≤ 8) (hdg : decode cc pc = .ok (.invokevirtual index, 3)) (hc : cells ≤ R.cells ∧ slots ≤ R.slots)
    (kk : W p l e R s m args below meth c H locs cells slots Q (F0 m (pc + 3) ls (.int v :: rest))) : W p l e R s m args below meth c H locs cells slots Q (F0 m pc ls st) := by
  refine vp_callSi (va_Run.run (va_runV (As := As) (rest := rest) (n := As.length) hF hM (cwV As.length hF.2.2.2.2 hG rfl hR.1 hR.2.1 hd hR.2.2) ⟨fun a U g mk q => ?_, hrec, fun U hU hW => ?_⟩ rfl rfl hls hst (lv_room hw) hdg hc)) (fun r hr => ?_)
  · obtain ⟨q1, q2⟩ := q
    exact ⟨q1, hmv U _ _ (Vm.Alike.refl U.vm) q2⟩
  · exact ⟨rfl, hmv s U _ hW.alike (by rw [hU]; exact hpre)⟩
  · subst hr
    exact kk
/-- the start of a method with a world w -/
abbrev sm_Pre (D : va_G) (dB dN : ClassId) (w : va_W) (sz : Nat) (Ex : (Nat → Prop) → State → Heap → Prop) : State → Prop := fun U => U.heap.size = sz ∧ va_P D sCl w U.heap ∧ va_K D sCl (sTy dB dN) U ∧ va_D (fun _ => True) w ∧ Ex (va_A w sz) U U.heap
abbrev sm_B (D : va_G) (dB dN : ClassId) (A : Nat → Prop) {S : Type} (w1 : S → va_W) : S → State → Prop := fun u t => va_P D sCl (w1 u) t.heap ∧ va_K D sCl (sTy dB dN) t ∧ va_D A (w1 u)
abbrev sm_Eff (l : Launch) (D : va_G) (dB dN : ClassId) (y : MethodName) (cc : ByteArray) (maxL : Nat) (rm : Room) (As : List Value) (w : va_W) (Ex : (Nat → Prop) → State → Heap → Prop) {S : Type} (post : S → Prop) (w1 : S → va_W) : Prop := ∀ sz : Nat, Met l y (ws_ y cc maxL none) rm (va_Pc As (sm_Pre D dB dN w sz Ex)) (va_Qv post (sm_B D dB dN (va_A w sz) w1) (va_A w sz)) rm.cells rm.slots (va_A w sz)
variable {D : va_G} {dB dN : ClassId} {A : Nat → Prop} {ws wc wr : va_W} {Ex : (Nat → Prop) → State → Heap → Prop} {S : Type} {post : S → Prop} {w1 : S → va_W}
theorem sm_blind (hOk : sm_Ok Ex) {w : va_W} {sz : Nat} {av : List Value} : FrameBlind (va_Pc av (sm_Pre D dB dN w sz Ex)) := by
  intro a U g mk q
  obtain ⟨q0, q1, qP, qK, qD, qE⟩ := q
  exact ⟨q0, q1, qP, va_K.moved (u := U) (U := U.calling g mk a) (Vm.Alike.refl U.vm) qK, qD, hOk.1 _ U _ _ (Vm.Alike.refl U.vm) qE⟩
theorem sm_pre (hOk : sm_Ok Ex) (hEx : Ex A s s.heap) (hK : va_K D sCl (sTy dB dN) s) (hP : va_P D sCl ws H) (hD : va_D A ws) (hS : va_S A s.heap H locs) (hA : ∀ q, s.heap.size ≤ q → A q)
    (isC : List Nat) (hC : isC.filterMap (fun i => ws[i]?) = wc) (hC2 : isC.map (fun i => ws[i]?) = wc.map some) (hnC : va_nd isC = true) {av : List Value} : ∀ U : State, U.heap = H → s.WarmedH U.vm → va_Pc av (sm_Pre D dB dN wc H.size Ex) av.toArray U := by
  intro U hU hW
  refine ⟨rfl, by rw [hU], by rw [hU]; exact hP.sub isC hC, va_K.moved hW.alike hK, (hD.sub isC hnC hC2).weaken (fun _ _ _ _ => trivial), ?_⟩
  rw [hU]
  exact hOk.1 _ s U _ hW.alike (hOk.2.2 _ _ _ _ (hOk.2.1 _ _ _ H hEx hS.2.1) (va_free hD hS hA isC hC2))
theorem sm_cS (hF : CallFix p m c cc nL s args lw_all own) (hM : sm_Eff l D dB dN y bytes maxL rm As wc Ex post w1) (hG : GoodIn lw_all (va_wsS own index y (ws_ y bytes maxL none)))
    (hd : y.cls ≠ "java/lang/invoke/MethodHandle" ∧ y.cls ≠ "java/lang/invoke/VarHandle" ∧ (parseMethodDescriptor y.desc).map (fun d => d.parameters.length) = some As.length)
    (hR : rm.frames + 1 ≤ R.frames ∧ 8 + (maxL + 11) + rm.locals ≤ R.locals)
    (hOk : sm_Ok Ex) (hEx : Ex A s s.heap) (hK : va_K D sCl (sTy dB dN) s) (hP : va_P D sCl ws H) (hD : va_D A ws) (hS : va_S A s.heap H locs) (hA : ∀ q, s.heap.size ≤ q → A q)
    (isC isR : List Nat) (hC : isC.filterMap (fun i => ws[i]?) = wc) (hC2 : isC.map (fun i => ws[i]?) = wc.map some) (hRr : isR.map (fun i => ws[i]?) = wr.map some) (hnC : va_nd isC = true) (hn : va_nd isR = true) (hdis : ∀ i ∈ isR, i ∉ isC)
    (hls : ls.size = nL) (hst : st = As.reverse ++ rest) (hw : (rest.map fun v => v.category).sum ≤ 8) (hdg : decode cc pc = .ok (.invokestatic index, 3)) (hc : cells + rm.cells ≤ R.cells ∧ slots + rm.slots ≤ R.slots)
    (kk : ∀ (u : S) (H1 : Heap) (locs1 : List Loc), post u → va_P D sCl (wr ++ w1 u) H1 → va_D A (wr ++ w1 u) → va_S A s.heap H1 locs1 → W p l e R s m args below meth c H1 locs1 (cells + rm.cells) (slots + rm.slots) Q (F0 m (pc + 3) ls rest)) : W p l e R s m args below meth c H locs cells slots Q (F0 m pc ls st) := by
  have hFc := va_free hD hS hA isC hC2
  refine va_callv (va_runS (As := As) (rest := rest) (n := As.length) hF (hM H.size) (va_cwS As.length hF.2.2.2.2 hG rfl rfl rfl hd hR) ⟨sm_blind hOk, sm_pre hOk hEx hK hP hD hS hA isC hC hC2 hnC⟩ rfl rfl hls hst (lv_room hw) hdg hc) hS (fun q _ h => hFc q h) hFc (fun u t H1 locs1 ht hvm hp hB hz1 hk1 hS1 => ?_)
  obtain ⟨hP1, hK1, hD1⟩ := hB
  rw [ht] at hP1
  obtain ⟨hP2, hD2⟩ := va_join hP hD isC isR hC2 hRr hn hdis hk1 hFc hP1 hD1
  exact kk u H1 locs1 hp hP2 hD2 hS1
theorem sm_cV {b : Nat} (hF : CallFix p m c cc nL s args lw_all own) (hM : sm_Eff l D dB dN y bytes maxL rm (.ref b :: As) wc Ex post w1) (hG : GoodIn lw_all (wsV own index C y (ws_ y bytes maxL none)))
    (hd : y.cls = C ∧ y.cls ≠ "java/lang/invoke/MethodHandle" ∧ y.cls ≠ "java/lang/invoke/VarHandle" ∧ (parseMethodDescriptor y.desc).map (fun d => d.parameters.length) = some As.length)
    (hR : rm.frames + 1 ≤ R.frames ∧ 8 + (maxL + 11) + rm.locals ≤ R.locals)
    (hrec : ∃ cell : Cell, H[b]? = some cell ∧ cell.vm.isStatics = false ∧ s.vm.findClass C = some cell.cls)
    (hOk : sm_Ok Ex) (hEx : Ex A s s.heap) (hK : va_K D sCl (sTy dB dN) s) (hP : va_P D sCl ws H) (hD : va_D A ws) (hS : va_S A s.heap H locs) (hA : ∀ q, s.heap.size ≤ q → A q)
    (isC isR : List Nat) (hC : isC.filterMap (fun i => ws[i]?) = wc) (hC2 : isC.map (fun i => ws[i]?) = wc.map some) (hRr : isR.map (fun i => ws[i]?) = wr.map some) (hnC : va_nd isC = true) (hn : va_nd isR = true) (hdis : ∀ i ∈ isR, i ∉ isC)
    (hls : ls.size = nL) (hst : st = As.reverse ++ .ref b :: rest) (hw : (rest.map fun v => v.category).sum ≤ 8) (hdg : decode cc pc = .ok (.invokevirtual index, 3)) (hc : cells + rm.cells ≤ R.cells ∧ slots + rm.slots ≤ R.slots)
    (kk : ∀ (u : S) (H1 : Heap) (locs1 : List Loc), post u → va_P D sCl (wr ++ w1 u) H1 → va_D A (wr ++ w1 u) → va_S A s.heap H1 locs1 → W p l e R s m args below meth c H1 locs1 (cells + rm.cells) (slots + rm.slots) Q (F0 m (pc + 3) ls rest)) : W p l e R s m args below meth c H locs cells slots Q (F0 m pc ls st) := by
  have hFc := va_free hD hS hA isC hC2
  refine va_callv (va_runV (As := As) (rest := rest) (n := As.length) hF (hM H.size) (cwV As.length hF.2.2.2.2 hG rfl rfl rfl hd hR) ⟨sm_blind hOk, hrec, sm_pre hOk hEx hK hP hD hS hA isC hC hC2 hnC⟩ rfl rfl hls hst (lv_room hw) hdg hc) hS (fun q _ h => hFc q h) hFc (fun u t H1 locs1 ht hvm hp hB hz1 hk1 hS1 => ?_)
  obtain ⟨hP1, hK1, hD1⟩ := hB
  rw [ht] at hP1
  obtain ⟨hP2, hD2⟩ := va_join hP hD isC isR hC2 hRr hn hdis hk1 hFc hP1 hD1
  exact kk u H1 locs1 hp hP2 hD2 hS1
theorem sm_cI {b : Nat} (hF : CallFix p m c cc nL s args lw_all own) (hM : sm_Eff l D dB dN y bytes maxL rm (.ref b :: As) wc Ex post w1) (hG : GoodIn lw_all (ws_ y bytes maxL none)) (hini : (Cond.initialized y.cls).before args s = true) (hlk : (Cond.methodLink own index y).before args s = true) (hin : (Cond.instanceMethod y).before args s = true) (hy1 : y.name = "<init>")
    (hd : y.cls ≠ "java/lang/invoke/MethodHandle" ∧ y.cls ≠ "java/lang/invoke/VarHandle" ∧ (parseMethodDescriptor y.desc).map (fun d => d.parameters.length) = some As.length)
    (hR : rm.frames + 1 ≤ R.frames ∧ 8 + (maxL + 11) + rm.locals ≤ R.locals)
    (hOk : sm_Ok Ex) (hEx : Ex A s s.heap) (hK : va_K D sCl (sTy dB dN) s) (hP : va_P D sCl ws H) (hD : va_D A ws) (hS : va_S A s.heap H locs) (hA : ∀ q, s.heap.size ≤ q → A q)
    (isC isR : List Nat) (hC : isC.filterMap (fun i => ws[i]?) = wc) (hC2 : isC.map (fun i => ws[i]?) = wc.map some) (hRr : isR.map (fun i => ws[i]?) = wr.map some) (hnC : va_nd isC = true) (hn : va_nd isR = true) (hdis : ∀ i ∈ isR, i ∉ isC)
    (hls : ls.size = nL) (hst : st = As.reverse ++ .ref b :: rest) (hw : (rest.map fun v => v.category).sum ≤ 8) (hdg : decode cc pc = .ok (.invokespecial index, 3)) (hc : cells + rm.cells ≤ R.cells ∧ slots + rm.slots ≤ R.slots)
    (kk : ∀ (u : S) (H1 : Heap) (locs1 : List Loc), post u → va_P D sCl (wr ++ w1 u) H1 → va_D A (wr ++ w1 u) → va_S A s.heap H1 locs1 → W p l e R s m args below meth c H1 locs1 (cells + rm.cells) (slots + rm.slots) Q (F0 m (pc + 3) ls rest)) : W p l e R s m args below meth c H locs cells slots Q (F0 m pc ls st) := by
  have hFc := va_free hD hS hA isC hC2
  refine va_callv (va_runI (As := As) (rest := rest) (n := As.length) hF (hM H.size) (cwI As.length hF.2.2.2.2 hG rfl rfl rfl hini hlk hin hy1 hd hR) ⟨sm_blind hOk, sm_pre hOk hEx hK hP hD hS hA isC hC hC2 hnC⟩ rfl rfl hls hst (lv_room hw) hdg hc) hS (fun q _ h => hFc q h) hFc (fun u t H1 locs1 ht hvm hp hB hz1 hk1 hS1 => ?_)
  obtain ⟨hP1, hK1, hD1⟩ := hB
  rw [ht] at hP1
  obtain ⟨hP2, hD2⟩ := va_join hP hD isC isR hC2 hRr hn hdis hk1 hFc hP1 hD1
  exact kk u H1 locs1 hp hP2 hD2 hS1
/-- a method's end, void, with its world -/
theorem sm_vret {u : S} {sz : Nat} {w : va_W} (hx : p.tables.exec = Jvm.exec) (hb : c.code = cc) (hr : meth.sig.returnType = none) (hlk : meth.locks = false) (hAe : va_A w sz = A) (hp : post u) (hP : va_P D sCl (w1 u) H) (hK : va_K D sCl (sTy dB dN) s) (hD : va_D A (w1 u)) (hS : va_S A s.heap H locs) {k n : Nat} (h1 : cells ≤ k) (h2 : slots ≤ n) (hdg : decode cc pc = .ok (.return_, 1)) : W p l e R s m args below meth c H locs cells slots (MQ below (va_Qv post (sm_B D dB dN (va_A w sz) w1) (va_A w sz)) args s k n (va_A w sz)) (F0 m pc ls []) := by
  subst hAe
  refine W.widen h1 h2 ?_
  exact W.vret hx hb hr (fun t ht hW => ⟨⟨u, rfl, hp, by rw [ht]; exact hP, va_K.moved hW.alike hK, hD⟩, hS.F ht⟩) hS.2.2 hdg
theorem sm_iald {a n : Nat} {f : Nat → Int32} {i : Int32} (hx : p.tables.exec = Jvm.exec) (hb : c.code = cc) (hK : va_K D sCl (sTy dB dN) s) (hP : va_P D sCl ws H) (q0 : Nat) (ha : ws[q0]? = some (a, .inl (dN, n, .inl f))) (k : Nat) (hi : i = nI k) (hk : k < n) (hn : n < 2 ^ 31) (hdg : decode cc pc = .ok (.iaload, 1))
    (kk : W p l e R s m args below meth c H locs cells slots Q (F0 m (pc + 1) ls (.int (f k) :: rest))) : W p l e R s m args below meth c H locs cells slots Q (F0 m pc ls (.int i :: .ref a :: rest)) := by
  subst hi
  refine va_iald hx hb hK hP q0 1 ha rfl (vp_in_nI hk hn) hdg ?_
  rw [nI_clamp (Nat.lt_trans hk hn)]
  exact kk
theorem sm_bald {a n : Nat} {f : Nat → Int32} {i : Int32} (hx : p.tables.exec = Jvm.exec) (hb : c.code = cc) (hK : va_K D sCl (sTy dB dN) s) (hP : va_P D sCl ws H) (q0 : Nat) (ha : ws[q0]? = some (a, .inl (dB, n, .inl f))) (k : Nat) (hi : i = nI k) (hk : k < n) (hn : n < 2 ^ 31) (hdg : decode cc pc = .ok (.baload, 1))
    (kk : W p l e R s m args below meth c H locs cells slots Q (F0 m (pc + 1) ls (.int (f k) :: rest))) : W p l e R s m args below meth c H locs cells slots Q (F0 m pc ls (.int i :: .ref a :: rest)) := by
  subst hi
  refine va_bald hx hb hK hP q0 0 ha rfl (vp_in_nI hk hn) hdg ?_
  rw [nI_clamp (Nat.lt_trans hk hn)]
  exact kk
theorem sm_iast {a n : Nat} {f : Nat → Int32} {i x : Int32} {H0 : Heap} (hx : p.tables.exec = Jvm.exec) (hb : c.code = cc) (hK : va_K D sCl (sTy dB dN) s) (hP : va_P D sCl ws H) (hD : va_D A ws) (hS : va_S A H0 H locs) (q0 : Nat) (ha : ws[q0]? = some (a, .inl (dN, n, .inl f))) (k : Nat) (hi : i = nI k) (hk : k < n) (hn : n < 2 ^ 31) (hdg : decode cc pc = .ok (.iastore, 1))
    (kk : ∀ (H1 : Heap) (locs1 : List Loc), va_P D sCl (ws.set q0 (a, .inl (dN, n, .inl (upd f k x)))) H1 → va_D A (ws.set q0 (a, .inl (dN, n, .inl (upd f k x)))) → va_S A H0 H1 locs1 → W p l e R s m args below meth c H1 locs1 cells slots Q (F0 m (pc + 1) ls rest)) : W p l e R s m args below meth c H locs cells slots Q (F0 m pc ls (.int x :: .int i :: .ref a :: rest)) := by
  subst hi
  refine va_iast hx hb hK hP hD hS q0 1 ha rfl (vp_in_nI hk hn) hdg ?_
  rw [nI_clamp (Nat.lt_trans hk hn)]
  exact kk
theorem sm_bast {a n : Nat} {f : Nat → Int32} {i x x' : Int32} {H0 : Heap} (hx : p.tables.exec = Jvm.exec) (hb : c.code = cc) (hK : va_K D sCl (sTy dB dN) s) (hP : va_P D sCl ws H) (hD : va_D A ws) (hS : va_S A H0 H locs) (q0 : Nat) (ha : ws[q0]? = some (a, .inl (dB, n, .inl f))) (k : Nat) (hi : i = nI k) (hk : k < n) (hn : n < 2 ^ 31) (hxv : vp_nar .byte x = x') (hdg : decode cc pc = .ok (.bastore, 1))
    (kk : ∀ (H1 : Heap) (locs1 : List Loc), va_P D sCl (ws.set q0 (a, .inl (dB, n, .inl (upd f k x')))) H1 → va_D A (ws.set q0 (a, .inl (dB, n, .inl (upd f k x')))) → va_S A H0 H1 locs1 → W p l e R s m args below meth c H1 locs1 cells slots Q (F0 m (pc + 1) ls rest)) : W p l e R s m args below meth c H locs cells slots Q (F0 m pc ls (.int x :: .int i :: .ref a :: rest)) := by
  subst hi
  subst hxv
  refine va_bast hx hb hK hP hD hS q0 0 ha rfl (vp_in_nI hk hn) hdg ?_
  rw [nI_clamp (Nat.lt_trans hk hn)]
  exact kk
/-- one class of byte arrays, one of int arrays -/
theorem sm_newB {n : Int32} {N : Nat} {H0 : Heap} (hx : p.tables.exec = Jvm.exec) (hb : c.code = cc) (hts : ∀ w ∈ lw_all, w.before args s = true) (hK : va_K D sCl (sTy dB dN) s) (hP : va_P D sCl ws H) (hD : va_D A ws) (hS : va_S A H0 H locs) (hA : ∀ q, H0.size ≤ q → A q) (hn : n = nI N) (hN : N ≤ 65536) (hcells : cells + 1 ≤ R.cells) (hslots : slots + N ≤ R.slots) (hdg : decode cc pc = .ok (.newarray .byte, 2))
    (kk : ∀ (q : Nat) (H1 : Heap), va_P D sCl (ws ++ [(q, .inl (dB, N, .inl (fun _ => 0)))]) H1 → va_D A (ws ++ [(q, .inl (dB, N, .inl (fun _ => 0)))]) → va_S A H0 H1 locs → W p l e R s m args below meth c H1 locs (cells + 1) (slots + N) Q (F0 m (pc + 2) ls (.ref q :: rest))) : W p l e R s m args below meth c H locs cells slots Q (F0 m pc ls (.int n :: rest)) := by
  have hN2 : N < 2 ^ 31 := by omega
  refine va_newa (atype := .byte) (ty := .byte) (N' := N) (a0 := (N, .inl (fun _ => 0))) hx hb (hts _ q49) rfl hK hP hD hS hA (fun _ => rfl) (by rw [hn]; exact nI_pos hN2) (by rw [hn]; exact nI_clamp hN2) (by show N * 1 ≤ _; omega) hcells hslots hdg (fun q cA H1 hK1 hP1 hD1 hS1 => ?_)
  have e1 : s.vm.findClass ("[" ++ FieldType.byte.toString) = some dB := (hK.2 0 _ rfl).2
  have e2 : s.vm.findClass ("[" ++ FieldType.byte.toString) = some cA := (hK1.2 2 _ rfl).2
  have e3 : cA = dB := Option.some.inj (e2.symm.trans e1)
  subst e3
  exact kk q H1 hP1 hD1 hS1
theorem sm_newI {n : Int32} {N : Nat} {H0 : Heap} (hx : p.tables.exec = Jvm.exec) (hb : c.code = cc) (hts : ∀ w ∈ lw_all, w.before args s = true) (hK : va_K D sCl (sTy dB dN) s) (hP : va_P D sCl ws H) (hD : va_D A ws) (hS : va_S A H0 H locs) (hA : ∀ q, H0.size ≤ q → A q) (hn : n = nI N) (hN : N ≤ 65536) (hcells : cells + 1 ≤ R.cells) (hslots : slots + N ≤ R.slots) (hdg : decode cc pc = .ok (.newarray .int, 2))
    (kk : ∀ (q : Nat) (H1 : Heap), va_P D sCl (ws ++ [(q, .inl (dN, N, .inl (fun _ => 0)))]) H1 → va_D A (ws ++ [(q, .inl (dN, N, .inl (fun _ => 0)))]) → va_S A H0 H1 locs → W p l e R s m args below meth c H1 locs (cells + 1) (slots + N) Q (F0 m (pc + 2) ls (.ref q :: rest))) : W p l e R s m args below meth c H locs cells slots Q (F0 m pc ls (.int n :: rest)) := by
  have hN2 : N < 2 ^ 31 := by omega
  refine va_newa (atype := .int) (ty := .int) (N' := N) (a0 := (N, .inl (fun _ => 0))) hx hb (hts _ q85) rfl hK hP hD hS hA (fun _ => rfl) (by rw [hn]; exact nI_pos hN2) (by rw [hn]; exact nI_clamp hN2) (by show N * 4 ≤ _; omega) hcells hslots hdg (fun q cA H1 hK1 hP1 hD1 hS1 => ?_)
  have e1 : s.vm.findClass ("[" ++ FieldType.int.toString) = some dN := (hK.2 1 _ rfl).2
  have e2 : s.vm.findClass ("[" ++ FieldType.int.toString) = some cA := (hK1.2 2 _ rfl).2
  have e3 : cA = dN := Option.some.inj (e2.symm.trans e1)
  subst e3
  exact kk q H1 hP1 hD1 hS1
theorem sm_loop (I : Nat → Heap → List Loc → Array Slot → Prop) (N : Nat)
    (step : ∀ (i : Nat) (H : Heap) (locs : List Loc) (ls : Array Slot), i < N → I i H locs ls → (∀ (H' : Heap) (locs' : List Loc) (ls' : Array Slot), I (i + 1) H' locs' ls' → W p l e R s m args below meth c H' locs' cells slots Q (F0 m pc ls' [])) → W p l e R s m args below meth c H locs cells slots Q (F0 m pc ls []))
    (fin : ∀ (H : Heap) (locs : List Loc) (ls : Array Slot), I N H locs ls → W p l e R s m args below meth c H locs cells slots Q (F0 m pc ls []))
    (i : Nat) (hi : i ≤ N) (H : Heap) (locs : List Loc) (ls : Array Slot) (h : I i H locs ls) : W p l e R s m args below meth c H locs cells slots Q (F0 m pc ls []) := by
  have key : ∀ (n i : Nat), i + n = N → ∀ (H : Heap) (locs : List Loc) (ls : Array Slot), I i H locs ls → W p l e R s m args below meth c H locs cells slots Q (F0 m pc ls []) := by
    intro n
    induction n with
    | zero =>
      intro i e0 H locs ls h
      have e1 : i = N := by omega
      subst e1
      exact fin H locs ls h
    | succ n ih =>
      intro i e0 H locs ls h
      exact step i H locs ls (by omega) h (fun H' locs' ls' h' => ih (i + 1) (by omega) H' locs' ls' h')
  exact key (N - i) i (by omega) H locs ls h
/-- the same where nothing is written -/
theorem sm_loopP (I : Nat → Array Slot → Prop) (N : Nat)
    (step : ∀ (i : Nat) (ls : Array Slot), i < N → I i ls → (∀ ls' : Array Slot, I (i + 1) ls' → W p l e R s m args below meth c H locs cells slots Q (F0 m pc ls' [])) → W p l e R s m args below meth c H locs cells slots Q (F0 m pc ls []))
    (fin : ∀ ls : Array Slot, I N ls → W p l e R s m args below meth c H locs cells slots Q (F0 m pc ls []))
    (i : Nat) (hi : i ≤ N) (ls : Array Slot) (h : I i ls) : W p l e R s m args below meth c H locs cells slots Q (F0 m pc ls []) := by
  have key : ∀ (n i : Nat), i + n = N → ∀ (ls : Array Slot), I i ls → W p l e R s m args below meth c H locs cells slots Q (F0 m pc ls []) := by
    intro n
    induction n with
    | zero =>
      intro i e0 ls h
      have e1 : i = N := by omega
      subst e1
      exact fin ls h
    | succ n ih =>
      intro i e0 ls h
      exact step i ls (by omega) h (fun ls' h' => ih (i + 1) (by omega) ls' h')
  exact key (N - i) i (by omega) ls h
end SMW
end
section
/-! THE MATHEMATICS of SM4, and rows on bits (kit/laws/BITS, first families) -/
def bt (x : Int32) (i : Nat) : Bool := x.toBitVec.getLsbD i
theorem b_ext {x y : Int32} (h : ∀ i, i < 32 → bt x i = bt y i) : x = y := Int32.toBitVec_inj.mp (BitVec.eq_of_getLsbD_eq (fun i hi => h i hi))
theorem b_or (x y : Int32) (i : Nat) : bt (x ||| y) i = (bt x i || bt y i) := by unfold bt; rw [Int32.toBitVec_or, BitVec.getLsbD_or]
theorem b_and (x y : Int32) (i : Nat) : bt (x &&& y) i = (bt x i && bt y i) := by unfold bt; rw [Int32.toBitVec_and, BitVec.getLsbD_and]
theorem b_xor (x y : Int32) (i : Nat) : bt (x ^^^ y) i = (bt x i ^^ bt y i) := by unfold bt; rw [Int32.toBitVec_xor, BitVec.getLsbD_xor]
theorem b_big {x : Int32} {i : Nat} (h : 32 ≤ i) : bt x i = false := BitVec.getLsbD_of_ge _ _ h
theorem b_255 (i : Nat) : bt 255 i = decide (i < 8) := by
  rcases Nat.lt_or_ge i 32 with h | h
  · exact (by decide +kernel : ∀ i, i < 32 → bt 255 i = decide (i < 8)) i h
  · rw [b_big h, decide_eq_false (by omega)]
theorem b_65535 (i : Nat) : bt 65535 i = decide (i < 16) := by
  rcases Nat.lt_or_ge i 32 with h | h
  · exact (by decide +kernel : ∀ i, i < 32 → bt 65535 i = decide (i < 16)) i h
  · rw [b_big h, decide_eq_false (by omega)]
theorem b_m1 : ∀ i, i < 32 → bt (-1) i = true := by decide +kernel
theorem b_0 (i : Nat) : bt 0 i = false := BitVec.getLsbD_zero
theorem s_l : ∀ n, n < 32 → ((nI n &&& 31).toBitVec.smod 32).toNat = n := by decide +kernel
theorem s_u : ∀ n, n < 32 → (((nI n).toUInt32 &&& Int32.toUInt32 31).toBitVec % 32).toNat = n := by decide +kernel
theorem b_shl (n : Nat) (hn : n < 32) (x : Int32) {i : Nat} (hi : i < 32) : bt (x <<< (nI n &&& 31)) i = (decide (n ≤ i) && bt x (i - n)) := by
  unfold bt
  rw [Int32.toBitVec_shiftLeft]
  show (x.toBitVec <<< ((nI n &&& 31).toBitVec.smod 32).toNat).getLsbD i = _
  rw [s_l n hn, BitVec.getLsbD_shiftLeft]
  rcases Nat.lt_or_ge i n with h | h
  · simp [h, Nat.not_le.mpr h]
  · simp [hi, h, Nat.not_lt.mpr h]
theorem b_ushr (n : Nat) (hn : n < 32) (x : Int32) (i : Nat) : bt ((x.toUInt32 >>> ((nI n).toUInt32 &&& Int32.toUInt32 31)).toInt32) i = bt x (n + i) := by
  show (x.toUInt32 >>> ((nI n).toUInt32 &&& Int32.toUInt32 31)).toBitVec.getLsbD i = x.toUInt32.toBitVec.getLsbD (n + i)
  rw [UInt32.toBitVec_shiftRight]
  show (x.toUInt32.toBitVec >>> (((nI n).toUInt32 &&& Int32.toUInt32 31).toBitVec % 32).toNat).getLsbD i = _
  rw [s_u n hn, BitVec.getLsbD_ushiftRight]
theorem b_sshr (n : Nat) (hn : n < 32) (x : Int32) {i : Nat} (hi : i < 32) : bt (x >>> (nI n &&& 31)) i = if n + i < 32 then bt x (n + i) else bt x 31 := by
  unfold bt
  rw [Int32.toBitVec_shiftRight]
  show (x.toBitVec.sshiftRight ((nI n &&& 31).toBitVec.smod 32).toNat).getLsbD i = _
  rw [s_l n hn, BitVec.getLsbD_sshiftRight, BitVec.msb_eq_getLsbD_last]
  simp [hi]
theorem b_shl8 (x : Int32) {i : Nat} (hi : i < 32) : bt (x <<< ((8 : Int32) &&& 31)) i = (decide (8 ≤ i) && bt x (i - 8)) := b_shl 8 (by omega) x hi
theorem b_shl16 (x : Int32) {i : Nat} (hi : i < 32) : bt (x <<< ((16 : Int32) &&& 31)) i = (decide (16 ≤ i) && bt x (i - 16)) := b_shl 16 (by omega) x hi
theorem b_shl24 (x : Int32) {i : Nat} (hi : i < 32) : bt (x <<< ((24 : Int32) &&& 31)) i = (decide (24 ≤ i) && bt x (i - 24)) := b_shl 24 (by omega) x hi
theorem b_sshr8 (x : Int32) {i : Nat} (hi : i < 32) : bt (x >>> ((8 : Int32) &&& 31)) i = if 8 + i < 32 then bt x (8 + i) else bt x 31 := b_sshr 8 (by omega) x hi
/-! ===== nI under and, xor, >>>, one bit, 65535 ===== -/
theorem nx_and (a b : Nat) : nI a &&& nI b = nI (a &&& b) := by
  apply Int32.toBitVec_inj.1
  show BitVec.ofNat 32 a &&& BitVec.ofNat 32 b = BitVec.ofNat 32 (a &&& b)
  apply BitVec.eq_of_getLsbD_eq
  intro i hi
  simp [hi]
theorem nx_xor (a b : Nat) : nI a ^^^ nI b = nI (a ^^^ b) := by
  apply Int32.toBitVec_inj.1
  show BitVec.ofNat 32 a ^^^ BitVec.ofNat 32 b = BitVec.ofNat 32 (a ^^^ b)
  apply BitVec.eq_of_getLsbD_eq
  intro i hi
  simp [hi]
def sm_sbL : List Int32 := [-42, -112, -23, -2, -52, -31, 61, -73, 22, -74, 20, -62, 40, -5, 44, 5, 43, 103, -102, 118, 42, -66, 4, -61, -86, 68, 19, 38, 73, -122, 6, -103, -100, 66, 80, -12, -111, -17, -104, 122, 51, 84, 11, 67, -19, -49, -84, 98, -28, -77, 28, -87, -55, 8, -24, -107, -128, -33, -108, -6, 117, -113, 63, -90, 71, 7, -89, -4, -13, 115, 23, -70, -125, 89, 60, 25, -26, -123, 79, -88, 104, 107, -127, -78, 113, 100, -38, -117, -8, -21, 15, 75, 112, 86, -99, 53, 30, 36, 14, 94, 99, 88, -47, -94, 37, 34, 124, 59, 1, 33, 120, -121, -44, 0, 70, 87, -97, -45, 39, 82, 76, 54, 2, -25, -96, -60, -56, -98, -22, -65, -118, -46, 64, -57, 56, -75, -93, -9, -14, -50, -7, 97, 21, -95, -32, -82, 93, -92, -101, 52, 26, 85, -83, -109, 50, 48, -11, -116, -79, -29, 29, -10, -30, 46, -126, 102, -54, 96, -64, 41, 35, -85, 13, 83, 78, 111, -43, -37, 55, 69, -34, -3, -114, 47, 3, -1, 106, 114, 109, 108, 91, 81, -115, 27, -81, -110, -69, -35, -68, 127, 17, -39, 92, 65, 31, 16, 90, -40, 10, -63, 49, -120, -91, -51, 123, -67, 45, 116, -48, 18, -72, -27, -76, -80, -119, 105, -105, 74, 12, -106, 119, 126, 101, -71, -15, 9, -59, 110, -58, -124, 24, -16, 125, -20, 58, -36, 77, 32, 121, -18, 95, 62, -41, -53, 57, 72]
def sm_ckL : List Int32 := [462357, 472066609, 943670861, 1415275113, 1886879365, -1936483679, -1464879427, -993275175, -521670923, -66909679, 404694573, 876298825, 1347903077, 1819507329, -2003855715, -1532251463, -1060647211, -589042959, -117504499, 337322537, 808926789, 1280531041, 1752135293, -2071227751, -1599623499, -1128019247, -656414995, -184876535, 269950501, 741554753, 1213159005, 1684763257]
def sm_fkL : List Int32 := [-1548633402, 1453994832, 1736282519, -1301273892]
def sm_unL : List Nat := [214, 144, 233, 254, 204, 225, 61, 183, 22, 182, 20, 194, 40, 251, 44, 5, 43, 103, 154, 118, 42, 190, 4, 195, 170, 68, 19, 38, 73, 134, 6, 153, 156, 66, 80, 244, 145, 239, 152, 122, 51, 84, 11, 67, 237, 207, 172, 98, 228, 179, 28, 169, 201, 8, 232, 149, 128, 223, 148, 250, 117, 143, 63, 166, 71, 7, 167, 252, 243, 115, 23, 186, 131, 89, 60, 25, 230, 133, 79, 168, 104, 107, 129, 178, 113, 100, 218, 139, 248, 235, 15, 75, 112, 86, 157, 53, 30, 36, 14, 94, 99, 88, 209, 162, 37, 34, 124, 59, 1, 33, 120, 135, 212, 0, 70, 87, 159, 211, 39, 82, 76, 54, 2, 231, 160, 196, 200, 158, 234, 191, 138, 210, 64, 199, 56, 181, 163, 247, 242, 206, 249, 97, 21, 161, 224, 174, 93, 164, 155, 52, 26, 85, 173, 147, 50, 48, 245, 140, 177, 227, 29, 246, 226, 46, 130, 102, 202, 96, 192, 41, 35, 171, 13, 83, 78, 111, 213, 219, 55, 69, 222, 253, 142, 47, 3, 255, 106, 114, 109, 108, 91, 81, 141, 27, 175, 146, 187, 221, 188, 127, 17, 217, 92, 65, 31, 16, 90, 216, 10, 193, 49, 136, 165, 205, 123, 189, 45, 116, 208, 18, 184, 229, 180, 176, 137, 105, 151, 74, 12, 150, 119, 126, 101, 185, 241, 9, 197, 110, 198, 132, 24, 240, 125, 236, 58, 220, 77, 32, 121, 238, 95, 62, 215, 203, 57, 72]
/-- the box of the class, signed, and its places -/
def sm_sb (j : Nat) : Int32 := sm_sbL.getD j 0
def sm_ck (j : Nat) : Int32 := sm_ckL.getD j 0
def sm_fk (j : Nat) : Int32 := sm_fkL.getD j 0
def sm_rot (x n : Int32) : Int32 := (x <<< (n &&& 31)) ||| (x.toUInt32 >>> ((-n).toUInt32 &&& Int32.toUInt32 31)).toInt32
def sm_trn (x n : Int32) : Int32 := (x <<< (n &&& 31)) ||| (x.toUInt32 >>> (((32 : Int32) - n).toUInt32 &&& Int32.toUInt32 31)).toInt32
/-- the box at the lowest byte of x -/
def sm_bx (x : Int32) : Int32 := sm_sb (x &&& (255 : Int32)).toNatClampNeg &&& (255 : Int32)
def sm_tau (z : Int32) : Int32 := (((sm_bx (z >>> ((24 : Int32) &&& 31)) <<< ((24 : Int32) &&& 31)) ||| (sm_bx (z >>> ((16 : Int32) &&& 31)) <<< ((16 : Int32) &&& 31))) ||| (sm_bx (z >>> ((8 : Int32) &&& 31)) <<< ((8 : Int32) &&& 31))) ||| sm_bx z
def sm_lap (b : Int32) : Int32 := (b ^^^ sm_rot b 13) ^^^ sm_rot b 23
def sm_tap (z : Int32) : Int32 := sm_lap (sm_tau z)
def sm_l (b : Int32) : Int32 := (((b ^^^ sm_rot b 2) ^^^ sm_rot b 10) ^^^ sm_rot b 18) ^^^ sm_rot b 24
def sm_t (z : Int32) : Int32 := sm_l (sm_tau z)
/-- four bytes from place o on, the first one highest -/
def sm_wd (f : Nat → Int32) (o : Nat) : Int32 := ((((f o &&& (255 : Int32)) <<< ((24 : Int32) &&& 31)) ||| ((f (o + 1) &&& (255 : Int32)) <<< ((16 : Int32) &&& 31))) ||| ((f (o + 2) &&& (255 : Int32)) <<< ((8 : Int32) &&& 31))) ||| (f (o + 3) &&& (255 : Int32))
/-- the key's words -/
def sm_kq (f : Nat → Int32) : Nat → Int32
  | 0 => sm_wd f 0 ^^^ sm_fk 0
  | 1 => sm_wd f 4 ^^^ sm_fk 1
  | 2 => sm_wd f 8 ^^^ sm_fk 2
  | 3 => sm_wd f 12 ^^^ sm_fk 3
  | n + 4 => sm_kq f n ^^^ sm_tap (((sm_kq f (n + 1) ^^^ sm_kq f (n + 2)) ^^^ sm_kq f (n + 3)) ^^^ sm_ck n)
/-- the round keys: forth if z isn't 0, else back -/
def sm_rk (f : Nat → Int32) (z : Int32) (i : Nat) : Int32 := sm_kq f ((if z = 0 then 31 - i else i) + 4)
/-- the block's words -/
def sm_xq (g rk : Nat → Int32) : Nat → Int32
  | 0 => sm_wd g 0
  | 1 => sm_wd g 4
  | 2 => sm_wd g 8
  | 3 => sm_wd g 12
  | n + 4 => sm_xq g rk n ^^^ sm_t (((sm_xq g rk (n + 1) ^^^ sm_xq g rk (n + 2)) ^^^ sm_xq g rk (n + 3)) ^^^ rk n)
/-- byte r of w, the highest is 0 -/
def sm_at (w : Int32) (r : Nat) : Int32 := (w.toUInt32 >>> ((nI (24 - 8 * r)).toUInt32 &&& Int32.toUInt32 31)).toInt32
def sm_by (w : Int32) (r : Nat) : Int32 := (sm_at w r).toInt8.toInt32
def sm_sel (q : Nat) (a b c d : Int32) : Int32 := if q = 0 then a else if q = 1 then b else if q = 2 then c else d
def sm_p4 (h : Nat → Int32) (o : Nat) (w : Int32) : Nat → Int32 := fun j => if o ≤ j ∧ j < o + 4 then sm_by w (j - o) else h j
/-- the first i bytes of four words, from place o on -/
def sm_pI (h : Nat → Int32) (o : Nat) (a b c d : Int32) (i : Nat) : Nat → Int32 := fun j => if o ≤ j ∧ j < o + i then sm_by (sm_sel ((j - o) / 4) a b c d) ((j - o) % 4) else h j
/-- the first i bytes copied -/
def sm_cp (h g : Nat → Int32) (i : Nat) : Nat → Int32 := fun j => if j < i then (h j).toInt8.toInt32 else g j
/-- what a run leaves in 'out' -/
def sm_out (f g h : Nat → Int32) (z : Int32) : Nat → Int32 := sm_pI h 0 (sm_xq g (sm_rk f z) 35) (sm_xq g (sm_rk f z) 34) (sm_xq g (sm_rk f z) 33) (sm_xq g (sm_rk f z) 32) 16
theorem nx_or (a b : Nat) : nI a ||| nI b = nI (a ||| b) := by
  apply Int32.toBitVec_inj.1
  show BitVec.ofNat 32 a ||| BitVec.ofNat 32 b = BitVec.ofNat 32 (a ||| b)
  apply BitVec.eq_of_getLsbD_eq
  intro i hi
  simp [hi]
/-- the lowest eight bits make the byte -/
theorem sm_b8 (x : Int32) : (x &&& (255 : Int32)).toInt8 = x.toInt8 := by
  apply Int8.toBitVec_inj.1
  show (x.toBitVec &&& 255#32).signExtend 8 = x.toBitVec.signExtend 8
  apply BitVec.eq_of_getLsbD_eq
  intro i hi
  have h255 : (255#32).getLsbD i = true := by
    have := b_255 i
    unfold bt at this
    exact this.trans (decide_eq_true hi)
  rw [BitVec.getLsbD_signExtend, BitVec.getLsbD_signExtend, if_pos (show i < 32 by omega), if_pos (show i < 32 by omega), BitVec.getLsbD_and, h255, Bool.and_true]
theorem sm_b8_eq {x y : Int32} (h : x &&& (255 : Int32) = y &&& (255 : Int32)) : x.toInt8.toInt32 = y.toInt8.toInt32 := by
  rw [← sm_b8 x, ← sm_b8 y, h]
theorem sm_b255 (x : Int32) : x.toInt8.toInt32 &&& (255 : Int32) = x &&& (255 : Int32) := by
  apply b_ext
  intro i hi
  rw [b_and, b_and, b_255]
  rcases Nat.lt_or_ge i 8 with h | h
  · have e : bt x.toInt8.toInt32 i = bt x i := by
      show ((x.toBitVec.signExtend 8).signExtend 32).getLsbD i = x.toBitVec.getLsbD i
      rw [BitVec.getLsbD_signExtend, BitVec.getLsbD_signExtend, if_pos h, if_pos hi, decide_eq_true hi, decide_eq_true h, Bool.true_and, Bool.true_and]
    rw [e]
  · rw [decide_eq_false (by omega), Bool.and_false, Bool.and_false]
/-- the shifts with and without sign, under 255 -/
theorem sm_su (n : Nat) (hn : n ≤ 24) (x : Int32) : (x.toUInt32 >>> ((nI n).toUInt32 &&& Int32.toUInt32 31)).toInt32 &&& (255 : Int32) = (x >>> (nI n &&& 31)) &&& (255 : Int32) := by
  apply b_ext
  intro i hi
  rw [b_and, b_and, b_255, b_ushr n (by omega), b_sshr n (by omega) x hi]
  rcases Nat.lt_or_ge i 8 with h | h
  · rw [if_pos (by omega)]
  · rw [decide_eq_false (by omega), Bool.and_false, Bool.and_false]
theorem sm_ush0 (x : Int32) : (x.toUInt32 >>> ((nI 0).toUInt32 &&& Int32.toUInt32 31)).toInt32 = x := by
  apply b_ext
  intro i hi
  rw [b_ushr 0 (by omega), Nat.zero_add]
theorem sm_shl24 (x : Int32) : x <<< ((24 : Int32) &&& 31) = (x &&& (255 : Int32)) <<< ((24 : Int32) &&& 31) := by
  apply b_ext
  intro i hi
  rw [b_shl24 _ hi, b_shl24 _ hi, b_and, b_255]
  rcases Nat.lt_or_ge i 24 with h | h
  · rw [decide_eq_false (by omega), Bool.false_and, Bool.false_and]
  · rw [decide_eq_true (show i - 24 < 8 by omega), Bool.and_true]
/-- the bytes of a word, as the class has them -/
theorem sm_by0 (w : Int32) : (w >>> ((24 : Int32) &&& 31)).toInt8.toInt32 = sm_by w 0 := (sm_b8_eq (sm_su 24 (by omega) w)).symm
theorem sm_by1 (w : Int32) : (w >>> ((16 : Int32) &&& 31)).toInt8.toInt32 = sm_by w 1 := (sm_b8_eq (sm_su 16 (by omega) w)).symm
theorem sm_by2 (w : Int32) : (w >>> ((8 : Int32) &&& 31)).toInt8.toInt32 = sm_by w 2 := (sm_b8_eq (sm_su 8 (by omega) w)).symm
theorem sm_by3 (w : Int32) : w.toInt8.toInt32 = sm_by w 3 := by
  show _ = ((w.toUInt32 >>> ((nI 0).toUInt32 &&& Int32.toUInt32 31)).toInt32).toInt8.toInt32
  rw [sm_ush0]
/-- four stores are one word -/
theorem sm_upd4 (h : Nat → Int32) (o : Nat) (w : Int32) : upd (upd (upd (upd h o (sm_by w 0)) (o + 1) (sm_by w 1)) (o + 2) (sm_by w 2)) (o + 3) (sm_by w 3) = sm_p4 h o w := by
  funext j
  unfold sm_p4 upd
  rcases Nat.lt_or_ge j o with h1 | h1
  · rw [if_neg (by omega), if_neg (by omega), if_neg (by omega), if_neg (by omega), if_neg (by omega)]
  · obtain ⟨k, rfl⟩ : ∃ k, j = o + k := ⟨j - o, by omega⟩
    rcases Nat.lt_or_ge k 4 with h2 | h2
    · rw [if_pos (show o ≤ o + k ∧ o + k < o + 4 by omega), Nat.add_sub_cancel_left]
      rcases (show k = 0 ∨ k = 1 ∨ k = 2 ∨ k = 3 by omega) with rfl | rfl | rfl | rfl
      · rw [if_neg (by omega), if_neg (by omega), if_neg (by omega), if_pos (by omega)]
      · rw [if_neg (by omega), if_neg (by omega), if_pos (by omega)]
      · rw [if_neg (by omega), if_pos (by omega)]
      · rw [if_pos (by omega)]
    · rw [if_neg (by omega), if_neg (by omega), if_neg (by omega), if_neg (by omega), if_neg (by omega)]
/-- four words are sixteen bytes -/
theorem sm_p16 (h : Nat → Int32) (o : Nat) (a b c d : Int32) : sm_p4 (sm_p4 (sm_p4 (sm_p4 h o a) (o + 4) b) (o + 8) c) (o + 12) d = sm_pI h o a b c d 16 := by
  funext j
  unfold sm_p4 sm_pI sm_sel
  rcases Nat.lt_or_ge j o with h1 | h1
  · rw [if_neg (by omega), if_neg (by omega), if_neg (by omega), if_neg (by omega), if_neg (by omega)]
  · obtain ⟨k, rfl⟩ : ∃ k, j = o + k := ⟨j - o, by omega⟩
    rcases Nat.lt_or_ge k 16 with h2 | h2
    · rw [if_pos (show o ≤ o + k ∧ o + k < o + 16 by omega), Nat.add_sub_cancel_left]
      rcases (show k < 4 ∨ (4 ≤ k ∧ k < 8) ∨ (8 ≤ k ∧ k < 12) ∨ 12 ≤ k by omega) with h3 | h3 | h3 | h3
      · rw [if_neg (by omega), if_neg (by omega), if_neg (by omega), if_pos (by omega), if_pos (show k / 4 = 0 by omega)]
        congr 1
        omega
      · rw [if_neg (by omega), if_neg (by omega), if_pos (by omega), if_neg (by omega), if_pos (show k / 4 = 1 by omega)]
        congr 1
        omega
      · rw [if_neg (by omega), if_pos (by omega), if_neg (by omega), if_neg (by omega), if_pos (show k / 4 = 2 by omega)]
        congr 1
        omega
      · rw [if_pos (by omega), if_neg (by omega), if_neg (by omega), if_neg (by omega)]
        congr 1
        omega
    · rw [if_neg (by omega), if_neg (by omega), if_neg (by omega), if_neg (by omega), if_neg (by omega)]
theorem sm_pI_0 (h : Nat → Int32) (o : Nat) (a b c d : Int32) : sm_pI h o a b c d 0 = h := by
  funext j
  unfold sm_pI
  rw [if_neg (by omega)]
theorem sm_pI_s (h : Nat → Int32) (o : Nat) (a b c d : Int32) (i : Nat) : upd (sm_pI h o a b c d i) (o + i) (sm_by (sm_sel (i / 4) a b c d) (i % 4)) = sm_pI h o a b c d (i + 1) := by
  funext j
  unfold sm_pI upd
  by_cases h1 : j = o + i
  · subst h1
    rw [if_pos rfl, if_pos (by omega), Nat.add_sub_cancel_left]
  · rw [if_neg h1]
    dsimp only
    by_cases h2 : o ≤ j ∧ j < o + i
    · rw [if_pos h2, if_pos (by omega)]
    · rw [if_neg h2, if_neg (by omega)]
theorem sm_cp_0 (h g : Nat → Int32) : sm_cp h g 0 = g := by
  funext j
  unfold sm_cp
  rw [if_neg (by omega)]
theorem sm_cp_s (h g : Nat → Int32) (i : Nat) : upd (sm_cp h g i) i (h i).toInt8.toInt32 = sm_cp h g (i + 1) := by
  funext j
  unfold sm_cp upd
  by_cases h1 : j = i
  · subst h1
    rw [if_pos rfl, if_pos (by omega)]
  · rw [if_neg h1]
    dsimp only
    by_cases h2 : j < i
    · rw [if_pos h2, if_pos (by omega)]
    · rw [if_neg h2, if_neg (by omega)]
/-- words of bytes: only the lowest eight bits count -/
theorem sm_wd_congr {f f' : Nat → Int32} (o : Nat) (h : ∀ j, o ≤ j → j < o + 4 → f j &&& (255 : Int32) = f' j &&& (255 : Int32)) : sm_wd f o = sm_wd f' o := by
  unfold sm_wd
  rw [h o (by omega) (by omega), h (o + 1) (by omega) (by omega), h (o + 2) (by omega) (by omega), h (o + 3) (by omega) (by omega)]
theorem sm_kq_congr {f f' : Nat → Int32} (h : ∀ j, j < 16 → f j &&& (255 : Int32) = f' j &&& (255 : Int32)) : ∀ n, sm_kq f n = sm_kq f' n := by
  have e0 : sm_wd f 0 = sm_wd f' 0 := sm_wd_congr 0 (fun j _ h2 => h j (by omega))
  have e1 : sm_wd f 4 = sm_wd f' 4 := sm_wd_congr 4 (fun j _ h2 => h j (by omega))
  have e2 : sm_wd f 8 = sm_wd f' 8 := sm_wd_congr 8 (fun j _ h2 => h j (by omega))
  have e3 : sm_wd f 12 = sm_wd f' 12 := sm_wd_congr 12 (fun j _ h2 => h j (by omega))
  intro n
  induction n using Nat.strongRecOn with
  | _ n ih =>
    match n, ih with
    | 0, _ => show sm_wd f 0 ^^^ _ = sm_wd f' 0 ^^^ _; rw [e0]
    | 1, _ => show sm_wd f 4 ^^^ _ = sm_wd f' 4 ^^^ _; rw [e1]
    | 2, _ => show sm_wd f 8 ^^^ _ = sm_wd f' 8 ^^^ _; rw [e2]
    | 3, _ => show sm_wd f 12 ^^^ _ = sm_wd f' 12 ^^^ _; rw [e3]
    | k + 4, ih =>
      show sm_kq f k ^^^ sm_tap (((sm_kq f (k + 1) ^^^ sm_kq f (k + 2)) ^^^ sm_kq f (k + 3)) ^^^ sm_ck k) = sm_kq f' k ^^^ sm_tap (((sm_kq f' (k + 1) ^^^ sm_kq f' (k + 2)) ^^^ sm_kq f' (k + 3)) ^^^ sm_ck k)
      rw [ih k (by omega), ih (k + 1) (by omega), ih (k + 2) (by omega), ih (k + 3) (by omega)]
theorem sm_xq_congr (g : Nat → Int32) {r r' : Nat → Int32} (h : ∀ j, j < 32 → r j = r' j) : ∀ n, n < 36 → sm_xq g r n = sm_xq g r' n := by
  intro n
  induction n using Nat.strongRecOn with
  | _ n ih =>
    match n, ih with
    | 0, _ => intro _; rfl
    | 1, _ => intro _; rfl
    | 2, _ => intro _; rfl
    | 3, _ => intro _; rfl
    | k + 4, ih =>
      intro hk
      show sm_xq g r k ^^^ sm_t (((sm_xq g r (k + 1) ^^^ sm_xq g r (k + 2)) ^^^ sm_xq g r (k + 3)) ^^^ r k) = sm_xq g r' k ^^^ sm_t (((sm_xq g r' (k + 1) ^^^ sm_xq g r' (k + 2)) ^^^ sm_xq g r' (k + 3)) ^^^ r' k)
      rw [ih k (by omega) (by omega), ih (k + 1) (by omega) (by omega), ih (k + 2) (by omega) (by omega), ih (k + 3) (by omega) (by omega), h k (by omega)]
theorem sm_kq_4 (f : Nat → Int32) (n : Nat) : sm_kq f (n + 4) = sm_kq f n ^^^ sm_tap (((sm_kq f (n + 1) ^^^ sm_kq f (n + 2)) ^^^ sm_kq f (n + 3)) ^^^ sm_ck n) := rfl
theorem sm_xq_4 (g rk : Nat → Int32) (n : Nat) : sm_xq g rk (n + 4) = sm_xq g rk n ^^^ sm_t (((sm_xq g rk (n + 1) ^^^ sm_xq g rk (n + 2)) ^^^ sm_xq g rk (n + 3)) ^^^ rk n) := rfl
/-- the words of the first key, the first block -/
theorem sm_kq_lo (f : Nat → Int32) : ∀ k, k < 4 → sm_kq f k = sm_wd f (4 * k) ^^^ sm_fk k := by
  intro k hk
  rcases (show k = 0 ∨ k = 1 ∨ k = 2 ∨ k = 3 by omega) with rfl | rfl | rfl | rfl <;> rfl
theorem sm_xq_lo (g rk : Nat → Int32) : ∀ k, k < 4 → sm_xq g rk k = sm_wd g (4 * k) := by
  intro k hk
  rcases (show k = 0 ∨ k = 1 ∨ k = 2 ∨ k = 3 by omega) with rfl | rfl | rfl | rfl <;> rfl
/-- the reference's turns are the class's -/
theorem sm_trn_rot (x n : Int32) (h : ((32 : Int32) - n).toUInt32 &&& Int32.toUInt32 31 = (-n).toUInt32 &&& Int32.toUInt32 31) : sm_trn x n = sm_rot x n := by
  unfold sm_trn sm_rot
  rw [h]
theorem sm_lap_m (w b : Int32) : ((w ^^^ b) ^^^ sm_trn b 13) ^^^ sm_trn b 23 = w ^^^ sm_lap b := by
  rw [sm_trn_rot b 13 (by decide), sm_trn_rot b 23 (by decide)]
  unfold sm_lap
  simp only [Int32.xor_assoc]
theorem sm_l_m (w b : Int32) : ((((w ^^^ b) ^^^ sm_trn b 2) ^^^ sm_trn b 10) ^^^ sm_trn b 18) ^^^ sm_trn b 24 = w ^^^ sm_l b := by
  rw [sm_trn_rot b 2 (by decide), sm_trn_rot b 10 (by decide), sm_trn_rot b 18 (by decide), sm_trn_rot b 24 (by decide)]
  unfold sm_l
  simp only [Int32.xor_assoc]
/-- the reference's box, and its loop over four bytes -/
def sm_box : Nat → Int32 := fun j => if j < 256 then sm_sb j &&& (255 : Int32) else 0
theorem sm_and255 (x : Int32) : (x &&& (255 : Int32)).toNatClampNeg < 256 := by
  obtain ⟨j, hj, e⟩ := pk_andE x (m := 255) 8 (by decide)
  rw [e, nI_clamp (by omega)]
  omega
theorem sm_box_and (x : Int32) : sm_box (x &&& (255 : Int32)).toNatClampNeg = sm_bx x := by
  unfold sm_box sm_bx
  rw [if_pos (sm_and255 x)]
def sm_bxl (w : Int32) : Nat → Int32
  | 0 => 0
  | k + 1 => sm_bxl w k ||| (sm_box ((w.toUInt32 >>> (((8 : Int32) * nI k).toUInt32 &&& Int32.toUInt32 31)).toInt32 &&& (255 : Int32)).toNatClampNeg <<< (((8 : Int32) * nI k) &&& 31))
theorem sm_bx_eq {x y : Int32} (h : x &&& (255 : Int32) = y &&& (255 : Int32)) : sm_bx x = sm_bx y := by
  unfold sm_bx
  rw [h]
theorem sm_bxl_tau (w : Int32) : sm_bxl w 4 = sm_tau w := by
  have e0 : (8 : Int32) * nI 0 = nI 0 := by decide
  have e1 : (8 : Int32) * nI 1 = nI 8 := by decide
  have e2 : (8 : Int32) * nI 2 = nI 16 := by decide
  have e3 : (8 : Int32) * nI 3 = nI 24 := by decide
  show (((((0 : Int32) ||| _) ||| _) ||| _) ||| _) = _
  rw [e0, e1, e2, e3, sm_ush0, sm_box_and, sm_box_and, sm_box_and, sm_box_and, sm_bx_eq (sm_su 8 (by omega) w), sm_bx_eq (sm_su 16 (by omega) w), sm_bx_eq (sm_su 24 (by omega) w)]
  unfold sm_tau
  apply b_ext
  intro i hi
  have z0 : ∀ x : Int32, x <<< (nI 0 &&& 31) = x := fun x => sb_shl0 x
  rw [z0]
  show bt (((((0 : Int32) ||| sm_bx w) ||| (sm_bx (w >>> ((8 : Int32) &&& 31)) <<< ((8 : Int32) &&& 31))) ||| (sm_bx (w >>> ((16 : Int32) &&& 31)) <<< ((16 : Int32) &&& 31))) ||| (sm_bx (w >>> ((24 : Int32) &&& 31)) <<< ((24 : Int32) &&& 31))) i = _
  simp only [b_or, b_0, Bool.false_or]
  generalize bt (sm_bx w) i = p0
  generalize bt (sm_bx (w >>> ((8 : Int32) &&& 31)) <<< ((8 : Int32) &&& 31)) i = p1
  generalize bt (sm_bx (w >>> ((16 : Int32) &&& 31)) <<< ((16 : Int32) &&& 31)) i = p2
  generalize bt (sm_bx (w >>> ((24 : Int32) &&& 31)) <<< ((24 : Int32) &&& 31)) i = p3
  cases p0 <;> cases p1 <;> cases p2 <;> cases p3 <;> rfl
/-- CK by its rule -/
def sm_fx (i : Nat) : Nat → Int32
  | 0 => 0
  | j + 1 => (sm_fx i j <<< ((8 : Int32) &&& 31)) ||| ((((((4 : Int32) * nI i) + nI j) * (7 : Int32))) &&& (255 : Int32))
theorem sm_fx_ck : ∀ i, i < 32 → sm_fx i 4 = sm_ck i := by decide +kernel
end
section
/-! THE REFERENCE's BOX by numbers: mixed, times, inverse as Nat functions, and that they give the class's table -/
def sm_mxI (y : Nat) : Nat → Nat
  | 0 => 0
  | b + 1 => sm_mxI y b ^^^ (y / 2 ^ b % 2)
def sm_mxW (k : Nat) : Nat := ((167 <<< k) ||| (167 >>> (8 - k))) &&& 255
def sm_mxO (x : Nat) : Nat → Nat
  | 0 => 0
  | k + 1 => sm_mxO x k ||| (sm_mxI (x &&& sm_mxW k) 8 * 2 ^ k)
def sm_mx (x : Nat) : Nat := sm_mxO x 8
/-- what is left of 'times' from step k on -/
def sm_tl (b : Nat) : Nat → Nat → Nat → Nat → Nat
  | 0, _, r, _ => r
  | n + 1, k, r, y => sm_tl b n (k + 1) (r ^^^ (if b / 2 ^ k % 2 = 1 then y else 0)) (if y < 128 then y * 2 else (y * 2) ^^^ 501)
def sm_tm (a b : Nat) : Nat := sm_tl b 8 0 0 a
def sm_iv (a : Nat) : Nat → Nat → Nat
  | 0, _ => 0
  | n + 1, b => if sm_tm a b = 1 then b else sm_iv a n (b + 1)
def sm_bq (x : Nat) : Nat := sm_mx (sm_iv (sm_mx x ^^^ 211) 255 1) ^^^ 211
theorem sm_mx_lt : ∀ x, x < 256 → sm_mx x < 256 := by decide +kernel
theorem sm_mx_211 : ∀ x, x < 256 → sm_mx x ^^^ 211 < 256 := by decide +kernel
theorem sm_bq_ok : ∀ x, x < 256 → sm_bq x = sm_unL.getD x 0 := by decide +kernel
theorem sm_un_ok : ∀ x, x < 256 → nI (sm_unL.getD x 0) = sm_sb x &&& (255 : Int32) := by decide +kernel
end
section
/-! Pack: bytes to an int and back -/
theorem sm_inc (a : Nat) : nI a + Int32.ofInt 1 = nI (a + 1) := nI_1 a
/-- a method's end, void, with its world -/
theorem sm_vr {p : Program} {l : Launch} {e : Env} {R : Room} {s : State} {m : MethodId} {args : Array Value} {below : List Frame} {meth : Method} {c : Code} {H : Heap} {locs : List Loc} {cells slots : Nat} {cc : ByteArray} {pc : Nat} {ls : Array Slot} {D : va_G} {dB dN : ClassId} {A : Nat → Prop} {S : Type} {post : S → Prop} {w1 : S → va_W} {u : S} (hx : p.tables.exec = Jvm.exec) (hb : c.code = cc) (hr : meth.sig.returnType = none) (hlk : meth.locks = false) (hp : post u) (hP : va_P D sCl (w1 u) H) (hK : va_K D sCl (sTy dB dN) s) (hD : va_D A (w1 u)) (hS : va_S A s.heap H locs) {k n : Nat} (h1 : cells ≤ k) (h2 : slots ≤ n) (hdg : decode cc pc = .ok (.return_, 1)) : W p l e R s m args below meth c H locs cells slots (MQ below (va_Qv post (sm_B D dB dN A w1) A) args s k n A) (F0 m pc ls []) := by
  refine W.widen h1 h2 ?_
  exact W.vret hx hb hr (fun t ht hW => ⟨⟨u, rfl, hp, by rw [ht]; exact hP, va_K.moved hW.alike hK, hD⟩, hS.F ht⟩) hS.2.2 hdg
/-- reads of a world: the tables may be moved -/
theorem sm_mvW (D : va_G) (dB dN : ClassId) (w : va_W) : sm_Mv (fun U H => va_P D sCl w H ∧ va_K D sCl (sTy dB dN) U) := fun _ _ _ hv h => ⟨h.1, va_K.moved hv h.2⟩
set_option maxHeartbeats 4000000 in
set_option maxRecDepth 100000 in
/-- Pack.bigEndianToInt(bs, off): the word at off -/
theorem met_be (l : Launch) (D : va_G) (dB dN : ClassId) (a n : Nat) (f : Nat → Int32) (o : Nat) (ho : o + 3 < n) (hn : n < 2 ^ 31) : sm_Pure l yX4_bigEndianToInt cX4_bigEndianToInt 3 ({ frames := 0, cells := 0, slots := 0, locals := 0 } : Room) [.ref a, .int (nI o)] (fun U H => va_P D sCl [(a, .inl (dB, n, .inl f))] H ∧ va_K D sCl (sTy dB dN) U) (sm_wd f o) := by
  refine sm_met (by decide) (Nat.le_of_ble_eq_true rfl) (fun p e s m below meth c ls hx hb hr hlk hml hown hin hts hB hl => ?_)
  have hl : lv_has ls 3 [(0, .ref a), (1, .int (nI o))] := hl
  have hF : CallFix p m c cX4_bigEndianToInt 3 s _ lw_all RX4 := ⟨hx, hb, hml, hown, hts⟩
  obtain ⟨hP, hK⟩ := hB
  refine lv_aload_n hx hb dX4_bigEndianToInt_0 rfl (lv_at hl 0 rfl) ?_
  refine lv_iload_n hx hb dX4_bigEndianToInt_1 rfl (lv_at hl 1 rfl) ?_
  refine sm_bald hx hb hK hP 0 rfl o rfl (by omega) hn dX4_bigEndianToInt_2 ?_
  refine lv_bipush (v := (24 : Int32)) hx hb dX4_bigEndianToInt_3 (by decide) ?_
  refine lv_ishl hx hb dX4_bigEndianToInt_5 ?_
  refine lv_istore_n (lv' := [(2, .int ((f o) <<< ((24 : Int32) &&& 31))), (0, .ref a), (1, .int (nI o))]) hx hb dX4_bigEndianToInt_6 rfl hl (by decide) rfl (fun ls hl => ?_)
  refine lv_iload_n hx hb dX4_bigEndianToInt_7 rfl (lv_at hl 0 rfl) ?_
  refine lv_aload_n hx hb dX4_bigEndianToInt_8 rfl (lv_at hl 1 rfl) ?_
  refine lv_iinc (v := (nI (o + 1))) (lv' := [(1, .int (nI (o + 1))), (2, .int ((f o) <<< ((24 : Int32) &&& 31))), (0, .ref a)]) hx hb dX4_bigEndianToInt_9 hl (k := 2) rfl (sm_inc o) (by decide) rfl (fun ls hl => ?_)
  refine lv_iload_n hx hb dX4_bigEndianToInt_12 rfl (lv_at hl 0 rfl) ?_
  refine sm_bald hx hb hK hP 0 rfl (o + 1) rfl (by omega) hn dX4_bigEndianToInt_13 ?_
  refine lv_sipush (v := (255 : Int32)) hx hb dX4_bigEndianToInt_14 (by decide) ?_
  refine lv_iand hx hb dX4_bigEndianToInt_17 ?_
  refine lv_bipush (v := (16 : Int32)) hx hb dX4_bigEndianToInt_18 (by decide) ?_
  refine lv_ishl hx hb dX4_bigEndianToInt_20 ?_
  refine lv_ior hx hb dX4_bigEndianToInt_21 ?_
  refine lv_istore_n (lv' := [(2, .int (((f o) <<< ((24 : Int32) &&& 31)) ||| (((f (o + 1)) &&& (255 : Int32)) <<< ((16 : Int32) &&& 31)))), (1, .int (nI (o + 1))), (0, .ref a)]) hx hb dX4_bigEndianToInt_22 rfl hl (by decide) rfl (fun ls hl => ?_)
  refine lv_iload_n hx hb dX4_bigEndianToInt_23 rfl (lv_at hl 0 rfl) ?_
  refine lv_aload_n hx hb dX4_bigEndianToInt_24 rfl (lv_at hl 2 rfl) ?_
  refine lv_iinc (v := (nI (o + 2))) (lv' := [(1, .int (nI (o + 2))), (2, .int (((f o) <<< ((24 : Int32) &&& 31)) ||| (((f (o + 1)) &&& (255 : Int32)) <<< ((16 : Int32) &&& 31)))), (0, .ref a)]) hx hb dX4_bigEndianToInt_25 hl (k := 1) rfl (sm_inc (o + 1)) (by decide) rfl (fun ls hl => ?_)
  refine lv_iload_n hx hb dX4_bigEndianToInt_28 rfl (lv_at hl 0 rfl) ?_
  refine sm_bald hx hb hK hP 0 rfl (o + 2) rfl (by omega) hn dX4_bigEndianToInt_29 ?_
  refine lv_sipush (v := (255 : Int32)) hx hb dX4_bigEndianToInt_30 (by decide) ?_
  refine lv_iand hx hb dX4_bigEndianToInt_33 ?_
  refine lv_bipush (v := (8 : Int32)) hx hb dX4_bigEndianToInt_34 (by decide) ?_
  refine lv_ishl hx hb dX4_bigEndianToInt_36 ?_
  refine lv_ior hx hb dX4_bigEndianToInt_37 ?_
  refine lv_istore_n (lv' := [(2, .int ((((f o) <<< ((24 : Int32) &&& 31)) ||| (((f (o + 1)) &&& (255 : Int32)) <<< ((16 : Int32) &&& 31))) ||| (((f (o + 2)) &&& (255 : Int32)) <<< ((8 : Int32) &&& 31)))), (1, .int (nI (o + 2))), (0, .ref a)]) hx hb dX4_bigEndianToInt_38 rfl hl (by decide) rfl (fun ls hl => ?_)
  refine lv_iload_n hx hb dX4_bigEndianToInt_39 rfl (lv_at hl 0 rfl) ?_
  refine lv_aload_n hx hb dX4_bigEndianToInt_40 rfl (lv_at hl 2 rfl) ?_
  refine lv_iinc (v := (nI (o + 3))) (lv' := [(1, .int (nI (o + 3))), (2, .int ((((f o) <<< ((24 : Int32) &&& 31)) ||| (((f (o + 1)) &&& (255 : Int32)) <<< ((16 : Int32) &&& 31))) ||| (((f (o + 2)) &&& (255 : Int32)) <<< ((8 : Int32) &&& 31)))), (0, .ref a)]) hx hb dX4_bigEndianToInt_41 hl (k := 1) rfl (sm_inc (o + 2)) (by decide) rfl (fun ls hl => ?_)
  refine lv_iload_n hx hb dX4_bigEndianToInt_44 rfl (lv_at hl 0 rfl) ?_
  refine sm_bald hx hb hK hP 0 rfl (o + 3) rfl (by omega) hn dX4_bigEndianToInt_45 ?_
  refine lv_sipush (v := (255 : Int32)) hx hb dX4_bigEndianToInt_46 (by decide) ?_
  refine lv_iand hx hb dX4_bigEndianToInt_49 ?_
  refine lv_ior hx hb dX4_bigEndianToInt_50 ?_
  refine lv_istore_n (lv' := [(2, .int (((((f o) <<< ((24 : Int32) &&& 31)) ||| (((f (o + 1)) &&& (255 : Int32)) <<< ((16 : Int32) &&& 31))) ||| (((f (o + 2)) &&& (255 : Int32)) <<< ((8 : Int32) &&& 31))) ||| ((f (o + 3)) &&& (255 : Int32)))), (1, .int (nI (o + 3))), (0, .ref a)]) hx hb dX4_bigEndianToInt_51 rfl hl (by decide) rfl (fun ls hl => ?_)
  refine lv_iload_n hx hb dX4_bigEndianToInt_52 rfl (lv_at hl 0 rfl) ?_
  refine sm_iret hx hb hr hlk ?_ dX4_bigEndianToInt_53
  unfold sm_wd
  rw [sm_shl24 (f o)]
set_option maxHeartbeats 4000000 in
set_option maxRecDepth 100000 in
/-- Pack.intToBigEndian(n, bs, off): four bytes from off on -/
theorem met_ib (l : Launch) (D : va_G) (dB dN : ClassId) (a n : Nat) (f : Nat → Int32) (o : Nat) (x : Int32) (ho : o + 3 < n) (hn : n < 2 ^ 31) : sm_Eff l D dB dN yX4_intToBigEndian cX4_intToBigEndian 3 ({ frames := 0, cells := 0, slots := 0, locals := 0 } : Room) [.int x, .ref a, .int (nI o)] [(a, .inl (dB, n, .inl f))] sm_no (fun _ : Unit => True) (fun _ : Unit => [(a, .inl (dB, n, .inl (sm_p4 f o x)))]) := by
  intro sz
  refine sm_met (by decide) (Nat.le_of_ble_eq_true rfl) (fun p e s m below meth c ls hx hb hr hlk hml hown hin hts hB hl => ?_)
  have hl : lv_has ls 3 [(0, .int x), (1, .ref a), (2, .int (nI o))] := hl
  have hF : CallFix p m c cX4_intToBigEndian 3 s _ lw_all RX4 := ⟨hx, hb, hml, hown, hts⟩
  obtain ⟨hsz, hP, hK, hD0, hEx⟩ := hB
  subst hsz
  have hD := hD0.self (sz := s.heap.size)
  generalize hAe : va_A [(a, .inl (dB, n, .inl f))] s.heap.size = A at hD hEx ⊢
  have hA : ∀ q : Nat, s.heap.size ≤ q → A q := fun q h => by rw [← hAe]; exact Or.inr h
  have hS : va_S A s.heap s.heap [] := va_S.rf
  refine lv_aload_n hx hb dX4_intToBigEndian_0 rfl (lv_at hl 1 rfl) ?_
  refine lv_iload_n hx hb dX4_intToBigEndian_1 rfl (lv_at hl 2 rfl) ?_
  refine lv_iload_n hx hb dX4_intToBigEndian_2 rfl (lv_at hl 0 rfl) ?_
  refine lv_bipush (v := (24 : Int32)) hx hb dX4_intToBigEndian_3 (by decide) ?_
  refine lv_iushr hx hb dX4_intToBigEndian_5 rfl ?_
  refine lv_i2b hx hb dX4_intToBigEndian_6 rfl ?_
  refine sm_bast (x' := (sm_by x 0)) hx hb hK hP hD hS 0 rfl o rfl (by omega) hn (pk_vb _) dX4_intToBigEndian_7 (fun H locs hP hD hS => ?_)
  have hP : va_P D sCl [(a, .inl (dB, n, .inl (upd f o (sm_by x 0))))] H := hP
  have hD : va_D A [(a, .inl (dB, n, .inl (upd f o (sm_by x 0))))] := hD
  refine lv_aload_n hx hb dX4_intToBigEndian_8 rfl (lv_at hl 1 rfl) ?_
  refine lv_iinc (v := (nI (o + 1))) (lv' := [(2, .int (nI (o + 1))), (0, .int x), (1, .ref a)]) hx hb dX4_intToBigEndian_9 hl (k := 2) rfl (sm_inc o) (by decide) rfl (fun ls hl => ?_)
  refine lv_iload_n hx hb dX4_intToBigEndian_12 rfl (lv_at hl 0 rfl) ?_
  refine lv_iload_n hx hb dX4_intToBigEndian_13 rfl (lv_at hl 1 rfl) ?_
  refine lv_bipush (v := (16 : Int32)) hx hb dX4_intToBigEndian_14 (by decide) ?_
  refine lv_iushr hx hb dX4_intToBigEndian_16 rfl ?_
  refine lv_i2b hx hb dX4_intToBigEndian_17 rfl ?_
  refine sm_bast (x' := (sm_by x 1)) hx hb hK hP hD hS 0 rfl (o + 1) rfl (by omega) hn (pk_vb _) dX4_intToBigEndian_18 (fun H locs hP hD hS => ?_)
  have hP : va_P D sCl [(a, .inl (dB, n, .inl (upd (upd f o (sm_by x 0)) (o + 1) (sm_by x 1))))] H := hP
  have hD : va_D A [(a, .inl (dB, n, .inl (upd (upd f o (sm_by x 0)) (o + 1) (sm_by x 1))))] := hD
  refine lv_aload_n hx hb dX4_intToBigEndian_19 rfl (lv_at hl 2 rfl) ?_
  refine lv_iinc (v := (nI (o + 2))) (lv' := [(2, .int (nI (o + 2))), (0, .int x), (1, .ref a)]) hx hb dX4_intToBigEndian_20 hl (k := 0) rfl (sm_inc (o + 1)) (by decide) rfl (fun ls hl => ?_)
  refine lv_iload_n hx hb dX4_intToBigEndian_23 rfl (lv_at hl 0 rfl) ?_
  refine lv_iload_n hx hb dX4_intToBigEndian_24 rfl (lv_at hl 1 rfl) ?_
  refine lv_bipush (v := (8 : Int32)) hx hb dX4_intToBigEndian_25 (by decide) ?_
  refine lv_iushr hx hb dX4_intToBigEndian_27 rfl ?_
  refine lv_i2b hx hb dX4_intToBigEndian_28 rfl ?_
  refine sm_bast (x' := (sm_by x 2)) hx hb hK hP hD hS 0 rfl (o + 2) rfl (by omega) hn (pk_vb _) dX4_intToBigEndian_29 (fun H locs hP hD hS => ?_)
  have hP : va_P D sCl [(a, .inl (dB, n, .inl (upd (upd (upd f o (sm_by x 0)) (o + 1) (sm_by x 1)) (o + 2) (sm_by x 2))))] H := hP
  have hD : va_D A [(a, .inl (dB, n, .inl (upd (upd (upd f o (sm_by x 0)) (o + 1) (sm_by x 1)) (o + 2) (sm_by x 2))))] := hD
  refine lv_aload_n hx hb dX4_intToBigEndian_30 rfl (lv_at hl 2 rfl) ?_
  refine lv_iinc (v := (nI (o + 3))) (lv' := [(2, .int (nI (o + 3))), (0, .int x), (1, .ref a)]) hx hb dX4_intToBigEndian_31 hl (k := 0) rfl (sm_inc (o + 2)) (by decide) rfl (fun ls hl => ?_)
  refine lv_iload_n hx hb dX4_intToBigEndian_34 rfl (lv_at hl 0 rfl) ?_
  refine lv_iload_n hx hb dX4_intToBigEndian_35 rfl (lv_at hl 1 rfl) ?_
  refine lv_i2b hx hb dX4_intToBigEndian_36 rfl ?_
  refine sm_bast (x' := (sm_by x 3)) hx hb hK hP hD hS 0 rfl (o + 3) rfl (by omega) hn ((pk_vb _).trans (sm_by3 x)) dX4_intToBigEndian_37 (fun H locs hP hD hS => ?_)
  have hP : va_P D sCl [(a, .inl (dB, n, .inl (upd (upd (upd (upd f o (sm_by x 0)) (o + 1) (sm_by x 1)) (o + 2) (sm_by x 2)) (o + 3) (sm_by x 3))))] H := hP
  have hD : va_D A [(a, .inl (dB, n, .inl (upd (upd (upd (upd f o (sm_by x 0)) (o + 1) (sm_by x 1)) (o + 2) (sm_by x 2)) (o + 3) (sm_by x 3))))] := hD
  rw [sm_upd4] at hP hD
  exact sm_vr (post := (fun _ : Unit => True)) (w1 := (fun _ : Unit => [(a, .inl (dB, n, .inl (sm_p4 f o x)))])) (u := ()) hx hb hr hlk trivial hP hK hD hS (Nat.le_refl _) (Nat.le_refl _) dX4_intToBigEndian_38
end
section
/-! SM4Engine: the methods that only answer -/
def sm_Sb (A : Nat → Prop) (U : State) (H : Heap) : Prop := ∃ t : Nat, va_Z "SM4Engine" "Sbox" "[B" (.ref t) A U H ∧ va_T .byte t 256 (fun j => .int (sm_sb j)) A U H
def sm_Ck (A : Nat → Prop) (U : State) (H : Heap) : Prop := ∃ t : Nat, va_Z "SM4Engine" "CK" "[I" (.ref t) A U H ∧ va_T .int t 32 (fun j => .int (sm_ck j)) A U H
def sm_Fk (A : Nat → Prop) (U : State) (H : Heap) : Prop := ∃ t : Nat, va_Z "SM4Engine" "FK" "[I" (.ref t) A U H ∧ va_T .int t 4 (fun j => .int (sm_fk j)) A U H
theorem sm_Sb_ok : sm_Ok sm_Sb := ⟨fun _ _ _ _ hv ⟨t, h1, h2⟩ => ⟨t, h1.moved hv, h2.moved hv⟩, fun _ _ _ _ ⟨t, h1, h2⟩ hq => ⟨t, h1.kept hq, h2.kept hq⟩, fun _ _ _ _ ⟨t, h1, h2⟩ hq => ⟨t, h1.narrow hq, h2.narrow hq⟩⟩
theorem sm_Ck_ok : sm_Ok sm_Ck := ⟨fun _ _ _ _ hv ⟨t, h1, h2⟩ => ⟨t, h1.moved hv, h2.moved hv⟩, fun _ _ _ _ ⟨t, h1, h2⟩ hq => ⟨t, h1.kept hq, h2.kept hq⟩, fun _ _ _ _ ⟨t, h1, h2⟩ hq => ⟨t, h1.narrow hq, h2.narrow hq⟩⟩
theorem sm_Fk_ok : sm_Ok sm_Fk := ⟨fun _ _ _ _ hv ⟨t, h1, h2⟩ => ⟨t, h1.moved hv, h2.moved hv⟩, fun _ _ _ _ ⟨t, h1, h2⟩ hq => ⟨t, h1.kept hq, h2.kept hq⟩, fun _ _ _ _ ⟨t, h1, h2⟩ hq => ⟨t, h1.narrow hq, h2.narrow hq⟩⟩
/-- the class's three tables -/
def sm_St (A : Nat → Prop) (U : State) (H : Heap) : Prop := sm_Sb A U H ∧ sm_Ck A U H ∧ sm_Fk A U H
theorem sm_St_ok : sm_Ok sm_St := ⟨fun A s U H hv h => ⟨sm_Sb_ok.1 A s U H hv h.1, sm_Ck_ok.1 A s U H hv h.2.1, sm_Fk_ok.1 A s U H hv h.2.2⟩, fun A U H H1 h hq => ⟨sm_Sb_ok.2.1 A U H H1 h.1 hq, sm_Ck_ok.2.1 A U H H1 h.2.1 hq, sm_Fk_ok.2.1 A U H H1 h.2.2 hq⟩, fun A B U H h hq => ⟨sm_Sb_ok.2.2 A B U H h.1 hq, sm_Ck_ok.2.2 A B U H h.2.1 hq, sm_Fk_ok.2.2 A B U H h.2.2 hq⟩⟩
theorem sm_ti {p : Program} {l : Launch} {e : Env} {R : Room} {s : State} {m : MethodId} {args : Array Value} {below : List Frame} {meth : Method} {c : Code} {H : Heap} {locs : List Loc} {cells slots : Nat} {Q : State → Prop} {cc : ByteArray} {pc : Nat} {ls : Array Slot} {rest : List Value} {A : Nat → Prop} {t N : Nat} {F : Nat → Int32} {i : Int32} (hx : p.tables.exec = Jvm.exec) (hb : c.code = cc) (hT : va_T .int t N (fun j => .int (F j)) A s s.heap) (hS : va_S A s.heap H locs) (k : Nat) (hi : i = nI k) (hk : k < N) (hN : N < 2 ^ 31) (hdg : decode cc pc = .ok (.iaload, 1))
    (kk : W p l e R s m args below meth c H locs cells slots Q (F0 m (pc + 1) ls (.int (F k) :: rest))) : W p l e R s m args below meth c H locs cells slots Q (F0 m pc ls (.int i :: .ref t :: rest)) := by
  subst hi
  exact va_ti hx hb hT hS (vp_in_nI hk hN) (by rw [nI_clamp (Nat.lt_trans hk hN)]) hdg kk
/-- the engine's cell and the box, for those that call -/
def sm_En (D : va_G) (dB dN : ClassId) (w : va_W) (U : State) (H : Heap) : Prop := va_P D sCl w H ∧ va_K D sCl (sTy dB dN) U ∧ sm_Sb (fun _ => False) U H
theorem sm_mvE (D : va_G) (dB dN : ClassId) (w : va_W) : sm_Mv (sm_En D dB dN w) := fun _ _ _ hv h => ⟨h.1, va_K.moved hv h.2.1, sm_Sb_ok.1 _ _ _ _ hv h.2.2⟩
theorem sm_mvS : sm_Mv (sm_Sb (fun _ => False)) := fun s U H hv h => sm_Sb_ok.1 _ s U H hv h
theorem hdV_X2_rotateLeft : yX2_rotateLeft.cls = RX2 ∧ yX2_rotateLeft.cls ≠ "java/lang/invoke/MethodHandle" ∧ yX2_rotateLeft.cls ≠ "java/lang/invoke/VarHandle" ∧ (parseMethodDescriptor yX2_rotateLeft.desc).map (fun d => d.parameters.length) = some 2 := by decide +kernel
theorem hdV_X2_tau : yX2_tau.cls = RX2 ∧ yX2_tau.cls ≠ "java/lang/invoke/MethodHandle" ∧ yX2_tau.cls ≠ "java/lang/invoke/VarHandle" ∧ (parseMethodDescriptor yX2_tau.desc).map (fun d => d.parameters.length) = some 1 := by decide +kernel
theorem hdV_X2_L_ap : yX2_L_ap.cls = RX2 ∧ yX2_L_ap.cls ≠ "java/lang/invoke/MethodHandle" ∧ yX2_L_ap.cls ≠ "java/lang/invoke/VarHandle" ∧ (parseMethodDescriptor yX2_L_ap.desc).map (fun d => d.parameters.length) = some 1 := by decide +kernel
theorem hdV_X2_T_ap : yX2_T_ap.cls = RX2 ∧ yX2_T_ap.cls ≠ "java/lang/invoke/MethodHandle" ∧ yX2_T_ap.cls ≠ "java/lang/invoke/VarHandle" ∧ (parseMethodDescriptor yX2_T_ap.desc).map (fun d => d.parameters.length) = some 1 := by decide +kernel
theorem hdV_X2_L : yX2_L.cls = RX2 ∧ yX2_L.cls ≠ "java/lang/invoke/MethodHandle" ∧ yX2_L.cls ≠ "java/lang/invoke/VarHandle" ∧ (parseMethodDescriptor yX2_L.desc).map (fun d => d.parameters.length) = some 1 := by decide +kernel
theorem hdV_X2_T : yX2_T.cls = RX2 ∧ yX2_T.cls ≠ "java/lang/invoke/MethodHandle" ∧ yX2_T.cls ≠ "java/lang/invoke/VarHandle" ∧ (parseMethodDescriptor yX2_T.desc).map (fun d => d.parameters.length) = some 1 := by decide +kernel
theorem hdV_X2_F0 : yX2_F0.cls = RX2 ∧ yX2_F0.cls ≠ "java/lang/invoke/MethodHandle" ∧ yX2_F0.cls ≠ "java/lang/invoke/VarHandle" ∧ (parseMethodDescriptor yX2_F0.desc).map (fun d => d.parameters.length) = some 2 := by decide +kernel
theorem hdV_X2_F1 : yX2_F1.cls = RX2 ∧ yX2_F1.cls ≠ "java/lang/invoke/MethodHandle" ∧ yX2_F1.cls ≠ "java/lang/invoke/VarHandle" ∧ (parseMethodDescriptor yX2_F1.desc).map (fun d => d.parameters.length) = some 2 := by decide +kernel
theorem hdV_X2_F2 : yX2_F2.cls = RX2 ∧ yX2_F2.cls ≠ "java/lang/invoke/MethodHandle" ∧ yX2_F2.cls ≠ "java/lang/invoke/VarHandle" ∧ (parseMethodDescriptor yX2_F2.desc).map (fun d => d.parameters.length) = some 2 := by decide +kernel
theorem hdV_X2_F3 : yX2_F3.cls = RX2 ∧ yX2_F3.cls ≠ "java/lang/invoke/MethodHandle" ∧ yX2_F3.cls ≠ "java/lang/invoke/VarHandle" ∧ (parseMethodDescriptor yX2_F3.desc).map (fun d => d.parameters.length) = some 2 := by decide +kernel
theorem hdV_X2_expandKey : yX2_expandKey.cls = RX2 ∧ yX2_expandKey.cls ≠ "java/lang/invoke/MethodHandle" ∧ yX2_expandKey.cls ≠ "java/lang/invoke/VarHandle" ∧ (parseMethodDescriptor yX2_expandKey.desc).map (fun d => d.parameters.length) = some 2 := by decide +kernel
theorem hdS_X4_bigEndianToInt : yX4_bigEndianToInt.cls ≠ "java/lang/invoke/MethodHandle" ∧ yX4_bigEndianToInt.cls ≠ "java/lang/invoke/VarHandle" ∧ (parseMethodDescriptor yX4_bigEndianToInt.desc).map (fun d => d.parameters.length) = some 2 := by decide +kernel
theorem hdS_X4_intToBigEndian : yX4_intToBigEndian.cls ≠ "java/lang/invoke/MethodHandle" ∧ yX4_intToBigEndian.cls ≠ "java/lang/invoke/VarHandle" ∧ (parseMethodDescriptor yX4_intToBigEndian.desc).map (fun d => d.parameters.length) = some 3 := by decide +kernel
set_option maxHeartbeats 4000000 in
set_option maxRecDepth 100000 in
/-- rotateLeft -/
theorem met_rot (l : Launch) (h0 : Nat) (x n : Int32) : sm_Pure l yX2_rotateLeft cX2_rotateLeft 3 ({ frames := 0, cells := 0, slots := 0, locals := 0 } : Room) [.ref h0, .int x, .int n] (fun _ _ => True) (sm_rot x n) := by
  refine sm_met (by decide) (Nat.le_of_ble_eq_true rfl) (fun p e s m below meth c ls hx hb hr hlk hml hown hin hts hB hl => ?_)
  have hl : lv_has ls 3 [(0, .ref h0), (1, .int x), (2, .int n)] := hl
  have hF : CallFix p m c cX2_rotateLeft 3 s _ lw_all RX2 := ⟨hx, hb, hml, hown, hts⟩
  refine lv_iload_n hx hb dX2_rotateLeft_0 rfl (lv_at hl 1 rfl) ?_
  refine lv_iload_n hx hb dX2_rotateLeft_1 rfl (lv_at hl 2 rfl) ?_
  refine lv_ishl hx hb dX2_rotateLeft_2 ?_
  refine lv_iload_n hx hb dX2_rotateLeft_3 rfl (lv_at hl 1 rfl) ?_
  refine lv_iload_n hx hb dX2_rotateLeft_4 rfl (lv_at hl 2 rfl) ?_
  refine lv_ineg hx hb dX2_rotateLeft_5 ?_
  refine lv_iushr hx hb dX2_rotateLeft_6 rfl ?_
  refine lv_ior hx hb dX2_rotateLeft_7 ?_
  exact sm_iret hx hb hr hlk rfl dX2_rotateLeft_8
set_option maxHeartbeats 4000000 in
set_option maxRecDepth 100000 in
/-- tau -/
theorem met_tau (l : Launch) (h0 : Nat) (z : Int32) : sm_Pure l yX2_tau cX2_tau 6 ({ frames := 0, cells := 0, slots := 0, locals := 0 } : Room) [.ref h0, .int z] (sm_Sb (fun _ => False)) (sm_tau z) := by
  refine sm_met (by decide) (Nat.le_of_ble_eq_true rfl) (fun p e s m below meth c ls hx hb hr hlk hml hown hin hts hB hl => ?_)
  have hl : lv_has ls 6 [(0, .ref h0), (1, .int z)] := hl
  have hF : CallFix p m c cX2_tau 6 s _ lw_all RX2 := ⟨hx, hb, hml, hown, hts⟩
  obtain ⟨tS, hZS, hTS⟩ := hB
  have hS : va_S (fun _ => False) s.heap s.heap [] := va_S.rf
  refine va_gets hx hb hZS hS hown (hts _ q207) (fun _ h9 => h9) dX2_tau_0 ?_
  refine lv_iload_n hx hb dX2_tau_3 rfl (lv_at hl 1 rfl) ?_
  refine lv_bipush (v := (24 : Int32)) hx hb dX2_tau_4 (by decide) ?_
  refine lv_ishr hx hb dX2_tau_6 ?_
  refine lv_sipush (v := (255 : Int32)) hx hb dX2_tau_7 (by decide) ?_
  refine lv_iand hx hb dX2_tau_10 ?_
  refine va_tb hx hb hTS hS (pk_andIn _ 8 (by decide) (by decide)) rfl dX2_tau_11 ?_
  refine lv_sipush (v := (255 : Int32)) hx hb dX2_tau_12 (by decide) ?_
  refine lv_iand hx hb dX2_tau_15 ?_
  refine lv_istore_n (lv' := [(2, .int ((sm_sb (((z >>> ((24 : Int32) &&& 31)) &&& (255 : Int32))).toNatClampNeg) &&& (255 : Int32))), (0, .ref h0), (1, .int z)]) hx hb dX2_tau_16 rfl hl (by decide) rfl (fun ls hl => ?_)
  refine va_gets hx hb hZS hS hown (hts _ q207) (fun _ h9 => h9) dX2_tau_17 ?_
  refine lv_iload_n hx hb dX2_tau_20 rfl (lv_at hl 2 rfl) ?_
  refine lv_bipush (v := (16 : Int32)) hx hb dX2_tau_21 (by decide) ?_
  refine lv_ishr hx hb dX2_tau_23 ?_
  refine lv_sipush (v := (255 : Int32)) hx hb dX2_tau_24 (by decide) ?_
  refine lv_iand hx hb dX2_tau_27 ?_
  refine va_tb hx hb hTS hS (pk_andIn _ 8 (by decide) (by decide)) rfl dX2_tau_28 ?_
  refine lv_sipush (v := (255 : Int32)) hx hb dX2_tau_29 (by decide) ?_
  refine lv_iand hx hb dX2_tau_32 ?_
  refine lv_istore_n (lv' := [(3, .int ((sm_sb (((z >>> ((16 : Int32) &&& 31)) &&& (255 : Int32))).toNatClampNeg) &&& (255 : Int32))), (2, .int ((sm_sb (((z >>> ((24 : Int32) &&& 31)) &&& (255 : Int32))).toNatClampNeg) &&& (255 : Int32))), (0, .ref h0), (1, .int z)]) hx hb dX2_tau_33 rfl hl (by decide) rfl (fun ls hl => ?_)
  refine va_gets hx hb hZS hS hown (hts _ q207) (fun _ h9 => h9) dX2_tau_34 ?_
  refine lv_iload_n hx hb dX2_tau_37 rfl (lv_at hl 3 rfl) ?_
  refine lv_bipush (v := (8 : Int32)) hx hb dX2_tau_38 (by decide) ?_
  refine lv_ishr hx hb dX2_tau_40 ?_
  refine lv_sipush (v := (255 : Int32)) hx hb dX2_tau_41 (by decide) ?_
  refine lv_iand hx hb dX2_tau_44 ?_
  refine va_tb hx hb hTS hS (pk_andIn _ 8 (by decide) (by decide)) rfl dX2_tau_45 ?_
  refine lv_sipush (v := (255 : Int32)) hx hb dX2_tau_46 (by decide) ?_
  refine lv_iand hx hb dX2_tau_49 ?_
  refine lv_istore (lv' := [(4, .int ((sm_sb (((z >>> ((8 : Int32) &&& 31)) &&& (255 : Int32))).toNatClampNeg) &&& (255 : Int32))), (3, .int ((sm_sb (((z >>> ((16 : Int32) &&& 31)) &&& (255 : Int32))).toNatClampNeg) &&& (255 : Int32))), (2, .int ((sm_sb (((z >>> ((24 : Int32) &&& 31)) &&& (255 : Int32))).toNatClampNeg) &&& (255 : Int32))), (0, .ref h0), (1, .int z)]) hx hb dX2_tau_50 hl (by decide) rfl (fun ls hl => ?_)
  refine va_gets hx hb hZS hS hown (hts _ q207) (fun _ h9 => h9) dX2_tau_52 ?_
  refine lv_iload_n hx hb dX2_tau_55 rfl (lv_at hl 4 rfl) ?_
  refine lv_sipush (v := (255 : Int32)) hx hb dX2_tau_56 (by decide) ?_
  refine lv_iand hx hb dX2_tau_59 ?_
  refine va_tb hx hb hTS hS (pk_andIn _ 8 (by decide) (by decide)) rfl dX2_tau_60 ?_
  refine lv_sipush (v := (255 : Int32)) hx hb dX2_tau_61 (by decide) ?_
  refine lv_iand hx hb dX2_tau_64 ?_
  refine lv_istore (lv' := [(5, .int ((sm_sb ((z &&& (255 : Int32))).toNatClampNeg) &&& (255 : Int32))), (4, .int ((sm_sb (((z >>> ((8 : Int32) &&& 31)) &&& (255 : Int32))).toNatClampNeg) &&& (255 : Int32))), (3, .int ((sm_sb (((z >>> ((16 : Int32) &&& 31)) &&& (255 : Int32))).toNatClampNeg) &&& (255 : Int32))), (2, .int ((sm_sb (((z >>> ((24 : Int32) &&& 31)) &&& (255 : Int32))).toNatClampNeg) &&& (255 : Int32))), (0, .ref h0), (1, .int z)]) hx hb dX2_tau_65 hl (by decide) rfl (fun ls hl => ?_)
  refine lv_iload_n hx hb dX2_tau_67 rfl (lv_at hl 3 rfl) ?_
  refine lv_bipush (v := (24 : Int32)) hx hb dX2_tau_68 (by decide) ?_
  refine lv_ishl hx hb dX2_tau_70 ?_
  refine lv_iload_n hx hb dX2_tau_71 rfl (lv_at hl 2 rfl) ?_
  refine lv_bipush (v := (16 : Int32)) hx hb dX2_tau_72 (by decide) ?_
  refine lv_ishl hx hb dX2_tau_74 ?_
  refine lv_ior hx hb dX2_tau_75 ?_
  refine lv_iload hx hb dX2_tau_76 (lv_at hl 1 rfl) ?_
  refine lv_bipush (v := (8 : Int32)) hx hb dX2_tau_78 (by decide) ?_
  refine lv_ishl hx hb dX2_tau_80 ?_
  refine lv_ior hx hb dX2_tau_81 ?_
  refine lv_iload hx hb dX2_tau_82 (lv_at hl 0 rfl) ?_
  refine lv_ior hx hb dX2_tau_84 ?_
  exact sm_iret hx hb hr hlk rfl dX2_tau_85
theorem sm_mvT : sm_Mv (fun _ _ => True) := sm_Mv_true
set_option maxHeartbeats 4000000 in
set_option maxRecDepth 100000 in
/-- L_ap -/
theorem met_lap (l : Launch) (D : va_G) (dB dN : ClassId) (h0 : Nat) (vx vr : Value) (z : Int32) : sm_Pure l yX2_L_ap cX2_L_ap 2 ({ frames := 1, cells := 0, slots := 0, locals := 22 } : Room) [.ref h0, .int z] (sm_En D dB dN [(h0, .inr (2, [vx, vr]))]) (sm_lap z) := by
  refine sm_met (by decide) (Nat.le_of_ble_eq_true rfl) (fun p e s m below meth c ls hx hb hr hlk hml hown hin hts hB hl => ?_)
  have hl : lv_has ls 2 [(0, .ref h0), (1, .int z)] := hl
  have hF : CallFix p m c cX2_L_ap 2 s _ lw_all RX2 := ⟨hx, hb, hml, hown, hts⟩
  obtain ⟨hP, hK, hSb⟩ := hB
  refine lv_iload_n hx hb dX2_L_ap_0 rfl (lv_at hl 1 rfl) ?_
  refine lv_aload_n hx hb dX2_L_ap_1 rfl (lv_at hl 0 rfl) ?_
  refine lv_iload_n hx hb dX2_L_ap_2 rfl (lv_at hl 1 rfl) ?_
  refine lv_bipush (v := (13 : Int32)) hx hb dX2_L_ap_3 (by decide) ?_
  refine sm_pV (C := RX2) (As := [.int z, .int (13 : Int32)]) (rest := [.int z]) hF (met_rot l h0 z (13 : Int32)) (lw_V q213 q215 qs6 q19 q216) hdV_X2_rotateLeft ⟨rfl, rfl, Nat.le_of_ble_eq_true rfl, Nat.le_of_ble_eq_true rfl⟩ (va_recv hK hP (ci := 2) (q0 := 0) rfl rfl) sm_mvT trivial hl.1 rfl (Nat.le_of_ble_eq_true rfl) dX2_L_ap_5 ⟨Nat.le_of_ble_eq_true rfl, Nat.le_of_ble_eq_true rfl⟩ ?_
  refine lv_ixor hx hb dX2_L_ap_8 ?_
  refine lv_aload_n hx hb dX2_L_ap_9 rfl (lv_at hl 0 rfl) ?_
  refine lv_iload_n hx hb dX2_L_ap_10 rfl (lv_at hl 1 rfl) ?_
  refine lv_bipush (v := (23 : Int32)) hx hb dX2_L_ap_11 (by decide) ?_
  refine sm_pV (C := RX2) (As := [.int z, .int (23 : Int32)]) (rest := [.int (z ^^^ (sm_rot z (13 : Int32)))]) hF (met_rot l h0 z (23 : Int32)) (lw_V q213 q215 qs6 q19 q216) hdV_X2_rotateLeft ⟨rfl, rfl, Nat.le_of_ble_eq_true rfl, Nat.le_of_ble_eq_true rfl⟩ (va_recv hK hP (ci := 2) (q0 := 0) rfl rfl) sm_mvT trivial hl.1 rfl (Nat.le_of_ble_eq_true rfl) dX2_L_ap_13 ⟨Nat.le_of_ble_eq_true rfl, Nat.le_of_ble_eq_true rfl⟩ ?_
  refine lv_ixor hx hb dX2_L_ap_16 ?_
  exact sm_iret hx hb hr hlk rfl dX2_L_ap_17
set_option maxHeartbeats 4000000 in
set_option maxRecDepth 100000 in
/-- L -/
theorem met_l (l : Launch) (D : va_G) (dB dN : ClassId) (h0 : Nat) (vx vr : Value) (z : Int32) : sm_Pure l yX2_L cX2_L 3 ({ frames := 1, cells := 0, slots := 0, locals := 22 } : Room) [.ref h0, .int z] (sm_En D dB dN [(h0, .inr (2, [vx, vr]))]) (sm_l z) := by
  refine sm_met (by decide) (Nat.le_of_ble_eq_true rfl) (fun p e s m below meth c ls hx hb hr hlk hml hown hin hts hB hl => ?_)
  have hl : lv_has ls 3 [(0, .ref h0), (1, .int z)] := hl
  have hF : CallFix p m c cX2_L 3 s _ lw_all RX2 := ⟨hx, hb, hml, hown, hts⟩
  obtain ⟨hP, hK, hSb⟩ := hB
  refine lv_iload_n hx hb dX2_L_0 rfl (lv_at hl 1 rfl) ?_
  refine lv_aload_n hx hb dX2_L_1 rfl (lv_at hl 0 rfl) ?_
  refine lv_iload_n hx hb dX2_L_2 rfl (lv_at hl 1 rfl) ?_
  refine lv_iconst (v := (2 : Int32)) hx hb dX2_L_3 (by decide) ?_
  refine sm_pV (C := RX2) (As := [.int z, .int (2 : Int32)]) (rest := [.int z]) hF (met_rot l h0 z (2 : Int32)) (lw_V q213 q215 qs6 q19 q216) hdV_X2_rotateLeft ⟨rfl, rfl, Nat.le_of_ble_eq_true rfl, Nat.le_of_ble_eq_true rfl⟩ (va_recv hK hP (ci := 2) (q0 := 0) rfl rfl) sm_mvT trivial hl.1 rfl (Nat.le_of_ble_eq_true rfl) dX2_L_4 ⟨Nat.le_of_ble_eq_true rfl, Nat.le_of_ble_eq_true rfl⟩ ?_
  refine lv_ixor hx hb dX2_L_7 ?_
  refine lv_aload_n hx hb dX2_L_8 rfl (lv_at hl 0 rfl) ?_
  refine lv_iload_n hx hb dX2_L_9 rfl (lv_at hl 1 rfl) ?_
  refine lv_bipush (v := (10 : Int32)) hx hb dX2_L_10 (by decide) ?_
  refine sm_pV (C := RX2) (As := [.int z, .int (10 : Int32)]) (rest := [.int (z ^^^ (sm_rot z (2 : Int32)))]) hF (met_rot l h0 z (10 : Int32)) (lw_V q213 q215 qs6 q19 q216) hdV_X2_rotateLeft ⟨rfl, rfl, Nat.le_of_ble_eq_true rfl, Nat.le_of_ble_eq_true rfl⟩ (va_recv hK hP (ci := 2) (q0 := 0) rfl rfl) sm_mvT trivial hl.1 rfl (Nat.le_of_ble_eq_true rfl) dX2_L_12 ⟨Nat.le_of_ble_eq_true rfl, Nat.le_of_ble_eq_true rfl⟩ ?_
  refine lv_ixor hx hb dX2_L_15 ?_
  refine lv_aload_n hx hb dX2_L_16 rfl (lv_at hl 0 rfl) ?_
  refine lv_iload_n hx hb dX2_L_17 rfl (lv_at hl 1 rfl) ?_
  refine lv_bipush (v := (18 : Int32)) hx hb dX2_L_18 (by decide) ?_
  refine sm_pV (C := RX2) (As := [.int z, .int (18 : Int32)]) (rest := [.int ((z ^^^ (sm_rot z (2 : Int32))) ^^^ (sm_rot z (10 : Int32)))]) hF (met_rot l h0 z (18 : Int32)) (lw_V q213 q215 qs6 q19 q216) hdV_X2_rotateLeft ⟨rfl, rfl, Nat.le_of_ble_eq_true rfl, Nat.le_of_ble_eq_true rfl⟩ (va_recv hK hP (ci := 2) (q0 := 0) rfl rfl) sm_mvT trivial hl.1 rfl (Nat.le_of_ble_eq_true rfl) dX2_L_20 ⟨Nat.le_of_ble_eq_true rfl, Nat.le_of_ble_eq_true rfl⟩ ?_
  refine lv_ixor hx hb dX2_L_23 ?_
  refine lv_aload_n hx hb dX2_L_24 rfl (lv_at hl 0 rfl) ?_
  refine lv_iload_n hx hb dX2_L_25 rfl (lv_at hl 1 rfl) ?_
  refine lv_bipush (v := (24 : Int32)) hx hb dX2_L_26 (by decide) ?_
  refine sm_pV (C := RX2) (As := [.int z, .int (24 : Int32)]) (rest := [.int (((z ^^^ (sm_rot z (2 : Int32))) ^^^ (sm_rot z (10 : Int32))) ^^^ (sm_rot z (18 : Int32)))]) hF (met_rot l h0 z (24 : Int32)) (lw_V q213 q215 qs6 q19 q216) hdV_X2_rotateLeft ⟨rfl, rfl, Nat.le_of_ble_eq_true rfl, Nat.le_of_ble_eq_true rfl⟩ (va_recv hK hP (ci := 2) (q0 := 0) rfl rfl) sm_mvT trivial hl.1 rfl (Nat.le_of_ble_eq_true rfl) dX2_L_28 ⟨Nat.le_of_ble_eq_true rfl, Nat.le_of_ble_eq_true rfl⟩ ?_
  refine lv_ixor hx hb dX2_L_31 ?_
  refine lv_istore_n (lv' := [(2, .int ((((z ^^^ (sm_rot z (2 : Int32))) ^^^ (sm_rot z (10 : Int32))) ^^^ (sm_rot z (18 : Int32))) ^^^ (sm_rot z (24 : Int32)))), (0, .ref h0), (1, .int z)]) hx hb dX2_L_32 rfl hl (by decide) rfl (fun ls hl => ?_)
  refine lv_iload_n hx hb dX2_L_33 rfl (lv_at hl 0 rfl) ?_
  exact sm_iret hx hb hr hlk rfl dX2_L_34
set_option maxHeartbeats 4000000 in
set_option maxRecDepth 100000 in
/-- T_ap -/
theorem met_tap (l : Launch) (D : va_G) (dB dN : ClassId) (h0 : Nat) (vx vr : Value) (z : Int32) : sm_Pure l yX2_T_ap cX2_T_ap 2 ({ frames := 2, cells := 0, slots := 0, locals := 43 } : Room) [.ref h0, .int z] (sm_En D dB dN [(h0, .inr (2, [vx, vr]))]) (sm_tap z) := by
  refine sm_met (by decide) (Nat.le_of_ble_eq_true rfl) (fun p e s m below meth c ls hx hb hr hlk hml hown hin hts hB hl => ?_)
  have hl : lv_has ls 2 [(0, .ref h0), (1, .int z)] := hl
  have hF : CallFix p m c cX2_T_ap 2 s _ lw_all RX2 := ⟨hx, hb, hml, hown, hts⟩
  obtain ⟨hP, hK, hSb⟩ := hB
  refine lv_aload_n hx hb dX2_T_ap_0 rfl (lv_at hl 0 rfl) ?_
  refine lv_aload_n hx hb dX2_T_ap_1 rfl (lv_at hl 0 rfl) ?_
  refine lv_iload_n hx hb dX2_T_ap_2 rfl (lv_at hl 1 rfl) ?_
  refine sm_pV (C := RX2) (As := [.int z]) (rest := [.ref h0]) hF (met_tau l h0 z) (lw_V q203 q205 qs4 q19 q206) hdV_X2_tau ⟨rfl, rfl, Nat.le_of_ble_eq_true rfl, Nat.le_of_ble_eq_true rfl⟩ (va_recv hK hP (ci := 2) (q0 := 0) rfl rfl) sm_mvS hSb hl.1 rfl (Nat.le_of_ble_eq_true rfl) dX2_T_ap_3 ⟨Nat.le_of_ble_eq_true rfl, Nat.le_of_ble_eq_true rfl⟩ ?_
  refine sm_pV (C := RX2) (As := [.int (sm_tau z)]) (rest := []) hF (met_lap l D dB dN h0 vx vr (sm_tau z)) (lw_V q209 q211 qs5 q19 q212) hdV_X2_L_ap ⟨rfl, rfl, Nat.le_of_ble_eq_true rfl, Nat.le_of_ble_eq_true rfl⟩ (va_recv hK hP (ci := 2) (q0 := 0) rfl rfl) (sm_mvE _ _ _ _) ⟨hP, hK, hSb⟩ hl.1 rfl (Nat.le_of_ble_eq_true rfl) dX2_T_ap_6 ⟨Nat.le_of_ble_eq_true rfl, Nat.le_of_ble_eq_true rfl⟩ ?_
  exact sm_iret hx hb hr hlk rfl dX2_T_ap_9
set_option maxHeartbeats 4000000 in
set_option maxRecDepth 100000 in
/-- T -/
theorem met_t (l : Launch) (D : va_G) (dB dN : ClassId) (h0 : Nat) (vx vr : Value) (z : Int32) : sm_Pure l yX2_T cX2_T 2 ({ frames := 2, cells := 0, slots := 0, locals := 44 } : Room) [.ref h0, .int z] (sm_En D dB dN [(h0, .inr (2, [vx, vr]))]) (sm_t z) := by
  refine sm_met (by decide) (Nat.le_of_ble_eq_true rfl) (fun p e s m below meth c ls hx hb hr hlk hml hown hin hts hB hl => ?_)
  have hl : lv_has ls 2 [(0, .ref h0), (1, .int z)] := hl
  have hF : CallFix p m c cX2_T 2 s _ lw_all RX2 := ⟨hx, hb, hml, hown, hts⟩
  obtain ⟨hP, hK, hSb⟩ := hB
  refine lv_aload_n hx hb dX2_T_0 rfl (lv_at hl 0 rfl) ?_
  refine lv_aload_n hx hb dX2_T_1 rfl (lv_at hl 0 rfl) ?_
  refine lv_iload_n hx hb dX2_T_2 rfl (lv_at hl 1 rfl) ?_
  refine sm_pV (C := RX2) (As := [.int z]) (rest := [.ref h0]) hF (met_tau l h0 z) (lw_V q203 q205 qs4 q19 q206) hdV_X2_tau ⟨rfl, rfl, Nat.le_of_ble_eq_true rfl, Nat.le_of_ble_eq_true rfl⟩ (va_recv hK hP (ci := 2) (q0 := 0) rfl rfl) sm_mvS hSb hl.1 rfl (Nat.le_of_ble_eq_true rfl) dX2_T_3 ⟨Nat.le_of_ble_eq_true rfl, Nat.le_of_ble_eq_true rfl⟩ ?_
  refine sm_pV (C := RX2) (As := [.int (sm_tau z)]) (rest := []) hF (met_l l D dB dN h0 vx vr (sm_tau z)) (lw_V q288 q290 qs9 q19 q291) hdV_X2_L ⟨rfl, rfl, Nat.le_of_ble_eq_true rfl, Nat.le_of_ble_eq_true rfl⟩ (va_recv hK hP (ci := 2) (q0 := 0) rfl rfl) (sm_mvE _ _ _ _) ⟨hP, hK, hSb⟩ hl.1 rfl (Nat.le_of_ble_eq_true rfl) dX2_T_6 ⟨Nat.le_of_ble_eq_true rfl, Nat.le_of_ble_eq_true rfl⟩ ?_
  exact sm_iret hx hb hr hlk rfl dX2_T_9
set_option maxHeartbeats 4000000 in
set_option maxRecDepth 100000 in
/-- F0 -/
theorem met_f0 (l : Launch) (D : va_G) (dB dN : ClassId) (h0 : Nat) (vx vr : Value) (a : Nat) (x : Nat → Int32) (r : Int32) : sm_Pure l yX2_F0 cX2_F0 3 ({ frames := 3, cells := 0, slots := 0, locals := 65 } : Room) [.ref h0, .ref a, .int r] (sm_En D dB dN [(h0, .inr (2, [vx, vr])), (a, .inl (dN, 4, .inl x))]) ((x 0) ^^^ sm_t ((((x 1) ^^^ (x 2)) ^^^ (x 3)) ^^^ r)) := by
  refine sm_met (by decide) (Nat.le_of_ble_eq_true rfl) (fun p e s m below meth c ls hx hb hr hlk hml hown hin hts hB hl => ?_)
  have hl : lv_has ls 3 [(0, .ref h0), (1, .ref a), (2, .int r)] := hl
  have hF : CallFix p m c cX2_F0 3 s _ lw_all RX2 := ⟨hx, hb, hml, hown, hts⟩
  obtain ⟨hP, hK, hSb⟩ := hB
  refine lv_aload_n hx hb dX2_F0_0 rfl (lv_at hl 1 rfl) ?_
  refine lv_iconst (v := (0 : Int32)) hx hb dX2_F0_1 (by decide) ?_
  refine sm_iald hx hb hK hP 1 rfl 0 rfl (by decide) (by decide) dX2_F0_2 ?_
  refine lv_aload_n hx hb dX2_F0_3 rfl (lv_at hl 0 rfl) ?_
  refine lv_aload_n hx hb dX2_F0_4 rfl (lv_at hl 1 rfl) ?_
  refine lv_iconst (v := (1 : Int32)) hx hb dX2_F0_5 (by decide) ?_
  refine sm_iald hx hb hK hP 1 rfl 1 rfl (by decide) (by decide) dX2_F0_6 ?_
  refine lv_aload_n hx hb dX2_F0_7 rfl (lv_at hl 1 rfl) ?_
  refine lv_iconst (v := (2 : Int32)) hx hb dX2_F0_8 (by decide) ?_
  refine sm_iald hx hb hK hP 1 rfl 2 rfl (by decide) (by decide) dX2_F0_9 ?_
  refine lv_ixor hx hb dX2_F0_10 ?_
  refine lv_aload_n hx hb dX2_F0_11 rfl (lv_at hl 1 rfl) ?_
  refine lv_iconst (v := (3 : Int32)) hx hb dX2_F0_12 (by decide) ?_
  refine sm_iald hx hb hK hP 1 rfl 3 rfl (by decide) (by decide) dX2_F0_13 ?_
  refine lv_ixor hx hb dX2_F0_14 ?_
  refine lv_iload_n hx hb dX2_F0_15 rfl (lv_at hl 2 rfl) ?_
  refine lv_ixor hx hb dX2_F0_16 ?_
  refine sm_pV (C := RX2) (As := [.int ((((x 1) ^^^ (x 2)) ^^^ (x 3)) ^^^ r)]) (rest := [.int (x 0)]) hF (met_t l D dB dN h0 vx vr ((((x 1) ^^^ (x 2)) ^^^ (x 3)) ^^^ r)) (lw_V q284 q286 qs8 q19 q287) hdV_X2_T ⟨rfl, rfl, Nat.le_of_ble_eq_true rfl, Nat.le_of_ble_eq_true rfl⟩ (va_recv hK hP (ci := 2) (q0 := 0) rfl rfl) (sm_mvE _ _ _ _) ⟨hP.sub [0] rfl, hK, hSb⟩ hl.1 rfl (Nat.le_of_ble_eq_true rfl) dX2_F0_17 ⟨Nat.le_of_ble_eq_true rfl, Nat.le_of_ble_eq_true rfl⟩ ?_
  refine lv_ixor hx hb dX2_F0_20 ?_
  exact sm_iret hx hb hr hlk rfl dX2_F0_21
set_option maxHeartbeats 4000000 in
set_option maxRecDepth 100000 in
/-- F1 -/
theorem met_f1 (l : Launch) (D : va_G) (dB dN : ClassId) (h0 : Nat) (vx vr : Value) (a : Nat) (x : Nat → Int32) (r : Int32) : sm_Pure l yX2_F1 cX2_F1 3 ({ frames := 3, cells := 0, slots := 0, locals := 65 } : Room) [.ref h0, .ref a, .int r] (sm_En D dB dN [(h0, .inr (2, [vx, vr])), (a, .inl (dN, 4, .inl x))]) ((x 1) ^^^ sm_t ((((x 2) ^^^ (x 3)) ^^^ (x 0)) ^^^ r)) := by
  refine sm_met (by decide) (Nat.le_of_ble_eq_true rfl) (fun p e s m below meth c ls hx hb hr hlk hml hown hin hts hB hl => ?_)
  have hl : lv_has ls 3 [(0, .ref h0), (1, .ref a), (2, .int r)] := hl
  have hF : CallFix p m c cX2_F1 3 s _ lw_all RX2 := ⟨hx, hb, hml, hown, hts⟩
  obtain ⟨hP, hK, hSb⟩ := hB
  refine lv_aload_n hx hb dX2_F1_0 rfl (lv_at hl 1 rfl) ?_
  refine lv_iconst (v := (1 : Int32)) hx hb dX2_F1_1 (by decide) ?_
  refine sm_iald hx hb hK hP 1 rfl 1 rfl (by decide) (by decide) dX2_F1_2 ?_
  refine lv_aload_n hx hb dX2_F1_3 rfl (lv_at hl 0 rfl) ?_
  refine lv_aload_n hx hb dX2_F1_4 rfl (lv_at hl 1 rfl) ?_
  refine lv_iconst (v := (2 : Int32)) hx hb dX2_F1_5 (by decide) ?_
  refine sm_iald hx hb hK hP 1 rfl 2 rfl (by decide) (by decide) dX2_F1_6 ?_
  refine lv_aload_n hx hb dX2_F1_7 rfl (lv_at hl 1 rfl) ?_
  refine lv_iconst (v := (3 : Int32)) hx hb dX2_F1_8 (by decide) ?_
  refine sm_iald hx hb hK hP 1 rfl 3 rfl (by decide) (by decide) dX2_F1_9 ?_
  refine lv_ixor hx hb dX2_F1_10 ?_
  refine lv_aload_n hx hb dX2_F1_11 rfl (lv_at hl 1 rfl) ?_
  refine lv_iconst (v := (0 : Int32)) hx hb dX2_F1_12 (by decide) ?_
  refine sm_iald hx hb hK hP 1 rfl 0 rfl (by decide) (by decide) dX2_F1_13 ?_
  refine lv_ixor hx hb dX2_F1_14 ?_
  refine lv_iload_n hx hb dX2_F1_15 rfl (lv_at hl 2 rfl) ?_
  refine lv_ixor hx hb dX2_F1_16 ?_
  refine sm_pV (C := RX2) (As := [.int ((((x 2) ^^^ (x 3)) ^^^ (x 0)) ^^^ r)]) (rest := [.int (x 1)]) hF (met_t l D dB dN h0 vx vr ((((x 2) ^^^ (x 3)) ^^^ (x 0)) ^^^ r)) (lw_V q284 q286 qs8 q19 q287) hdV_X2_T ⟨rfl, rfl, Nat.le_of_ble_eq_true rfl, Nat.le_of_ble_eq_true rfl⟩ (va_recv hK hP (ci := 2) (q0 := 0) rfl rfl) (sm_mvE _ _ _ _) ⟨hP.sub [0] rfl, hK, hSb⟩ hl.1 rfl (Nat.le_of_ble_eq_true rfl) dX2_F1_17 ⟨Nat.le_of_ble_eq_true rfl, Nat.le_of_ble_eq_true rfl⟩ ?_
  refine lv_ixor hx hb dX2_F1_20 ?_
  exact sm_iret hx hb hr hlk rfl dX2_F1_21
set_option maxHeartbeats 4000000 in
set_option maxRecDepth 100000 in
/-- F2 -/
theorem met_f2 (l : Launch) (D : va_G) (dB dN : ClassId) (h0 : Nat) (vx vr : Value) (a : Nat) (x : Nat → Int32) (r : Int32) : sm_Pure l yX2_F2 cX2_F2 3 ({ frames := 3, cells := 0, slots := 0, locals := 65 } : Room) [.ref h0, .ref a, .int r] (sm_En D dB dN [(h0, .inr (2, [vx, vr])), (a, .inl (dN, 4, .inl x))]) ((x 2) ^^^ sm_t ((((x 3) ^^^ (x 0)) ^^^ (x 1)) ^^^ r)) := by
  refine sm_met (by decide) (Nat.le_of_ble_eq_true rfl) (fun p e s m below meth c ls hx hb hr hlk hml hown hin hts hB hl => ?_)
  have hl : lv_has ls 3 [(0, .ref h0), (1, .ref a), (2, .int r)] := hl
  have hF : CallFix p m c cX2_F2 3 s _ lw_all RX2 := ⟨hx, hb, hml, hown, hts⟩
  obtain ⟨hP, hK, hSb⟩ := hB
  refine lv_aload_n hx hb dX2_F2_0 rfl (lv_at hl 1 rfl) ?_
  refine lv_iconst (v := (2 : Int32)) hx hb dX2_F2_1 (by decide) ?_
  refine sm_iald hx hb hK hP 1 rfl 2 rfl (by decide) (by decide) dX2_F2_2 ?_
  refine lv_aload_n hx hb dX2_F2_3 rfl (lv_at hl 0 rfl) ?_
  refine lv_aload_n hx hb dX2_F2_4 rfl (lv_at hl 1 rfl) ?_
  refine lv_iconst (v := (3 : Int32)) hx hb dX2_F2_5 (by decide) ?_
  refine sm_iald hx hb hK hP 1 rfl 3 rfl (by decide) (by decide) dX2_F2_6 ?_
  refine lv_aload_n hx hb dX2_F2_7 rfl (lv_at hl 1 rfl) ?_
  refine lv_iconst (v := (0 : Int32)) hx hb dX2_F2_8 (by decide) ?_
  refine sm_iald hx hb hK hP 1 rfl 0 rfl (by decide) (by decide) dX2_F2_9 ?_
  refine lv_ixor hx hb dX2_F2_10 ?_
  refine lv_aload_n hx hb dX2_F2_11 rfl (lv_at hl 1 rfl) ?_
  refine lv_iconst (v := (1 : Int32)) hx hb dX2_F2_12 (by decide) ?_
  refine sm_iald hx hb hK hP 1 rfl 1 rfl (by decide) (by decide) dX2_F2_13 ?_
  refine lv_ixor hx hb dX2_F2_14 ?_
  refine lv_iload_n hx hb dX2_F2_15 rfl (lv_at hl 2 rfl) ?_
  refine lv_ixor hx hb dX2_F2_16 ?_
  refine sm_pV (C := RX2) (As := [.int ((((x 3) ^^^ (x 0)) ^^^ (x 1)) ^^^ r)]) (rest := [.int (x 2)]) hF (met_t l D dB dN h0 vx vr ((((x 3) ^^^ (x 0)) ^^^ (x 1)) ^^^ r)) (lw_V q284 q286 qs8 q19 q287) hdV_X2_T ⟨rfl, rfl, Nat.le_of_ble_eq_true rfl, Nat.le_of_ble_eq_true rfl⟩ (va_recv hK hP (ci := 2) (q0 := 0) rfl rfl) (sm_mvE _ _ _ _) ⟨hP.sub [0] rfl, hK, hSb⟩ hl.1 rfl (Nat.le_of_ble_eq_true rfl) dX2_F2_17 ⟨Nat.le_of_ble_eq_true rfl, Nat.le_of_ble_eq_true rfl⟩ ?_
  refine lv_ixor hx hb dX2_F2_20 ?_
  exact sm_iret hx hb hr hlk rfl dX2_F2_21
set_option maxHeartbeats 4000000 in
set_option maxRecDepth 100000 in
/-- F3 -/
theorem met_f3 (l : Launch) (D : va_G) (dB dN : ClassId) (h0 : Nat) (vx vr : Value) (a : Nat) (x : Nat → Int32) (r : Int32) : sm_Pure l yX2_F3 cX2_F3 3 ({ frames := 3, cells := 0, slots := 0, locals := 65 } : Room) [.ref h0, .ref a, .int r] (sm_En D dB dN [(h0, .inr (2, [vx, vr])), (a, .inl (dN, 4, .inl x))]) ((x 3) ^^^ sm_t ((((x 0) ^^^ (x 1)) ^^^ (x 2)) ^^^ r)) := by
  refine sm_met (by decide) (Nat.le_of_ble_eq_true rfl) (fun p e s m below meth c ls hx hb hr hlk hml hown hin hts hB hl => ?_)
  have hl : lv_has ls 3 [(0, .ref h0), (1, .ref a), (2, .int r)] := hl
  have hF : CallFix p m c cX2_F3 3 s _ lw_all RX2 := ⟨hx, hb, hml, hown, hts⟩
  obtain ⟨hP, hK, hSb⟩ := hB
  refine lv_aload_n hx hb dX2_F3_0 rfl (lv_at hl 1 rfl) ?_
  refine lv_iconst (v := (3 : Int32)) hx hb dX2_F3_1 (by decide) ?_
  refine sm_iald hx hb hK hP 1 rfl 3 rfl (by decide) (by decide) dX2_F3_2 ?_
  refine lv_aload_n hx hb dX2_F3_3 rfl (lv_at hl 0 rfl) ?_
  refine lv_aload_n hx hb dX2_F3_4 rfl (lv_at hl 1 rfl) ?_
  refine lv_iconst (v := (0 : Int32)) hx hb dX2_F3_5 (by decide) ?_
  refine sm_iald hx hb hK hP 1 rfl 0 rfl (by decide) (by decide) dX2_F3_6 ?_
  refine lv_aload_n hx hb dX2_F3_7 rfl (lv_at hl 1 rfl) ?_
  refine lv_iconst (v := (1 : Int32)) hx hb dX2_F3_8 (by decide) ?_
  refine sm_iald hx hb hK hP 1 rfl 1 rfl (by decide) (by decide) dX2_F3_9 ?_
  refine lv_ixor hx hb dX2_F3_10 ?_
  refine lv_aload_n hx hb dX2_F3_11 rfl (lv_at hl 1 rfl) ?_
  refine lv_iconst (v := (2 : Int32)) hx hb dX2_F3_12 (by decide) ?_
  refine sm_iald hx hb hK hP 1 rfl 2 rfl (by decide) (by decide) dX2_F3_13 ?_
  refine lv_ixor hx hb dX2_F3_14 ?_
  refine lv_iload_n hx hb dX2_F3_15 rfl (lv_at hl 2 rfl) ?_
  refine lv_ixor hx hb dX2_F3_16 ?_
  refine sm_pV (C := RX2) (As := [.int ((((x 0) ^^^ (x 1)) ^^^ (x 2)) ^^^ r)]) (rest := [.int (x 3)]) hF (met_t l D dB dN h0 vx vr ((((x 0) ^^^ (x 1)) ^^^ (x 2)) ^^^ r)) (lw_V q284 q286 qs8 q19 q287) hdV_X2_T ⟨rfl, rfl, Nat.le_of_ble_eq_true rfl, Nat.le_of_ble_eq_true rfl⟩ (va_recv hK hP (ci := 2) (q0 := 0) rfl rfl) (sm_mvE _ _ _ _) ⟨hP.sub [0] rfl, hK, hSb⟩ hl.1 rfl (Nat.le_of_ble_eq_true rfl) dX2_F3_17 ⟨Nat.le_of_ble_eq_true rfl, Nat.le_of_ble_eq_true rfl⟩ ?_
  refine lv_ixor hx hb dX2_F3_20 ?_
  exact sm_iret hx hb hr hlk rfl dX2_F3_21
end
section
/-! SM4Engine.expandKey -/
theorem sm_sbAt {A : Nat → Prop} {s : State} {H : Heap} {locs : List Loc} (h : sm_Sb A s s.heap) (hS : va_S A s.heap H locs) : sm_Sb (fun _ => False) s H := sm_Sb_ok.2.2 _ _ _ _ (sm_Sb_ok.2.1 _ _ _ H h hS.2.1) (fun _ h => h.elim)
/-- a method's end that answers a cell, with its world -/
theorem sm_ar {p : Program} {l : Launch} {e : Env} {R : Room} {s : State} {m : MethodId} {args : Array Value} {below : List Frame} {meth : Method} {c : Code} {H : Heap} {locs : List Loc} {cells slots : Nat} {cc : ByteArray} {pc : Nat} {ls : Array Slot} {D : va_G} {dB dN : ClassId} {A : Nat → Prop} {S : Type} {post : S → Prop} {w1 : S → Nat → va_W} {u : S} {q : Nat} {rt : FieldType} (hx : p.tables.exec = Jvm.exec) (hb : c.code = cc) (hr : meth.sig.returnType = some rt) (hrt : (∃ n, rt = .object n) ∨ ∃ t, rt = .array t) (hlk : meth.locks = false) (hp : post u) (hP : va_P D sCl (w1 u q) H) (hK : va_K D sCl (sTy dB dN) s) (hD : va_D A (w1 u q)) (hS : va_S A s.heap H locs) {k n : Nat} (h1 : cells ≤ k) (h2 : slots ≤ n) (hdg : decode cc pc = .ok (.areturn, 1)) : W p l e R s m args below meth c H locs cells slots (MQ below (va_Qr post (fun u a t => va_P D sCl (w1 u a) t.heap ∧ va_K D sCl (sTy dB dN) t ∧ va_D A (w1 u a)) A) args s k n A) (F0 m pc ls [.ref q]) := by
  refine W.widen h1 h2 ?_
  exact W.aret hx hb hr hrt (Or.inr ⟨_, rfl⟩) (fun t ht hW => ⟨⟨u, q, rfl, hp, by rw [ht]; exact hP, va_K.moved hW.alike hK, hD⟩, hS.F ht⟩) hS.2.2 hdg
def sm_enc (f a : Nat → Int32) (i : Nat) : Prop := ∀ j, j < i → a j = sm_kq f (j + 4)
def sm_dec (f a : Nat → Int32) (i : Nat) : Prop := ∀ j, 32 - i ≤ j → j < 32 → a j = sm_kq f (31 - j + 4)
theorem sm_enc_s {f a : Nat → Int32} {i : Nat} {v : Int32} (h : sm_enc f a i) (hv : v = sm_kq f (i + 4)) : sm_enc f (upd a i v) (i + 1) := by
  intro j hj
  unfold upd
  by_cases e : j = i
  · rw [if_pos e, e]; exact hv
  · rw [if_neg e]; exact h j (by omega)
theorem sm_dec_s {f a : Nat → Int32} {i k : Nat} {v : Int32} (h : sm_dec f a i) (hk : k + i + 1 = 32) (hv : v = sm_kq f (i + 4)) : sm_dec f (upd a k v) (i + 1) := by
  intro j h1 h2
  unfold upd
  by_cases e : j = k
  · rw [if_pos e, hv]
    congr 1
    omega
  · rw [if_neg e]; exact h j (by omega) h2
theorem sm_dcr (t : Nat) : ((31 : Int32) - nI t) + Int32.ofInt (-1) = (31 : Int32) - nI (t + 1) := by
  rw [nI_succ]
  show ((31 : Int32) - nI t) + (-1) = _
  grind
set_option maxHeartbeats 4000000 in
set_option maxRecDepth 100000 in
/-- expandKey(z, key): a new array of the round keys -/
theorem met_ek (l : Launch) (D : va_G) (dB dN : ClassId) (h0 : Nat) (vx vr : Value) (k : Nat) (f : Nat → Int32) (z : Int32) (sz : Nat) : Met l yX2_expandKey (ws_ yX2_expandKey cX2_expandKey 7 (some (.array .int))) ({ frames := 3, cells := 3, slots := 40, locals := 64 } : Room) (va_Pc [.ref h0, .int z, .ref k] (sm_Pre D dB dN [(h0, .inr (2, [vx, vr])), (k, .inl (dB, 16, .inl f))] sz sm_St)) (va_Qr (fun u : Nat → Int32 => ∀ j, j < 32 → u j = sm_rk f z j) (fun u a t => va_P D sCl ((fun (u : Nat → Int32) (q : Nat) => [(h0, .inr (2, [vx, vr])), (k, .inl (dB, 16, .inl f)), (q, .inl (dN, 32, .inl u))]) u a) t.heap ∧ va_K D sCl (sTy dB dN) t ∧ va_D (va_A [(h0, .inr (2, [vx, vr])), (k, .inl (dB, 16, .inl f))] sz) ((fun (u : Nat → Int32) (q : Nat) => [(h0, .inr (2, [vx, vr])), (k, .inl (dB, 16, .inl f)), (q, .inl (dN, 32, .inl u))]) u a)) (va_A [(h0, .inr (2, [vx, vr])), (k, .inl (dB, 16, .inl f))] sz)) 3 40 (va_A [(h0, .inr (2, [vx, vr])), (k, .inl (dB, 16, .inl f))] sz) := by
  refine sm_met (by decide) (Nat.le_of_ble_eq_true rfl) (fun p e s m below meth c ls hx hb hr hlk hml hown hin hts hB hl => ?_)
  have hl : lv_has ls 7 [(0, .ref h0), (1, .int z), (2, .ref k)] := hl
  have hF : CallFix p m c cX2_expandKey 7 s _ lw_all RX2 := ⟨hx, hb, hml, hown, hts⟩
  obtain ⟨hsz, hP, hK, hD0, hEx⟩ := hB
  subst hsz
  have hD := hD0.self (sz := s.heap.size)
  generalize hAe : va_A [(h0, .inr (2, [vx, vr])), (k, .inl (dB, 16, .inl f))] s.heap.size = A at hD hEx ⊢
  have hA : ∀ q : Nat, s.heap.size ≤ q → A q := fun q h => by rw [← hAe]; exact Or.inr h
  have hS : va_S A s.heap s.heap [] := va_S.rf
  obtain ⟨hSb, ⟨tC, hZC, hTC⟩, ⟨tF, hZF, hTF⟩⟩ := hEx
  refine lv_bipush (v := (32 : Int32)) hx hb dX2_expandKey_0 (by decide) ?_
  refine sm_newI (N := 32) hx hb hts hK hP hD hS hA rfl (by decide) (Nat.le_of_ble_eq_true rfl) (Nat.le_of_ble_eq_true rfl) dX2_expandKey_2 (fun q3 H hP hD hS => ?_)
  have hP : va_P D sCl [(h0, .inr (2, [vx, vr])), (k, .inl (dB, 16, .inl f)), (q3, .inl (dN, 32, .inl (fun _ => 0)))] H := hP
  have hD : va_D A [(h0, .inr (2, [vx, vr])), (k, .inl (dB, 16, .inl f)), (q3, .inl (dN, 32, .inl (fun _ => 0)))] := hD
  refine lv_astore_n (lv' := [(3, .ref q3), (0, .ref h0), (1, .int z), (2, .ref k)]) hx hb dX2_expandKey_4 rfl hl (by decide) rfl (fun ls hl => ?_)
  refine lv_iconst (v := (4 : Int32)) hx hb dX2_expandKey_5 (by decide) ?_
  refine sm_newI (N := 4) hx hb hts hK hP hD hS hA rfl (by decide) (Nat.le_of_ble_eq_true rfl) (Nat.le_of_ble_eq_true rfl) dX2_expandKey_6 (fun q4 H hP hD hS => ?_)
  have hP : va_P D sCl [(h0, .inr (2, [vx, vr])), (k, .inl (dB, 16, .inl f)), (q3, .inl (dN, 32, .inl (fun _ => 0))), (q4, .inl (dN, 4, .inl (fun _ => 0)))] H := hP
  have hD : va_D A [(h0, .inr (2, [vx, vr])), (k, .inl (dB, 16, .inl f)), (q3, .inl (dN, 32, .inl (fun _ => 0))), (q4, .inl (dN, 4, .inl (fun _ => 0)))] := hD
  refine lv_astore (lv' := [(4, .ref q4), (3, .ref q3), (0, .ref h0), (1, .int z), (2, .ref k)]) hx hb dX2_expandKey_8 hl (by decide) rfl (fun ls hl => ?_)
  refine lv_aload hx hb dX2_expandKey_10 (lv_at hl 0 rfl) ?_
  refine lv_iconst (v := (0 : Int32)) hx hb dX2_expandKey_12 (by decide) ?_
  refine lv_aload_n hx hb dX2_expandKey_13 rfl (lv_at hl 4 rfl) ?_
  refine lv_iconst (v := (0 : Int32)) hx hb dX2_expandKey_14 (by decide) ?_
  refine sm_pS (rest := [.int (0 : Int32), .ref q4]) hF (met_be l D dB dN k 16 f 0 (by decide) (by decide)) (lw_S q192 q193 q26 q194) hdS_X4_bigEndianToInt ⟨rfl, rfl, Nat.le_of_ble_eq_true rfl, Nat.le_of_ble_eq_true rfl⟩ (sm_mvW _ _ _ _) ⟨hP.sub [1] rfl, hK⟩ hl.1 rfl (Nat.le_of_ble_eq_true rfl) dX2_expandKey_15 ⟨Nat.le_of_ble_eq_true rfl, Nat.le_of_ble_eq_true rfl⟩ ?_
  refine sm_iast hx hb hK hP hD hS 3 rfl 0 rfl (by decide) (by decide) dX2_expandKey_18 (fun H locs hP hD hS => ?_)
  have hP : va_P D sCl [(h0, .inr (2, [vx, vr])), (k, .inl (dB, 16, .inl f)), (q3, .inl (dN, 32, .inl (fun _ => 0))), (q4, .inl (dN, 4, .inl (upd (fun _ => 0) 0 (sm_wd f 0))))] H := hP
  have hD : va_D A [(h0, .inr (2, [vx, vr])), (k, .inl (dB, 16, .inl f)), (q3, .inl (dN, 32, .inl (fun _ => 0))), (q4, .inl (dN, 4, .inl (upd (fun _ => 0) 0 (sm_wd f 0))))] := hD
  refine lv_aload hx hb dX2_expandKey_19 (lv_at hl 0 rfl) ?_
  refine lv_iconst (v := (1 : Int32)) hx hb dX2_expandKey_21 (by decide) ?_
  refine lv_aload_n hx hb dX2_expandKey_22 rfl (lv_at hl 4 rfl) ?_
  refine lv_iconst (v := (4 : Int32)) hx hb dX2_expandKey_23 (by decide) ?_
  refine sm_pS (rest := [.int (1 : Int32), .ref q4]) hF (met_be l D dB dN k 16 f 4 (by decide) (by decide)) (lw_S q192 q193 q26 q194) hdS_X4_bigEndianToInt ⟨rfl, rfl, Nat.le_of_ble_eq_true rfl, Nat.le_of_ble_eq_true rfl⟩ (sm_mvW _ _ _ _) ⟨hP.sub [1] rfl, hK⟩ hl.1 rfl (Nat.le_of_ble_eq_true rfl) dX2_expandKey_24 ⟨Nat.le_of_ble_eq_true rfl, Nat.le_of_ble_eq_true rfl⟩ ?_
  refine sm_iast hx hb hK hP hD hS 3 rfl 1 rfl (by decide) (by decide) dX2_expandKey_27 (fun H locs hP hD hS => ?_)
  have hP : va_P D sCl [(h0, .inr (2, [vx, vr])), (k, .inl (dB, 16, .inl f)), (q3, .inl (dN, 32, .inl (fun _ => 0))), (q4, .inl (dN, 4, .inl (upd (upd (fun _ => 0) 0 (sm_wd f 0)) 1 (sm_wd f 4))))] H := hP
  have hD : va_D A [(h0, .inr (2, [vx, vr])), (k, .inl (dB, 16, .inl f)), (q3, .inl (dN, 32, .inl (fun _ => 0))), (q4, .inl (dN, 4, .inl (upd (upd (fun _ => 0) 0 (sm_wd f 0)) 1 (sm_wd f 4))))] := hD
  refine lv_aload hx hb dX2_expandKey_28 (lv_at hl 0 rfl) ?_
  refine lv_iconst (v := (2 : Int32)) hx hb dX2_expandKey_30 (by decide) ?_
  refine lv_aload_n hx hb dX2_expandKey_31 rfl (lv_at hl 4 rfl) ?_
  refine lv_bipush (v := (8 : Int32)) hx hb dX2_expandKey_32 (by decide) ?_
  refine sm_pS (rest := [.int (2 : Int32), .ref q4]) hF (met_be l D dB dN k 16 f 8 (by decide) (by decide)) (lw_S q192 q193 q26 q194) hdS_X4_bigEndianToInt ⟨rfl, rfl, Nat.le_of_ble_eq_true rfl, Nat.le_of_ble_eq_true rfl⟩ (sm_mvW _ _ _ _) ⟨hP.sub [1] rfl, hK⟩ hl.1 rfl (Nat.le_of_ble_eq_true rfl) dX2_expandKey_34 ⟨Nat.le_of_ble_eq_true rfl, Nat.le_of_ble_eq_true rfl⟩ ?_
  refine sm_iast hx hb hK hP hD hS 3 rfl 2 rfl (by decide) (by decide) dX2_expandKey_37 (fun H locs hP hD hS => ?_)
  have hP : va_P D sCl [(h0, .inr (2, [vx, vr])), (k, .inl (dB, 16, .inl f)), (q3, .inl (dN, 32, .inl (fun _ => 0))), (q4, .inl (dN, 4, .inl (upd (upd (upd (fun _ => 0) 0 (sm_wd f 0)) 1 (sm_wd f 4)) 2 (sm_wd f 8))))] H := hP
  have hD : va_D A [(h0, .inr (2, [vx, vr])), (k, .inl (dB, 16, .inl f)), (q3, .inl (dN, 32, .inl (fun _ => 0))), (q4, .inl (dN, 4, .inl (upd (upd (upd (fun _ => 0) 0 (sm_wd f 0)) 1 (sm_wd f 4)) 2 (sm_wd f 8))))] := hD
  refine lv_aload hx hb dX2_expandKey_38 (lv_at hl 0 rfl) ?_
  refine lv_iconst (v := (3 : Int32)) hx hb dX2_expandKey_40 (by decide) ?_
  refine lv_aload_n hx hb dX2_expandKey_41 rfl (lv_at hl 4 rfl) ?_
  refine lv_bipush (v := (12 : Int32)) hx hb dX2_expandKey_42 (by decide) ?_
  refine sm_pS (rest := [.int (3 : Int32), .ref q4]) hF (met_be l D dB dN k 16 f 12 (by decide) (by decide)) (lw_S q192 q193 q26 q194) hdS_X4_bigEndianToInt ⟨rfl, rfl, Nat.le_of_ble_eq_true rfl, Nat.le_of_ble_eq_true rfl⟩ (sm_mvW _ _ _ _) ⟨hP.sub [1] rfl, hK⟩ hl.1 rfl (Nat.le_of_ble_eq_true rfl) dX2_expandKey_44 ⟨Nat.le_of_ble_eq_true rfl, Nat.le_of_ble_eq_true rfl⟩ ?_
  refine sm_iast hx hb hK hP hD hS 3 rfl 3 rfl (by decide) (by decide) dX2_expandKey_47 (fun H locs hP hD hS => ?_)
  have hP : va_P D sCl [(h0, .inr (2, [vx, vr])), (k, .inl (dB, 16, .inl f)), (q3, .inl (dN, 32, .inl (fun _ => 0))), (q4, .inl (dN, 4, .inl (upd (upd (upd (upd (fun _ => 0) 0 (sm_wd f 0)) 1 (sm_wd f 4)) 2 (sm_wd f 8)) 3 (sm_wd f 12))))] H := hP
  have hD : va_D A [(h0, .inr (2, [vx, vr])), (k, .inl (dB, 16, .inl f)), (q3, .inl (dN, 32, .inl (fun _ => 0))), (q4, .inl (dN, 4, .inl (upd (upd (upd (upd (fun _ => 0) 0 (sm_wd f 0)) 1 (sm_wd f 4)) 2 (sm_wd f 8)) 3 (sm_wd f 12))))] := hD
  obtain ⟨mk, h_mk⟩ : ∃ g9 : Nat → Int32, g9 = (upd (upd (upd (upd (fun _ => 0) 0 (sm_wd f 0)) 1 (sm_wd f 4)) 2 (sm_wd f 8)) 3 (sm_wd f 12)) := ⟨_, rfl⟩
  rw [← h_mk] at hP hD
  have m0 : mk 0 = sm_wd f 0 := by rw [h_mk]; rfl
  have m1 : mk 1 = sm_wd f 4 := by rw [h_mk]; rfl
  have m2 : mk 2 = sm_wd f 8 := by rw [h_mk]; rfl
  have m3 : mk 3 = sm_wd f 12 := by rw [h_mk]; rfl
  refine lv_iconst (v := (4 : Int32)) hx hb dX2_expandKey_48 (by decide) ?_
  refine sm_newI (N := 4) hx hb hts hK hP hD hS hA rfl (by decide) (Nat.le_of_ble_eq_true rfl) (Nat.le_of_ble_eq_true rfl) dX2_expandKey_49 (fun q6 H hP hD hS => ?_)
  have hP : va_P D sCl [(h0, .inr (2, [vx, vr])), (k, .inl (dB, 16, .inl f)), (q3, .inl (dN, 32, .inl (fun _ => 0))), (q4, .inl (dN, 4, .inl mk)), (q6, .inl (dN, 4, .inl (fun _ => 0)))] H := hP
  have hD : va_D A [(h0, .inr (2, [vx, vr])), (k, .inl (dB, 16, .inl f)), (q3, .inl (dN, 32, .inl (fun _ => 0))), (q4, .inl (dN, 4, .inl mk)), (q6, .inl (dN, 4, .inl (fun _ => 0)))] := hD
  refine lv_astore (lv' := [(6, .ref q6), (4, .ref q4), (3, .ref q3), (0, .ref h0), (1, .int z), (2, .ref k)]) hx hb dX2_expandKey_51 hl (by decide) rfl (fun ls hl => ?_)
  refine lv_aload hx hb dX2_expandKey_53 (lv_at hl 0 rfl) ?_
  refine lv_iconst (v := (0 : Int32)) hx hb dX2_expandKey_55 (by decide) ?_
  refine lv_aload hx hb dX2_expandKey_56 (lv_at hl 1 rfl) ?_
  refine lv_iconst (v := (0 : Int32)) hx hb dX2_expandKey_58 (by decide) ?_
  refine sm_iald hx hb hK hP 3 rfl 0 rfl (by decide) (by decide) dX2_expandKey_59 ?_
  refine va_gets hx hb hZF hS hown (hts _ q195) (fun _ h9 => h9) dX2_expandKey_60 ?_
  refine lv_iconst (v := (0 : Int32)) hx hb dX2_expandKey_63 (by decide) ?_
  refine sm_ti (F := sm_fk) hx hb hTF hS 0 rfl (by decide) (by decide) dX2_expandKey_64 ?_
  refine lv_ixor hx hb dX2_expandKey_65 ?_
  refine sm_iast hx hb hK hP hD hS 4 rfl 0 rfl (by decide) (by decide) dX2_expandKey_66 (fun H locs hP hD hS => ?_)
  have hP : va_P D sCl [(h0, .inr (2, [vx, vr])), (k, .inl (dB, 16, .inl f)), (q3, .inl (dN, 32, .inl (fun _ => 0))), (q4, .inl (dN, 4, .inl mk)), (q6, .inl (dN, 4, .inl (upd (fun _ => 0) 0 ((mk 0) ^^^ (sm_fk 0)))))] H := hP
  have hD : va_D A [(h0, .inr (2, [vx, vr])), (k, .inl (dB, 16, .inl f)), (q3, .inl (dN, 32, .inl (fun _ => 0))), (q4, .inl (dN, 4, .inl mk)), (q6, .inl (dN, 4, .inl (upd (fun _ => 0) 0 ((mk 0) ^^^ (sm_fk 0)))))] := hD
  refine lv_aload hx hb dX2_expandKey_67 (lv_at hl 0 rfl) ?_
  refine lv_iconst (v := (1 : Int32)) hx hb dX2_expandKey_69 (by decide) ?_
  refine lv_aload hx hb dX2_expandKey_70 (lv_at hl 1 rfl) ?_
  refine lv_iconst (v := (1 : Int32)) hx hb dX2_expandKey_72 (by decide) ?_
  refine sm_iald hx hb hK hP 3 rfl 1 rfl (by decide) (by decide) dX2_expandKey_73 ?_
  refine va_gets hx hb hZF hS hown (hts _ q195) (fun _ h9 => h9) dX2_expandKey_74 ?_
  refine lv_iconst (v := (1 : Int32)) hx hb dX2_expandKey_77 (by decide) ?_
  refine sm_ti (F := sm_fk) hx hb hTF hS 1 rfl (by decide) (by decide) dX2_expandKey_78 ?_
  refine lv_ixor hx hb dX2_expandKey_79 ?_
  refine sm_iast hx hb hK hP hD hS 4 rfl 1 rfl (by decide) (by decide) dX2_expandKey_80 (fun H locs hP hD hS => ?_)
  have hP : va_P D sCl [(h0, .inr (2, [vx, vr])), (k, .inl (dB, 16, .inl f)), (q3, .inl (dN, 32, .inl (fun _ => 0))), (q4, .inl (dN, 4, .inl mk)), (q6, .inl (dN, 4, .inl (upd (upd (fun _ => 0) 0 ((mk 0) ^^^ (sm_fk 0))) 1 ((mk 1) ^^^ (sm_fk 1)))))] H := hP
  have hD : va_D A [(h0, .inr (2, [vx, vr])), (k, .inl (dB, 16, .inl f)), (q3, .inl (dN, 32, .inl (fun _ => 0))), (q4, .inl (dN, 4, .inl mk)), (q6, .inl (dN, 4, .inl (upd (upd (fun _ => 0) 0 ((mk 0) ^^^ (sm_fk 0))) 1 ((mk 1) ^^^ (sm_fk 1)))))] := hD
  refine lv_aload hx hb dX2_expandKey_81 (lv_at hl 0 rfl) ?_
  refine lv_iconst (v := (2 : Int32)) hx hb dX2_expandKey_83 (by decide) ?_
  refine lv_aload hx hb dX2_expandKey_84 (lv_at hl 1 rfl) ?_
  refine lv_iconst (v := (2 : Int32)) hx hb dX2_expandKey_86 (by decide) ?_
  refine sm_iald hx hb hK hP 3 rfl 2 rfl (by decide) (by decide) dX2_expandKey_87 ?_
  refine va_gets hx hb hZF hS hown (hts _ q195) (fun _ h9 => h9) dX2_expandKey_88 ?_
  refine lv_iconst (v := (2 : Int32)) hx hb dX2_expandKey_91 (by decide) ?_
  refine sm_ti (F := sm_fk) hx hb hTF hS 2 rfl (by decide) (by decide) dX2_expandKey_92 ?_
  refine lv_ixor hx hb dX2_expandKey_93 ?_
  refine sm_iast hx hb hK hP hD hS 4 rfl 2 rfl (by decide) (by decide) dX2_expandKey_94 (fun H locs hP hD hS => ?_)
  have hP : va_P D sCl [(h0, .inr (2, [vx, vr])), (k, .inl (dB, 16, .inl f)), (q3, .inl (dN, 32, .inl (fun _ => 0))), (q4, .inl (dN, 4, .inl mk)), (q6, .inl (dN, 4, .inl (upd (upd (upd (fun _ => 0) 0 ((mk 0) ^^^ (sm_fk 0))) 1 ((mk 1) ^^^ (sm_fk 1))) 2 ((mk 2) ^^^ (sm_fk 2)))))] H := hP
  have hD : va_D A [(h0, .inr (2, [vx, vr])), (k, .inl (dB, 16, .inl f)), (q3, .inl (dN, 32, .inl (fun _ => 0))), (q4, .inl (dN, 4, .inl mk)), (q6, .inl (dN, 4, .inl (upd (upd (upd (fun _ => 0) 0 ((mk 0) ^^^ (sm_fk 0))) 1 ((mk 1) ^^^ (sm_fk 1))) 2 ((mk 2) ^^^ (sm_fk 2)))))] := hD
  refine lv_aload hx hb dX2_expandKey_95 (lv_at hl 0 rfl) ?_
  refine lv_iconst (v := (3 : Int32)) hx hb dX2_expandKey_97 (by decide) ?_
  refine lv_aload hx hb dX2_expandKey_98 (lv_at hl 1 rfl) ?_
  refine lv_iconst (v := (3 : Int32)) hx hb dX2_expandKey_100 (by decide) ?_
  refine sm_iald hx hb hK hP 3 rfl 3 rfl (by decide) (by decide) dX2_expandKey_101 ?_
  refine va_gets hx hb hZF hS hown (hts _ q195) (fun _ h9 => h9) dX2_expandKey_102 ?_
  refine lv_iconst (v := (3 : Int32)) hx hb dX2_expandKey_105 (by decide) ?_
  refine sm_ti (F := sm_fk) hx hb hTF hS 3 rfl (by decide) (by decide) dX2_expandKey_106 ?_
  refine lv_ixor hx hb dX2_expandKey_107 ?_
  refine sm_iast hx hb hK hP hD hS 4 rfl 3 rfl (by decide) (by decide) dX2_expandKey_108 (fun H locs hP hD hS => ?_)
  have hP : va_P D sCl [(h0, .inr (2, [vx, vr])), (k, .inl (dB, 16, .inl f)), (q3, .inl (dN, 32, .inl (fun _ => 0))), (q4, .inl (dN, 4, .inl mk)), (q6, .inl (dN, 4, .inl (upd (upd (upd (upd (fun _ => 0) 0 ((mk 0) ^^^ (sm_fk 0))) 1 ((mk 1) ^^^ (sm_fk 1))) 2 ((mk 2) ^^^ (sm_fk 2))) 3 ((mk 3) ^^^ (sm_fk 3)))))] H := hP
  have hD : va_D A [(h0, .inr (2, [vx, vr])), (k, .inl (dB, 16, .inl f)), (q3, .inl (dN, 32, .inl (fun _ => 0))), (q4, .inl (dN, 4, .inl mk)), (q6, .inl (dN, 4, .inl (upd (upd (upd (upd (fun _ => 0) 0 ((mk 0) ^^^ (sm_fk 0))) 1 ((mk 1) ^^^ (sm_fk 1))) 2 ((mk 2) ^^^ (sm_fk 2))) 3 ((mk 3) ^^^ (sm_fk 3)))))] := hD
  obtain ⟨kk, h_kk⟩ : ∃ g9 : Nat → Int32, g9 = (upd (upd (upd (upd (fun _ => 0) 0 ((mk 0) ^^^ (sm_fk 0))) 1 ((mk 1) ^^^ (sm_fk 1))) 2 ((mk 2) ^^^ (sm_fk 2))) 3 ((mk 3) ^^^ (sm_fk 3))) := ⟨_, rfl⟩
  rw [← h_kk] at hP hD
  have k0 : kk 0 = sm_kq f 0 := by rw [h_kk]; show mk 0 ^^^ sm_fk 0 = _; rw [m0]; rfl
  have k1 : kk 1 = sm_kq f 1 := by rw [h_kk]; show mk 1 ^^^ sm_fk 1 = _; rw [m1]; rfl
  have k2 : kk 2 = sm_kq f 2 := by rw [h_kk]; show mk 2 ^^^ sm_fk 2 = _; rw [m2]; rfl
  have k3 : kk 3 = sm_kq f 3 := by rw [h_kk]; show mk 3 ^^^ sm_fk 3 = _; rw [m3]; rfl
  refine lv_iload_n hx hb dX2_expandKey_109 rfl (lv_at hl 4 rfl) ?_
  refine lv_if_eq (tgt := 293) hx hb dX2_expandKey_110 (by decide) (fun hz => ?_) (fun hz => ?_)
  · have a0 : sm_dec f (fun _ => 0) 0 := fun j h1 h2 => absurd h1 (by omega)
    refine lv_aload_n hx hb dX2_expandKey_293 rfl (lv_at hl 2 rfl) ?_
    refine lv_bipush (v := (31 : Int32)) hx hb dX2_expandKey_294 (by decide) ?_
    refine lv_aload hx hb dX2_expandKey_296 (lv_at hl 0 rfl) ?_
    refine lv_iconst (v := (0 : Int32)) hx hb dX2_expandKey_298 (by decide) ?_
    refine sm_iald hx hb hK hP 4 rfl 0 rfl (by decide) (by decide) dX2_expandKey_299 ?_
    refine lv_aload_n hx hb dX2_expandKey_300 rfl (lv_at hl 3 rfl) ?_
    refine lv_aload hx hb dX2_expandKey_301 (lv_at hl 0 rfl) ?_
    refine lv_iconst (v := (1 : Int32)) hx hb dX2_expandKey_303 (by decide) ?_
    refine sm_iald hx hb hK hP 4 rfl 1 rfl (by decide) (by decide) dX2_expandKey_304 ?_
    refine lv_aload hx hb dX2_expandKey_305 (lv_at hl 0 rfl) ?_
    refine lv_iconst (v := (2 : Int32)) hx hb dX2_expandKey_307 (by decide) ?_
    refine sm_iald hx hb hK hP 4 rfl 2 rfl (by decide) (by decide) dX2_expandKey_308 ?_
    refine lv_ixor hx hb dX2_expandKey_309 ?_
    refine lv_aload hx hb dX2_expandKey_310 (lv_at hl 0 rfl) ?_
    refine lv_iconst (v := (3 : Int32)) hx hb dX2_expandKey_312 (by decide) ?_
    refine sm_iald hx hb hK hP 4 rfl 3 rfl (by decide) (by decide) dX2_expandKey_313 ?_
    refine lv_ixor hx hb dX2_expandKey_314 ?_
    refine va_gets hx hb hZC hS hown (hts _ q197) (fun _ h9 => h9) dX2_expandKey_315 ?_
    refine lv_iconst (v := (0 : Int32)) hx hb dX2_expandKey_318 (by decide) ?_
    refine sm_ti (F := sm_ck) hx hb hTC hS 0 rfl (by decide) (by decide) dX2_expandKey_319 ?_
    refine lv_ixor hx hb dX2_expandKey_320 ?_
    refine sm_pV (C := RX2) (As := [.int ((((kk 1) ^^^ (kk 2)) ^^^ (kk 3)) ^^^ (sm_ck 0))]) (rest := [.int (kk 0), .int (31 : Int32), .ref q3]) hF (met_tap l D dB dN h0 vx vr ((((kk 1) ^^^ (kk 2)) ^^^ (kk 3)) ^^^ (sm_ck 0))) (lw_V q199 q201 qs3 q19 q202) hdV_X2_T_ap ⟨rfl, rfl, Nat.le_of_ble_eq_true rfl, Nat.le_of_ble_eq_true rfl⟩ (va_recv hK hP (ci := 2) (q0 := 0) rfl rfl) (sm_mvE _ _ _ _) ⟨hP.sub [0] rfl, hK, sm_sbAt hSb hS⟩ hl.1 rfl (Nat.le_of_ble_eq_true rfl) dX2_expandKey_321 ⟨Nat.le_of_ble_eq_true rfl, Nat.le_of_ble_eq_true rfl⟩ ?_
    refine lv_ixor hx hb dX2_expandKey_324 ?_
    refine sm_iast hx hb hK hP hD hS 2 rfl 31 rfl (by decide) (by decide) dX2_expandKey_325 (fun H locs hP hD hS => ?_)
    have hP : va_P D sCl [(h0, .inr (2, [vx, vr])), (k, .inl (dB, 16, .inl f)), (q3, .inl (dN, 32, .inl (upd (fun _ => 0) 31 ((kk 0) ^^^ (sm_tap ((((kk 1) ^^^ (kk 2)) ^^^ (kk 3)) ^^^ (sm_ck 0))))))), (q4, .inl (dN, 4, .inl mk)), (q6, .inl (dN, 4, .inl kk))] H := hP
    have hD : va_D A [(h0, .inr (2, [vx, vr])), (k, .inl (dB, 16, .inl f)), (q3, .inl (dN, 32, .inl (upd (fun _ => 0) 31 ((kk 0) ^^^ (sm_tap ((((kk 1) ^^^ (kk 2)) ^^^ (kk 3)) ^^^ (sm_ck 0))))))), (q4, .inl (dN, 4, .inl mk)), (q6, .inl (dN, 4, .inl kk))] := hD
    obtain ⟨r1, h_r1⟩ : ∃ g9 : Nat → Int32, g9 = (upd (fun _ => 0) 31 ((kk 0) ^^^ (sm_tap ((((kk 1) ^^^ (kk 2)) ^^^ (kk 3)) ^^^ (sm_ck 0))))) := ⟨_, rfl⟩
    rw [← h_r1] at hP hD
    have a1 : sm_dec f r1 1 := by rw [h_r1]; exact sm_dec_s a0 (by decide) (by rw [k0, k1, k2, k3]; rfl)
    have a1_31 : r1 31 = sm_kq f 4 := a1 31 (by decide) (by decide)
    refine lv_aload_n hx hb dX2_expandKey_326 rfl (lv_at hl 2 rfl) ?_
    refine lv_bipush (v := (30 : Int32)) hx hb dX2_expandKey_327 (by decide) ?_
    refine lv_aload hx hb dX2_expandKey_329 (lv_at hl 0 rfl) ?_
    refine lv_iconst (v := (1 : Int32)) hx hb dX2_expandKey_331 (by decide) ?_
    refine sm_iald hx hb hK hP 4 rfl 1 rfl (by decide) (by decide) dX2_expandKey_332 ?_
    refine lv_aload_n hx hb dX2_expandKey_333 rfl (lv_at hl 3 rfl) ?_
    refine lv_aload hx hb dX2_expandKey_334 (lv_at hl 0 rfl) ?_
    refine lv_iconst (v := (2 : Int32)) hx hb dX2_expandKey_336 (by decide) ?_
    refine sm_iald hx hb hK hP 4 rfl 2 rfl (by decide) (by decide) dX2_expandKey_337 ?_
    refine lv_aload hx hb dX2_expandKey_338 (lv_at hl 0 rfl) ?_
    refine lv_iconst (v := (3 : Int32)) hx hb dX2_expandKey_340 (by decide) ?_
    refine sm_iald hx hb hK hP 4 rfl 3 rfl (by decide) (by decide) dX2_expandKey_341 ?_
    refine lv_ixor hx hb dX2_expandKey_342 ?_
    refine lv_aload_n hx hb dX2_expandKey_343 rfl (lv_at hl 2 rfl) ?_
    refine lv_bipush (v := (31 : Int32)) hx hb dX2_expandKey_344 (by decide) ?_
    refine sm_iald hx hb hK hP 2 rfl 31 rfl (by decide) (by decide) dX2_expandKey_346 ?_
    refine lv_ixor hx hb dX2_expandKey_347 ?_
    refine va_gets hx hb hZC hS hown (hts _ q197) (fun _ h9 => h9) dX2_expandKey_348 ?_
    refine lv_iconst (v := (1 : Int32)) hx hb dX2_expandKey_351 (by decide) ?_
    refine sm_ti (F := sm_ck) hx hb hTC hS 1 rfl (by decide) (by decide) dX2_expandKey_352 ?_
    refine lv_ixor hx hb dX2_expandKey_353 ?_
    refine sm_pV (C := RX2) (As := [.int ((((kk 2) ^^^ (kk 3)) ^^^ (r1 31)) ^^^ (sm_ck 1))]) (rest := [.int (kk 1), .int (30 : Int32), .ref q3]) hF (met_tap l D dB dN h0 vx vr ((((kk 2) ^^^ (kk 3)) ^^^ (r1 31)) ^^^ (sm_ck 1))) (lw_V q199 q201 qs3 q19 q202) hdV_X2_T_ap ⟨rfl, rfl, Nat.le_of_ble_eq_true rfl, Nat.le_of_ble_eq_true rfl⟩ (va_recv hK hP (ci := 2) (q0 := 0) rfl rfl) (sm_mvE _ _ _ _) ⟨hP.sub [0] rfl, hK, sm_sbAt hSb hS⟩ hl.1 rfl (Nat.le_of_ble_eq_true rfl) dX2_expandKey_354 ⟨Nat.le_of_ble_eq_true rfl, Nat.le_of_ble_eq_true rfl⟩ ?_
    refine lv_ixor hx hb dX2_expandKey_357 ?_
    refine sm_iast hx hb hK hP hD hS 2 rfl 30 rfl (by decide) (by decide) dX2_expandKey_358 (fun H locs hP hD hS => ?_)
    have hP : va_P D sCl [(h0, .inr (2, [vx, vr])), (k, .inl (dB, 16, .inl f)), (q3, .inl (dN, 32, .inl (upd r1 30 ((kk 1) ^^^ (sm_tap ((((kk 2) ^^^ (kk 3)) ^^^ (r1 31)) ^^^ (sm_ck 1))))))), (q4, .inl (dN, 4, .inl mk)), (q6, .inl (dN, 4, .inl kk))] H := hP
    have hD : va_D A [(h0, .inr (2, [vx, vr])), (k, .inl (dB, 16, .inl f)), (q3, .inl (dN, 32, .inl (upd r1 30 ((kk 1) ^^^ (sm_tap ((((kk 2) ^^^ (kk 3)) ^^^ (r1 31)) ^^^ (sm_ck 1))))))), (q4, .inl (dN, 4, .inl mk)), (q6, .inl (dN, 4, .inl kk))] := hD
    obtain ⟨r2, h_r2⟩ : ∃ g9 : Nat → Int32, g9 = (upd r1 30 ((kk 1) ^^^ (sm_tap ((((kk 2) ^^^ (kk 3)) ^^^ (r1 31)) ^^^ (sm_ck 1))))) := ⟨_, rfl⟩
    rw [← h_r2] at hP hD
    have a2 : sm_dec f r2 2 := by rw [h_r2]; exact sm_dec_s a1 (by decide) (by rw [k1, k2, k3, a1_31]; rfl)
    have a2_31 : r2 31 = sm_kq f 4 := a2 31 (by decide) (by decide)
    have a2_30 : r2 30 = sm_kq f 5 := a2 30 (by decide) (by decide)
    refine lv_aload_n hx hb dX2_expandKey_359 rfl (lv_at hl 2 rfl) ?_
    refine lv_bipush (v := (29 : Int32)) hx hb dX2_expandKey_360 (by decide) ?_
    refine lv_aload hx hb dX2_expandKey_362 (lv_at hl 0 rfl) ?_
    refine lv_iconst (v := (2 : Int32)) hx hb dX2_expandKey_364 (by decide) ?_
    refine sm_iald hx hb hK hP 4 rfl 2 rfl (by decide) (by decide) dX2_expandKey_365 ?_
    refine lv_aload_n hx hb dX2_expandKey_366 rfl (lv_at hl 3 rfl) ?_
    refine lv_aload hx hb dX2_expandKey_367 (lv_at hl 0 rfl) ?_
    refine lv_iconst (v := (3 : Int32)) hx hb dX2_expandKey_369 (by decide) ?_
    refine sm_iald hx hb hK hP 4 rfl 3 rfl (by decide) (by decide) dX2_expandKey_370 ?_
    refine lv_aload_n hx hb dX2_expandKey_371 rfl (lv_at hl 2 rfl) ?_
    refine lv_bipush (v := (31 : Int32)) hx hb dX2_expandKey_372 (by decide) ?_
    refine sm_iald hx hb hK hP 2 rfl 31 rfl (by decide) (by decide) dX2_expandKey_374 ?_
    refine lv_ixor hx hb dX2_expandKey_375 ?_
    refine lv_aload_n hx hb dX2_expandKey_376 rfl (lv_at hl 2 rfl) ?_
    refine lv_bipush (v := (30 : Int32)) hx hb dX2_expandKey_377 (by decide) ?_
    refine sm_iald hx hb hK hP 2 rfl 30 rfl (by decide) (by decide) dX2_expandKey_379 ?_
    refine lv_ixor hx hb dX2_expandKey_380 ?_
    refine va_gets hx hb hZC hS hown (hts _ q197) (fun _ h9 => h9) dX2_expandKey_381 ?_
    refine lv_iconst (v := (2 : Int32)) hx hb dX2_expandKey_384 (by decide) ?_
    refine sm_ti (F := sm_ck) hx hb hTC hS 2 rfl (by decide) (by decide) dX2_expandKey_385 ?_
    refine lv_ixor hx hb dX2_expandKey_386 ?_
    refine sm_pV (C := RX2) (As := [.int ((((kk 3) ^^^ (r2 31)) ^^^ (r2 30)) ^^^ (sm_ck 2))]) (rest := [.int (kk 2), .int (29 : Int32), .ref q3]) hF (met_tap l D dB dN h0 vx vr ((((kk 3) ^^^ (r2 31)) ^^^ (r2 30)) ^^^ (sm_ck 2))) (lw_V q199 q201 qs3 q19 q202) hdV_X2_T_ap ⟨rfl, rfl, Nat.le_of_ble_eq_true rfl, Nat.le_of_ble_eq_true rfl⟩ (va_recv hK hP (ci := 2) (q0 := 0) rfl rfl) (sm_mvE _ _ _ _) ⟨hP.sub [0] rfl, hK, sm_sbAt hSb hS⟩ hl.1 rfl (Nat.le_of_ble_eq_true rfl) dX2_expandKey_387 ⟨Nat.le_of_ble_eq_true rfl, Nat.le_of_ble_eq_true rfl⟩ ?_
    refine lv_ixor hx hb dX2_expandKey_390 ?_
    refine sm_iast hx hb hK hP hD hS 2 rfl 29 rfl (by decide) (by decide) dX2_expandKey_391 (fun H locs hP hD hS => ?_)
    have hP : va_P D sCl [(h0, .inr (2, [vx, vr])), (k, .inl (dB, 16, .inl f)), (q3, .inl (dN, 32, .inl (upd r2 29 ((kk 2) ^^^ (sm_tap ((((kk 3) ^^^ (r2 31)) ^^^ (r2 30)) ^^^ (sm_ck 2))))))), (q4, .inl (dN, 4, .inl mk)), (q6, .inl (dN, 4, .inl kk))] H := hP
    have hD : va_D A [(h0, .inr (2, [vx, vr])), (k, .inl (dB, 16, .inl f)), (q3, .inl (dN, 32, .inl (upd r2 29 ((kk 2) ^^^ (sm_tap ((((kk 3) ^^^ (r2 31)) ^^^ (r2 30)) ^^^ (sm_ck 2))))))), (q4, .inl (dN, 4, .inl mk)), (q6, .inl (dN, 4, .inl kk))] := hD
    obtain ⟨r3, h_r3⟩ : ∃ g9 : Nat → Int32, g9 = (upd r2 29 ((kk 2) ^^^ (sm_tap ((((kk 3) ^^^ (r2 31)) ^^^ (r2 30)) ^^^ (sm_ck 2))))) := ⟨_, rfl⟩
    rw [← h_r3] at hP hD
    have a3 : sm_dec f r3 3 := by rw [h_r3]; exact sm_dec_s a2 (by decide) (by rw [k2, k3, a2_31, a2_30]; rfl)
    have a3_31 : r3 31 = sm_kq f 4 := a3 31 (by decide) (by decide)
    have a3_30 : r3 30 = sm_kq f 5 := a3 30 (by decide) (by decide)
    have a3_29 : r3 29 = sm_kq f 6 := a3 29 (by decide) (by decide)
    refine lv_aload_n hx hb dX2_expandKey_392 rfl (lv_at hl 2 rfl) ?_
    refine lv_bipush (v := (28 : Int32)) hx hb dX2_expandKey_393 (by decide) ?_
    refine lv_aload hx hb dX2_expandKey_395 (lv_at hl 0 rfl) ?_
    refine lv_iconst (v := (3 : Int32)) hx hb dX2_expandKey_397 (by decide) ?_
    refine sm_iald hx hb hK hP 4 rfl 3 rfl (by decide) (by decide) dX2_expandKey_398 ?_
    refine lv_aload_n hx hb dX2_expandKey_399 rfl (lv_at hl 3 rfl) ?_
    refine lv_aload_n hx hb dX2_expandKey_400 rfl (lv_at hl 2 rfl) ?_
    refine lv_bipush (v := (31 : Int32)) hx hb dX2_expandKey_401 (by decide) ?_
    refine sm_iald hx hb hK hP 2 rfl 31 rfl (by decide) (by decide) dX2_expandKey_403 ?_
    refine lv_aload_n hx hb dX2_expandKey_404 rfl (lv_at hl 2 rfl) ?_
    refine lv_bipush (v := (30 : Int32)) hx hb dX2_expandKey_405 (by decide) ?_
    refine sm_iald hx hb hK hP 2 rfl 30 rfl (by decide) (by decide) dX2_expandKey_407 ?_
    refine lv_ixor hx hb dX2_expandKey_408 ?_
    refine lv_aload_n hx hb dX2_expandKey_409 rfl (lv_at hl 2 rfl) ?_
    refine lv_bipush (v := (29 : Int32)) hx hb dX2_expandKey_410 (by decide) ?_
    refine sm_iald hx hb hK hP 2 rfl 29 rfl (by decide) (by decide) dX2_expandKey_412 ?_
    refine lv_ixor hx hb dX2_expandKey_413 ?_
    refine va_gets hx hb hZC hS hown (hts _ q197) (fun _ h9 => h9) dX2_expandKey_414 ?_
    refine lv_iconst (v := (3 : Int32)) hx hb dX2_expandKey_417 (by decide) ?_
    refine sm_ti (F := sm_ck) hx hb hTC hS 3 rfl (by decide) (by decide) dX2_expandKey_418 ?_
    refine lv_ixor hx hb dX2_expandKey_419 ?_
    refine sm_pV (C := RX2) (As := [.int ((((r3 31) ^^^ (r3 30)) ^^^ (r3 29)) ^^^ (sm_ck 3))]) (rest := [.int (kk 3), .int (28 : Int32), .ref q3]) hF (met_tap l D dB dN h0 vx vr ((((r3 31) ^^^ (r3 30)) ^^^ (r3 29)) ^^^ (sm_ck 3))) (lw_V q199 q201 qs3 q19 q202) hdV_X2_T_ap ⟨rfl, rfl, Nat.le_of_ble_eq_true rfl, Nat.le_of_ble_eq_true rfl⟩ (va_recv hK hP (ci := 2) (q0 := 0) rfl rfl) (sm_mvE _ _ _ _) ⟨hP.sub [0] rfl, hK, sm_sbAt hSb hS⟩ hl.1 rfl (Nat.le_of_ble_eq_true rfl) dX2_expandKey_420 ⟨Nat.le_of_ble_eq_true rfl, Nat.le_of_ble_eq_true rfl⟩ ?_
    refine lv_ixor hx hb dX2_expandKey_423 ?_
    refine sm_iast hx hb hK hP hD hS 2 rfl 28 rfl (by decide) (by decide) dX2_expandKey_424 (fun H locs hP hD hS => ?_)
    have hP : va_P D sCl [(h0, .inr (2, [vx, vr])), (k, .inl (dB, 16, .inl f)), (q3, .inl (dN, 32, .inl (upd r3 28 ((kk 3) ^^^ (sm_tap ((((r3 31) ^^^ (r3 30)) ^^^ (r3 29)) ^^^ (sm_ck 3))))))), (q4, .inl (dN, 4, .inl mk)), (q6, .inl (dN, 4, .inl kk))] H := hP
    have hD : va_D A [(h0, .inr (2, [vx, vr])), (k, .inl (dB, 16, .inl f)), (q3, .inl (dN, 32, .inl (upd r3 28 ((kk 3) ^^^ (sm_tap ((((r3 31) ^^^ (r3 30)) ^^^ (r3 29)) ^^^ (sm_ck 3))))))), (q4, .inl (dN, 4, .inl mk)), (q6, .inl (dN, 4, .inl kk))] := hD
    obtain ⟨r4, h_r4⟩ : ∃ g9 : Nat → Int32, g9 = (upd r3 28 ((kk 3) ^^^ (sm_tap ((((r3 31) ^^^ (r3 30)) ^^^ (r3 29)) ^^^ (sm_ck 3))))) := ⟨_, rfl⟩
    rw [← h_r4] at hP hD
    have a4 : sm_dec f r4 4 := by rw [h_r4]; exact sm_dec_s a3 (by decide) (by rw [k3, a3_31, a3_30, a3_29]; rfl)
    have a4_31 : r4 31 = sm_kq f 4 := a4 31 (by decide) (by decide)
    have a4_30 : r4 30 = sm_kq f 5 := a4 30 (by decide) (by decide)
    have a4_29 : r4 29 = sm_kq f 6 := a4 29 (by decide) (by decide)
    have a4_28 : r4 28 = sm_kq f 7 := a4 28 (by decide) (by decide)
    refine lv_bipush (v := (27 : Int32)) hx hb dX2_expandKey_425 (by decide) ?_
    refine lv_istore (lv' := [(5, .int (27 : Int32)), (6, .ref q6), (4, .ref q4), (3, .ref q3), (0, .ref h0), (1, .int z), (2, .ref k)]) hx hb dX2_expandKey_427 hl (by decide) rfl (fun ls hl => ?_)
    rw [show (27 : Int32) = (31 : Int32) - nI 4 by decide] at hl
    refine sm_loop (fun t H locs ls => ∃ a : Nat → Int32, (sm_dec f a t ∧ 4 ≤ t) ∧ va_P D sCl [(h0, .inr (2, [vx, vr])), (k, .inl (dB, 16, .inl f)), (q3, .inl (dN, 32, .inl a))] H ∧ va_D A [(h0, .inr (2, [vx, vr])), (k, .inl (dB, 16, .inl f)), (q3, .inl (dN, 32, .inl a))] ∧ va_S A s.heap H locs ∧ lv_has ls 7 [(5, .int ((31 : Int32) - nI t)), (0, .ref h0), (3, .ref q3)]) 32 ?_ ?_ 4 (by decide) _ _ _ ⟨r4, ⟨a4, by decide⟩, hP.sub [0, 1, 2] rfl, hD.sub [0, 1, 2] (by decide) rfl, hS, lv_sub hl [0, 4, 3] rfl⟩
    · intro t H locs ls ht ⟨a, ⟨ha, h4t⟩, hP, hD, hS, hl⟩ ih
      have ev : (31 : Int32) - nI t = nI (31 - t) := pk_sub (a := 31) (b := t) (by omega)
      obtain ⟨j, hj⟩ : ∃ j : Nat, j = 31 - t := ⟨_, rfl⟩
      rw [ev, ← hj] at hl
      refine lv_iload hx hb dX2_expandKey_429 (lv_at hl 0 rfl) ?_
      refine lv_if_lt (tgt := 485) hx hb dX2_expandKey_431 (by decide) (fun c9 => absurd c9 (nI_pos (by omega))) (fun _ => ?_)
      refine lv_aload_n hx hb dX2_expandKey_434 rfl (lv_at hl 2 rfl) ?_
      refine lv_iload hx hb dX2_expandKey_435 (lv_at hl 0 rfl) ?_
      refine lv_aload_n hx hb dX2_expandKey_437 rfl (lv_at hl 2 rfl) ?_
      refine lv_iload hx hb dX2_expandKey_438 (lv_at hl 0 rfl) ?_
      refine lv_iconst (v := (4 : Int32)) hx hb dX2_expandKey_440 (by decide) ?_
      refine lv_iadd hx hb dX2_expandKey_441 ?_
      refine sm_iald hx hb hK hP 2 rfl (j + 4) (nI_add j 4) (by omega) (by decide) dX2_expandKey_442 ?_
      refine lv_aload_n hx hb dX2_expandKey_443 rfl (lv_at hl 1 rfl) ?_
      refine lv_aload_n hx hb dX2_expandKey_444 rfl (lv_at hl 2 rfl) ?_
      refine lv_iload hx hb dX2_expandKey_445 (lv_at hl 0 rfl) ?_
      refine lv_iconst (v := (3 : Int32)) hx hb dX2_expandKey_447 (by decide) ?_
      refine lv_iadd hx hb dX2_expandKey_448 ?_
      refine sm_iald hx hb hK hP 2 rfl (j + 3) (nI_add j 3) (by omega) (by decide) dX2_expandKey_449 ?_
      refine lv_aload_n hx hb dX2_expandKey_450 rfl (lv_at hl 2 rfl) ?_
      refine lv_iload hx hb dX2_expandKey_451 (lv_at hl 0 rfl) ?_
      refine lv_iconst (v := (2 : Int32)) hx hb dX2_expandKey_453 (by decide) ?_
      refine lv_iadd hx hb dX2_expandKey_454 ?_
      refine sm_iald hx hb hK hP 2 rfl (j + 2) (nI_add j 2) (by omega) (by decide) dX2_expandKey_455 ?_
      refine lv_ixor hx hb dX2_expandKey_456 ?_
      refine lv_aload_n hx hb dX2_expandKey_457 rfl (lv_at hl 2 rfl) ?_
      refine lv_iload hx hb dX2_expandKey_458 (lv_at hl 0 rfl) ?_
      refine lv_iconst (v := (1 : Int32)) hx hb dX2_expandKey_460 (by decide) ?_
      refine lv_iadd hx hb dX2_expandKey_461 ?_
      refine sm_iald hx hb hK hP 2 rfl (j + 1) (nI_add j 1) (by omega) (by decide) dX2_expandKey_462 ?_
      refine lv_ixor hx hb dX2_expandKey_463 ?_
      refine va_gets hx hb hZC hS hown (hts _ q197) (fun _ h9 => h9) dX2_expandKey_464 ?_
      refine lv_bipush (v := (31 : Int32)) hx hb dX2_expandKey_467 (by decide) ?_
      refine lv_iload hx hb dX2_expandKey_469 (lv_at hl 0 rfl) ?_
      refine lv_isub hx hb dX2_expandKey_471 ?_
      refine sm_ti (F := sm_ck) hx hb hTC hS (31 - j) (pk_sub (a := 31) (b := j) (by omega)) (by omega) (by decide) dX2_expandKey_472 ?_
      refine lv_ixor hx hb dX2_expandKey_473 ?_
      refine sm_pV (C := RX2) (As := [.int ((((a (j + 3)) ^^^ (a (j + 2))) ^^^ (a (j + 1))) ^^^ (sm_ck (31 - j)))]) (rest := [.int (a (j + 4)), .int (nI j), .ref q3]) hF (met_tap l D dB dN h0 vx vr ((((a (j + 3)) ^^^ (a (j + 2))) ^^^ (a (j + 1))) ^^^ (sm_ck (31 - j)))) (lw_V q199 q201 qs3 q19 q202) hdV_X2_T_ap ⟨rfl, rfl, Nat.le_of_ble_eq_true rfl, Nat.le_of_ble_eq_true rfl⟩ (va_recv hK hP (ci := 2) (q0 := 0) rfl rfl) (sm_mvE _ _ _ _) ⟨hP.sub [0] rfl, hK, sm_sbAt hSb hS⟩ hl.1 rfl (Nat.le_of_ble_eq_true rfl) dX2_expandKey_474 ⟨Nat.le_of_ble_eq_true rfl, Nat.le_of_ble_eq_true rfl⟩ ?_
      refine lv_ixor hx hb dX2_expandKey_477 ?_
      have e4 : a (j + 4) = sm_kq f t := (ha (j + 4) (by omega) (by omega)).trans (by congr 1; omega)
      have e3 : a (j + 3) = sm_kq f (t + 1) := (ha (j + 3) (by omega) (by omega)).trans (by congr 1; omega)
      have e2 : a (j + 2) = sm_kq f (t + 2) := (ha (j + 2) (by omega) (by omega)).trans (by congr 1; omega)
      have e1 : a (j + 1) = sm_kq f (t + 3) := (ha (j + 1) (by omega) (by omega)).trans (by congr 1; omega)
      have ec : sm_ck (31 - j) = sm_ck t := by congr 1; omega
      refine sm_iast hx hb hK hP hD hS 2 rfl j rfl (by omega) (by decide) dX2_expandKey_478 (fun H locs hP hD hS => ?_)
      have hP : va_P D sCl [(h0, .inr (2, [vx, vr])), (k, .inl (dB, 16, .inl f)), (q3, .inl (dN, 32, .inl (upd a j ((a (j + 4)) ^^^ (sm_tap ((((a (j + 3)) ^^^ (a (j + 2))) ^^^ (a (j + 1))) ^^^ (sm_ck (31 - j))))))))] H := hP
      have hD : va_D A [(h0, .inr (2, [vx, vr])), (k, .inl (dB, 16, .inl f)), (q3, .inl (dN, 32, .inl (upd a j ((a (j + 4)) ^^^ (sm_tap ((((a (j + 3)) ^^^ (a (j + 2))) ^^^ (a (j + 1))) ^^^ (sm_ck (31 - j))))))))] := hD
      obtain ⟨a2, h_a2⟩ : ∃ g9 : Nat → Int32, g9 = (upd a j ((a (j + 4)) ^^^ (sm_tap ((((a (j + 3)) ^^^ (a (j + 2))) ^^^ (a (j + 1))) ^^^ (sm_ck (31 - j)))))) := ⟨_, rfl⟩
      rw [← h_a2] at hP hD
      have ha2 : sm_dec f a2 (t + 1) := by rw [h_a2]; exact sm_dec_s ha (by omega) (by rw [e4, e3, e2, e1, ec]; rfl)
      refine lv_iinc (v := ((31 : Int32) - nI (t + 1))) (lv' := [(5, .int ((31 : Int32) - nI (t + 1))), (0, .ref h0), (3, .ref q3)]) hx hb dX2_expandKey_479 hl (k := 0) rfl (by rw [hj, ← ev]; exact sm_dcr t) (by decide) rfl (fun ls hl => ?_)
      refine lv_goto (tgt := 429) hx hb dX2_expandKey_482 (by decide) ?_
      exact ih _ _ _ ⟨a2, ⟨ha2, by omega⟩, hP, hD, hS, lv_sub hl [0, 1, 2] rfl⟩
    · intro H locs ls ⟨a, ⟨ha, _⟩, hP, hD, hS, hl⟩
      refine lv_iload hx hb dX2_expandKey_429 (lv_at hl 0 rfl) ?_
      refine lv_if_lt (tgt := 485) hx hb dX2_expandKey_431 (by decide) (fun _ => ?_) (fun c9 => absurd (show (31 : Int32) - nI 32 < 0 by decide) c9)
      refine lv_aload_n hx hb dX2_expandKey_485 rfl (lv_at hl 2 rfl) ?_
      exact sm_ar (post := (fun u : Nat → Int32 => ∀ j, j < 32 → u j = sm_rk f z j)) (w1 := (fun (u : Nat → Int32) (q : Nat) => [(h0, .inr (2, [vx, vr])), (k, .inl (dB, 16, .inl f)), (q, .inl (dN, 32, .inl u))])) (u := a) (q := q3) hx hb hr (Or.inr ⟨_, rfl⟩) hlk (fun j hj => (ha j (by omega) hj).trans (by unfold sm_rk; rw [if_pos hz])) hP hK hD hS (Nat.le_of_ble_eq_true rfl) (Nat.le_of_ble_eq_true rfl) dX2_expandKey_486
  · have a0 : sm_enc f (fun _ => 0) 0 := fun j h1 => absurd h1 (by omega)
    refine lv_aload_n hx hb dX2_expandKey_113 rfl (lv_at hl 2 rfl) ?_
    refine lv_iconst (v := (0 : Int32)) hx hb dX2_expandKey_114 (by decide) ?_
    refine lv_aload hx hb dX2_expandKey_115 (lv_at hl 0 rfl) ?_
    refine lv_iconst (v := (0 : Int32)) hx hb dX2_expandKey_117 (by decide) ?_
    refine sm_iald hx hb hK hP 4 rfl 0 rfl (by decide) (by decide) dX2_expandKey_118 ?_
    refine lv_aload_n hx hb dX2_expandKey_119 rfl (lv_at hl 3 rfl) ?_
    refine lv_aload hx hb dX2_expandKey_120 (lv_at hl 0 rfl) ?_
    refine lv_iconst (v := (1 : Int32)) hx hb dX2_expandKey_122 (by decide) ?_
    refine sm_iald hx hb hK hP 4 rfl 1 rfl (by decide) (by decide) dX2_expandKey_123 ?_
    refine lv_aload hx hb dX2_expandKey_124 (lv_at hl 0 rfl) ?_
    refine lv_iconst (v := (2 : Int32)) hx hb dX2_expandKey_126 (by decide) ?_
    refine sm_iald hx hb hK hP 4 rfl 2 rfl (by decide) (by decide) dX2_expandKey_127 ?_
    refine lv_ixor hx hb dX2_expandKey_128 ?_
    refine lv_aload hx hb dX2_expandKey_129 (lv_at hl 0 rfl) ?_
    refine lv_iconst (v := (3 : Int32)) hx hb dX2_expandKey_131 (by decide) ?_
    refine sm_iald hx hb hK hP 4 rfl 3 rfl (by decide) (by decide) dX2_expandKey_132 ?_
    refine lv_ixor hx hb dX2_expandKey_133 ?_
    refine va_gets hx hb hZC hS hown (hts _ q197) (fun _ h9 => h9) dX2_expandKey_134 ?_
    refine lv_iconst (v := (0 : Int32)) hx hb dX2_expandKey_137 (by decide) ?_
    refine sm_ti (F := sm_ck) hx hb hTC hS 0 rfl (by decide) (by decide) dX2_expandKey_138 ?_
    refine lv_ixor hx hb dX2_expandKey_139 ?_
    refine sm_pV (C := RX2) (As := [.int ((((kk 1) ^^^ (kk 2)) ^^^ (kk 3)) ^^^ (sm_ck 0))]) (rest := [.int (kk 0), .int (0 : Int32), .ref q3]) hF (met_tap l D dB dN h0 vx vr ((((kk 1) ^^^ (kk 2)) ^^^ (kk 3)) ^^^ (sm_ck 0))) (lw_V q199 q201 qs3 q19 q202) hdV_X2_T_ap ⟨rfl, rfl, Nat.le_of_ble_eq_true rfl, Nat.le_of_ble_eq_true rfl⟩ (va_recv hK hP (ci := 2) (q0 := 0) rfl rfl) (sm_mvE _ _ _ _) ⟨hP.sub [0] rfl, hK, sm_sbAt hSb hS⟩ hl.1 rfl (Nat.le_of_ble_eq_true rfl) dX2_expandKey_140 ⟨Nat.le_of_ble_eq_true rfl, Nat.le_of_ble_eq_true rfl⟩ ?_
    refine lv_ixor hx hb dX2_expandKey_143 ?_
    refine sm_iast hx hb hK hP hD hS 2 rfl 0 rfl (by decide) (by decide) dX2_expandKey_144 (fun H locs hP hD hS => ?_)
    have hP : va_P D sCl [(h0, .inr (2, [vx, vr])), (k, .inl (dB, 16, .inl f)), (q3, .inl (dN, 32, .inl (upd (fun _ => 0) 0 ((kk 0) ^^^ (sm_tap ((((kk 1) ^^^ (kk 2)) ^^^ (kk 3)) ^^^ (sm_ck 0))))))), (q4, .inl (dN, 4, .inl mk)), (q6, .inl (dN, 4, .inl kk))] H := hP
    have hD : va_D A [(h0, .inr (2, [vx, vr])), (k, .inl (dB, 16, .inl f)), (q3, .inl (dN, 32, .inl (upd (fun _ => 0) 0 ((kk 0) ^^^ (sm_tap ((((kk 1) ^^^ (kk 2)) ^^^ (kk 3)) ^^^ (sm_ck 0))))))), (q4, .inl (dN, 4, .inl mk)), (q6, .inl (dN, 4, .inl kk))] := hD
    obtain ⟨r1, h_r1⟩ : ∃ g9 : Nat → Int32, g9 = (upd (fun _ => 0) 0 ((kk 0) ^^^ (sm_tap ((((kk 1) ^^^ (kk 2)) ^^^ (kk 3)) ^^^ (sm_ck 0))))) := ⟨_, rfl⟩
    rw [← h_r1] at hP hD
    have a1 : sm_enc f r1 1 := by rw [h_r1]; exact sm_enc_s a0 (by rw [k0, k1, k2, k3]; rfl)
    have a1_0 : r1 0 = sm_kq f 4 := a1 0 (by decide)
    refine lv_aload_n hx hb dX2_expandKey_145 rfl (lv_at hl 2 rfl) ?_
    refine lv_iconst (v := (1 : Int32)) hx hb dX2_expandKey_146 (by decide) ?_
    refine lv_aload hx hb dX2_expandKey_147 (lv_at hl 0 rfl) ?_
    refine lv_iconst (v := (1 : Int32)) hx hb dX2_expandKey_149 (by decide) ?_
    refine sm_iald hx hb hK hP 4 rfl 1 rfl (by decide) (by decide) dX2_expandKey_150 ?_
    refine lv_aload_n hx hb dX2_expandKey_151 rfl (lv_at hl 3 rfl) ?_
    refine lv_aload hx hb dX2_expandKey_152 (lv_at hl 0 rfl) ?_
    refine lv_iconst (v := (2 : Int32)) hx hb dX2_expandKey_154 (by decide) ?_
    refine sm_iald hx hb hK hP 4 rfl 2 rfl (by decide) (by decide) dX2_expandKey_155 ?_
    refine lv_aload hx hb dX2_expandKey_156 (lv_at hl 0 rfl) ?_
    refine lv_iconst (v := (3 : Int32)) hx hb dX2_expandKey_158 (by decide) ?_
    refine sm_iald hx hb hK hP 4 rfl 3 rfl (by decide) (by decide) dX2_expandKey_159 ?_
    refine lv_ixor hx hb dX2_expandKey_160 ?_
    refine lv_aload_n hx hb dX2_expandKey_161 rfl (lv_at hl 2 rfl) ?_
    refine lv_iconst (v := (0 : Int32)) hx hb dX2_expandKey_162 (by decide) ?_
    refine sm_iald hx hb hK hP 2 rfl 0 rfl (by decide) (by decide) dX2_expandKey_163 ?_
    refine lv_ixor hx hb dX2_expandKey_164 ?_
    refine va_gets hx hb hZC hS hown (hts _ q197) (fun _ h9 => h9) dX2_expandKey_165 ?_
    refine lv_iconst (v := (1 : Int32)) hx hb dX2_expandKey_168 (by decide) ?_
    refine sm_ti (F := sm_ck) hx hb hTC hS 1 rfl (by decide) (by decide) dX2_expandKey_169 ?_
    refine lv_ixor hx hb dX2_expandKey_170 ?_
    refine sm_pV (C := RX2) (As := [.int ((((kk 2) ^^^ (kk 3)) ^^^ (r1 0)) ^^^ (sm_ck 1))]) (rest := [.int (kk 1), .int (1 : Int32), .ref q3]) hF (met_tap l D dB dN h0 vx vr ((((kk 2) ^^^ (kk 3)) ^^^ (r1 0)) ^^^ (sm_ck 1))) (lw_V q199 q201 qs3 q19 q202) hdV_X2_T_ap ⟨rfl, rfl, Nat.le_of_ble_eq_true rfl, Nat.le_of_ble_eq_true rfl⟩ (va_recv hK hP (ci := 2) (q0 := 0) rfl rfl) (sm_mvE _ _ _ _) ⟨hP.sub [0] rfl, hK, sm_sbAt hSb hS⟩ hl.1 rfl (Nat.le_of_ble_eq_true rfl) dX2_expandKey_171 ⟨Nat.le_of_ble_eq_true rfl, Nat.le_of_ble_eq_true rfl⟩ ?_
    refine lv_ixor hx hb dX2_expandKey_174 ?_
    refine sm_iast hx hb hK hP hD hS 2 rfl 1 rfl (by decide) (by decide) dX2_expandKey_175 (fun H locs hP hD hS => ?_)
    have hP : va_P D sCl [(h0, .inr (2, [vx, vr])), (k, .inl (dB, 16, .inl f)), (q3, .inl (dN, 32, .inl (upd r1 1 ((kk 1) ^^^ (sm_tap ((((kk 2) ^^^ (kk 3)) ^^^ (r1 0)) ^^^ (sm_ck 1))))))), (q4, .inl (dN, 4, .inl mk)), (q6, .inl (dN, 4, .inl kk))] H := hP
    have hD : va_D A [(h0, .inr (2, [vx, vr])), (k, .inl (dB, 16, .inl f)), (q3, .inl (dN, 32, .inl (upd r1 1 ((kk 1) ^^^ (sm_tap ((((kk 2) ^^^ (kk 3)) ^^^ (r1 0)) ^^^ (sm_ck 1))))))), (q4, .inl (dN, 4, .inl mk)), (q6, .inl (dN, 4, .inl kk))] := hD
    obtain ⟨r2, h_r2⟩ : ∃ g9 : Nat → Int32, g9 = (upd r1 1 ((kk 1) ^^^ (sm_tap ((((kk 2) ^^^ (kk 3)) ^^^ (r1 0)) ^^^ (sm_ck 1))))) := ⟨_, rfl⟩
    rw [← h_r2] at hP hD
    have a2 : sm_enc f r2 2 := by rw [h_r2]; exact sm_enc_s a1 (by rw [k1, k2, k3, a1_0]; rfl)
    have a2_0 : r2 0 = sm_kq f 4 := a2 0 (by decide)
    have a2_1 : r2 1 = sm_kq f 5 := a2 1 (by decide)
    refine lv_aload_n hx hb dX2_expandKey_176 rfl (lv_at hl 2 rfl) ?_
    refine lv_iconst (v := (2 : Int32)) hx hb dX2_expandKey_177 (by decide) ?_
    refine lv_aload hx hb dX2_expandKey_178 (lv_at hl 0 rfl) ?_
    refine lv_iconst (v := (2 : Int32)) hx hb dX2_expandKey_180 (by decide) ?_
    refine sm_iald hx hb hK hP 4 rfl 2 rfl (by decide) (by decide) dX2_expandKey_181 ?_
    refine lv_aload_n hx hb dX2_expandKey_182 rfl (lv_at hl 3 rfl) ?_
    refine lv_aload hx hb dX2_expandKey_183 (lv_at hl 0 rfl) ?_
    refine lv_iconst (v := (3 : Int32)) hx hb dX2_expandKey_185 (by decide) ?_
    refine sm_iald hx hb hK hP 4 rfl 3 rfl (by decide) (by decide) dX2_expandKey_186 ?_
    refine lv_aload_n hx hb dX2_expandKey_187 rfl (lv_at hl 2 rfl) ?_
    refine lv_iconst (v := (0 : Int32)) hx hb dX2_expandKey_188 (by decide) ?_
    refine sm_iald hx hb hK hP 2 rfl 0 rfl (by decide) (by decide) dX2_expandKey_189 ?_
    refine lv_ixor hx hb dX2_expandKey_190 ?_
    refine lv_aload_n hx hb dX2_expandKey_191 rfl (lv_at hl 2 rfl) ?_
    refine lv_iconst (v := (1 : Int32)) hx hb dX2_expandKey_192 (by decide) ?_
    refine sm_iald hx hb hK hP 2 rfl 1 rfl (by decide) (by decide) dX2_expandKey_193 ?_
    refine lv_ixor hx hb dX2_expandKey_194 ?_
    refine va_gets hx hb hZC hS hown (hts _ q197) (fun _ h9 => h9) dX2_expandKey_195 ?_
    refine lv_iconst (v := (2 : Int32)) hx hb dX2_expandKey_198 (by decide) ?_
    refine sm_ti (F := sm_ck) hx hb hTC hS 2 rfl (by decide) (by decide) dX2_expandKey_199 ?_
    refine lv_ixor hx hb dX2_expandKey_200 ?_
    refine sm_pV (C := RX2) (As := [.int ((((kk 3) ^^^ (r2 0)) ^^^ (r2 1)) ^^^ (sm_ck 2))]) (rest := [.int (kk 2), .int (2 : Int32), .ref q3]) hF (met_tap l D dB dN h0 vx vr ((((kk 3) ^^^ (r2 0)) ^^^ (r2 1)) ^^^ (sm_ck 2))) (lw_V q199 q201 qs3 q19 q202) hdV_X2_T_ap ⟨rfl, rfl, Nat.le_of_ble_eq_true rfl, Nat.le_of_ble_eq_true rfl⟩ (va_recv hK hP (ci := 2) (q0 := 0) rfl rfl) (sm_mvE _ _ _ _) ⟨hP.sub [0] rfl, hK, sm_sbAt hSb hS⟩ hl.1 rfl (Nat.le_of_ble_eq_true rfl) dX2_expandKey_201 ⟨Nat.le_of_ble_eq_true rfl, Nat.le_of_ble_eq_true rfl⟩ ?_
    refine lv_ixor hx hb dX2_expandKey_204 ?_
    refine sm_iast hx hb hK hP hD hS 2 rfl 2 rfl (by decide) (by decide) dX2_expandKey_205 (fun H locs hP hD hS => ?_)
    have hP : va_P D sCl [(h0, .inr (2, [vx, vr])), (k, .inl (dB, 16, .inl f)), (q3, .inl (dN, 32, .inl (upd r2 2 ((kk 2) ^^^ (sm_tap ((((kk 3) ^^^ (r2 0)) ^^^ (r2 1)) ^^^ (sm_ck 2))))))), (q4, .inl (dN, 4, .inl mk)), (q6, .inl (dN, 4, .inl kk))] H := hP
    have hD : va_D A [(h0, .inr (2, [vx, vr])), (k, .inl (dB, 16, .inl f)), (q3, .inl (dN, 32, .inl (upd r2 2 ((kk 2) ^^^ (sm_tap ((((kk 3) ^^^ (r2 0)) ^^^ (r2 1)) ^^^ (sm_ck 2))))))), (q4, .inl (dN, 4, .inl mk)), (q6, .inl (dN, 4, .inl kk))] := hD
    obtain ⟨r3, h_r3⟩ : ∃ g9 : Nat → Int32, g9 = (upd r2 2 ((kk 2) ^^^ (sm_tap ((((kk 3) ^^^ (r2 0)) ^^^ (r2 1)) ^^^ (sm_ck 2))))) := ⟨_, rfl⟩
    rw [← h_r3] at hP hD
    have a3 : sm_enc f r3 3 := by rw [h_r3]; exact sm_enc_s a2 (by rw [k2, k3, a2_0, a2_1]; rfl)
    have a3_0 : r3 0 = sm_kq f 4 := a3 0 (by decide)
    have a3_1 : r3 1 = sm_kq f 5 := a3 1 (by decide)
    have a3_2 : r3 2 = sm_kq f 6 := a3 2 (by decide)
    refine lv_aload_n hx hb dX2_expandKey_206 rfl (lv_at hl 2 rfl) ?_
    refine lv_iconst (v := (3 : Int32)) hx hb dX2_expandKey_207 (by decide) ?_
    refine lv_aload hx hb dX2_expandKey_208 (lv_at hl 0 rfl) ?_
    refine lv_iconst (v := (3 : Int32)) hx hb dX2_expandKey_210 (by decide) ?_
    refine sm_iald hx hb hK hP 4 rfl 3 rfl (by decide) (by decide) dX2_expandKey_211 ?_
    refine lv_aload_n hx hb dX2_expandKey_212 rfl (lv_at hl 3 rfl) ?_
    refine lv_aload_n hx hb dX2_expandKey_213 rfl (lv_at hl 2 rfl) ?_
    refine lv_iconst (v := (0 : Int32)) hx hb dX2_expandKey_214 (by decide) ?_
    refine sm_iald hx hb hK hP 2 rfl 0 rfl (by decide) (by decide) dX2_expandKey_215 ?_
    refine lv_aload_n hx hb dX2_expandKey_216 rfl (lv_at hl 2 rfl) ?_
    refine lv_iconst (v := (1 : Int32)) hx hb dX2_expandKey_217 (by decide) ?_
    refine sm_iald hx hb hK hP 2 rfl 1 rfl (by decide) (by decide) dX2_expandKey_218 ?_
    refine lv_ixor hx hb dX2_expandKey_219 ?_
    refine lv_aload_n hx hb dX2_expandKey_220 rfl (lv_at hl 2 rfl) ?_
    refine lv_iconst (v := (2 : Int32)) hx hb dX2_expandKey_221 (by decide) ?_
    refine sm_iald hx hb hK hP 2 rfl 2 rfl (by decide) (by decide) dX2_expandKey_222 ?_
    refine lv_ixor hx hb dX2_expandKey_223 ?_
    refine va_gets hx hb hZC hS hown (hts _ q197) (fun _ h9 => h9) dX2_expandKey_224 ?_
    refine lv_iconst (v := (3 : Int32)) hx hb dX2_expandKey_227 (by decide) ?_
    refine sm_ti (F := sm_ck) hx hb hTC hS 3 rfl (by decide) (by decide) dX2_expandKey_228 ?_
    refine lv_ixor hx hb dX2_expandKey_229 ?_
    refine sm_pV (C := RX2) (As := [.int ((((r3 0) ^^^ (r3 1)) ^^^ (r3 2)) ^^^ (sm_ck 3))]) (rest := [.int (kk 3), .int (3 : Int32), .ref q3]) hF (met_tap l D dB dN h0 vx vr ((((r3 0) ^^^ (r3 1)) ^^^ (r3 2)) ^^^ (sm_ck 3))) (lw_V q199 q201 qs3 q19 q202) hdV_X2_T_ap ⟨rfl, rfl, Nat.le_of_ble_eq_true rfl, Nat.le_of_ble_eq_true rfl⟩ (va_recv hK hP (ci := 2) (q0 := 0) rfl rfl) (sm_mvE _ _ _ _) ⟨hP.sub [0] rfl, hK, sm_sbAt hSb hS⟩ hl.1 rfl (Nat.le_of_ble_eq_true rfl) dX2_expandKey_230 ⟨Nat.le_of_ble_eq_true rfl, Nat.le_of_ble_eq_true rfl⟩ ?_
    refine lv_ixor hx hb dX2_expandKey_233 ?_
    refine sm_iast hx hb hK hP hD hS 2 rfl 3 rfl (by decide) (by decide) dX2_expandKey_234 (fun H locs hP hD hS => ?_)
    have hP : va_P D sCl [(h0, .inr (2, [vx, vr])), (k, .inl (dB, 16, .inl f)), (q3, .inl (dN, 32, .inl (upd r3 3 ((kk 3) ^^^ (sm_tap ((((r3 0) ^^^ (r3 1)) ^^^ (r3 2)) ^^^ (sm_ck 3))))))), (q4, .inl (dN, 4, .inl mk)), (q6, .inl (dN, 4, .inl kk))] H := hP
    have hD : va_D A [(h0, .inr (2, [vx, vr])), (k, .inl (dB, 16, .inl f)), (q3, .inl (dN, 32, .inl (upd r3 3 ((kk 3) ^^^ (sm_tap ((((r3 0) ^^^ (r3 1)) ^^^ (r3 2)) ^^^ (sm_ck 3))))))), (q4, .inl (dN, 4, .inl mk)), (q6, .inl (dN, 4, .inl kk))] := hD
    obtain ⟨r4, h_r4⟩ : ∃ g9 : Nat → Int32, g9 = (upd r3 3 ((kk 3) ^^^ (sm_tap ((((r3 0) ^^^ (r3 1)) ^^^ (r3 2)) ^^^ (sm_ck 3))))) := ⟨_, rfl⟩
    rw [← h_r4] at hP hD
    have a4 : sm_enc f r4 4 := by rw [h_r4]; exact sm_enc_s a3 (by rw [k3, a3_0, a3_1, a3_2]; rfl)
    have a4_0 : r4 0 = sm_kq f 4 := a4 0 (by decide)
    have a4_1 : r4 1 = sm_kq f 5 := a4 1 (by decide)
    have a4_2 : r4 2 = sm_kq f 6 := a4 2 (by decide)
    have a4_3 : r4 3 = sm_kq f 7 := a4 3 (by decide)
    refine lv_iconst (v := (4 : Int32)) hx hb dX2_expandKey_235 (by decide) ?_
    refine lv_istore (lv' := [(5, .int (4 : Int32)), (6, .ref q6), (4, .ref q4), (3, .ref q3), (0, .ref h0), (1, .int z), (2, .ref k)]) hx hb dX2_expandKey_236 hl (by decide) rfl (fun ls hl => ?_)
    refine sm_loop (fun t H locs ls => ∃ a : Nat → Int32, (sm_enc f a t ∧ 4 ≤ t) ∧ va_P D sCl [(h0, .inr (2, [vx, vr])), (k, .inl (dB, 16, .inl f)), (q3, .inl (dN, 32, .inl a))] H ∧ va_D A [(h0, .inr (2, [vx, vr])), (k, .inl (dB, 16, .inl f)), (q3, .inl (dN, 32, .inl a))] ∧ va_S A s.heap H locs ∧ lv_has ls 7 [(5, .int (nI t)), (0, .ref h0), (3, .ref q3)]) 32 ?_ ?_ 4 (by decide) _ _ _ ⟨r4, ⟨a4, by decide⟩, hP.sub [0, 1, 2] rfl, hD.sub [0, 1, 2] (by decide) rfl, hS, lv_sub hl [0, 4, 3] rfl⟩
    · intro t H locs ls ht ⟨a, ⟨ha, h4t⟩, hP, hD, hS, hl⟩ ih
      refine lv_iload hx hb dX2_expandKey_238 (lv_at hl 0 rfl) ?_
      refine lv_bipush (v := (32 : Int32)) hx hb dX2_expandKey_240 (by decide) ?_
      refine lv_icmp_ge (tgt := 485) hx hb dX2_expandKey_242 (by decide) (fun c9 => absurd c9 (nI_ge (b := 32) ht (by decide))) (fun _ => ?_)
      refine lv_aload_n hx hb dX2_expandKey_245 rfl (lv_at hl 2 rfl) ?_
      refine lv_iload hx hb dX2_expandKey_246 (lv_at hl 0 rfl) ?_
      refine lv_aload_n hx hb dX2_expandKey_248 rfl (lv_at hl 2 rfl) ?_
      refine lv_iload hx hb dX2_expandKey_249 (lv_at hl 0 rfl) ?_
      refine lv_iconst (v := (4 : Int32)) hx hb dX2_expandKey_251 (by decide) ?_
      refine lv_isub hx hb dX2_expandKey_252 ?_
      refine sm_iald hx hb hK hP 2 rfl (t - 4) (pk_sub (a := t) (b := 4) (by omega)) (by omega) (by decide) dX2_expandKey_253 ?_
      refine lv_aload_n hx hb dX2_expandKey_254 rfl (lv_at hl 1 rfl) ?_
      refine lv_aload_n hx hb dX2_expandKey_255 rfl (lv_at hl 2 rfl) ?_
      refine lv_iload hx hb dX2_expandKey_256 (lv_at hl 0 rfl) ?_
      refine lv_iconst (v := (3 : Int32)) hx hb dX2_expandKey_258 (by decide) ?_
      refine lv_isub hx hb dX2_expandKey_259 ?_
      refine sm_iald hx hb hK hP 2 rfl (t - 3) (pk_sub (a := t) (b := 3) (by omega)) (by omega) (by decide) dX2_expandKey_260 ?_
      refine lv_aload_n hx hb dX2_expandKey_261 rfl (lv_at hl 2 rfl) ?_
      refine lv_iload hx hb dX2_expandKey_262 (lv_at hl 0 rfl) ?_
      refine lv_iconst (v := (2 : Int32)) hx hb dX2_expandKey_264 (by decide) ?_
      refine lv_isub hx hb dX2_expandKey_265 ?_
      refine sm_iald hx hb hK hP 2 rfl (t - 2) (pk_sub (a := t) (b := 2) (by omega)) (by omega) (by decide) dX2_expandKey_266 ?_
      refine lv_ixor hx hb dX2_expandKey_267 ?_
      refine lv_aload_n hx hb dX2_expandKey_268 rfl (lv_at hl 2 rfl) ?_
      refine lv_iload hx hb dX2_expandKey_269 (lv_at hl 0 rfl) ?_
      refine lv_iconst (v := (1 : Int32)) hx hb dX2_expandKey_271 (by decide) ?_
      refine lv_isub hx hb dX2_expandKey_272 ?_
      refine sm_iald hx hb hK hP 2 rfl (t - 1) (pk_sub (a := t) (b := 1) (by omega)) (by omega) (by decide) dX2_expandKey_273 ?_
      refine lv_ixor hx hb dX2_expandKey_274 ?_
      refine va_gets hx hb hZC hS hown (hts _ q197) (fun _ h9 => h9) dX2_expandKey_275 ?_
      refine lv_iload hx hb dX2_expandKey_278 (lv_at hl 0 rfl) ?_
      refine sm_ti (F := sm_ck) hx hb hTC hS t rfl (by omega) (by decide) dX2_expandKey_280 ?_
      refine lv_ixor hx hb dX2_expandKey_281 ?_
      refine sm_pV (C := RX2) (As := [.int ((((a (t - 3)) ^^^ (a (t - 2))) ^^^ (a (t - 1))) ^^^ (sm_ck t))]) (rest := [.int (a (t - 4)), .int (nI t), .ref q3]) hF (met_tap l D dB dN h0 vx vr ((((a (t - 3)) ^^^ (a (t - 2))) ^^^ (a (t - 1))) ^^^ (sm_ck t))) (lw_V q199 q201 qs3 q19 q202) hdV_X2_T_ap ⟨rfl, rfl, Nat.le_of_ble_eq_true rfl, Nat.le_of_ble_eq_true rfl⟩ (va_recv hK hP (ci := 2) (q0 := 0) rfl rfl) (sm_mvE _ _ _ _) ⟨hP.sub [0] rfl, hK, sm_sbAt hSb hS⟩ hl.1 rfl (Nat.le_of_ble_eq_true rfl) dX2_expandKey_282 ⟨Nat.le_of_ble_eq_true rfl, Nat.le_of_ble_eq_true rfl⟩ ?_
      refine lv_ixor hx hb dX2_expandKey_285 ?_
      have e4 : a (t - 4) = sm_kq f (t + 0) := (ha (t - 4) (by omega)).trans (by congr 1; omega)
      have e3 : a (t - 3) = sm_kq f (t + 1) := (ha (t - 3) (by omega)).trans (by congr 1; omega)
      have e2 : a (t - 2) = sm_kq f (t + 2) := (ha (t - 2) (by omega)).trans (by congr 1; omega)
      have e1 : a (t - 1) = sm_kq f (t + 3) := (ha (t - 1) (by omega)).trans (by congr 1; omega)
      refine sm_iast hx hb hK hP hD hS 2 rfl t rfl (by omega) (by decide) dX2_expandKey_286 (fun H locs hP hD hS => ?_)
      have hP : va_P D sCl [(h0, .inr (2, [vx, vr])), (k, .inl (dB, 16, .inl f)), (q3, .inl (dN, 32, .inl (upd a t ((a (t - 4)) ^^^ (sm_tap ((((a (t - 3)) ^^^ (a (t - 2))) ^^^ (a (t - 1))) ^^^ (sm_ck t)))))))] H := hP
      have hD : va_D A [(h0, .inr (2, [vx, vr])), (k, .inl (dB, 16, .inl f)), (q3, .inl (dN, 32, .inl (upd a t ((a (t - 4)) ^^^ (sm_tap ((((a (t - 3)) ^^^ (a (t - 2))) ^^^ (a (t - 1))) ^^^ (sm_ck t)))))))] := hD
      obtain ⟨a2, h_a2⟩ : ∃ g9 : Nat → Int32, g9 = (upd a t ((a (t - 4)) ^^^ (sm_tap ((((a (t - 3)) ^^^ (a (t - 2))) ^^^ (a (t - 1))) ^^^ (sm_ck t))))) := ⟨_, rfl⟩
      rw [← h_a2] at hP hD
      have ha2 : sm_enc f a2 (t + 1) := by rw [h_a2]; exact sm_enc_s ha (by rw [e4, e3, e2, e1]; rfl)
      refine lv_iinc (v := (nI (t + 1))) (lv' := [(5, .int (nI (t + 1))), (0, .ref h0), (3, .ref q3)]) hx hb dX2_expandKey_287 hl (k := 0) rfl (sm_inc t) (by decide) rfl (fun ls hl => ?_)
      refine lv_goto (tgt := 238) hx hb dX2_expandKey_290 (by decide) ?_
      exact ih _ _ _ ⟨a2, ⟨ha2, by omega⟩, hP, hD, hS, lv_sub hl [0, 1, 2] rfl⟩
    · intro H locs ls ⟨a, ⟨ha, _⟩, hP, hD, hS, hl⟩
      refine lv_iload hx hb dX2_expandKey_238 (lv_at hl 0 rfl) ?_
      refine lv_bipush (v := (32 : Int32)) hx hb dX2_expandKey_240 (by decide) ?_
      refine lv_icmp_ge (tgt := 485) hx hb dX2_expandKey_242 (by decide) (fun _ => ?_) (fun c9 => absurd (nI_le (Nat.le_refl 32) (by decide)) c9)
      refine lv_aload_n hx hb dX2_expandKey_485 rfl (lv_at hl 2 rfl) ?_
      exact sm_ar (post := (fun u : Nat → Int32 => ∀ j, j < 32 → u j = sm_rk f z j)) (w1 := (fun (u : Nat → Int32) (q : Nat) => [(h0, .inr (2, [vx, vr])), (k, .inl (dB, 16, .inl f)), (q, .inl (dN, 32, .inl u))])) (u := a) (q := q3) hx hb hr (Or.inr ⟨_, rfl⟩) hlk (fun j hj => (ha j hj).trans (by unfold sm_rk; rw [if_neg hz])) hP hK hD hS (Nat.le_of_ble_eq_true rfl) (Nat.le_of_ble_eq_true rfl) dX2_expandKey_486
end
section
/-! SM4Engine(), KeyParameter -/
section SMT
variable {p : Program} {l : Launch} {e : Env} {R : Room} {s : State} {m : MethodId} {args : Array Value} {below : List Frame} {meth : Method} {c : Code} {H : Heap} {locs : List Loc} {cells slots : Nat} {Q : State → Prop} {pc : Nat} {ls : Array Slot} {rest : List Value}
/-- the int on top under another name -/
theorem sm_top {x y : Int32} (h : x = y) (k : W p l e R s m args below meth c H locs cells slots Q (F0 m pc ls (.int y :: rest))) : W p l e R s m args below meth c H locs cells slots Q (F0 m pc ls (.int x :: rest)) := by
  subst h
  exact k
end SMT
theorem sm_cpf {P : Nat → Prop} (h : ∀ j, j < 16 → P j) : ∀ i, i < (nI 16).toNatClampNeg → P ((nI 0).toNatClampNeg + i) := by
  intro i hi
  rw [nI_clamp (by decide)] at hi
  rw [nI_clamp (by decide), Nat.zero_add]
  exact h i hi
theorem hdI_X2_init : yX2_init.cls ≠ "java/lang/invoke/MethodHandle" ∧ yX2_init.cls ≠ "java/lang/invoke/VarHandle" ∧ (parseMethodDescriptor yX2_init.desc).map (fun d => d.parameters.length) = some 0 := by decide +kernel
theorem hdI_X3_init : yX3_init.cls ≠ "java/lang/invoke/MethodHandle" ∧ yX3_init.cls ≠ "java/lang/invoke/VarHandle" ∧ (parseMethodDescriptor yX3_init.desc).map (fun d => d.parameters.length) = some 1 := by decide +kernel
theorem hdI_X3_init_2 : yX3_init_2.cls ≠ "java/lang/invoke/MethodHandle" ∧ yX3_init_2.cls ≠ "java/lang/invoke/VarHandle" ∧ (parseMethodDescriptor yX3_init_2.desc).map (fun d => d.parameters.length) = some 3 := by decide +kernel
theorem hdI_X3_init_3 : yX3_init_3.cls ≠ "java/lang/invoke/MethodHandle" ∧ yX3_init_3.cls ≠ "java/lang/invoke/VarHandle" ∧ (parseMethodDescriptor yX3_init_3.desc).map (fun d => d.parameters.length) = some 1 := by decide +kernel
theorem hdV_X3_getKey : yX3_getKey.cls = RX3 ∧ yX3_getKey.cls ≠ "java/lang/invoke/MethodHandle" ∧ yX3_getKey.cls ≠ "java/lang/invoke/VarHandle" ∧ (parseMethodDescriptor yX3_getKey.desc).map (fun d => d.parameters.length) = some 0 := by decide +kernel
set_option maxHeartbeats 4000000 in
set_option maxRecDepth 100000 in
/-- SM4Engine() -/
theorem met_e0 (l : Launch) (D : va_G) (dB dN : ClassId) (h0 : Nat) : sm_Eff l D dB dN yX2_init cX2_init 1 ({ frames := 1, cells := 1, slots := 4, locals := 20 } : Room) [.ref h0] [(h0, .inr (2, [.null, .null]))] sm_no (fun _ : Nat => True) (fun q : Nat => [(h0, .inr (2, [.ref q, .null])), (q, .inl (dN, 4, .inl (fun _ => 0)))]) := by
  intro sz
  refine sm_met (by decide) (Nat.le_of_ble_eq_true rfl) (fun p e s m below meth c ls hx hb hr hlk hml hown hin hts hB hl => ?_)
  have hl : lv_has ls 1 [(0, .ref h0)] := hl
  have hF : CallFix p m c cX2_init 1 s _ lw_all RX2 := ⟨hx, hb, hml, hown, hts⟩
  obtain ⟨hsz, hP, hK, hD0, hEx⟩ := hB
  subst hsz
  have hD := hD0.self (sz := s.heap.size)
  generalize hAe : va_A [(h0, .inr (2, [.null, .null]))] s.heap.size = A at hD hEx ⊢
  have hA : ∀ q : Nat, s.heap.size ≤ q → A q := fun q h => by rw [← hAe]; exact Or.inr h
  have hS : va_S A s.heap s.heap [] := va_S.rf
  refine lv_aload_n hx hb dX2_init_0 rfl (lv_at hl 0 rfl) ?_
  refine W.objInit hx hb hown (hts _ q77) (hts _ q37) (hts _ q38) rfl (by rw [hml]; exact hl.1) rfl dX2_init_1 (Nat.le_of_ble_eq_true rfl) (Nat.le_of_ble_eq_true rfl) ?_
  refine W.eq (g2 := F0 m 4 ls []) rfl ?_
  refine lv_aload_n hx hb dX2_init_4 rfl (lv_at hl 0 rfl) ?_
  refine lv_iconst (v := (4 : Int32)) hx hb dX2_init_5 (by decide) ?_
  refine sm_newI (N := 4) hx hb hts hK hP hD hS hA rfl (by decide) (Nat.le_of_ble_eq_true rfl) (Nat.le_of_ble_eq_true rfl) dX2_init_6 (fun q H hP hD hS => ?_)
  have hP : va_P D sCl [(h0, .inr (2, [.null, .null])), (q, .inl (dN, 4, .inl (fun _ => 0)))] H := hP
  have hD : va_D A [(h0, .inr (2, [.null, .null])), (q, .inl (dN, 4, .inl (fun _ => 0)))] := hD
  refine va_putF (D := D) (ci := 2) (v := .ref q) (ty := .array .int) (C := RX2) (T := TX2) (N := 2) hx hb hts in_X2 tyX2 tyX2_ok nmX2 hown hK hP hD hS 0 rfl rfl 0 (by decide) (hts _ q78) (fun _ h9 => h9) rfl hin rfl (by decide +kernel) rfl rfl (Nat.le_of_ble_eq_true rfl) dX2_init_8 (fun H locs hP hD hS => ?_)
  have hP : va_P D sCl [(h0, .inr (2, [.ref q, .null])), (q, .inl (dN, 4, .inl (fun _ => 0)))] H := hP
  have hD : va_D A [(h0, .inr (2, [.ref q, .null])), (q, .inl (dN, 4, .inl (fun _ => 0)))] := hD
  exact sm_vr (post := (fun _ : Nat => True)) (w1 := (fun q : Nat => [(h0, .inr (2, [.ref q, .null])), (q, .inl (dN, 4, .inl (fun _ => 0)))])) (u := q) hx hb hr hlk trivial hP hK hD hS (Nat.le_refl _) (Nat.le_refl _) dX2_init_11
set_option maxHeartbeats 4000000 in
set_option maxRecDepth 100000 in
/-- KeyParameter(16) -/
theorem met_k3 (l : Launch) (D : va_G) (dB dN : ClassId) (h0 : Nat) : sm_Eff l D dB dN yX3_init_3 cX3_init_3 2 ({ frames := 1, cells := 1, slots := 16, locals := 20 } : Room) [.ref h0, .int (nI 16)] [(h0, .inr (3, [.null]))] sm_no (fun _ : Nat => True) (fun q : Nat => [(h0, .inr (3, [.ref q])), (q, .inl (dB, 16, .inl (fun _ => 0)))]) := by
  intro sz
  refine sm_met (by decide) (Nat.le_of_ble_eq_true rfl) (fun p e s m below meth c ls hx hb hr hlk hml hown hin hts hB hl => ?_)
  have hl : lv_has ls 2 [(0, .ref h0), (1, .int (nI 16))] := hl
  have hF : CallFix p m c cX3_init_3 2 s _ lw_all RX3 := ⟨hx, hb, hml, hown, hts⟩
  obtain ⟨hsz, hP, hK, hD0, hEx⟩ := hB
  subst hsz
  have hD := hD0.self (sz := s.heap.size)
  generalize hAe : va_A [(h0, .inr (3, [.null]))] s.heap.size = A at hD hEx ⊢
  have hA : ∀ q : Nat, s.heap.size ≤ q → A q := fun q h => by rw [← hAe]; exact Or.inr h
  have hS : va_S A s.heap s.heap [] := va_S.rf
  refine lv_aload_n hx hb dX3_init_3_0 rfl (lv_at hl 0 rfl) ?_
  refine W.objInit hx hb hown (hts _ q97) (hts _ q37) (hts _ q38) rfl (by rw [hml]; exact hl.1) rfl dX3_init_3_1 (Nat.le_of_ble_eq_true rfl) (Nat.le_of_ble_eq_true rfl) ?_
  refine W.eq (g2 := F0 m 4 ls []) rfl ?_
  refine lv_aload_n hx hb dX3_init_3_4 rfl (lv_at hl 0 rfl) ?_
  refine lv_iload_n hx hb dX3_init_3_5 rfl (lv_at hl 1 rfl) ?_
  refine sm_newB (N := 16) hx hb hts hK hP hD hS hA rfl (by decide) (Nat.le_of_ble_eq_true rfl) (Nat.le_of_ble_eq_true rfl) dX3_init_3_6 (fun q H hP hD hS => ?_)
  have hP : va_P D sCl [(h0, .inr (3, [.null])), (q, .inl (dB, 16, .inl (fun _ => 0)))] H := hP
  have hD : va_D A [(h0, .inr (3, [.null])), (q, .inl (dB, 16, .inl (fun _ => 0)))] := hD
  refine va_put (D := D) (ci := 3) (v := .ref q) (ty := .array .byte) (C := RX3) (T := TX3) (N := 1) hx hb hts in_X3 tyX3 tyX3_ok nmX3 hown hK hP hD hS 0 rfl rfl 0 (by decide) (hts _ q98) (fun _ h9 => h9) rfl (by decide +kernel) rfl rfl (Nat.le_of_ble_eq_true rfl) dX3_init_3_8 (fun H locs hP hD hS => ?_)
  have hP : va_P D sCl [(h0, .inr (3, [.ref q])), (q, .inl (dB, 16, .inl (fun _ => 0)))] H := hP
  have hD : va_D A [(h0, .inr (3, [.ref q])), (q, .inl (dB, 16, .inl (fun _ => 0)))] := hD
  exact sm_vr (post := (fun _ : Nat => True)) (w1 := (fun q : Nat => [(h0, .inr (3, [.ref q])), (q, .inl (dB, 16, .inl (fun _ => 0)))])) (u := q) hx hb hr hlk trivial hP hK hD hS (Nat.le_refl _) (Nat.le_refl _) dX3_init_3_11
set_option maxHeartbeats 4000000 in
set_option maxRecDepth 100000 in
/-- KeyParameter(key, 0, 16) -/
theorem met_k2 (l : Launch) (D : va_G) (dB dN : ClassId) (h0 k : Nat) (f : Nat → Int32) (hf : ∀ j, j < 16 → fits .byte (.int (f j)) = true) : sm_Eff l D dB dN yX3_init_2 cX3_init_2 4 ({ frames := 2, cells := 1, slots := 16, locals := 41 } : Room) [.ref h0, .ref k, .int (nI 0), .int (nI 16)] [(h0, .inr (3, [.null])), (k, .inl (dB, 16, .inl f))] sm_no (fun _ : Nat => True) (fun q : Nat => [(h0, .inr (3, [.ref q])), (k, .inl (dB, 16, .inl f)), (q, .inl (dB, 16, .inl (va_cpy f (fun _ => 0) 0 0 16)))]) := by
  intro sz
  refine sm_met (by decide) (Nat.le_of_ble_eq_true rfl) (fun p e s m below meth c ls hx hb hr hlk hml hown hin hts hB hl => ?_)
  have hl : lv_has ls 4 [(0, .ref h0), (1, .ref k), (2, .int (nI 0)), (3, .int (nI 16))] := hl
  have hF : CallFix p m c cX3_init_2 4 s _ lw_all RX3 := ⟨hx, hb, hml, hown, hts⟩
  obtain ⟨hsz, hP, hK, hD0, hEx⟩ := hB
  subst hsz
  have hD := hD0.self (sz := s.heap.size)
  generalize hAe : va_A [(h0, .inr (3, [.null])), (k, .inl (dB, 16, .inl f))] s.heap.size = A at hD hEx ⊢
  have hA : ∀ q : Nat, s.heap.size ≤ q → A q := fun q h => by rw [← hAe]; exact Or.inr h
  have hS : va_S A s.heap s.heap [] := va_S.rf
  refine lv_aload_n hx hb dX3_init_2_0 rfl (lv_at hl 0 rfl) ?_
  refine lv_iload_n hx hb dX3_init_2_1 rfl (lv_at hl 3 rfl) ?_
  refine sm_cI (wr := [(k, .inl (dB, 16, .inl f))]) (As := [.int (nI 16)]) (rest := []) hF (met_k3 l D dB dN h0) (lw_meth q96) (hts _ q20) (hts _ q94) (hts _ q95) rfl hdI_X3_init_3 ⟨Nat.le_of_ble_eq_true rfl, Nat.le_of_ble_eq_true rfl⟩ sm_no_ok trivial hK hP hD hS hA [0] [1] rfl rfl rfl (by decide) (by decide) (by decide) hl.1 rfl (Nat.le_of_ble_eq_true rfl) dX3_init_2_2 ⟨Nat.le_of_ble_eq_true rfl, Nat.le_of_ble_eq_true rfl⟩ (fun q H locs _ hP hD hS => ?_)
  have hP : va_P D sCl [(k, .inl (dB, 16, .inl f)), (h0, .inr (3, [.ref q])), (q, .inl (dB, 16, .inl (fun _ => 0)))] H := hP
  have hD : va_D A [(k, .inl (dB, 16, .inl f)), (h0, .inr (3, [.ref q])), (q, .inl (dB, 16, .inl (fun _ => 0)))] := hD
  have hP : va_P D sCl [(h0, .inr (3, [.ref q])), (k, .inl (dB, 16, .inl f)), (q, .inl (dB, 16, .inl (fun _ => 0)))] H := hP.sub [1, 0, 2] rfl
  have hD : va_D A [(h0, .inr (3, [.ref q])), (k, .inl (dB, 16, .inl f)), (q, .inl (dB, 16, .inl (fun _ => 0)))] := hD.sub [1, 0, 2] (by decide) rfl
  refine lv_aload_n hx hb dX3_init_2_5 rfl (lv_at hl 1 rfl) ?_
  refine lv_iload_n hx hb dX3_init_2_6 rfl (lv_at hl 2 rfl) ?_
  refine lv_aload_n hx hb dX3_init_2_7 rfl (lv_at hl 0 rfl) ?_
  refine va_get (D := D) (ci := 3) (C := RX3) (T := TX3) (N := 1) hx hb hts in_X3 hown hK hP 0 rfl rfl 0 (by decide) (hts _ q98) (fun _ h9 => h9) rfl dX3_init_2_8 ?_
  refine lv_iconst (v := (0 : Int32)) hx hb dX3_init_2_11 (by decide) ?_
  refine lv_iload_n hx hb dX3_init_2_12 rfl (lv_at hl 3 rfl) ?_
  refine va_copyi (n0 := 16) (n1 := 16) hx hb (by rw [hml]; exact hl.1.symm) hown (hts _ q102) (hts _ q104) (hts _ q103) (hts _ q21) hK hP hD hS 1 2 0 0 rfl rfl rfl rfl rfl (by decide) (by decide) (by decide) (by decide) (by decide) (sm_cpf hf) (Nat.le_of_ble_eq_true rfl) (Nat.le_of_ble_eq_true rfl) dX3_init_2_13 (fun H locs hP hD hS => ?_)
  have hP : va_P D sCl [(h0, .inr (3, [.ref q])), (k, .inl (dB, 16, .inl f)), (q, .inl (dB, 16, .inl (va_cpy f (fun _ => 0) 0 0 16)))] H := hP
  have hD : va_D A [(h0, .inr (3, [.ref q])), (k, .inl (dB, 16, .inl f)), (q, .inl (dB, 16, .inl (va_cpy f (fun _ => 0) 0 0 16)))] := hD
  exact sm_vr (post := (fun _ : Nat => True)) (w1 := (fun q : Nat => [(h0, .inr (3, [.ref q])), (k, .inl (dB, 16, .inl f)), (q, .inl (dB, 16, .inl (va_cpy f (fun _ => 0) 0 0 16)))])) (u := q) hx hb hr hlk trivial hP hK hD hS (Nat.le_refl _) (Nat.le_refl _) dX3_init_2_16
set_option maxHeartbeats 4000000 in
set_option maxRecDepth 100000 in
/-- KeyParameter(key) -/
theorem met_k1 (l : Launch) (D : va_G) (dB dN : ClassId) (h0 k : Nat) (f : Nat → Int32) (hf : ∀ j, j < 16 → fits .byte (.int (f j)) = true) : sm_Eff l D dB dN yX3_init cX3_init 2 ({ frames := 3, cells := 1, slots := 16, locals := 64 } : Room) [.ref h0, .ref k] [(h0, .inr (3, [.null])), (k, .inl (dB, 16, .inl f))] sm_no (fun _ : Nat => True) (fun q : Nat => [(h0, .inr (3, [.ref q])), (k, .inl (dB, 16, .inl f)), (q, .inl (dB, 16, .inl (va_cpy f (fun _ => 0) 0 0 16)))]) := by
  intro sz
  refine sm_met (by decide) (Nat.le_of_ble_eq_true rfl) (fun p e s m below meth c ls hx hb hr hlk hml hown hin hts hB hl => ?_)
  have hl : lv_has ls 2 [(0, .ref h0), (1, .ref k)] := hl
  have hF : CallFix p m c cX3_init 2 s _ lw_all RX3 := ⟨hx, hb, hml, hown, hts⟩
  obtain ⟨hsz, hP, hK, hD0, hEx⟩ := hB
  subst hsz
  have hD := hD0.self (sz := s.heap.size)
  generalize hAe : va_A [(h0, .inr (3, [.null])), (k, .inl (dB, 16, .inl f))] s.heap.size = A at hD hEx ⊢
  have hA : ∀ q : Nat, s.heap.size ≤ q → A q := fun q h => by rw [← hAe]; exact Or.inr h
  have hS : va_S A s.heap s.heap [] := va_S.rf
  refine lv_aload_n hx hb dX3_init_0 rfl (lv_at hl 0 rfl) ?_
  refine lv_aload_n hx hb dX3_init_1 rfl (lv_at hl 1 rfl) ?_
  refine lv_iconst (v := (0 : Int32)) hx hb dX3_init_2 (by decide) ?_
  refine lv_aload_n hx hb dX3_init_3 rfl (lv_at hl 1 rfl) ?_
  refine va_alen (v := nI 16) hx hb hK hP 1 0 rfl rfl rfl dX3_init_4 ?_
  refine sm_cI (wr := []) (As := [.ref k, .int (0 : Int32), .int (nI 16)]) (rest := []) hF (met_k2 l D dB dN h0 k f hf) (lw_meth q93) (hts _ q20) (hts _ q91) (hts _ q92) rfl hdI_X3_init_2 ⟨Nat.le_of_ble_eq_true rfl, Nat.le_of_ble_eq_true rfl⟩ sm_no_ok trivial hK hP hD hS hA [0, 1] [] rfl rfl rfl (by decide) (by decide) (by decide) hl.1 rfl (Nat.le_of_ble_eq_true rfl) dX3_init_5 ⟨Nat.le_of_ble_eq_true rfl, Nat.le_of_ble_eq_true rfl⟩ (fun q H locs _ hP hD hS => ?_)
  have hP : va_P D sCl [(h0, .inr (3, [.ref q])), (k, .inl (dB, 16, .inl f)), (q, .inl (dB, 16, .inl (va_cpy f (fun _ => 0) 0 0 16)))] H := hP
  have hD : va_D A [(h0, .inr (3, [.ref q])), (k, .inl (dB, 16, .inl f)), (q, .inl (dB, 16, .inl (va_cpy f (fun _ => 0) 0 0 16)))] := hD
  exact sm_vr (post := (fun _ : Nat => True)) (w1 := (fun q : Nat => [(h0, .inr (3, [.ref q])), (k, .inl (dB, 16, .inl f)), (q, .inl (dB, 16, .inl (va_cpy f (fun _ => 0) 0 0 16)))])) (u := q) hx hb hr hlk trivial hP hK hD hS (Nat.le_refl _) (Nat.le_refl _) dX3_init_8
set_option maxHeartbeats 4000000 in
set_option maxRecDepth 100000 in
/-- getKey() -/
theorem met_gk (l : Launch) (D : va_G) (dB dN : ClassId) (h0 k : Nat) : Met l yX3_getKey (ws_ yX3_getKey cX3_getKey 1 (some (.array .byte))) ({ frames := 0, cells := 0, slots := 0, locals := 0 } : Room) (va_Pc [.ref h0] (fun U => va_P D sCl [(h0, .inr (3, [.ref k]))] U.heap ∧ va_K D sCl (sTy dB dN) U)) (va_Sr (fun q => q = k) (fun q => .ref q)) 0 0 (fun _ => False) := by
  refine sm_met (by decide) (Nat.le_of_ble_eq_true rfl) (fun p e s m below meth c ls hx hb hr hlk hml hown hin hts hB hl => ?_)
  have hl : lv_has ls 1 [(0, .ref h0)] := hl
  have hF : CallFix p m c cX3_getKey 1 s _ lw_all RX3 := ⟨hx, hb, hml, hown, hts⟩
  obtain ⟨hP, hK⟩ := hB
  refine lv_aload_n hx hb dX3_getKey_0 rfl (lv_at hl 0 rfl) ?_
  refine va_get (D := D) (ci := 3) (C := RX3) (T := TX3) (N := 1) hx hb hts in_X3 hown hK hP 0 rfl rfl 0 (by decide) (hts _ q98) (fun _ h9 => h9) rfl dX3_getKey_1 ?_
  exact W.aret hx hb hr (Or.inr ⟨_, rfl⟩) (Or.inr ⟨_, rfl⟩) (fun t ht _ => ⟨k, rfl, rfl, ht⟩) (fun _ h => by cases h) dX3_getKey_4
end
section
/-! SM4Engine.init, processBlock -/
section SMR
variable {p : Program} {l : Launch} {e : Env} {R : Room} {s : State} {m : MethodId} {args : Array Value} {below : List Frame} {meth : Method} {c : Code} {H : Heap} {locs : List Loc} {cells slots : Nat} {Q : State → Prop}
variable {cc bytes : ByteArray} {pc nL maxL index : Nat} {ls : Array Slot} {rest st As : List Value} {y : MethodName} {rm : Room} {own C : String} {D : va_G} {dB dN : ClassId} {A : Nat → Prop} {ws wc wr : va_W} {Ex : (Nat → Prop) → State → Heap → Prop} {S : Type} {post : S → Prop}
/-- a call that answers a cell, with a world -/
theorem sm_cVr {b : Nat} {w1 : S → Nat → va_W} {ret : Option FieldType} (hF : CallFix p m c cc nL s args lw_all own)
    (hM : ∀ sz : Nat, Met l y (ws_ y bytes maxL ret) rm (va_Pc (.ref b :: As) (sm_Pre D dB dN wc sz Ex)) (va_Qr post (fun u a t => va_P D sCl (w1 u a) t.heap ∧ va_K D sCl (sTy dB dN) t ∧ va_D (va_A wc sz) (w1 u a)) (va_A wc sz)) rm.cells rm.slots (va_A wc sz)) (hG : GoodIn lw_all (wsV own index C y (ws_ y bytes maxL ret)))
    (hd : y.cls = C ∧ y.cls ≠ "java/lang/invoke/MethodHandle" ∧ y.cls ≠ "java/lang/invoke/VarHandle" ∧ (parseMethodDescriptor y.desc).map (fun d => d.parameters.length) = some As.length)
    (hR : rm.frames + 1 ≤ R.frames ∧ 8 + (maxL + 11) + rm.locals ≤ R.locals)
    (hrec : ∃ cell : Cell, H[b]? = some cell ∧ cell.vm.isStatics = false ∧ s.vm.findClass C = some cell.cls)
    (hOk : sm_Ok Ex) (hEx : Ex A s s.heap) (hK : va_K D sCl (sTy dB dN) s) (hP : va_P D sCl ws H) (hD : va_D A ws) (hS : va_S A s.heap H locs) (hA : ∀ q, s.heap.size ≤ q → A q)
    (isC isR : List Nat) (hC : isC.filterMap (fun i => ws[i]?) = wc) (hC2 : isC.map (fun i => ws[i]?) = wc.map some) (hRr : isR.map (fun i => ws[i]?) = wr.map some) (hnC : va_nd isC = true) (hn : va_nd isR = true) (hdis : ∀ i ∈ isR, i ∉ isC)
    (hls : ls.size = nL) (hst : st = As.reverse ++ .ref b :: rest) (hw : (rest.map fun v => v.category).sum ≤ 8) (hdg : decode cc pc = .ok (.invokevirtual index, 3)) (hc : cells + rm.cells ≤ R.cells ∧ slots + rm.slots ≤ R.slots)
    (kk : ∀ (u : S) (q : Nat) (H1 : Heap) (locs1 : List Loc), post u → va_P D sCl (wr ++ w1 u q) H1 → va_D A (wr ++ w1 u q) → va_S A s.heap H1 locs1 → W p l e R s m args below meth c H1 locs1 (cells + rm.cells) (slots + rm.slots) Q (F0 m (pc + 3) ls (.ref q :: rest))) : W p l e R s m args below meth c H locs cells slots Q (F0 m pc ls st) := by
  have hFc := va_free hD hS hA isC hC2
  refine va_callr (va_runV (As := As) (rest := rest) (n := As.length) hF (hM H.size) (cwV As.length hF.2.2.2.2 hG rfl rfl rfl hd hR) ⟨sm_blind hOk, hrec, sm_pre hOk hEx hK hP hD hS hA isC hC hC2 hnC⟩ rfl rfl hls hst (lv_room hw) hdg hc) hS (fun q _ h => hFc q h) hFc (fun u q t H1 locs1 ht hvm hp hB hz1 hk1 hS1 => ?_)
  obtain ⟨hP1, hK1, hD1⟩ := hB
  rw [ht] at hP1
  obtain ⟨hP2, hD2⟩ := va_join hP hD isC isR hC2 hRr hn hdis hk1 hFc hP1 hD1
  exact kk u q H1 locs1 hp hP2 hD2 hS1
/-- a method's end that answers an int, with its world -/
theorem sm_ir {w1 : S → va_W} {posti : Int32 → S → Prop} {u : S} {v : Int32} (hx : p.tables.exec = Jvm.exec) (hb : c.code = cc) (hr : meth.sig.returnType = some .int) (hlk : meth.locks = false) (hp : posti v u) (hP : va_P D sCl (w1 u) H) (hK : va_K D sCl (sTy dB dN) s) (hD : va_D A (w1 u)) (hS : va_S A s.heap H locs) {k n : Nat} (h1 : cells ≤ k) (h2 : slots ≤ n) (hdg : decode cc pc = .ok (.ireturn, 1)) : W p l e R s m args below meth c H locs cells slots (MQ below (va_Qi posti (sm_B D dB dN A w1) A) args s k n A) (F0 m pc ls [.int v]) := by
  refine W.widen h1 h2 ?_
  exact W.iret hx hb hr (fun t ht hW => ⟨⟨v, u, rfl, hp, by rw [ht]; exact hP, va_K.moved hW.alike hK, hD⟩, hS.F ht⟩) hS.2.2 hdg
end SMR
set_option maxHeartbeats 4000000 in
set_option maxRecDepth 100000 in
/-- SM4Engine.init(z, params) -/
theorem met_in (l : Launch) (D : va_G) (dB dN : ClassId) (h0 : Nat) (vx : Value) (kp k : Nat) (f : Nat → Int32) (z : Int32) : sm_Eff l D dB dN yX2_init_2 cX2_init_2 4 ({ frames := 4, cells := 3, slots := 40, locals := 90 } : Room) [.ref h0, .int z, .ref kp] [(h0, .inr (2, [vx, .null])), (kp, .inr (3, [.ref k])), (k, .inl (dB, 16, .inl f))] sm_St (fun u : Nat × (Nat → Int32) => ∀ j, j < 32 → u.2 j = sm_rk f z j) (fun u : Nat × (Nat → Int32) => [(h0, .inr (2, [vx, .ref u.1])), (kp, .inr (3, [.ref k])), (k, .inl (dB, 16, .inl f)), (u.1, .inl (dN, 32, .inl u.2))]) := by
  intro sz
  refine sm_met (by decide) (Nat.le_of_ble_eq_true rfl) (fun p e s m below meth c ls hx hb hr hlk hml hown hin hts hB hl => ?_)
  have hl : lv_has ls 4 [(0, .ref h0), (1, .int z), (2, .ref kp)] := hl
  have hF : CallFix p m c cX2_init_2 4 s _ lw_all RX2 := ⟨hx, hb, hml, hown, hts⟩
  obtain ⟨hsz, hP, hK, hD0, hEx⟩ := hB
  subst hsz
  have hD := hD0.self (sz := s.heap.size)
  generalize hAe : va_A [(h0, .inr (2, [vx, .null])), (kp, .inr (3, [.ref k])), (k, .inl (dB, 16, .inl f))] s.heap.size = A at hD hEx ⊢
  have hA : ∀ q : Nat, s.heap.size ≤ q → A q := fun q h => by rw [← hAe]; exact Or.inr h
  have hS : va_S A s.heap s.heap [] := va_S.rf
  refine lv_aload_n hx hb dX2_init_2_0 rfl (lv_at hl 2 rfl) ?_
  refine va_instS hx hb hown (hts _ q115) (hK.1 3 _ rfl).2 (va_recv hK hP (ci := 3) (q0 := 1) rfl rfl) dX2_init_2_1 ?_
  refine lv_if_eq (tgt := 45) hx hb dX2_init_2_4 (by decide) (fun c9 => absurd c9 (show ¬ (1 : Int32) = 0 by decide)) (fun _ => ?_)
  refine lv_aload_n hx hb dX2_init_2_7 rfl (lv_at hl 2 rfl) ?_
  refine va_castS hx hb hown (hts _ q115) (hK.1 3 _ rfl).2 (va_recv hK hP (ci := 3) (q0 := 1) rfl rfl) dX2_init_2_8 ?_
  refine va_csr (va_Run.run (va_runV (C := RX3) (As := []) (rest := []) hF (met_gk l D dB dN kp k) (cwV 0 hts (lw_V q116 q117 q118 q20 q119) rfl rfl rfl hdV_X3_getKey ⟨Nat.le_of_ble_eq_true rfl, Nat.le_of_ble_eq_true rfl⟩) ⟨fun a U g mk q => ⟨q.1, q.2.1, va_K.moved (u := U) (U := U.calling g mk a) (Vm.Alike.refl U.vm) q.2.2⟩, va_recv hK hP (ci := 3) (q0 := 1) rfl rfl, fun U hU hW => ⟨rfl, by rw [hU]; exact hP.sub [1] rfl, va_K.moved hW.alike hK⟩⟩ rfl rfl hl.1 rfl (lv_room (Nat.le_of_ble_eq_true rfl)) dX2_init_2_11 ⟨Nat.le_of_ble_eq_true rfl, Nat.le_of_ble_eq_true rfl⟩)) (fun k9 ek9 => ?_)
  subst ek9
  refine lv_astore_n (lv' := [(3, .ref k9), (0, .ref h0), (1, .int z), (2, .ref kp)]) hx hb dX2_init_2_14 rfl hl (by decide) rfl (fun ls hl => ?_)
  refine lv_aload_n hx hb dX2_init_2_15 rfl (lv_at hl 0 rfl) ?_
  refine va_alen (v := (16 : Int32)) hx hb hK hP 2 0 rfl rfl rfl dX2_init_2_16 ?_
  refine lv_bipush (v := (16 : Int32)) hx hb dX2_init_2_17 (by decide) ?_
  refine lv_icmp_eq (tgt := 32) hx hb dX2_init_2_19 (by decide) (fun _ => ?_) (fun c9 => absurd (rfl : (16 : Int32) = 16) c9)
  refine lv_aload_n hx hb dX2_init_2_32 rfl (lv_at hl 1 rfl) ?_
  refine lv_aload_n hx hb dX2_init_2_33 rfl (lv_at hl 1 rfl) ?_
  refine lv_iload_n hx hb dX2_init_2_34 rfl (lv_at hl 2 rfl) ?_
  refine lv_aload_n hx hb dX2_init_2_35 rfl (lv_at hl 0 rfl) ?_
  refine sm_cVr (wr := [(kp, .inr (3, [.ref k9]))]) (C := RX2) (As := [.int z, .ref k9]) (rest := [.ref h0]) hF (met_ek l D dB dN h0 vx .null k9 f z) (lw_V q188 q190 qs2 q19 q191) hdV_X2_expandKey ⟨Nat.le_of_ble_eq_true rfl, Nat.le_of_ble_eq_true rfl⟩ (va_recv hK hP (ci := 2) (q0 := 0) rfl rfl) sm_St_ok hEx hK hP hD hS hA [0, 2] [1] rfl rfl rfl (by decide) (by decide) (by decide) hl.1 rfl (Nat.le_of_ble_eq_true rfl) dX2_init_2_36 ⟨Nat.le_of_ble_eq_true rfl, Nat.le_of_ble_eq_true rfl⟩ (fun u q H locs hu hP hD hS => ?_)
  have hP : va_P D sCl [(kp, .inr (3, [.ref k9])), (h0, .inr (2, [vx, .null])), (k9, .inl (dB, 16, .inl f)), (q, .inl (dN, 32, .inl u))] H := hP
  have hD : va_D A [(kp, .inr (3, [.ref k9])), (h0, .inr (2, [vx, .null])), (k9, .inl (dB, 16, .inl f)), (q, .inl (dN, 32, .inl u))] := hD
  have hP : va_P D sCl [(h0, .inr (2, [vx, .null])), (kp, .inr (3, [.ref k9])), (k9, .inl (dB, 16, .inl f)), (q, .inl (dN, 32, .inl u))] H := hP.sub [1, 0, 2, 3] rfl
  have hD : va_D A [(h0, .inr (2, [vx, .null])), (kp, .inr (3, [.ref k9])), (k9, .inl (dB, 16, .inl f)), (q, .inl (dN, 32, .inl u))] := hD.sub [1, 0, 2, 3] (by decide) rfl
  refine va_put (D := D) (ci := 2) (v := .ref q) (ty := .array .int) (C := RX2) (T := TX2) (N := 2) hx hb hts in_X2 tyX2 tyX2_ok nmX2 hown hK hP hD hS 0 rfl rfl 1 (by decide) (hts _ q79) (fun _ h9 => h9) rfl (by decide +kernel) rfl rfl (Nat.le_of_ble_eq_true rfl) dX2_init_2_39 (fun H locs hP hD hS => ?_)
  have hP : va_P D sCl [(h0, .inr (2, [vx, .ref q])), (kp, .inr (3, [.ref k9])), (k9, .inl (dB, 16, .inl f)), (q, .inl (dN, 32, .inl u))] H := hP
  have hD : va_D A [(h0, .inr (2, [vx, .ref q])), (kp, .inr (3, [.ref k9])), (k9, .inl (dB, 16, .inl f)), (q, .inl (dN, 32, .inl u))] := hD
  refine lv_goto (tgt := 55) hx hb dX2_init_2_42 (by decide) ?_
  exact sm_vr (post := (fun u : Nat × (Nat → Int32) => ∀ j, j < 32 → u.2 j = sm_rk f z j)) (w1 := (fun u : Nat × (Nat → Int32) => [(h0, .inr (2, [vx, .ref u.1])), (kp, .inr (3, [.ref k9])), (k9, .inl (dB, 16, .inl f)), (u.1, .inl (dN, 32, .inl u.2))])) (u := (q, u)) hx hb hr hlk hu hP hK hD hS (Nat.le_refl _) (Nat.le_refl _) dX2_init_2_55
set_option maxHeartbeats 4000000 in
set_option maxRecDepth 100000 in
/-- processBlock(in, 0, out, 0) -/
theorem met_pb (l : Launch) (D : va_G) (dB dN : ClassId) (h0 x r bi bo : Nat) (xf rk g h : Nat → Int32) (sz : Nat) : Met l yX2_processBlock (ws_ yX2_processBlock cX2_processBlock 6 (some .int)) ({ frames := 4, cells := 0, slots := 0, locals := 87 } : Room) (va_Pc [.ref h0, .ref bi, .int (nI 0), .ref bo, .int (nI 0)] (sm_Pre D dB dN [(h0, .inr (2, [.ref x, .ref r])), (x, .inl (dN, 4, .inl xf)), (r, .inl (dN, 32, .inl rk)), (bi, .inl (dB, 16, .inl g)), (bo, .inl (dB, 16, .inl h))] sz sm_St)) (va_Qi (fun (_ : Int32) (_ : Nat → Int32) => True) (sm_B D dB dN (va_A [(h0, .inr (2, [.ref x, .ref r])), (x, .inl (dN, 4, .inl xf)), (r, .inl (dN, 32, .inl rk)), (bi, .inl (dB, 16, .inl g)), (bo, .inl (dB, 16, .inl h))] sz) (fun u : Nat → Int32 => [(h0, .inr (2, [.ref x, .ref r])), (x, .inl (dN, 4, .inl u)), (r, .inl (dN, 32, .inl rk)), (bi, .inl (dB, 16, .inl g)), (bo, .inl (dB, 16, .inl (sm_pI h 0 (sm_xq g rk 35) (sm_xq g rk 34) (sm_xq g rk 33) (sm_xq g rk 32) 16)))])) (va_A [(h0, .inr (2, [.ref x, .ref r])), (x, .inl (dN, 4, .inl xf)), (r, .inl (dN, 32, .inl rk)), (bi, .inl (dB, 16, .inl g)), (bo, .inl (dB, 16, .inl h))] sz)) 0 0 (va_A [(h0, .inr (2, [.ref x, .ref r])), (x, .inl (dN, 4, .inl xf)), (r, .inl (dN, 32, .inl rk)), (bi, .inl (dB, 16, .inl g)), (bo, .inl (dB, 16, .inl h))] sz) := by
  refine sm_met (by decide) (Nat.le_of_ble_eq_true rfl) (fun p e s m below meth c ls hx hb hr hlk hml hown hin hts hB hl => ?_)
  have hl : lv_has ls 6 [(0, .ref h0), (1, .ref bi), (2, .int (nI 0)), (3, .ref bo), (4, .int (nI 0))] := hl
  have hF : CallFix p m c cX2_processBlock 6 s _ lw_all RX2 := ⟨hx, hb, hml, hown, hts⟩
  obtain ⟨hsz, hP, hK, hD0, hEx⟩ := hB
  subst hsz
  have hD := hD0.self (sz := s.heap.size)
  generalize hAe : va_A [(h0, .inr (2, [.ref x, .ref r])), (x, .inl (dN, 4, .inl xf)), (r, .inl (dN, 32, .inl rk)), (bi, .inl (dB, 16, .inl g)), (bo, .inl (dB, 16, .inl h))] s.heap.size = A at hD hEx ⊢
  have hA : ∀ q : Nat, s.heap.size ≤ q → A q := fun q h => by rw [← hAe]; exact Or.inr h
  have hS : va_S A s.heap s.heap [] := va_S.rf
  obtain ⟨hSb, _, _⟩ := hEx
  refine lv_aload_n hx hb dX2_processBlock_0 rfl (lv_at hl 0 rfl) ?_
  refine va_get (D := D) (ci := 2) (C := RX2) (T := TX2) (N := 2) hx hb hts in_X2 hown hK hP 0 rfl rfl 1 (by decide) (hts _ q79) (fun _ h9 => h9) rfl dX2_processBlock_1 ?_
  refine lv_ifnonnull (tgt := 17) hx hb dX2_processBlock_4 (by decide) ?_
  refine lv_iload_n hx hb dX2_processBlock_17 rfl (lv_at hl 2 rfl) ?_
  refine lv_bipush (v := (16 : Int32)) hx hb dX2_processBlock_18 (by decide) ?_
  refine lv_iadd hx hb dX2_processBlock_20 ?_
  refine lv_aload_n hx hb dX2_processBlock_21 rfl (lv_at hl 1 rfl) ?_
  refine va_alen (v := (16 : Int32)) hx hb hK hP 3 0 rfl rfl rfl dX2_processBlock_22 ?_
  refine lv_icmp_le (tgt := 36) hx hb dX2_processBlock_23 (by decide) (fun _ => ?_) (fun c9 => absurd (show (nI 0 + (16 : Int32) : Int32) ≤ 16 by decide) c9)
  refine lv_iload hx hb dX2_processBlock_36 (lv_at hl 4 rfl) ?_
  refine lv_bipush (v := (16 : Int32)) hx hb dX2_processBlock_38 (by decide) ?_
  refine lv_iadd hx hb dX2_processBlock_40 ?_
  refine lv_aload_n hx hb dX2_processBlock_41 rfl (lv_at hl 3 rfl) ?_
  refine va_alen (v := (16 : Int32)) hx hb hK hP 4 0 rfl rfl rfl dX2_processBlock_42 ?_
  refine lv_icmp_le (tgt := 56) hx hb dX2_processBlock_43 (by decide) (fun _ => ?_) (fun c9 => absurd (show (nI 0 + (16 : Int32) : Int32) ≤ 16 by decide) c9)
  refine lv_aload_n hx hb dX2_processBlock_56 rfl (lv_at hl 0 rfl) ?_
  refine va_get (D := D) (ci := 2) (C := RX2) (T := TX2) (N := 2) hx hb hts in_X2 hown hK hP 0 rfl rfl 0 (by decide) (hts _ q78) (fun _ h9 => h9) rfl dX2_processBlock_57 ?_
  refine lv_iconst (v := (0 : Int32)) hx hb dX2_processBlock_60 (by decide) ?_
  refine lv_aload_n hx hb dX2_processBlock_61 rfl (lv_at hl 1 rfl) ?_
  refine lv_iload_n hx hb dX2_processBlock_62 rfl (lv_at hl 2 rfl) ?_
  refine sm_pS (rest := [.int (0 : Int32), .ref x]) hF (met_be l D dB dN bi 16 g 0 (by decide) (by decide)) (lw_S q192 q193 q26 q194) hdS_X4_bigEndianToInt ⟨rfl, rfl, Nat.le_of_ble_eq_true rfl, Nat.le_of_ble_eq_true rfl⟩ (sm_mvW _ _ _ _) ⟨hP.sub [3] rfl, hK⟩ hl.1 rfl (Nat.le_of_ble_eq_true rfl) dX2_processBlock_63 ⟨Nat.le_of_ble_eq_true rfl, Nat.le_of_ble_eq_true rfl⟩ ?_
  refine sm_iast hx hb hK hP hD hS 1 rfl 0 rfl (by decide) (by decide) dX2_processBlock_66 (fun H locs hP hD hS => ?_)
  have hP : va_P D sCl [(h0, .inr (2, [.ref x, .ref r])), (x, .inl (dN, 4, .inl (upd xf 0 (sm_wd g 0)))), (r, .inl (dN, 32, .inl rk)), (bi, .inl (dB, 16, .inl g)), (bo, .inl (dB, 16, .inl h))] H := hP
  have hD : va_D A [(h0, .inr (2, [.ref x, .ref r])), (x, .inl (dN, 4, .inl (upd xf 0 (sm_wd g 0)))), (r, .inl (dN, 32, .inl rk)), (bi, .inl (dB, 16, .inl g)), (bo, .inl (dB, 16, .inl h))] := hD
  refine lv_aload_n hx hb dX2_processBlock_67 rfl (lv_at hl 0 rfl) ?_
  refine va_get (D := D) (ci := 2) (C := RX2) (T := TX2) (N := 2) hx hb hts in_X2 hown hK hP 0 rfl rfl 0 (by decide) (hts _ q78) (fun _ h9 => h9) rfl dX2_processBlock_68 ?_
  refine lv_iconst (v := (1 : Int32)) hx hb dX2_processBlock_71 (by decide) ?_
  refine lv_aload_n hx hb dX2_processBlock_72 rfl (lv_at hl 1 rfl) ?_
  refine lv_iload_n hx hb dX2_processBlock_73 rfl (lv_at hl 2 rfl) ?_
  refine lv_iconst (v := (4 : Int32)) hx hb dX2_processBlock_74 (by decide) ?_
  refine lv_iadd hx hb dX2_processBlock_75 ?_
  refine sm_top (y := nI 4) (by decide) ?_
  refine sm_pS (rest := [.int (1 : Int32), .ref x]) hF (met_be l D dB dN bi 16 g 4 (by decide) (by decide)) (lw_S q192 q193 q26 q194) hdS_X4_bigEndianToInt ⟨rfl, rfl, Nat.le_of_ble_eq_true rfl, Nat.le_of_ble_eq_true rfl⟩ (sm_mvW _ _ _ _) ⟨hP.sub [3] rfl, hK⟩ hl.1 rfl (Nat.le_of_ble_eq_true rfl) dX2_processBlock_76 ⟨Nat.le_of_ble_eq_true rfl, Nat.le_of_ble_eq_true rfl⟩ ?_
  refine sm_iast hx hb hK hP hD hS 1 rfl 1 rfl (by decide) (by decide) dX2_processBlock_79 (fun H locs hP hD hS => ?_)
  have hP : va_P D sCl [(h0, .inr (2, [.ref x, .ref r])), (x, .inl (dN, 4, .inl (upd (upd xf 0 (sm_wd g 0)) 1 (sm_wd g 4)))), (r, .inl (dN, 32, .inl rk)), (bi, .inl (dB, 16, .inl g)), (bo, .inl (dB, 16, .inl h))] H := hP
  have hD : va_D A [(h0, .inr (2, [.ref x, .ref r])), (x, .inl (dN, 4, .inl (upd (upd xf 0 (sm_wd g 0)) 1 (sm_wd g 4)))), (r, .inl (dN, 32, .inl rk)), (bi, .inl (dB, 16, .inl g)), (bo, .inl (dB, 16, .inl h))] := hD
  refine lv_aload_n hx hb dX2_processBlock_80 rfl (lv_at hl 0 rfl) ?_
  refine va_get (D := D) (ci := 2) (C := RX2) (T := TX2) (N := 2) hx hb hts in_X2 hown hK hP 0 rfl rfl 0 (by decide) (hts _ q78) (fun _ h9 => h9) rfl dX2_processBlock_81 ?_
  refine lv_iconst (v := (2 : Int32)) hx hb dX2_processBlock_84 (by decide) ?_
  refine lv_aload_n hx hb dX2_processBlock_85 rfl (lv_at hl 1 rfl) ?_
  refine lv_iload_n hx hb dX2_processBlock_86 rfl (lv_at hl 2 rfl) ?_
  refine lv_bipush (v := (8 : Int32)) hx hb dX2_processBlock_87 (by decide) ?_
  refine lv_iadd hx hb dX2_processBlock_89 ?_
  refine sm_top (y := nI 8) (by decide) ?_
  refine sm_pS (rest := [.int (2 : Int32), .ref x]) hF (met_be l D dB dN bi 16 g 8 (by decide) (by decide)) (lw_S q192 q193 q26 q194) hdS_X4_bigEndianToInt ⟨rfl, rfl, Nat.le_of_ble_eq_true rfl, Nat.le_of_ble_eq_true rfl⟩ (sm_mvW _ _ _ _) ⟨hP.sub [3] rfl, hK⟩ hl.1 rfl (Nat.le_of_ble_eq_true rfl) dX2_processBlock_90 ⟨Nat.le_of_ble_eq_true rfl, Nat.le_of_ble_eq_true rfl⟩ ?_
  refine sm_iast hx hb hK hP hD hS 1 rfl 2 rfl (by decide) (by decide) dX2_processBlock_93 (fun H locs hP hD hS => ?_)
  have hP : va_P D sCl [(h0, .inr (2, [.ref x, .ref r])), (x, .inl (dN, 4, .inl (upd (upd (upd xf 0 (sm_wd g 0)) 1 (sm_wd g 4)) 2 (sm_wd g 8)))), (r, .inl (dN, 32, .inl rk)), (bi, .inl (dB, 16, .inl g)), (bo, .inl (dB, 16, .inl h))] H := hP
  have hD : va_D A [(h0, .inr (2, [.ref x, .ref r])), (x, .inl (dN, 4, .inl (upd (upd (upd xf 0 (sm_wd g 0)) 1 (sm_wd g 4)) 2 (sm_wd g 8)))), (r, .inl (dN, 32, .inl rk)), (bi, .inl (dB, 16, .inl g)), (bo, .inl (dB, 16, .inl h))] := hD
  refine lv_aload_n hx hb dX2_processBlock_94 rfl (lv_at hl 0 rfl) ?_
  refine va_get (D := D) (ci := 2) (C := RX2) (T := TX2) (N := 2) hx hb hts in_X2 hown hK hP 0 rfl rfl 0 (by decide) (hts _ q78) (fun _ h9 => h9) rfl dX2_processBlock_95 ?_
  refine lv_iconst (v := (3 : Int32)) hx hb dX2_processBlock_98 (by decide) ?_
  refine lv_aload_n hx hb dX2_processBlock_99 rfl (lv_at hl 1 rfl) ?_
  refine lv_iload_n hx hb dX2_processBlock_100 rfl (lv_at hl 2 rfl) ?_
  refine lv_bipush (v := (12 : Int32)) hx hb dX2_processBlock_101 (by decide) ?_
  refine lv_iadd hx hb dX2_processBlock_103 ?_
  refine sm_top (y := nI 12) (by decide) ?_
  refine sm_pS (rest := [.int (3 : Int32), .ref x]) hF (met_be l D dB dN bi 16 g 12 (by decide) (by decide)) (lw_S q192 q193 q26 q194) hdS_X4_bigEndianToInt ⟨rfl, rfl, Nat.le_of_ble_eq_true rfl, Nat.le_of_ble_eq_true rfl⟩ (sm_mvW _ _ _ _) ⟨hP.sub [3] rfl, hK⟩ hl.1 rfl (Nat.le_of_ble_eq_true rfl) dX2_processBlock_104 ⟨Nat.le_of_ble_eq_true rfl, Nat.le_of_ble_eq_true rfl⟩ ?_
  refine sm_iast hx hb hK hP hD hS 1 rfl 3 rfl (by decide) (by decide) dX2_processBlock_107 (fun H locs hP hD hS => ?_)
  have hP : va_P D sCl [(h0, .inr (2, [.ref x, .ref r])), (x, .inl (dN, 4, .inl (upd (upd (upd (upd xf 0 (sm_wd g 0)) 1 (sm_wd g 4)) 2 (sm_wd g 8)) 3 (sm_wd g 12)))), (r, .inl (dN, 32, .inl rk)), (bi, .inl (dB, 16, .inl g)), (bo, .inl (dB, 16, .inl h))] H := hP
  have hD : va_D A [(h0, .inr (2, [.ref x, .ref r])), (x, .inl (dN, 4, .inl (upd (upd (upd (upd xf 0 (sm_wd g 0)) 1 (sm_wd g 4)) 2 (sm_wd g 8)) 3 (sm_wd g 12)))), (r, .inl (dN, 32, .inl rk)), (bi, .inl (dB, 16, .inl g)), (bo, .inl (dB, 16, .inl h))] := hD
  obtain ⟨x0, h_x0⟩ : ∃ g9 : Nat → Int32, g9 = (upd (upd (upd (upd xf 0 (sm_wd g 0)) 1 (sm_wd g 4)) 2 (sm_wd g 8)) 3 (sm_wd g 12)) := ⟨_, rfl⟩
  rw [← h_x0] at hP hD
  have c0_0 : x0 0 = sm_xq g rk (4 * 0 + 0) := by rw [h_x0]; rfl
  have c0_1 : x0 1 = sm_xq g rk (4 * 0 + 1) := by rw [h_x0]; rfl
  have c0_2 : x0 2 = sm_xq g rk (4 * 0 + 2) := by rw [h_x0]; rfl
  have c0_3 : x0 3 = sm_xq g rk (4 * 0 + 3) := by rw [h_x0]; rfl
  refine lv_iconst (v := (0 : Int32)) hx hb dX2_processBlock_108 (by decide) ?_
  refine lv_istore (lv' := [(5, .int (0 : Int32)), (0, .ref h0), (1, .ref bi), (2, .int (nI 0)), (3, .ref bo), (4, .int (nI 0))]) hx hb dX2_processBlock_109 hl (by decide) rfl (fun ls hl => ?_)
  refine sm_loop (fun t H locs ls => ∃ u : Nat → Int32, (u 0 = sm_xq g rk (4 * t + 0) ∧ u 1 = sm_xq g rk (4 * t + 1) ∧ u 2 = sm_xq g rk (4 * t + 2) ∧ u 3 = sm_xq g rk (4 * t + 3)) ∧ va_P D sCl [(h0, .inr (2, [.ref x, .ref r])), (x, .inl (dN, 4, .inl u)), (r, .inl (dN, 32, .inl rk)), (bi, .inl (dB, 16, .inl g)), (bo, .inl (dB, 16, .inl h))] H ∧ va_D A [(h0, .inr (2, [.ref x, .ref r])), (x, .inl (dN, 4, .inl u)), (r, .inl (dN, 32, .inl rk)), (bi, .inl (dB, 16, .inl g)), (bo, .inl (dB, 16, .inl h))] ∧ va_S A s.heap H locs ∧ lv_has ls 6 [(5, .int (nI (4 * t))), (0, .ref h0), (3, .ref bo), (4, .int (nI 0))]) 8 ?_ ?_ 0 (by decide) _ _ _ ⟨x0, ⟨c0_0, c0_1, c0_2, c0_3⟩, hP, hD, hS, lv_sub hl [0, 1, 4, 5] rfl⟩
  · intro t H locs ls ht ⟨u, ⟨c0_0, c0_1, c0_2, c0_3⟩, hP, hD, hS, hl⟩ ih
    refine lv_iload hx hb dX2_processBlock_111 (lv_at hl 0 rfl) ?_
    refine lv_bipush (v := (32 : Int32)) hx hb dX2_processBlock_113 (by decide) ?_
    refine lv_icmp_ge (tgt := 214) hx hb dX2_processBlock_115 (by decide) (fun c9 => absurd c9 (nI_ge (a := 4 * t) (b := 32) (by omega) (by decide))) (fun _ => ?_)
    refine lv_aload_n hx hb dX2_processBlock_118 rfl (lv_at hl 1 rfl) ?_
    refine va_get (D := D) (ci := 2) (C := RX2) (T := TX2) (N := 2) hx hb hts in_X2 hown hK hP 0 rfl rfl 0 (by decide) (hts _ q78) (fun _ h9 => h9) rfl dX2_processBlock_119 ?_
    refine lv_iconst (v := (0 : Int32)) hx hb dX2_processBlock_122 (by decide) ?_
    refine lv_aload_n hx hb dX2_processBlock_123 rfl (lv_at hl 1 rfl) ?_
    refine lv_aload_n hx hb dX2_processBlock_124 rfl (lv_at hl 1 rfl) ?_
    refine va_get (D := D) (ci := 2) (C := RX2) (T := TX2) (N := 2) hx hb hts in_X2 hown hK hP 0 rfl rfl 0 (by decide) (hts _ q78) (fun _ h9 => h9) rfl dX2_processBlock_125 ?_
    refine lv_aload_n hx hb dX2_processBlock_128 rfl (lv_at hl 1 rfl) ?_
    refine va_get (D := D) (ci := 2) (C := RX2) (T := TX2) (N := 2) hx hb hts in_X2 hown hK hP 0 rfl rfl 1 (by decide) (hts _ q79) (fun _ h9 => h9) rfl dX2_processBlock_129 ?_
    refine lv_iload hx hb dX2_processBlock_132 (lv_at hl 0 rfl) ?_
    refine sm_iald hx hb hK hP 2 rfl (4 * t) rfl (by omega) (by decide) dX2_processBlock_134 ?_
    refine sm_pV (C := RX2) (As := [.ref x, .int (rk (4 * t))]) (rest := [.int (0 : Int32), .ref x]) hF (met_f0 l D dB dN h0 (.ref x) (.ref r) x u (rk (4 * t))) (lw_V q280 q282 qs7 q19 q283) hdV_X2_F0 ⟨rfl, rfl, Nat.le_of_ble_eq_true rfl, Nat.le_of_ble_eq_true rfl⟩ (va_recv hK hP (ci := 2) (q0 := 0) rfl rfl) (sm_mvE _ _ _ _) ⟨hP.sub [0, 1] rfl, hK, sm_sbAt hSb hS⟩ hl.1 rfl (Nat.le_of_ble_eq_true rfl) dX2_processBlock_135 ⟨Nat.le_of_ble_eq_true rfl, Nat.le_of_ble_eq_true rfl⟩ ?_
    refine sm_iast hx hb hK hP hD hS 1 rfl 0 rfl (by decide) (by decide) dX2_processBlock_138 (fun H locs hP hD hS => ?_)
    have hP : va_P D sCl [(h0, .inr (2, [.ref x, .ref r])), (x, .inl (dN, 4, .inl (upd u 0 ((u 0) ^^^ sm_t ((((u 1) ^^^ (u 2)) ^^^ (u 3)) ^^^ (rk (4 * t))))))), (r, .inl (dN, 32, .inl rk)), (bi, .inl (dB, 16, .inl g)), (bo, .inl (dB, 16, .inl h))] H := hP
    have hD : va_D A [(h0, .inr (2, [.ref x, .ref r])), (x, .inl (dN, 4, .inl (upd u 0 ((u 0) ^^^ sm_t ((((u 1) ^^^ (u 2)) ^^^ (u 3)) ^^^ (rk (4 * t))))))), (r, .inl (dN, 32, .inl rk)), (bi, .inl (dB, 16, .inl g)), (bo, .inl (dB, 16, .inl h))] := hD
    obtain ⟨u1, h_u1⟩ : ∃ g9 : Nat → Int32, g9 = (upd u 0 ((u 0) ^^^ sm_t ((((u 1) ^^^ (u 2)) ^^^ (u 3)) ^^^ (rk (4 * t))))) := ⟨_, rfl⟩
    rw [← h_u1] at hP hD
    have c1_0 : u1 0 = sm_xq g rk (4 * t + 4) := by rw [h_u1]; show (u 0) ^^^ sm_t _ = _; rw [c0_0, c0_1, c0_2, c0_3]; rfl
    have c1_1 : u1 1 = sm_xq g rk (4 * t + 1) := by rw [h_u1]; exact c0_1
    have c1_2 : u1 2 = sm_xq g rk (4 * t + 2) := by rw [h_u1]; exact c0_2
    have c1_3 : u1 3 = sm_xq g rk (4 * t + 3) := by rw [h_u1]; exact c0_3
    refine lv_aload_n hx hb dX2_processBlock_139 rfl (lv_at hl 1 rfl) ?_
    refine va_get (D := D) (ci := 2) (C := RX2) (T := TX2) (N := 2) hx hb hts in_X2 hown hK hP 0 rfl rfl 0 (by decide) (hts _ q78) (fun _ h9 => h9) rfl dX2_processBlock_140 ?_
    refine lv_iconst (v := (1 : Int32)) hx hb dX2_processBlock_143 (by decide) ?_
    refine lv_aload_n hx hb dX2_processBlock_144 rfl (lv_at hl 1 rfl) ?_
    refine lv_aload_n hx hb dX2_processBlock_145 rfl (lv_at hl 1 rfl) ?_
    refine va_get (D := D) (ci := 2) (C := RX2) (T := TX2) (N := 2) hx hb hts in_X2 hown hK hP 0 rfl rfl 0 (by decide) (hts _ q78) (fun _ h9 => h9) rfl dX2_processBlock_146 ?_
    refine lv_aload_n hx hb dX2_processBlock_149 rfl (lv_at hl 1 rfl) ?_
    refine va_get (D := D) (ci := 2) (C := RX2) (T := TX2) (N := 2) hx hb hts in_X2 hown hK hP 0 rfl rfl 1 (by decide) (hts _ q79) (fun _ h9 => h9) rfl dX2_processBlock_150 ?_
    refine lv_iload hx hb dX2_processBlock_153 (lv_at hl 0 rfl) ?_
    refine lv_iconst (v := (1 : Int32)) hx hb dX2_processBlock_155 (by decide) ?_
    refine lv_iadd hx hb dX2_processBlock_156 ?_
    refine sm_iald hx hb hK hP 2 rfl ((4 * t) + 1) (nI_add (4 * t) 1) (by omega) (by decide) dX2_processBlock_157 ?_
    refine sm_pV (C := RX2) (As := [.ref x, .int (rk ((4 * t) + 1))]) (rest := [.int (1 : Int32), .ref x]) hF (met_f1 l D dB dN h0 (.ref x) (.ref r) x u1 (rk ((4 * t) + 1))) (lw_V q292 q294 qs10 q19 q295) hdV_X2_F1 ⟨rfl, rfl, Nat.le_of_ble_eq_true rfl, Nat.le_of_ble_eq_true rfl⟩ (va_recv hK hP (ci := 2) (q0 := 0) rfl rfl) (sm_mvE _ _ _ _) ⟨hP.sub [0, 1] rfl, hK, sm_sbAt hSb hS⟩ hl.1 rfl (Nat.le_of_ble_eq_true rfl) dX2_processBlock_158 ⟨Nat.le_of_ble_eq_true rfl, Nat.le_of_ble_eq_true rfl⟩ ?_
    refine sm_iast hx hb hK hP hD hS 1 rfl 1 rfl (by decide) (by decide) dX2_processBlock_161 (fun H locs hP hD hS => ?_)
    have hP : va_P D sCl [(h0, .inr (2, [.ref x, .ref r])), (x, .inl (dN, 4, .inl (upd u1 1 ((u1 1) ^^^ sm_t ((((u1 2) ^^^ (u1 3)) ^^^ (u1 0)) ^^^ (rk ((4 * t) + 1))))))), (r, .inl (dN, 32, .inl rk)), (bi, .inl (dB, 16, .inl g)), (bo, .inl (dB, 16, .inl h))] H := hP
    have hD : va_D A [(h0, .inr (2, [.ref x, .ref r])), (x, .inl (dN, 4, .inl (upd u1 1 ((u1 1) ^^^ sm_t ((((u1 2) ^^^ (u1 3)) ^^^ (u1 0)) ^^^ (rk ((4 * t) + 1))))))), (r, .inl (dN, 32, .inl rk)), (bi, .inl (dB, 16, .inl g)), (bo, .inl (dB, 16, .inl h))] := hD
    obtain ⟨u2, h_u2⟩ : ∃ g9 : Nat → Int32, g9 = (upd u1 1 ((u1 1) ^^^ sm_t ((((u1 2) ^^^ (u1 3)) ^^^ (u1 0)) ^^^ (rk ((4 * t) + 1))))) := ⟨_, rfl⟩
    rw [← h_u2] at hP hD
    have c2_0 : u2 0 = sm_xq g rk (4 * t + 4) := by rw [h_u2]; exact c1_0
    have c2_1 : u2 1 = sm_xq g rk (4 * t + 5) := by rw [h_u2]; show (u1 1) ^^^ sm_t _ = _; rw [c1_0, c1_1, c1_2, c1_3]; rfl
    have c2_2 : u2 2 = sm_xq g rk (4 * t + 2) := by rw [h_u2]; exact c1_2
    have c2_3 : u2 3 = sm_xq g rk (4 * t + 3) := by rw [h_u2]; exact c1_3
    refine lv_aload_n hx hb dX2_processBlock_162 rfl (lv_at hl 1 rfl) ?_
    refine va_get (D := D) (ci := 2) (C := RX2) (T := TX2) (N := 2) hx hb hts in_X2 hown hK hP 0 rfl rfl 0 (by decide) (hts _ q78) (fun _ h9 => h9) rfl dX2_processBlock_163 ?_
    refine lv_iconst (v := (2 : Int32)) hx hb dX2_processBlock_166 (by decide) ?_
    refine lv_aload_n hx hb dX2_processBlock_167 rfl (lv_at hl 1 rfl) ?_
    refine lv_aload_n hx hb dX2_processBlock_168 rfl (lv_at hl 1 rfl) ?_
    refine va_get (D := D) (ci := 2) (C := RX2) (T := TX2) (N := 2) hx hb hts in_X2 hown hK hP 0 rfl rfl 0 (by decide) (hts _ q78) (fun _ h9 => h9) rfl dX2_processBlock_169 ?_
    refine lv_aload_n hx hb dX2_processBlock_172 rfl (lv_at hl 1 rfl) ?_
    refine va_get (D := D) (ci := 2) (C := RX2) (T := TX2) (N := 2) hx hb hts in_X2 hown hK hP 0 rfl rfl 1 (by decide) (hts _ q79) (fun _ h9 => h9) rfl dX2_processBlock_173 ?_
    refine lv_iload hx hb dX2_processBlock_176 (lv_at hl 0 rfl) ?_
    refine lv_iconst (v := (2 : Int32)) hx hb dX2_processBlock_178 (by decide) ?_
    refine lv_iadd hx hb dX2_processBlock_179 ?_
    refine sm_iald hx hb hK hP 2 rfl ((4 * t) + 2) (nI_add (4 * t) 2) (by omega) (by decide) dX2_processBlock_180 ?_
    refine sm_pV (C := RX2) (As := [.ref x, .int (rk ((4 * t) + 2))]) (rest := [.int (2 : Int32), .ref x]) hF (met_f2 l D dB dN h0 (.ref x) (.ref r) x u2 (rk ((4 * t) + 2))) (lw_V q296 q298 qs11 q19 q299) hdV_X2_F2 ⟨rfl, rfl, Nat.le_of_ble_eq_true rfl, Nat.le_of_ble_eq_true rfl⟩ (va_recv hK hP (ci := 2) (q0 := 0) rfl rfl) (sm_mvE _ _ _ _) ⟨hP.sub [0, 1] rfl, hK, sm_sbAt hSb hS⟩ hl.1 rfl (Nat.le_of_ble_eq_true rfl) dX2_processBlock_181 ⟨Nat.le_of_ble_eq_true rfl, Nat.le_of_ble_eq_true rfl⟩ ?_
    refine sm_iast hx hb hK hP hD hS 1 rfl 2 rfl (by decide) (by decide) dX2_processBlock_184 (fun H locs hP hD hS => ?_)
    have hP : va_P D sCl [(h0, .inr (2, [.ref x, .ref r])), (x, .inl (dN, 4, .inl (upd u2 2 ((u2 2) ^^^ sm_t ((((u2 3) ^^^ (u2 0)) ^^^ (u2 1)) ^^^ (rk ((4 * t) + 2))))))), (r, .inl (dN, 32, .inl rk)), (bi, .inl (dB, 16, .inl g)), (bo, .inl (dB, 16, .inl h))] H := hP
    have hD : va_D A [(h0, .inr (2, [.ref x, .ref r])), (x, .inl (dN, 4, .inl (upd u2 2 ((u2 2) ^^^ sm_t ((((u2 3) ^^^ (u2 0)) ^^^ (u2 1)) ^^^ (rk ((4 * t) + 2))))))), (r, .inl (dN, 32, .inl rk)), (bi, .inl (dB, 16, .inl g)), (bo, .inl (dB, 16, .inl h))] := hD
    obtain ⟨u3, h_u3⟩ : ∃ g9 : Nat → Int32, g9 = (upd u2 2 ((u2 2) ^^^ sm_t ((((u2 3) ^^^ (u2 0)) ^^^ (u2 1)) ^^^ (rk ((4 * t) + 2))))) := ⟨_, rfl⟩
    rw [← h_u3] at hP hD
    have c3_0 : u3 0 = sm_xq g rk (4 * t + 4) := by rw [h_u3]; exact c2_0
    have c3_1 : u3 1 = sm_xq g rk (4 * t + 5) := by rw [h_u3]; exact c2_1
    have c3_2 : u3 2 = sm_xq g rk (4 * t + 6) := by rw [h_u3]; show (u2 2) ^^^ sm_t _ = _; rw [c2_0, c2_1, c2_2, c2_3]; rfl
    have c3_3 : u3 3 = sm_xq g rk (4 * t + 3) := by rw [h_u3]; exact c2_3
    refine lv_aload_n hx hb dX2_processBlock_185 rfl (lv_at hl 1 rfl) ?_
    refine va_get (D := D) (ci := 2) (C := RX2) (T := TX2) (N := 2) hx hb hts in_X2 hown hK hP 0 rfl rfl 0 (by decide) (hts _ q78) (fun _ h9 => h9) rfl dX2_processBlock_186 ?_
    refine lv_iconst (v := (3 : Int32)) hx hb dX2_processBlock_189 (by decide) ?_
    refine lv_aload_n hx hb dX2_processBlock_190 rfl (lv_at hl 1 rfl) ?_
    refine lv_aload_n hx hb dX2_processBlock_191 rfl (lv_at hl 1 rfl) ?_
    refine va_get (D := D) (ci := 2) (C := RX2) (T := TX2) (N := 2) hx hb hts in_X2 hown hK hP 0 rfl rfl 0 (by decide) (hts _ q78) (fun _ h9 => h9) rfl dX2_processBlock_192 ?_
    refine lv_aload_n hx hb dX2_processBlock_195 rfl (lv_at hl 1 rfl) ?_
    refine va_get (D := D) (ci := 2) (C := RX2) (T := TX2) (N := 2) hx hb hts in_X2 hown hK hP 0 rfl rfl 1 (by decide) (hts _ q79) (fun _ h9 => h9) rfl dX2_processBlock_196 ?_
    refine lv_iload hx hb dX2_processBlock_199 (lv_at hl 0 rfl) ?_
    refine lv_iconst (v := (3 : Int32)) hx hb dX2_processBlock_201 (by decide) ?_
    refine lv_iadd hx hb dX2_processBlock_202 ?_
    refine sm_iald hx hb hK hP 2 rfl ((4 * t) + 3) (nI_add (4 * t) 3) (by omega) (by decide) dX2_processBlock_203 ?_
    refine sm_pV (C := RX2) (As := [.ref x, .int (rk ((4 * t) + 3))]) (rest := [.int (3 : Int32), .ref x]) hF (met_f3 l D dB dN h0 (.ref x) (.ref r) x u3 (rk ((4 * t) + 3))) (lw_V q300 q302 qs12 q19 q303) hdV_X2_F3 ⟨rfl, rfl, Nat.le_of_ble_eq_true rfl, Nat.le_of_ble_eq_true rfl⟩ (va_recv hK hP (ci := 2) (q0 := 0) rfl rfl) (sm_mvE _ _ _ _) ⟨hP.sub [0, 1] rfl, hK, sm_sbAt hSb hS⟩ hl.1 rfl (Nat.le_of_ble_eq_true rfl) dX2_processBlock_204 ⟨Nat.le_of_ble_eq_true rfl, Nat.le_of_ble_eq_true rfl⟩ ?_
    refine sm_iast hx hb hK hP hD hS 1 rfl 3 rfl (by decide) (by decide) dX2_processBlock_207 (fun H locs hP hD hS => ?_)
    have hP : va_P D sCl [(h0, .inr (2, [.ref x, .ref r])), (x, .inl (dN, 4, .inl (upd u3 3 ((u3 3) ^^^ sm_t ((((u3 0) ^^^ (u3 1)) ^^^ (u3 2)) ^^^ (rk ((4 * t) + 3))))))), (r, .inl (dN, 32, .inl rk)), (bi, .inl (dB, 16, .inl g)), (bo, .inl (dB, 16, .inl h))] H := hP
    have hD : va_D A [(h0, .inr (2, [.ref x, .ref r])), (x, .inl (dN, 4, .inl (upd u3 3 ((u3 3) ^^^ sm_t ((((u3 0) ^^^ (u3 1)) ^^^ (u3 2)) ^^^ (rk ((4 * t) + 3))))))), (r, .inl (dN, 32, .inl rk)), (bi, .inl (dB, 16, .inl g)), (bo, .inl (dB, 16, .inl h))] := hD
    obtain ⟨u4, h_u4⟩ : ∃ g9 : Nat → Int32, g9 = (upd u3 3 ((u3 3) ^^^ sm_t ((((u3 0) ^^^ (u3 1)) ^^^ (u3 2)) ^^^ (rk ((4 * t) + 3))))) := ⟨_, rfl⟩
    rw [← h_u4] at hP hD
    have c4_0 : u4 0 = sm_xq g rk (4 * t + 4) := by rw [h_u4]; exact c3_0
    have c4_1 : u4 1 = sm_xq g rk (4 * t + 5) := by rw [h_u4]; exact c3_1
    have c4_2 : u4 2 = sm_xq g rk (4 * t + 6) := by rw [h_u4]; exact c3_2
    have c4_3 : u4 3 = sm_xq g rk (4 * t + 7) := by rw [h_u4]; show (u3 3) ^^^ sm_t _ = _; rw [c3_0, c3_1, c3_2, c3_3]; rfl
    refine lv_iinc (v := (nI (4 * (t + 1)))) (lv' := [(5, .int (nI (4 * (t + 1)))), (0, .ref h0), (3, .ref bo), (4, .int (nI 0))]) hx hb dX2_processBlock_208 hl (k := 0) rfl (nI_add (4 * t) 4) (by decide) rfl (fun ls hl => ?_)
    refine lv_goto (tgt := 111) hx hb dX2_processBlock_211 (by decide) ?_
    exact ih _ _ _ ⟨u4, ⟨c4_0, c4_1, c4_2, c4_3⟩, hP, hD, hS, hl⟩
  · intro H locs ls ⟨u, ⟨e0, e1, e2, e3⟩, hP, hD, hS, hl⟩
    refine lv_iload hx hb dX2_processBlock_111 (lv_at hl 0 rfl) ?_
    refine lv_bipush (v := (32 : Int32)) hx hb dX2_processBlock_113 (by decide) ?_
    refine lv_icmp_ge (tgt := 214) hx hb dX2_processBlock_115 (by decide) (fun _ => ?_) (fun c9 => absurd (nI_le (Nat.le_refl 32) (by decide)) c9)
    refine lv_aload_n hx hb dX2_processBlock_214 rfl (lv_at hl 1 rfl) ?_
    refine va_get (D := D) (ci := 2) (C := RX2) (T := TX2) (N := 2) hx hb hts in_X2 hown hK hP 0 rfl rfl 0 (by decide) (hts _ q78) (fun _ h9 => h9) rfl dX2_processBlock_215 ?_
    refine lv_iconst (v := (3 : Int32)) hx hb dX2_processBlock_218 (by decide) ?_
    refine sm_iald hx hb hK hP 1 rfl 3 rfl (by decide) (by decide) dX2_processBlock_219 ?_
    refine lv_aload_n hx hb dX2_processBlock_220 rfl (lv_at hl 2 rfl) ?_
    refine lv_iload hx hb dX2_processBlock_221 (lv_at hl 3 rfl) ?_
    refine sm_cS (wr := [(h0, .inr (2, [.ref x, .ref r])), (x, .inl (dN, 4, .inl u)), (r, .inl (dN, 32, .inl rk)), (bi, .inl (dB, 16, .inl g))]) (rest := []) hF (met_ib l D dB dN bo 16 h 0 (u 3) (by decide) (by decide)) (lw_S q304 q305 q26 q306) hdS_X4_intToBigEndian ⟨Nat.le_of_ble_eq_true rfl, Nat.le_of_ble_eq_true rfl⟩ sm_no_ok trivial hK hP hD hS hA [4] [0, 1, 2, 3] rfl rfl rfl (by decide) (by decide) (by decide) hl.1 rfl (Nat.le_of_ble_eq_true rfl) dX2_processBlock_223 ⟨Nat.le_of_ble_eq_true rfl, Nat.le_of_ble_eq_true rfl⟩ (fun _ H locs _ hP hD hS => ?_)
    have hP : va_P D sCl [(h0, .inr (2, [.ref x, .ref r])), (x, .inl (dN, 4, .inl u)), (r, .inl (dN, 32, .inl rk)), (bi, .inl (dB, 16, .inl g)), (bo, .inl (dB, 16, .inl (sm_p4 h 0 (u 3))))] H := hP
    have hD : va_D A [(h0, .inr (2, [.ref x, .ref r])), (x, .inl (dN, 4, .inl u)), (r, .inl (dN, 32, .inl rk)), (bi, .inl (dB, 16, .inl g)), (bo, .inl (dB, 16, .inl (sm_p4 h 0 (u 3))))] := hD
    refine lv_aload_n hx hb dX2_processBlock_226 rfl (lv_at hl 1 rfl) ?_
    refine va_get (D := D) (ci := 2) (C := RX2) (T := TX2) (N := 2) hx hb hts in_X2 hown hK hP 0 rfl rfl 0 (by decide) (hts _ q78) (fun _ h9 => h9) rfl dX2_processBlock_227 ?_
    refine lv_iconst (v := (2 : Int32)) hx hb dX2_processBlock_230 (by decide) ?_
    refine sm_iald hx hb hK hP 1 rfl 2 rfl (by decide) (by decide) dX2_processBlock_231 ?_
    refine lv_aload_n hx hb dX2_processBlock_232 rfl (lv_at hl 2 rfl) ?_
    refine lv_iload hx hb dX2_processBlock_233 (lv_at hl 3 rfl) ?_
    refine lv_iconst (v := (4 : Int32)) hx hb dX2_processBlock_235 (by decide) ?_
    refine lv_iadd hx hb dX2_processBlock_236 ?_
    refine sm_top (y := nI 4) (by decide) ?_
    refine sm_cS (wr := [(h0, .inr (2, [.ref x, .ref r])), (x, .inl (dN, 4, .inl u)), (r, .inl (dN, 32, .inl rk)), (bi, .inl (dB, 16, .inl g))]) (rest := []) hF (met_ib l D dB dN bo 16 (sm_p4 h 0 (u 3)) 4 (u 2) (by decide) (by decide)) (lw_S q304 q305 q26 q306) hdS_X4_intToBigEndian ⟨Nat.le_of_ble_eq_true rfl, Nat.le_of_ble_eq_true rfl⟩ sm_no_ok trivial hK hP hD hS hA [4] [0, 1, 2, 3] rfl rfl rfl (by decide) (by decide) (by decide) hl.1 rfl (Nat.le_of_ble_eq_true rfl) dX2_processBlock_237 ⟨Nat.le_of_ble_eq_true rfl, Nat.le_of_ble_eq_true rfl⟩ (fun _ H locs _ hP hD hS => ?_)
    have hP : va_P D sCl [(h0, .inr (2, [.ref x, .ref r])), (x, .inl (dN, 4, .inl u)), (r, .inl (dN, 32, .inl rk)), (bi, .inl (dB, 16, .inl g)), (bo, .inl (dB, 16, .inl (sm_p4 (sm_p4 h 0 (u 3)) 4 (u 2))))] H := hP
    have hD : va_D A [(h0, .inr (2, [.ref x, .ref r])), (x, .inl (dN, 4, .inl u)), (r, .inl (dN, 32, .inl rk)), (bi, .inl (dB, 16, .inl g)), (bo, .inl (dB, 16, .inl (sm_p4 (sm_p4 h 0 (u 3)) 4 (u 2))))] := hD
    refine lv_aload_n hx hb dX2_processBlock_240 rfl (lv_at hl 1 rfl) ?_
    refine va_get (D := D) (ci := 2) (C := RX2) (T := TX2) (N := 2) hx hb hts in_X2 hown hK hP 0 rfl rfl 0 (by decide) (hts _ q78) (fun _ h9 => h9) rfl dX2_processBlock_241 ?_
    refine lv_iconst (v := (1 : Int32)) hx hb dX2_processBlock_244 (by decide) ?_
    refine sm_iald hx hb hK hP 1 rfl 1 rfl (by decide) (by decide) dX2_processBlock_245 ?_
    refine lv_aload_n hx hb dX2_processBlock_246 rfl (lv_at hl 2 rfl) ?_
    refine lv_iload hx hb dX2_processBlock_247 (lv_at hl 3 rfl) ?_
    refine lv_bipush (v := (8 : Int32)) hx hb dX2_processBlock_249 (by decide) ?_
    refine lv_iadd hx hb dX2_processBlock_251 ?_
    refine sm_top (y := nI 8) (by decide) ?_
    refine sm_cS (wr := [(h0, .inr (2, [.ref x, .ref r])), (x, .inl (dN, 4, .inl u)), (r, .inl (dN, 32, .inl rk)), (bi, .inl (dB, 16, .inl g))]) (rest := []) hF (met_ib l D dB dN bo 16 (sm_p4 (sm_p4 h 0 (u 3)) 4 (u 2)) 8 (u 1) (by decide) (by decide)) (lw_S q304 q305 q26 q306) hdS_X4_intToBigEndian ⟨Nat.le_of_ble_eq_true rfl, Nat.le_of_ble_eq_true rfl⟩ sm_no_ok trivial hK hP hD hS hA [4] [0, 1, 2, 3] rfl rfl rfl (by decide) (by decide) (by decide) hl.1 rfl (Nat.le_of_ble_eq_true rfl) dX2_processBlock_252 ⟨Nat.le_of_ble_eq_true rfl, Nat.le_of_ble_eq_true rfl⟩ (fun _ H locs _ hP hD hS => ?_)
    have hP : va_P D sCl [(h0, .inr (2, [.ref x, .ref r])), (x, .inl (dN, 4, .inl u)), (r, .inl (dN, 32, .inl rk)), (bi, .inl (dB, 16, .inl g)), (bo, .inl (dB, 16, .inl (sm_p4 (sm_p4 (sm_p4 h 0 (u 3)) 4 (u 2)) 8 (u 1))))] H := hP
    have hD : va_D A [(h0, .inr (2, [.ref x, .ref r])), (x, .inl (dN, 4, .inl u)), (r, .inl (dN, 32, .inl rk)), (bi, .inl (dB, 16, .inl g)), (bo, .inl (dB, 16, .inl (sm_p4 (sm_p4 (sm_p4 h 0 (u 3)) 4 (u 2)) 8 (u 1))))] := hD
    refine lv_aload_n hx hb dX2_processBlock_255 rfl (lv_at hl 1 rfl) ?_
    refine va_get (D := D) (ci := 2) (C := RX2) (T := TX2) (N := 2) hx hb hts in_X2 hown hK hP 0 rfl rfl 0 (by decide) (hts _ q78) (fun _ h9 => h9) rfl dX2_processBlock_256 ?_
    refine lv_iconst (v := (0 : Int32)) hx hb dX2_processBlock_259 (by decide) ?_
    refine sm_iald hx hb hK hP 1 rfl 0 rfl (by decide) (by decide) dX2_processBlock_260 ?_
    refine lv_aload_n hx hb dX2_processBlock_261 rfl (lv_at hl 2 rfl) ?_
    refine lv_iload hx hb dX2_processBlock_262 (lv_at hl 3 rfl) ?_
    refine lv_bipush (v := (12 : Int32)) hx hb dX2_processBlock_264 (by decide) ?_
    refine lv_iadd hx hb dX2_processBlock_266 ?_
    refine sm_top (y := nI 12) (by decide) ?_
    refine sm_cS (wr := [(h0, .inr (2, [.ref x, .ref r])), (x, .inl (dN, 4, .inl u)), (r, .inl (dN, 32, .inl rk)), (bi, .inl (dB, 16, .inl g))]) (rest := []) hF (met_ib l D dB dN bo 16 (sm_p4 (sm_p4 (sm_p4 h 0 (u 3)) 4 (u 2)) 8 (u 1)) 12 (u 0) (by decide) (by decide)) (lw_S q304 q305 q26 q306) hdS_X4_intToBigEndian ⟨Nat.le_of_ble_eq_true rfl, Nat.le_of_ble_eq_true rfl⟩ sm_no_ok trivial hK hP hD hS hA [4] [0, 1, 2, 3] rfl rfl rfl (by decide) (by decide) (by decide) hl.1 rfl (Nat.le_of_ble_eq_true rfl) dX2_processBlock_267 ⟨Nat.le_of_ble_eq_true rfl, Nat.le_of_ble_eq_true rfl⟩ (fun _ H locs _ hP hD hS => ?_)
    have hP : va_P D sCl [(h0, .inr (2, [.ref x, .ref r])), (x, .inl (dN, 4, .inl u)), (r, .inl (dN, 32, .inl rk)), (bi, .inl (dB, 16, .inl g)), (bo, .inl (dB, 16, .inl (sm_p4 (sm_p4 (sm_p4 (sm_p4 h 0 (u 3)) 4 (u 2)) 8 (u 1)) 12 (u 0))))] H := hP
    have hD : va_D A [(h0, .inr (2, [.ref x, .ref r])), (x, .inl (dN, 4, .inl u)), (r, .inl (dN, 32, .inl rk)), (bi, .inl (dB, 16, .inl g)), (bo, .inl (dB, 16, .inl (sm_p4 (sm_p4 (sm_p4 (sm_p4 h 0 (u 3)) 4 (u 2)) 8 (u 1)) 12 (u 0))))] := hD
    refine lv_bipush (v := (16 : Int32)) hx hb dX2_processBlock_270 (by decide) ?_
    have e9 : (sm_p4 (sm_p4 (sm_p4 (sm_p4 h 0 (u 3)) 4 (u 2)) 8 (u 1)) 12 (u 0)) = (sm_pI h 0 (sm_xq g rk 35) (sm_xq g rk 34) (sm_xq g rk 33) (sm_xq g rk 32) 16) := by rw [e3, e2, e1, e0]; exact sm_p16 h 0 _ _ _ _
    rw [e9] at hP hD
    exact sm_ir (posti := (fun (_ : Int32) (_ : Nat → Int32) => True)) (w1 := (fun u : Nat → Int32 => [(h0, .inr (2, [.ref x, .ref r])), (x, .inl (dN, 4, .inl u)), (r, .inl (dN, 32, .inl rk)), (bi, .inl (dB, 16, .inl g)), (bo, .inl (dB, 16, .inl (sm_pI h 0 (sm_xq g rk 35) (sm_xq g rk 34) (sm_xq g rk 33) (sm_xq g rk 32) 16)))])) (u := u) hx hb hr hlk trivial hP hK hD hS (Nat.le_refl _) (Nat.le_refl _) dX2_processBlock_272
end
section
/-! SmFourDesk -/
section SMF
variable {p : Program} {l : Launch} {e : Env} {R : Room} {s : State} {m : MethodId} {args : Array Value} {below : List Frame} {meth : Method} {c : Code} {H : Heap} {locs : List Loc} {cells slots : Nat} {Q : State → Prop}
variable {cc bytes : ByteArray} {pc nL maxL index count : Nat} {ls : Array Slot} {rest st As : List Value} {x y : MethodName} {rm : Room} {own C : String} {cC : ClassId} {D : va_G} {dB dN : ClassId} {A : Nat → Prop} {ws wc wr : va_W} {Ex : (Nat → Prop) → State → Heap → Prop} {S : Type} {post : S → Prop} {w1 : S → va_W}
theorem sm_lwF {idx L : Nat} {b : ByteArray} {r : Option FieldType} (h1 : Cond.methodLink own idx x ∈ lw_all) (h2 : Cond.selects C x y ∈ lw_all) (h3 : Cond.instanceMethod y ∈ lw_all) (h4 : Cond.initialized y.cls ∈ lw_all) (h5 : Cond.code y b L r ∈ lw_all) : GoodIn lw_all (va_wsF own idx C x y (ws_ y b L r)) := by
  refine lw_app ?_ (lw_meth h5)
  intro w hw
  simp only [List.mem_cons, List.not_mem_nil, or_false] at hw
  rcases hw with e | e | e | e
  · rw [e]; exact h1
  · rw [e]; exact h2
  · rw [e]; exact h3
  · rw [e]; exact h4
/-- a call through an interface, void, with a world -/
theorem sm_cF {b : Nat} (hat : ClassAt s C cC) (hF : CallFix p m c cc nL s args lw_all own) (hM : sm_Eff l D dB dN y bytes maxL rm (.ref b :: As) wc Ex post w1) (hG : GoodIn lw_all (va_wsF own index C x y (ws_ y bytes maxL none))) (hFw : va_Fw C x y s)
    (hd : x.cls ≠ "java/lang/invoke/MethodHandle" ∧ x.cls ≠ "java/lang/invoke/VarHandle" ∧ (parseMethodDescriptor x.desc).map (fun d => d.parameters.length) = some As.length)
    (hR : rm.frames + 1 ≤ R.frames ∧ 8 + (maxL + 11) + rm.locals ≤ R.locals)
    (hrec : ∃ cell : Cell, H[b]? = some cell ∧ cell.vm.isStatics = false ∧ s.vm.findClass C = some cell.cls)
    (hOk : sm_Ok Ex) (hEx : Ex A s s.heap) (hK : va_K D sCl (sTy dB dN) s) (hP : va_P D sCl ws H) (hD : va_D A ws) (hS : va_S A s.heap H locs) (hA : ∀ q, s.heap.size ≤ q → A q)
    (isC isR : List Nat) (hC : isC.filterMap (fun i => ws[i]?) = wc) (hC2 : isC.map (fun i => ws[i]?) = wc.map some) (hRr : isR.map (fun i => ws[i]?) = wr.map some) (hnC : va_nd isC = true) (hn : va_nd isR = true) (hdis : ∀ i ∈ isR, i ∉ isC)
    (hls : ls.size = nL) (hst : st = As.reverse ++ .ref b :: rest) (hw : (rest.map fun v => v.category).sum ≤ 8) (hdg : decode cc pc = .ok (.invokeinterface index count, 5)) (hc : cells + rm.cells ≤ R.cells ∧ slots + rm.slots ≤ R.slots)
    (kk : ∀ (u : S) (H1 : Heap) (locs1 : List Loc), post u → va_P D sCl (wr ++ w1 u) H1 → va_D A (wr ++ w1 u) → va_S A s.heap H1 locs1 → W p l e R s m args below meth c H1 locs1 (cells + rm.cells) (slots + rm.slots) Q (F0 m (pc + 5) ls rest)) : W p l e R s m args below meth c H locs cells slots Q (F0 m pc ls st) := by
  have hFc := va_free hD hS hA isC hC2
  refine va_callFv (va_runF (As := As) (rest := rest) (n := As.length) hat hF (hM H.size) (va_cwF As.length hF.2.2.2.2 hG rfl rfl rfl hFw hd hR) ⟨sm_blind hOk, hrec, sm_pre hOk hEx hK hP hD hS hA isC hC hC2 hnC⟩ rfl rfl hls hst (lv_room hw) hdg hc) hS (fun q _ h => hFc q h) hFc (fun u t H1 locs1 ht hvm hp hB hz1 hk1 hS1 => ?_)
  obtain ⟨hP1, hK1, hD1⟩ := hB
  rw [ht] at hP1
  obtain ⟨hP2, hD2⟩ := va_join hP hD isC isR hC2 hRr hn hdis hk1 hFc hP1 hD1
  exact kk u H1 locs1 hp hP2 hD2 hS1
/-- the same with an int for answer -/
theorem sm_cFi {b : Nat} {posti : Int32 → S → Prop} (hat : ClassAt s C cC) (hF : CallFix p m c cc nL s args lw_all own) (hM : ∀ sz : Nat, Met l y (ws_ y bytes maxL (some .int)) rm (va_Pc (.ref b :: As) (sm_Pre D dB dN wc sz Ex)) (va_Qi posti (sm_B D dB dN (va_A wc sz) w1) (va_A wc sz)) rm.cells rm.slots (va_A wc sz)) (hG : GoodIn lw_all (va_wsF own index C x y (ws_ y bytes maxL (some .int)))) (hFw : va_Fw C x y s)
    (hd : x.cls ≠ "java/lang/invoke/MethodHandle" ∧ x.cls ≠ "java/lang/invoke/VarHandle" ∧ (parseMethodDescriptor x.desc).map (fun d => d.parameters.length) = some As.length)
    (hR : rm.frames + 1 ≤ R.frames ∧ 8 + (maxL + 11) + rm.locals ≤ R.locals)
    (hrec : ∃ cell : Cell, H[b]? = some cell ∧ cell.vm.isStatics = false ∧ s.vm.findClass C = some cell.cls)
    (hOk : sm_Ok Ex) (hEx : Ex A s s.heap) (hK : va_K D sCl (sTy dB dN) s) (hP : va_P D sCl ws H) (hD : va_D A ws) (hS : va_S A s.heap H locs) (hA : ∀ q, s.heap.size ≤ q → A q)
    (isC isR : List Nat) (hC : isC.filterMap (fun i => ws[i]?) = wc) (hC2 : isC.map (fun i => ws[i]?) = wc.map some) (hRr : isR.map (fun i => ws[i]?) = wr.map some) (hnC : va_nd isC = true) (hn : va_nd isR = true) (hdis : ∀ i ∈ isR, i ∉ isC)
    (hls : ls.size = nL) (hst : st = As.reverse ++ .ref b :: rest) (hw : (rest.map fun v => v.category).sum ≤ 8) (hdg : decode cc pc = .ok (.invokeinterface index count, 5)) (hc : cells + rm.cells ≤ R.cells ∧ slots + rm.slots ≤ R.slots)
    (kk : ∀ (r : Int32) (u : S) (H1 : Heap) (locs1 : List Loc), posti r u → va_P D sCl (wr ++ w1 u) H1 → va_D A (wr ++ w1 u) → va_S A s.heap H1 locs1 → W p l e R s m args below meth c H1 locs1 (cells + rm.cells) (slots + rm.slots) Q (F0 m (pc + 5) ls (.int r :: rest))) : W p l e R s m args below meth c H locs cells slots Q (F0 m pc ls st) := by
  have hFc := va_free hD hS hA isC hC2
  refine va_callFi (va_runF (As := As) (rest := rest) (n := As.length) hat hF (hM H.size) (va_cwF As.length hF.2.2.2.2 hG rfl rfl rfl hFw hd hR) ⟨sm_blind hOk, hrec, sm_pre hOk hEx hK hP hD hS hA isC hC hC2 hnC⟩ rfl rfl hls hst (lv_room hw) hdg hc) hS (fun q _ h => hFc q h) hFc (fun r u t H1 locs1 ht hvm hp hB hz1 hk1 hS1 => ?_)
  obtain ⟨hP1, hK1, hD1⟩ := hB
  rw [ht] at hP1
  obtain ⟨hP2, hD2⟩ := va_join hP hD isC isR hC2 hRr hn hdis hk1 hFc hP1 hD1
  exact kk r u H1 locs1 hp hP2 hD2 hS1
end SMF
def sm_xI : MethodName := ⟨"BlockCipher", "init", "(ZLCipherParameters;)V"⟩
def sm_xP : MethodName := ⟨"BlockCipher", "processBlock", "([BI[BI)I"⟩
theorem hd_xI : sm_xI.cls ≠ "java/lang/invoke/MethodHandle" ∧ sm_xI.cls ≠ "java/lang/invoke/VarHandle" ∧ (parseMethodDescriptor sm_xI.desc).map (fun d => d.parameters.length) = some 2 := by decide +kernel
theorem hd_xP : sm_xP.cls ≠ "java/lang/invoke/MethodHandle" ∧ sm_xP.cls ≠ "java/lang/invoke/VarHandle" ∧ (parseMethodDescriptor sm_xP.desc).map (fun d => d.parameters.length) = some 4 := by decide +kernel
/-- what a run takes as given: the tables, the interface's two methods -/
def sm_Rx (A : Nat → Prop) (U : State) (H : Heap) : Prop := sm_St A U H ∧ va_Fw RX2 sm_xI yX2_init_2 U ∧ va_Fw RX2 sm_xP yX2_processBlock U
theorem sm_Rx_ok : sm_Ok sm_Rx := ⟨fun A s U H hv h => ⟨sm_St_ok.1 A s U H hv h.1, va_Fw.moved ⟨hd_xI.1, hd_xI.2.1⟩ hv h.2.1, va_Fw.moved ⟨hd_xP.1, hd_xP.2.1⟩ hv h.2.2⟩, fun A U H H1 h hq => ⟨sm_St_ok.2.1 A U H H1 h.1 hq, h.2.1, h.2.2⟩, fun A B U H h hq => ⟨sm_St_ok.2.2 A B U H h.1 hq, h.2.1, h.2.2⟩⟩
theorem sm_cp_fit (f : Nat → Int32) : ∀ j, j < 16 → fits .byte (.int (sm_cp f (fun _ => 0) 16 j)) = true := by
  intro j hj
  unfold sm_cp
  rw [if_pos hj]
  exact pk_fb _
/-- the key's copies leave the round keys as they are -/
theorem sm_rk_cp (f : Nat → Int32) (z : Int32) (j : Nat) : sm_rk (va_cpy (sm_cp f (fun _ => 0) 16) (fun _ => 0) 0 0 16) z j = sm_rk f z j := by
  unfold sm_rk
  apply sm_kq_congr
  intro i hi
  unfold va_cpy sm_cp
  rw [if_pos (by omega), if_pos (by omega), sm_b255]
  congr 2
  omega
theorem sm_out_eq (f g h : Nat → Int32) (z : Int32) (r : Nat → Int32) (hr : ∀ j, j < 32 → r j = sm_rk (va_cpy (sm_cp f (fun _ => 0) 16) (fun _ => 0) 0 0 16) z j) : sm_pI h 0 (sm_xq g r 35) (sm_xq g r 34) (sm_xq g r 33) (sm_xq g r 32) 16 = sm_out f g h z := by
  have e : ∀ n, n < 36 → sm_xq g r n = sm_xq g (sm_rk f z) n := sm_xq_congr g (fun j hj => (hr j hj).trans (sm_rk_cp f z j))
  rw [e 35 (by decide), e 34 (by decide), e 33 (by decide), e 32 (by decide)]
  rfl
theorem hdI_X0_init : yX0_init.cls ≠ "java/lang/invoke/MethodHandle" ∧ yX0_init.cls ≠ "java/lang/invoke/VarHandle" ∧ (parseMethodDescriptor yX0_init.desc).map (fun d => d.parameters.length) = some 0 := by decide +kernel
theorem hdS_X0_word : yX0_word.cls ≠ "java/lang/invoke/MethodHandle" ∧ yX0_word.cls ≠ "java/lang/invoke/VarHandle" ∧ (parseMethodDescriptor yX0_word.desc).map (fun d => d.parameters.length) = some 3 := by decide +kernel
theorem hdS_X0_size : yX0_size.cls ≠ "java/lang/invoke/MethodHandle" ∧ yX0_size.cls ≠ "java/lang/invoke/VarHandle" ∧ (parseMethodDescriptor yX0_size.desc).map (fun d => d.parameters.length) = some 1 := by decide +kernel
theorem hdV_X0_run : yX0_run.cls = RX0 ∧ yX0_run.cls ≠ "java/lang/invoke/MethodHandle" ∧ yX0_run.cls ≠ "java/lang/invoke/VarHandle" ∧ (parseMethodDescriptor yX0_run.desc).map (fun d => d.parameters.length) = some 2 := by decide +kernel
theorem hdV_X0_key : yX0_key.cls = RX0 ∧ yX0_key.cls ≠ "java/lang/invoke/MethodHandle" ∧ yX0_key.cls ≠ "java/lang/invoke/VarHandle" ∧ (parseMethodDescriptor yX0_key.desc).map (fun d => d.parameters.length) = some 5 := by decide +kernel
theorem hdV_X0_block : yX0_block.cls = RX0 ∧ yX0_block.cls ≠ "java/lang/invoke/MethodHandle" ∧ yX0_block.cls ≠ "java/lang/invoke/VarHandle" ∧ (parseMethodDescriptor yX0_block.desc).map (fun d => d.parameters.length) = some 4 := by decide +kernel
theorem hdV_X0_lock : yX0_lock.cls = RX0 ∧ yX0_lock.cls ≠ "java/lang/invoke/MethodHandle" ∧ yX0_lock.cls ≠ "java/lang/invoke/VarHandle" ∧ (parseMethodDescriptor yX0_lock.desc).map (fun d => d.parameters.length) = some 1 := by decide +kernel
theorem hdV_X0_open : yX0_open.cls = RX0 ∧ yX0_open.cls ≠ "java/lang/invoke/MethodHandle" ∧ yX0_open.cls ≠ "java/lang/invoke/VarHandle" ∧ (parseMethodDescriptor yX0_open.desc).map (fun d => d.parameters.length) = some 1 := by decide +kernel
theorem hdV_X0_again : yX0_again.cls = RX0 ∧ yX0_again.cls ≠ "java/lang/invoke/MethodHandle" ∧ yX0_again.cls ≠ "java/lang/invoke/VarHandle" ∧ (parseMethodDescriptor yX0_again.desc).map (fun d => d.parameters.length) = some 0 := by decide +kernel
theorem hdV_X0_out : yX0_out.cls = RX0 ∧ yX0_out.cls ≠ "java/lang/invoke/MethodHandle" ∧ yX0_out.cls ≠ "java/lang/invoke/VarHandle" ∧ (parseMethodDescriptor yX0_out.desc).map (fun d => d.parameters.length) = some 1 := by decide +kernel
set_option maxHeartbeats 4000000 in
set_option maxRecDepth 100000 in
/-- SmFourDesk() -/
theorem met_d0 (l : Launch) (D : va_G) (dB dN : ClassId) (h0 : Nat) : sm_Eff l D dB dN yX0_init cX0_init 1 ({ frames := 1, cells := 3, slots := 64, locals := 20 } : Room) [.ref h0] [(h0, .inr (0, [.null, .null, .null]))] sm_no (fun _ : Nat × Nat × Nat => True) (fun u : Nat × Nat × Nat => [(h0, .inr (0, [.ref u.1, .ref u.2.1, .ref u.2.2])), (u.1, .inl (dB, 32, .inl (fun _ => 0))), (u.2.1, .inl (dB, 16, .inl (fun _ => 0))), (u.2.2, .inl (dB, 16, .inl (fun _ => 0)))]) := by
  intro sz
  refine sm_met (by decide) (Nat.le_of_ble_eq_true rfl) (fun p e s m below meth c ls hx hb hr hlk hml hown hin hts hB hl => ?_)
  have hl : lv_has ls 1 [(0, .ref h0)] := hl
  have hF : CallFix p m c cX0_init 1 s _ lw_all RX0 := ⟨hx, hb, hml, hown, hts⟩
  obtain ⟨hsz, hP, hK, hD0, hEx⟩ := hB
  subst hsz
  have hD := hD0.self (sz := s.heap.size)
  generalize hAe : va_A [(h0, .inr (0, [.null, .null, .null]))] s.heap.size = A at hD hEx ⊢
  have hA : ∀ q : Nat, s.heap.size ≤ q → A q := fun q h => by rw [← hAe]; exact Or.inr h
  have hS : va_S A s.heap s.heap [] := va_S.rf
  refine lv_aload_n hx hb dX0_init_0 rfl (lv_at hl 0 rfl) ?_
  refine W.objInit hx hb hown (hts _ q36) (hts _ q37) (hts _ q38) rfl (by rw [hml]; exact hl.1) rfl dX0_init_1 (Nat.le_of_ble_eq_true rfl) (Nat.le_of_ble_eq_true rfl) ?_
  refine W.eq (g2 := F0 m 4 ls []) rfl ?_
  refine lv_aload_n hx hb dX0_init_4 rfl (lv_at hl 0 rfl) ?_
  refine lv_bipush (v := (32 : Int32)) hx hb dX0_init_5 (by decide) ?_
  refine sm_newB (N := 32) hx hb hts hK hP hD hS hA rfl (by decide) (Nat.le_of_ble_eq_true rfl) (Nat.le_of_ble_eq_true rfl) dX0_init_7 (fun q1 H hP hD hS => ?_)
  have hP : va_P D sCl [(h0, .inr (0, [.null, .null, .null])), (q1, .inl (dB, 32, .inl (fun _ => 0)))] H := hP
  have hD : va_D A [(h0, .inr (0, [.null, .null, .null])), (q1, .inl (dB, 32, .inl (fun _ => 0)))] := hD
  refine va_putF (D := D) (ci := 0) (v := .ref q1) (ty := .array .byte) (C := RX0) (T := TX0) (N := 3) hx hb hts in_X0 tyX0 tyX0_ok nmX0 hown hK hP hD hS 0 rfl rfl 0 (by decide) (hts _ q39) (fun _ h9 => h9) rfl hin rfl (by decide +kernel) rfl rfl (Nat.le_of_ble_eq_true rfl) dX0_init_9 (fun H locs hP hD hS => ?_)
  have hP : va_P D sCl [(h0, .inr (0, [.ref q1, .null, .null])), (q1, .inl (dB, 32, .inl (fun _ => 0)))] H := hP
  have hD : va_D A [(h0, .inr (0, [.ref q1, .null, .null])), (q1, .inl (dB, 32, .inl (fun _ => 0)))] := hD
  refine lv_aload_n hx hb dX0_init_12 rfl (lv_at hl 0 rfl) ?_
  refine lv_bipush (v := (16 : Int32)) hx hb dX0_init_13 (by decide) ?_
  refine sm_newB (N := 16) hx hb hts hK hP hD hS hA rfl (by decide) (Nat.le_of_ble_eq_true rfl) (Nat.le_of_ble_eq_true rfl) dX0_init_15 (fun q2 H hP hD hS => ?_)
  have hP : va_P D sCl [(h0, .inr (0, [.ref q1, .null, .null])), (q1, .inl (dB, 32, .inl (fun _ => 0))), (q2, .inl (dB, 16, .inl (fun _ => 0)))] H := hP
  have hD : va_D A [(h0, .inr (0, [.ref q1, .null, .null])), (q1, .inl (dB, 32, .inl (fun _ => 0))), (q2, .inl (dB, 16, .inl (fun _ => 0)))] := hD
  refine va_putF (D := D) (ci := 0) (v := .ref q2) (ty := .array .byte) (C := RX0) (T := TX0) (N := 3) hx hb hts in_X0 tyX0 tyX0_ok nmX0 hown hK hP hD hS 0 rfl rfl 1 (by decide) (hts _ q40) (fun _ h9 => h9) rfl hin rfl (by decide +kernel) rfl rfl (Nat.le_of_ble_eq_true rfl) dX0_init_17 (fun H locs hP hD hS => ?_)
  have hP : va_P D sCl [(h0, .inr (0, [.ref q1, .ref q2, .null])), (q1, .inl (dB, 32, .inl (fun _ => 0))), (q2, .inl (dB, 16, .inl (fun _ => 0)))] H := hP
  have hD : va_D A [(h0, .inr (0, [.ref q1, .ref q2, .null])), (q1, .inl (dB, 32, .inl (fun _ => 0))), (q2, .inl (dB, 16, .inl (fun _ => 0)))] := hD
  refine lv_aload_n hx hb dX0_init_20 rfl (lv_at hl 0 rfl) ?_
  refine lv_bipush (v := (16 : Int32)) hx hb dX0_init_21 (by decide) ?_
  refine sm_newB (N := 16) hx hb hts hK hP hD hS hA rfl (by decide) (Nat.le_of_ble_eq_true rfl) (Nat.le_of_ble_eq_true rfl) dX0_init_23 (fun q3 H hP hD hS => ?_)
  have hP : va_P D sCl [(h0, .inr (0, [.ref q1, .ref q2, .null])), (q1, .inl (dB, 32, .inl (fun _ => 0))), (q2, .inl (dB, 16, .inl (fun _ => 0))), (q3, .inl (dB, 16, .inl (fun _ => 0)))] H := hP
  have hD : va_D A [(h0, .inr (0, [.ref q1, .ref q2, .null])), (q1, .inl (dB, 32, .inl (fun _ => 0))), (q2, .inl (dB, 16, .inl (fun _ => 0))), (q3, .inl (dB, 16, .inl (fun _ => 0)))] := hD
  refine va_putF (D := D) (ci := 0) (v := .ref q3) (ty := .array .byte) (C := RX0) (T := TX0) (N := 3) hx hb hts in_X0 tyX0 tyX0_ok nmX0 hown hK hP hD hS 0 rfl rfl 2 (by decide) (hts _ q41) (fun _ h9 => h9) rfl hin rfl (by decide +kernel) rfl rfl (Nat.le_of_ble_eq_true rfl) dX0_init_25 (fun H locs hP hD hS => ?_)
  have hP : va_P D sCl [(h0, .inr (0, [.ref q1, .ref q2, .ref q3])), (q1, .inl (dB, 32, .inl (fun _ => 0))), (q2, .inl (dB, 16, .inl (fun _ => 0))), (q3, .inl (dB, 16, .inl (fun _ => 0)))] H := hP
  have hD : va_D A [(h0, .inr (0, [.ref q1, .ref q2, .ref q3])), (q1, .inl (dB, 32, .inl (fun _ => 0))), (q2, .inl (dB, 16, .inl (fun _ => 0))), (q3, .inl (dB, 16, .inl (fun _ => 0)))] := hD
  exact sm_vr (post := (fun _ : Nat × Nat × Nat => True)) (w1 := (fun u : Nat × Nat × Nat => [(h0, .inr (0, [.ref u.1, .ref u.2.1, .ref u.2.2])), (u.1, .inl (dB, 32, .inl (fun _ => 0))), (u.2.1, .inl (dB, 16, .inl (fun _ => 0))), (u.2.2, .inl (dB, 16, .inl (fun _ => 0)))])) (u := (q1, q2, q3)) hx hb hr hlk trivial hP hK hD hS (Nat.le_refl _) (Nat.le_refl _) dX0_init_28
set_option maxHeartbeats 4000000 in
set_option maxRecDepth 100000 in
/-- word(to, at, w) -/
theorem met_dw (l : Launch) (D : va_G) (dB dN : ClassId) (a n : Nat) (f : Nat → Int32) (o : Nat) (x : Int32) (ho : o + 3 < n) (hn : n < 2 ^ 31) : sm_Eff l D dB dN yX0_word cX0_word 3 ({ frames := 0, cells := 0, slots := 0, locals := 0 } : Room) [.ref a, .int (nI o), .int x] [(a, .inl (dB, n, .inl f))] sm_no (fun _ : Unit => True) (fun _ : Unit => [(a, .inl (dB, n, .inl (sm_p4 f o x)))]) := by
  intro sz
  refine sm_met (by decide) (Nat.le_of_ble_eq_true rfl) (fun p e s m below meth c ls hx hb hr hlk hml hown hin hts hB hl => ?_)
  have hl : lv_has ls 3 [(0, .ref a), (1, .int (nI o)), (2, .int x)] := hl
  have hF : CallFix p m c cX0_word 3 s _ lw_all RX0 := ⟨hx, hb, hml, hown, hts⟩
  obtain ⟨hsz, hP, hK, hD0, hEx⟩ := hB
  subst hsz
  have hD := hD0.self (sz := s.heap.size)
  generalize hAe : va_A [(a, .inl (dB, n, .inl f))] s.heap.size = A at hD hEx ⊢
  have hA : ∀ q : Nat, s.heap.size ≤ q → A q := fun q h => by rw [← hAe]; exact Or.inr h
  have hS : va_S A s.heap s.heap [] := va_S.rf
  refine lv_aload_n hx hb dX0_word_0 rfl (lv_at hl 0 rfl) ?_
  refine lv_iload_n hx hb dX0_word_1 rfl (lv_at hl 1 rfl) ?_
  refine lv_iload_n hx hb dX0_word_2 rfl (lv_at hl 2 rfl) ?_
  refine lv_bipush (v := (24 : Int32)) hx hb dX0_word_3 (by decide) ?_
  refine lv_ishr hx hb dX0_word_5 ?_
  refine lv_i2b hx hb dX0_word_6 rfl ?_
  refine sm_bast (x' := (sm_by x 0)) hx hb hK hP hD hS 0 rfl o rfl (by omega) hn ((pk_vb _).trans (sm_by0 x)) dX0_word_7 (fun H locs hP hD hS => ?_)
  have hP : va_P D sCl [(a, .inl (dB, n, .inl (upd f o (sm_by x 0))))] H := hP
  have hD : va_D A [(a, .inl (dB, n, .inl (upd f o (sm_by x 0))))] := hD
  refine lv_aload_n hx hb dX0_word_8 rfl (lv_at hl 0 rfl) ?_
  refine lv_iload_n hx hb dX0_word_9 rfl (lv_at hl 1 rfl) ?_
  refine lv_iconst (v := (1 : Int32)) hx hb dX0_word_10 (by decide) ?_
  refine lv_iadd hx hb dX0_word_11 ?_
  refine lv_iload_n hx hb dX0_word_12 rfl (lv_at hl 2 rfl) ?_
  refine lv_bipush (v := (16 : Int32)) hx hb dX0_word_13 (by decide) ?_
  refine lv_ishr hx hb dX0_word_15 ?_
  refine lv_i2b hx hb dX0_word_16 rfl ?_
  refine sm_bast (x' := (sm_by x 1)) hx hb hK hP hD hS 0 rfl (o + 1) (nI_add o 1) (by omega) hn ((pk_vb _).trans (sm_by1 x)) dX0_word_17 (fun H locs hP hD hS => ?_)
  have hP : va_P D sCl [(a, .inl (dB, n, .inl (upd (upd f o (sm_by x 0)) (o + 1) (sm_by x 1))))] H := hP
  have hD : va_D A [(a, .inl (dB, n, .inl (upd (upd f o (sm_by x 0)) (o + 1) (sm_by x 1))))] := hD
  refine lv_aload_n hx hb dX0_word_18 rfl (lv_at hl 0 rfl) ?_
  refine lv_iload_n hx hb dX0_word_19 rfl (lv_at hl 1 rfl) ?_
  refine lv_iconst (v := (2 : Int32)) hx hb dX0_word_20 (by decide) ?_
  refine lv_iadd hx hb dX0_word_21 ?_
  refine lv_iload_n hx hb dX0_word_22 rfl (lv_at hl 2 rfl) ?_
  refine lv_bipush (v := (8 : Int32)) hx hb dX0_word_23 (by decide) ?_
  refine lv_ishr hx hb dX0_word_25 ?_
  refine lv_i2b hx hb dX0_word_26 rfl ?_
  refine sm_bast (x' := (sm_by x 2)) hx hb hK hP hD hS 0 rfl (o + 2) (nI_add o 2) (by omega) hn ((pk_vb _).trans (sm_by2 x)) dX0_word_27 (fun H locs hP hD hS => ?_)
  have hP : va_P D sCl [(a, .inl (dB, n, .inl (upd (upd (upd f o (sm_by x 0)) (o + 1) (sm_by x 1)) (o + 2) (sm_by x 2))))] H := hP
  have hD : va_D A [(a, .inl (dB, n, .inl (upd (upd (upd f o (sm_by x 0)) (o + 1) (sm_by x 1)) (o + 2) (sm_by x 2))))] := hD
  refine lv_aload_n hx hb dX0_word_28 rfl (lv_at hl 0 rfl) ?_
  refine lv_iload_n hx hb dX0_word_29 rfl (lv_at hl 1 rfl) ?_
  refine lv_iconst (v := (3 : Int32)) hx hb dX0_word_30 (by decide) ?_
  refine lv_iadd hx hb dX0_word_31 ?_
  refine lv_iload_n hx hb dX0_word_32 rfl (lv_at hl 2 rfl) ?_
  refine lv_i2b hx hb dX0_word_33 rfl ?_
  refine sm_bast (x' := (sm_by x 3)) hx hb hK hP hD hS 0 rfl (o + 3) (nI_add o 3) (by omega) hn ((pk_vb _).trans (sm_by3 x)) dX0_word_34 (fun H locs hP hD hS => ?_)
  have hP : va_P D sCl [(a, .inl (dB, n, .inl (upd (upd (upd (upd f o (sm_by x 0)) (o + 1) (sm_by x 1)) (o + 2) (sm_by x 2)) (o + 3) (sm_by x 3))))] H := hP
  have hD : va_D A [(a, .inl (dB, n, .inl (upd (upd (upd (upd f o (sm_by x 0)) (o + 1) (sm_by x 1)) (o + 2) (sm_by x 2)) (o + 3) (sm_by x 3))))] := hD
  rw [sm_upd4] at hP hD
  exact sm_vr (post := (fun _ : Unit => True)) (w1 := (fun _ : Unit => [(a, .inl (dB, n, .inl (sm_p4 f o x)))])) (u := ()) hx hb hr hlk trivial hP hK hD hS (Nat.le_refl _) (Nat.le_refl _) dX0_word_35
theorem sm_top2 {p : Program} {l : Launch} {e : Env} {R : Room} {s : State} {m : MethodId} {args : Array Value} {below : List Frame} {meth : Method} {c : Code} {H : Heap} {locs : List Loc} {cells slots : Nat} {Q : State → Prop} {pc : Nat} {ls : Array Slot} {rest : List Value} {v : Value} {x y : Int32} (h : x = y) (k : W p l e R s m args below meth c H locs cells slots Q (F0 m pc ls (v :: .int y :: rest))) : W p l e R s m args below meth c H locs cells slots Q (F0 m pc ls (v :: .int x :: rest)) := by
  subst h
  exact k
set_option maxHeartbeats 4000000 in
set_option maxRecDepth 100000 in
/-- key(half, a, b, c, d) -/
theorem met_dk (l : Launch) (D : va_G) (dB dN : ClassId) (h0 a1 a2 a3 : Nat) (f g h : Nat → Int32) (q9 x1 x2 x3 x4 : Int32) : sm_Eff l D dB dN yX0_key cX0_key 7 ({ frames := 1, cells := 0, slots := 0, locals := 22 } : Room) [.ref h0, .int q9, .int x1, .int x2, .int x3, .int x4] [(h0, .inr (0, [.ref a1, .ref a2, .ref a3])), (a1, .inl (dB, 32, .inl f)), (a2, .inl (dB, 16, .inl g)), (a3, .inl (dB, 16, .inl h))] sm_no (fun _ : Unit => True) (fun _ : Unit => [(h0, .inr (0, [.ref a1, .ref a2, .ref a3])), (a1, .inl (dB, 32, .inl (sm_pI f (q9.toBitVec.toNat % 2 * 16) x1 x2 x3 x4 16))), (a2, .inl (dB, 16, .inl g)), (a3, .inl (dB, 16, .inl h))]) := by
  intro sz
  refine sm_met (by decide) (Nat.le_of_ble_eq_true rfl) (fun p e s m below meth c ls hx hb hr hlk hml hown hin hts hB hl => ?_)
  have hl : lv_has ls 7 [(0, .ref h0), (1, .int q9), (2, .int x1), (3, .int x2), (4, .int x3), (5, .int x4)] := hl
  have hF : CallFix p m c cX0_key 7 s _ lw_all RX0 := ⟨hx, hb, hml, hown, hts⟩
  obtain ⟨hsz, hP, hK, hD0, hEx⟩ := hB
  subst hsz
  have hD := hD0.self (sz := s.heap.size)
  generalize hAe : va_A [(h0, .inr (0, [.ref a1, .ref a2, .ref a3])), (a1, .inl (dB, 32, .inl f)), (a2, .inl (dB, 16, .inl g)), (a3, .inl (dB, 16, .inl h))] s.heap.size = A at hD hEx ⊢
  have hA : ∀ q : Nat, s.heap.size ≤ q → A q := fun q h => by rw [← hAe]; exact Or.inr h
  have hS : va_S A s.heap s.heap [] := va_S.rf
  obtain ⟨o, ho⟩ : ∃ o : Nat, o = q9.toBitVec.toNat % 2 * 16 := ⟨_, rfl⟩
  have h16 : o ≤ 16 := by omega
  refine lv_iload_n hx hb dX0_key_0 rfl (lv_at hl 1 rfl) ?_
  refine lv_iconst (v := (1 : Int32)) hx hb dX0_key_1 (by decide) ?_
  refine lv_iand hx hb dX0_key_2 ?_
  refine sm_top (y := nI (q9.toBitVec.toNat % 2)) (pk_and q9 1 (by decide)) ?_
  refine lv_iconst (v := (4 : Int32)) hx hb dX0_key_3 (by decide) ?_
  refine lv_ishl hx hb dX0_key_4 ?_
  refine sm_top (y := nI o) (by rw [ho]; exact pk_shlN (n := q9.toBitVec.toNat % 2) ((4 : Int32) &&& 31) 4 (by decide) (by omega)) ?_
  refine lv_istore (lv' := [(6, .int (nI o)), (0, .ref h0), (1, .int q9), (2, .int x1), (3, .int x2), (4, .int x3), (5, .int x4)]) hx hb dX0_key_5 hl (by decide) rfl (fun ls hl => ?_)
  refine lv_aload_n hx hb dX0_key_7 rfl (lv_at hl 1 rfl) ?_
  refine va_get (D := D) (ci := 0) (C := RX0) (T := TX0) (N := 3) hx hb hts in_X0 hown hK hP 0 rfl rfl 0 (by decide) (hts _ q39) (fun _ h9 => h9) rfl dX0_key_8 ?_
  refine lv_iload hx hb dX0_key_11 (lv_at hl 0 rfl) ?_
  refine lv_iload_n hx hb dX0_key_13 rfl (lv_at hl 3 rfl) ?_
  refine sm_cS (wr := [(h0, .inr (0, [.ref a1, .ref a2, .ref a3])), (a2, .inl (dB, 16, .inl g)), (a3, .inl (dB, 16, .inl h))]) (rest := []) hF (met_dw l D dB dN a1 32 f o x1 (by omega) (by decide)) (lw_S q54 q55 q17 q56) hdS_X0_word ⟨Nat.le_of_ble_eq_true rfl, Nat.le_of_ble_eq_true rfl⟩ sm_no_ok trivial hK hP hD hS hA [1] [0, 2, 3] rfl rfl rfl (by decide) (by decide) (by decide) hl.1 rfl (Nat.le_of_ble_eq_true rfl) dX0_key_14 ⟨Nat.le_of_ble_eq_true rfl, Nat.le_of_ble_eq_true rfl⟩ (fun _ H locs _ hP hD hS => ?_)
  have hP : va_P D sCl [(h0, .inr (0, [.ref a1, .ref a2, .ref a3])), (a2, .inl (dB, 16, .inl g)), (a3, .inl (dB, 16, .inl h)), (a1, .inl (dB, 32, .inl (sm_p4 f o x1)))] H := hP
  have hD : va_D A [(h0, .inr (0, [.ref a1, .ref a2, .ref a3])), (a2, .inl (dB, 16, .inl g)), (a3, .inl (dB, 16, .inl h)), (a1, .inl (dB, 32, .inl (sm_p4 f o x1)))] := hD
  have hP : va_P D sCl [(h0, .inr (0, [.ref a1, .ref a2, .ref a3])), (a1, .inl (dB, 32, .inl (sm_p4 f o x1))), (a2, .inl (dB, 16, .inl g)), (a3, .inl (dB, 16, .inl h))] H := hP.sub [0, 3, 1, 2] rfl
  have hD : va_D A [(h0, .inr (0, [.ref a1, .ref a2, .ref a3])), (a1, .inl (dB, 32, .inl (sm_p4 f o x1))), (a2, .inl (dB, 16, .inl g)), (a3, .inl (dB, 16, .inl h))] := hD.sub [0, 3, 1, 2] (by decide) rfl
  refine lv_aload_n hx hb dX0_key_17 rfl (lv_at hl 1 rfl) ?_
  refine va_get (D := D) (ci := 0) (C := RX0) (T := TX0) (N := 3) hx hb hts in_X0 hown hK hP 0 rfl rfl 0 (by decide) (hts _ q39) (fun _ h9 => h9) rfl dX0_key_18 ?_
  refine lv_iload hx hb dX0_key_21 (lv_at hl 0 rfl) ?_
  refine lv_iconst (v := (4 : Int32)) hx hb dX0_key_23 (by decide) ?_
  refine lv_iadd hx hb dX0_key_24 ?_
  refine lv_iload_n hx hb dX0_key_25 rfl (lv_at hl 4 rfl) ?_
  refine sm_top2 (y := nI (o + 4)) (nI_add o 4) ?_
  refine sm_cS (wr := [(h0, .inr (0, [.ref a1, .ref a2, .ref a3])), (a2, .inl (dB, 16, .inl g)), (a3, .inl (dB, 16, .inl h))]) (rest := []) hF (met_dw l D dB dN a1 32 (sm_p4 f o x1) (o + 4) x2 (by omega) (by decide)) (lw_S q54 q55 q17 q56) hdS_X0_word ⟨Nat.le_of_ble_eq_true rfl, Nat.le_of_ble_eq_true rfl⟩ sm_no_ok trivial hK hP hD hS hA [1] [0, 2, 3] rfl rfl rfl (by decide) (by decide) (by decide) hl.1 rfl (Nat.le_of_ble_eq_true rfl) dX0_key_26 ⟨Nat.le_of_ble_eq_true rfl, Nat.le_of_ble_eq_true rfl⟩ (fun _ H locs _ hP hD hS => ?_)
  have hP : va_P D sCl [(h0, .inr (0, [.ref a1, .ref a2, .ref a3])), (a2, .inl (dB, 16, .inl g)), (a3, .inl (dB, 16, .inl h)), (a1, .inl (dB, 32, .inl (sm_p4 (sm_p4 f o x1) (o + 4) x2)))] H := hP
  have hD : va_D A [(h0, .inr (0, [.ref a1, .ref a2, .ref a3])), (a2, .inl (dB, 16, .inl g)), (a3, .inl (dB, 16, .inl h)), (a1, .inl (dB, 32, .inl (sm_p4 (sm_p4 f o x1) (o + 4) x2)))] := hD
  have hP : va_P D sCl [(h0, .inr (0, [.ref a1, .ref a2, .ref a3])), (a1, .inl (dB, 32, .inl (sm_p4 (sm_p4 f o x1) (o + 4) x2))), (a2, .inl (dB, 16, .inl g)), (a3, .inl (dB, 16, .inl h))] H := hP.sub [0, 3, 1, 2] rfl
  have hD : va_D A [(h0, .inr (0, [.ref a1, .ref a2, .ref a3])), (a1, .inl (dB, 32, .inl (sm_p4 (sm_p4 f o x1) (o + 4) x2))), (a2, .inl (dB, 16, .inl g)), (a3, .inl (dB, 16, .inl h))] := hD.sub [0, 3, 1, 2] (by decide) rfl
  refine lv_aload_n hx hb dX0_key_29 rfl (lv_at hl 1 rfl) ?_
  refine va_get (D := D) (ci := 0) (C := RX0) (T := TX0) (N := 3) hx hb hts in_X0 hown hK hP 0 rfl rfl 0 (by decide) (hts _ q39) (fun _ h9 => h9) rfl dX0_key_30 ?_
  refine lv_iload hx hb dX0_key_33 (lv_at hl 0 rfl) ?_
  refine lv_bipush (v := (8 : Int32)) hx hb dX0_key_35 (by decide) ?_
  refine lv_iadd hx hb dX0_key_37 ?_
  refine lv_iload hx hb dX0_key_38 (lv_at hl 5 rfl) ?_
  refine sm_top2 (y := nI (o + 8)) (nI_add o 8) ?_
  refine sm_cS (wr := [(h0, .inr (0, [.ref a1, .ref a2, .ref a3])), (a2, .inl (dB, 16, .inl g)), (a3, .inl (dB, 16, .inl h))]) (rest := []) hF (met_dw l D dB dN a1 32 (sm_p4 (sm_p4 f o x1) (o + 4) x2) (o + 8) x3 (by omega) (by decide)) (lw_S q54 q55 q17 q56) hdS_X0_word ⟨Nat.le_of_ble_eq_true rfl, Nat.le_of_ble_eq_true rfl⟩ sm_no_ok trivial hK hP hD hS hA [1] [0, 2, 3] rfl rfl rfl (by decide) (by decide) (by decide) hl.1 rfl (Nat.le_of_ble_eq_true rfl) dX0_key_40 ⟨Nat.le_of_ble_eq_true rfl, Nat.le_of_ble_eq_true rfl⟩ (fun _ H locs _ hP hD hS => ?_)
  have hP : va_P D sCl [(h0, .inr (0, [.ref a1, .ref a2, .ref a3])), (a2, .inl (dB, 16, .inl g)), (a3, .inl (dB, 16, .inl h)), (a1, .inl (dB, 32, .inl (sm_p4 (sm_p4 (sm_p4 f o x1) (o + 4) x2) (o + 8) x3)))] H := hP
  have hD : va_D A [(h0, .inr (0, [.ref a1, .ref a2, .ref a3])), (a2, .inl (dB, 16, .inl g)), (a3, .inl (dB, 16, .inl h)), (a1, .inl (dB, 32, .inl (sm_p4 (sm_p4 (sm_p4 f o x1) (o + 4) x2) (o + 8) x3)))] := hD
  have hP : va_P D sCl [(h0, .inr (0, [.ref a1, .ref a2, .ref a3])), (a1, .inl (dB, 32, .inl (sm_p4 (sm_p4 (sm_p4 f o x1) (o + 4) x2) (o + 8) x3))), (a2, .inl (dB, 16, .inl g)), (a3, .inl (dB, 16, .inl h))] H := hP.sub [0, 3, 1, 2] rfl
  have hD : va_D A [(h0, .inr (0, [.ref a1, .ref a2, .ref a3])), (a1, .inl (dB, 32, .inl (sm_p4 (sm_p4 (sm_p4 f o x1) (o + 4) x2) (o + 8) x3))), (a2, .inl (dB, 16, .inl g)), (a3, .inl (dB, 16, .inl h))] := hD.sub [0, 3, 1, 2] (by decide) rfl
  refine lv_aload_n hx hb dX0_key_43 rfl (lv_at hl 1 rfl) ?_
  refine va_get (D := D) (ci := 0) (C := RX0) (T := TX0) (N := 3) hx hb hts in_X0 hown hK hP 0 rfl rfl 0 (by decide) (hts _ q39) (fun _ h9 => h9) rfl dX0_key_44 ?_
  refine lv_iload hx hb dX0_key_47 (lv_at hl 0 rfl) ?_
  refine lv_bipush (v := (12 : Int32)) hx hb dX0_key_49 (by decide) ?_
  refine lv_iadd hx hb dX0_key_51 ?_
  refine lv_iload hx hb dX0_key_52 (lv_at hl 6 rfl) ?_
  refine sm_top2 (y := nI (o + 12)) (nI_add o 12) ?_
  refine sm_cS (wr := [(h0, .inr (0, [.ref a1, .ref a2, .ref a3])), (a2, .inl (dB, 16, .inl g)), (a3, .inl (dB, 16, .inl h))]) (rest := []) hF (met_dw l D dB dN a1 32 (sm_p4 (sm_p4 (sm_p4 f o x1) (o + 4) x2) (o + 8) x3) (o + 12) x4 (by omega) (by decide)) (lw_S q54 q55 q17 q56) hdS_X0_word ⟨Nat.le_of_ble_eq_true rfl, Nat.le_of_ble_eq_true rfl⟩ sm_no_ok trivial hK hP hD hS hA [1] [0, 2, 3] rfl rfl rfl (by decide) (by decide) (by decide) hl.1 rfl (Nat.le_of_ble_eq_true rfl) dX0_key_54 ⟨Nat.le_of_ble_eq_true rfl, Nat.le_of_ble_eq_true rfl⟩ (fun _ H locs _ hP hD hS => ?_)
  have hP : va_P D sCl [(h0, .inr (0, [.ref a1, .ref a2, .ref a3])), (a2, .inl (dB, 16, .inl g)), (a3, .inl (dB, 16, .inl h)), (a1, .inl (dB, 32, .inl (sm_p4 (sm_p4 (sm_p4 (sm_p4 f o x1) (o + 4) x2) (o + 8) x3) (o + 12) x4)))] H := hP
  have hD : va_D A [(h0, .inr (0, [.ref a1, .ref a2, .ref a3])), (a2, .inl (dB, 16, .inl g)), (a3, .inl (dB, 16, .inl h)), (a1, .inl (dB, 32, .inl (sm_p4 (sm_p4 (sm_p4 (sm_p4 f o x1) (o + 4) x2) (o + 8) x3) (o + 12) x4)))] := hD
  have hP : va_P D sCl [(h0, .inr (0, [.ref a1, .ref a2, .ref a3])), (a1, .inl (dB, 32, .inl (sm_p4 (sm_p4 (sm_p4 (sm_p4 f o x1) (o + 4) x2) (o + 8) x3) (o + 12) x4))), (a2, .inl (dB, 16, .inl g)), (a3, .inl (dB, 16, .inl h))] H := hP.sub [0, 3, 1, 2] rfl
  have hD : va_D A [(h0, .inr (0, [.ref a1, .ref a2, .ref a3])), (a1, .inl (dB, 32, .inl (sm_p4 (sm_p4 (sm_p4 (sm_p4 f o x1) (o + 4) x2) (o + 8) x3) (o + 12) x4))), (a2, .inl (dB, 16, .inl g)), (a3, .inl (dB, 16, .inl h))] := hD.sub [0, 3, 1, 2] (by decide) rfl
  rw [sm_p16, ho] at hP hD
  exact sm_vr (post := (fun _ : Unit => True)) (w1 := (fun _ : Unit => [(h0, .inr (0, [.ref a1, .ref a2, .ref a3])), (a1, .inl (dB, 32, .inl (sm_pI f (q9.toBitVec.toNat % 2 * 16) x1 x2 x3 x4 16))), (a2, .inl (dB, 16, .inl g)), (a3, .inl (dB, 16, .inl h))])) (u := ()) hx hb hr hlk trivial hP hK hD hS (Nat.le_refl _) (Nat.le_refl _) dX0_key_57
set_option maxHeartbeats 4000000 in
set_option maxRecDepth 100000 in
/-- block(a, b, c, d) -/
theorem met_db (l : Launch) (D : va_G) (dB dN : ClassId) (h0 a1 a2 a3 : Nat) (f g h : Nat → Int32) (x1 x2 x3 x4 : Int32) : sm_Eff l D dB dN yX0_block cX0_block 5 ({ frames := 1, cells := 0, slots := 0, locals := 22 } : Room) [.ref h0, .int x1, .int x2, .int x3, .int x4] [(h0, .inr (0, [.ref a1, .ref a2, .ref a3])), (a1, .inl (dB, 32, .inl f)), (a2, .inl (dB, 16, .inl g)), (a3, .inl (dB, 16, .inl h))] sm_no (fun _ : Unit => True) (fun _ : Unit => [(h0, .inr (0, [.ref a1, .ref a2, .ref a3])), (a1, .inl (dB, 32, .inl f)), (a2, .inl (dB, 16, .inl (sm_pI g 0 x1 x2 x3 x4 16))), (a3, .inl (dB, 16, .inl h))]) := by
  intro sz
  refine sm_met (by decide) (Nat.le_of_ble_eq_true rfl) (fun p e s m below meth c ls hx hb hr hlk hml hown hin hts hB hl => ?_)
  have hl : lv_has ls 5 [(0, .ref h0), (1, .int x1), (2, .int x2), (3, .int x3), (4, .int x4)] := hl
  have hF : CallFix p m c cX0_block 5 s _ lw_all RX0 := ⟨hx, hb, hml, hown, hts⟩
  obtain ⟨hsz, hP, hK, hD0, hEx⟩ := hB
  subst hsz
  have hD := hD0.self (sz := s.heap.size)
  generalize hAe : va_A [(h0, .inr (0, [.ref a1, .ref a2, .ref a3])), (a1, .inl (dB, 32, .inl f)), (a2, .inl (dB, 16, .inl g)), (a3, .inl (dB, 16, .inl h))] s.heap.size = A at hD hEx ⊢
  have hA : ∀ q : Nat, s.heap.size ≤ q → A q := fun q h => by rw [← hAe]; exact Or.inr h
  have hS : va_S A s.heap s.heap [] := va_S.rf
  refine lv_aload_n hx hb dX0_block_0 rfl (lv_at hl 0 rfl) ?_
  refine va_get (D := D) (ci := 0) (C := RX0) (T := TX0) (N := 3) hx hb hts in_X0 hown hK hP 0 rfl rfl 1 (by decide) (hts _ q40) (fun _ h9 => h9) rfl dX0_block_1 ?_
  refine lv_iconst (v := (0 : Int32)) hx hb dX0_block_4 (by decide) ?_
  refine lv_iload_n hx hb dX0_block_5 rfl (lv_at hl 1 rfl) ?_
  refine sm_cS (wr := [(h0, .inr (0, [.ref a1, .ref a2, .ref a3])), (a1, .inl (dB, 32, .inl f)), (a3, .inl (dB, 16, .inl h))]) (rest := []) hF (met_dw l D dB dN a2 16 g 0 x1 (by decide) (by decide)) (lw_S q54 q55 q17 q56) hdS_X0_word ⟨Nat.le_of_ble_eq_true rfl, Nat.le_of_ble_eq_true rfl⟩ sm_no_ok trivial hK hP hD hS hA [2] [0, 1, 3] rfl rfl rfl (by decide) (by decide) (by decide) hl.1 rfl (Nat.le_of_ble_eq_true rfl) dX0_block_6 ⟨Nat.le_of_ble_eq_true rfl, Nat.le_of_ble_eq_true rfl⟩ (fun _ H locs _ hP hD hS => ?_)
  have hP : va_P D sCl [(h0, .inr (0, [.ref a1, .ref a2, .ref a3])), (a1, .inl (dB, 32, .inl f)), (a3, .inl (dB, 16, .inl h)), (a2, .inl (dB, 16, .inl (sm_p4 g 0 x1)))] H := hP
  have hD : va_D A [(h0, .inr (0, [.ref a1, .ref a2, .ref a3])), (a1, .inl (dB, 32, .inl f)), (a3, .inl (dB, 16, .inl h)), (a2, .inl (dB, 16, .inl (sm_p4 g 0 x1)))] := hD
  have hP : va_P D sCl [(h0, .inr (0, [.ref a1, .ref a2, .ref a3])), (a1, .inl (dB, 32, .inl f)), (a2, .inl (dB, 16, .inl (sm_p4 g 0 x1))), (a3, .inl (dB, 16, .inl h))] H := hP.sub [0, 1, 3, 2] rfl
  have hD : va_D A [(h0, .inr (0, [.ref a1, .ref a2, .ref a3])), (a1, .inl (dB, 32, .inl f)), (a2, .inl (dB, 16, .inl (sm_p4 g 0 x1))), (a3, .inl (dB, 16, .inl h))] := hD.sub [0, 1, 3, 2] (by decide) rfl
  refine lv_aload_n hx hb dX0_block_9 rfl (lv_at hl 0 rfl) ?_
  refine va_get (D := D) (ci := 0) (C := RX0) (T := TX0) (N := 3) hx hb hts in_X0 hown hK hP 0 rfl rfl 1 (by decide) (hts _ q40) (fun _ h9 => h9) rfl dX0_block_10 ?_
  refine lv_iconst (v := (4 : Int32)) hx hb dX0_block_13 (by decide) ?_
  refine lv_iload_n hx hb dX0_block_14 rfl (lv_at hl 2 rfl) ?_
  refine sm_cS (wr := [(h0, .inr (0, [.ref a1, .ref a2, .ref a3])), (a1, .inl (dB, 32, .inl f)), (a3, .inl (dB, 16, .inl h))]) (rest := []) hF (met_dw l D dB dN a2 16 (sm_p4 g 0 x1) 4 x2 (by decide) (by decide)) (lw_S q54 q55 q17 q56) hdS_X0_word ⟨Nat.le_of_ble_eq_true rfl, Nat.le_of_ble_eq_true rfl⟩ sm_no_ok trivial hK hP hD hS hA [2] [0, 1, 3] rfl rfl rfl (by decide) (by decide) (by decide) hl.1 rfl (Nat.le_of_ble_eq_true rfl) dX0_block_15 ⟨Nat.le_of_ble_eq_true rfl, Nat.le_of_ble_eq_true rfl⟩ (fun _ H locs _ hP hD hS => ?_)
  have hP : va_P D sCl [(h0, .inr (0, [.ref a1, .ref a2, .ref a3])), (a1, .inl (dB, 32, .inl f)), (a3, .inl (dB, 16, .inl h)), (a2, .inl (dB, 16, .inl (sm_p4 (sm_p4 g 0 x1) 4 x2)))] H := hP
  have hD : va_D A [(h0, .inr (0, [.ref a1, .ref a2, .ref a3])), (a1, .inl (dB, 32, .inl f)), (a3, .inl (dB, 16, .inl h)), (a2, .inl (dB, 16, .inl (sm_p4 (sm_p4 g 0 x1) 4 x2)))] := hD
  have hP : va_P D sCl [(h0, .inr (0, [.ref a1, .ref a2, .ref a3])), (a1, .inl (dB, 32, .inl f)), (a2, .inl (dB, 16, .inl (sm_p4 (sm_p4 g 0 x1) 4 x2))), (a3, .inl (dB, 16, .inl h))] H := hP.sub [0, 1, 3, 2] rfl
  have hD : va_D A [(h0, .inr (0, [.ref a1, .ref a2, .ref a3])), (a1, .inl (dB, 32, .inl f)), (a2, .inl (dB, 16, .inl (sm_p4 (sm_p4 g 0 x1) 4 x2))), (a3, .inl (dB, 16, .inl h))] := hD.sub [0, 1, 3, 2] (by decide) rfl
  refine lv_aload_n hx hb dX0_block_18 rfl (lv_at hl 0 rfl) ?_
  refine va_get (D := D) (ci := 0) (C := RX0) (T := TX0) (N := 3) hx hb hts in_X0 hown hK hP 0 rfl rfl 1 (by decide) (hts _ q40) (fun _ h9 => h9) rfl dX0_block_19 ?_
  refine lv_bipush (v := (8 : Int32)) hx hb dX0_block_22 (by decide) ?_
  refine lv_iload_n hx hb dX0_block_24 rfl (lv_at hl 3 rfl) ?_
  refine sm_cS (wr := [(h0, .inr (0, [.ref a1, .ref a2, .ref a3])), (a1, .inl (dB, 32, .inl f)), (a3, .inl (dB, 16, .inl h))]) (rest := []) hF (met_dw l D dB dN a2 16 (sm_p4 (sm_p4 g 0 x1) 4 x2) 8 x3 (by decide) (by decide)) (lw_S q54 q55 q17 q56) hdS_X0_word ⟨Nat.le_of_ble_eq_true rfl, Nat.le_of_ble_eq_true rfl⟩ sm_no_ok trivial hK hP hD hS hA [2] [0, 1, 3] rfl rfl rfl (by decide) (by decide) (by decide) hl.1 rfl (Nat.le_of_ble_eq_true rfl) dX0_block_25 ⟨Nat.le_of_ble_eq_true rfl, Nat.le_of_ble_eq_true rfl⟩ (fun _ H locs _ hP hD hS => ?_)
  have hP : va_P D sCl [(h0, .inr (0, [.ref a1, .ref a2, .ref a3])), (a1, .inl (dB, 32, .inl f)), (a3, .inl (dB, 16, .inl h)), (a2, .inl (dB, 16, .inl (sm_p4 (sm_p4 (sm_p4 g 0 x1) 4 x2) 8 x3)))] H := hP
  have hD : va_D A [(h0, .inr (0, [.ref a1, .ref a2, .ref a3])), (a1, .inl (dB, 32, .inl f)), (a3, .inl (dB, 16, .inl h)), (a2, .inl (dB, 16, .inl (sm_p4 (sm_p4 (sm_p4 g 0 x1) 4 x2) 8 x3)))] := hD
  have hP : va_P D sCl [(h0, .inr (0, [.ref a1, .ref a2, .ref a3])), (a1, .inl (dB, 32, .inl f)), (a2, .inl (dB, 16, .inl (sm_p4 (sm_p4 (sm_p4 g 0 x1) 4 x2) 8 x3))), (a3, .inl (dB, 16, .inl h))] H := hP.sub [0, 1, 3, 2] rfl
  have hD : va_D A [(h0, .inr (0, [.ref a1, .ref a2, .ref a3])), (a1, .inl (dB, 32, .inl f)), (a2, .inl (dB, 16, .inl (sm_p4 (sm_p4 (sm_p4 g 0 x1) 4 x2) 8 x3))), (a3, .inl (dB, 16, .inl h))] := hD.sub [0, 1, 3, 2] (by decide) rfl
  refine lv_aload_n hx hb dX0_block_28 rfl (lv_at hl 0 rfl) ?_
  refine va_get (D := D) (ci := 0) (C := RX0) (T := TX0) (N := 3) hx hb hts in_X0 hown hK hP 0 rfl rfl 1 (by decide) (hts _ q40) (fun _ h9 => h9) rfl dX0_block_29 ?_
  refine lv_bipush (v := (12 : Int32)) hx hb dX0_block_32 (by decide) ?_
  refine lv_iload hx hb dX0_block_34 (lv_at hl 4 rfl) ?_
  refine sm_cS (wr := [(h0, .inr (0, [.ref a1, .ref a2, .ref a3])), (a1, .inl (dB, 32, .inl f)), (a3, .inl (dB, 16, .inl h))]) (rest := []) hF (met_dw l D dB dN a2 16 (sm_p4 (sm_p4 (sm_p4 g 0 x1) 4 x2) 8 x3) 12 x4 (by decide) (by decide)) (lw_S q54 q55 q17 q56) hdS_X0_word ⟨Nat.le_of_ble_eq_true rfl, Nat.le_of_ble_eq_true rfl⟩ sm_no_ok trivial hK hP hD hS hA [2] [0, 1, 3] rfl rfl rfl (by decide) (by decide) (by decide) hl.1 rfl (Nat.le_of_ble_eq_true rfl) dX0_block_36 ⟨Nat.le_of_ble_eq_true rfl, Nat.le_of_ble_eq_true rfl⟩ (fun _ H locs _ hP hD hS => ?_)
  have hP : va_P D sCl [(h0, .inr (0, [.ref a1, .ref a2, .ref a3])), (a1, .inl (dB, 32, .inl f)), (a3, .inl (dB, 16, .inl h)), (a2, .inl (dB, 16, .inl (sm_p4 (sm_p4 (sm_p4 (sm_p4 g 0 x1) 4 x2) 8 x3) 12 x4)))] H := hP
  have hD : va_D A [(h0, .inr (0, [.ref a1, .ref a2, .ref a3])), (a1, .inl (dB, 32, .inl f)), (a3, .inl (dB, 16, .inl h)), (a2, .inl (dB, 16, .inl (sm_p4 (sm_p4 (sm_p4 (sm_p4 g 0 x1) 4 x2) 8 x3) 12 x4)))] := hD
  have hP : va_P D sCl [(h0, .inr (0, [.ref a1, .ref a2, .ref a3])), (a1, .inl (dB, 32, .inl f)), (a2, .inl (dB, 16, .inl (sm_p4 (sm_p4 (sm_p4 (sm_p4 g 0 x1) 4 x2) 8 x3) 12 x4))), (a3, .inl (dB, 16, .inl h))] H := hP.sub [0, 1, 3, 2] rfl
  have hD : va_D A [(h0, .inr (0, [.ref a1, .ref a2, .ref a3])), (a1, .inl (dB, 32, .inl f)), (a2, .inl (dB, 16, .inl (sm_p4 (sm_p4 (sm_p4 (sm_p4 g 0 x1) 4 x2) 8 x3) 12 x4))), (a3, .inl (dB, 16, .inl h))] := hD.sub [0, 1, 3, 2] (by decide) rfl
  rw [show sm_p4 (sm_p4 (sm_p4 (sm_p4 g 0 x1) 4 x2) 8 x3) 12 x4 = sm_pI g 0 x1 x2 x3 x4 16 from sm_p16 g 0 x1 x2 x3 x4] at hP hD
  exact sm_vr (post := (fun _ : Unit => True)) (w1 := (fun _ : Unit => [(h0, .inr (0, [.ref a1, .ref a2, .ref a3])), (a1, .inl (dB, 32, .inl f)), (a2, .inl (dB, 16, .inl (sm_pI g 0 x1 x2 x3 x4 16))), (a3, .inl (dB, 16, .inl h))])) (u := ()) hx hb hr hlk trivial hP hK hD hS (Nat.le_refl _) (Nat.le_refl _) dX0_block_39
set_option maxHeartbeats 4000000 in
set_option maxRecDepth 100000 in
/-- size(kind) -/
theorem met_sz (l : Launch) (x : Int32) : sm_Pure l yX0_size cX0_size 1 ({ frames := 0, cells := 0, slots := 0, locals := 0 } : Room) [.int x] (fun _ _ => True) 16 := by
  refine sm_met (by decide) (Nat.le_of_ble_eq_true rfl) (fun p e s m below meth c ls hx hb hr hlk hml hown hin hts hB hl => ?_)
  have hl : lv_has ls 1 [(0, .int x)] := hl
  have hF : CallFix p m c cX0_size 1 s _ lw_all RX0 := ⟨hx, hb, hml, hown, hts⟩
  refine lv_bipush (v := (16 : Int32)) hx hb dX0_size_0 (by decide) ?_
  exact sm_iret hx hb hr hlk rfl dX0_size_2
set_option maxHeartbeats 4000000 in
set_option maxRecDepth 100000 in
/-- run(z, kind) -/
theorem met_dr (l : Launch) (D : va_G) (dB dN : ClassId) (h0 a1 a2 a3 : Nat) (f g h : Nat → Int32) (z kd : Int32) : sm_Eff l D dB dN yX0_run cX0_run 6 ({ frames := 5, cells := 8, slots := 79, locals := 113 } : Room) [.ref h0, .int z, .int kd] [(h0, .inr (0, [.ref a1, .ref a2, .ref a3])), (a1, .inl (dB, 32, .inl f)), (a2, .inl (dB, 16, .inl g)), (a3, .inl (dB, 16, .inl h))] sm_Rx (fun _ : Unit => True) (fun _ : Unit => [(h0, .inr (0, [.ref a1, .ref a2, .ref a3])), (a1, .inl (dB, 32, .inl f)), (a2, .inl (dB, 16, .inl g)), (a3, .inl (dB, 16, .inl (sm_out f g h z)))]) := by
  intro sz
  refine sm_met (by decide) (Nat.le_of_ble_eq_true rfl) (fun p e s m below meth c ls hx hb hr hlk hml hown hin hts hB hl => ?_)
  have hl : lv_has ls 6 [(0, .ref h0), (1, .int z), (2, .int kd)] := hl
  have hF : CallFix p m c cX0_run 6 s _ lw_all RX0 := ⟨hx, hb, hml, hown, hts⟩
  obtain ⟨hsz, hP, hK, hD0, hEx⟩ := hB
  subst hsz
  have hD := hD0.self (sz := s.heap.size)
  generalize hAe : va_A [(h0, .inr (0, [.ref a1, .ref a2, .ref a3])), (a1, .inl (dB, 32, .inl f)), (a2, .inl (dB, 16, .inl g)), (a3, .inl (dB, 16, .inl h))] s.heap.size = A at hD hEx ⊢
  have hA : ∀ q : Nat, s.heap.size ≤ q → A q := fun q h => by rw [← hAe]; exact Or.inr h
  have hS : va_S A s.heap s.heap [] := va_S.rf
  refine lv_iload_n hx hb dX0_run_0 rfl (lv_at hl 2 rfl) ?_
  refine lv_iconst (v := (3 : Int32)) hx hb dX0_run_1 (by decide) ?_
  refine lv_iand hx hb dX0_run_2 ?_
  refine sm_pS (rest := []) hF (met_sz l (kd &&& (3 : Int32))) (lw_S q69 q70 q17 q71) hdS_X0_size ⟨rfl, rfl, Nat.le_of_ble_eq_true rfl, Nat.le_of_ble_eq_true rfl⟩ sm_mvT trivial hl.1 rfl (Nat.le_of_ble_eq_true rfl) dX0_run_3 ⟨Nat.le_of_ble_eq_true rfl, Nat.le_of_ble_eq_true rfl⟩ ?_
  refine lv_istore_n (lv' := [(3, .int (16 : Int32)), (0, .ref h0), (1, .int z), (2, .int kd)]) hx hb dX0_run_6 rfl hl (by decide) rfl (fun ls hl => ?_)
  refine lv_iload_n hx hb dX0_run_7 rfl (lv_at hl 0 rfl) ?_
  refine sm_newB (N := 16) hx hb hts hK hP hD hS hA rfl (by decide) (Nat.le_of_ble_eq_true rfl) (Nat.le_of_ble_eq_true rfl) dX0_run_8 (fun q4 H hP hD hS => ?_)
  have hP : va_P D sCl [(h0, .inr (0, [.ref a1, .ref a2, .ref a3])), (a1, .inl (dB, 32, .inl f)), (a2, .inl (dB, 16, .inl g)), (a3, .inl (dB, 16, .inl h)), (q4, .inl (dB, 16, .inl (fun _ => 0)))] H := hP
  have hD : va_D A [(h0, .inr (0, [.ref a1, .ref a2, .ref a3])), (a1, .inl (dB, 32, .inl f)), (a2, .inl (dB, 16, .inl g)), (a3, .inl (dB, 16, .inl h)), (q4, .inl (dB, 16, .inl (fun _ => 0)))] := hD
  refine lv_astore (lv' := [(4, .ref q4), (3, .int (16 : Int32)), (0, .ref h0), (1, .int z), (2, .int kd)]) hx hb dX0_run_10 hl (by decide) rfl (fun ls hl => ?_)
  refine lv_iconst (v := (0 : Int32)) hx hb dX0_run_12 (by decide) ?_
  refine lv_istore (lv' := [(5, .int (0 : Int32)), (4, .ref q4), (3, .int (16 : Int32)), (0, .ref h0), (1, .int z), (2, .int kd)]) hx hb dX0_run_13 hl (by decide) rfl (fun ls hl => ?_)
  have c0 := sm_cp_0 f (fun _ => 0)
  rw [← c0] at hP hD
  refine sm_loop (fun i H locs ls => va_P D sCl [(h0, .inr (0, [.ref a1, .ref a2, .ref a3])), (a1, .inl (dB, 32, .inl f)), (a2, .inl (dB, 16, .inl g)), (a3, .inl (dB, 16, .inl h)), (q4, .inl (dB, 16, .inl (sm_cp f (fun _ => 0) i)))] H ∧ va_D A [(h0, .inr (0, [.ref a1, .ref a2, .ref a3])), (a1, .inl (dB, 32, .inl f)), (a2, .inl (dB, 16, .inl g)), (a3, .inl (dB, 16, .inl h)), (q4, .inl (dB, 16, .inl (sm_cp f (fun _ => 0) i)))] ∧ va_S A s.heap H locs ∧ lv_has ls 6 [(5, .int (nI i)), (4, .ref q4), (3, .int (16 : Int32)), (0, .ref h0), (1, .int z)]) 16 ?_ ?_ 0 (by decide) _ _ _ ⟨hP, hD, hS, lv_sub hl [0, 1, 2, 3, 4] rfl⟩
  · intro i H locs ls hi ⟨hP, hD, hS, hl⟩ ih
    refine lv_iload hx hb dX0_run_15 (lv_at hl 0 rfl) ?_
    refine lv_iload_n hx hb dX0_run_17 rfl (lv_at hl 2 rfl) ?_
    refine lv_icmp_ge (tgt := 39) hx hb dX0_run_18 (by decide) (fun c9 => absurd c9 (nI_ge (b := 16) hi (by decide))) (fun _ => ?_)
    refine lv_aload hx hb dX0_run_21 (lv_at hl 1 rfl) ?_
    refine lv_iload hx hb dX0_run_23 (lv_at hl 0 rfl) ?_
    refine lv_aload_n hx hb dX0_run_25 rfl (lv_at hl 3 rfl) ?_
    refine va_get (D := D) (ci := 0) (C := RX0) (T := TX0) (N := 3) hx hb hts in_X0 hown hK hP 0 rfl rfl 0 (by decide) (hts _ q39) (fun _ h9 => h9) rfl dX0_run_26 ?_
    refine lv_iload hx hb dX0_run_29 (lv_at hl 0 rfl) ?_
    refine sm_bald hx hb hK hP 1 rfl i rfl (by omega) (by decide) dX0_run_31 ?_
    refine sm_bast (x' := ((f i)).toInt8.toInt32) hx hb hK hP hD hS 4 rfl i rfl (by omega) (by decide) rfl dX0_run_32 (fun H locs hP hD hS => ?_)
    have hP : va_P D sCl [(h0, .inr (0, [.ref a1, .ref a2, .ref a3])), (a1, .inl (dB, 32, .inl f)), (a2, .inl (dB, 16, .inl g)), (a3, .inl (dB, 16, .inl h)), (q4, .inl (dB, 16, .inl (upd (sm_cp f (fun _ => 0) i) i (((f i)).toInt8.toInt32))))] H := hP
    have hD : va_D A [(h0, .inr (0, [.ref a1, .ref a2, .ref a3])), (a1, .inl (dB, 32, .inl f)), (a2, .inl (dB, 16, .inl g)), (a3, .inl (dB, 16, .inl h)), (q4, .inl (dB, 16, .inl (upd (sm_cp f (fun _ => 0) i) i (((f i)).toInt8.toInt32))))] := hD
    rw [sm_cp_s] at hP hD
    refine lv_iinc (v := (nI (i + 1))) (lv' := [(5, .int (nI (i + 1))), (4, .ref q4), (3, .int (16 : Int32)), (0, .ref h0), (1, .int z)]) hx hb dX0_run_33 hl (k := 0) rfl (sm_inc i) (by decide) rfl (fun ls hl => ?_)
    refine lv_goto (tgt := 15) hx hb dX0_run_36 (by decide) ?_
    exact ih _ _ _ ⟨hP, hD, hS, hl⟩
  · intro H locs ls ⟨hP, hD, hS, hl⟩
    refine lv_iload hx hb dX0_run_15 (lv_at hl 0 rfl) ?_
    refine lv_iload_n hx hb dX0_run_17 rfl (lv_at hl 2 rfl) ?_
    refine lv_icmp_ge (tgt := 39) hx hb dX0_run_18 (by decide) (fun _ => ?_) (fun c9 => absurd (nI_le (Nat.le_refl 16) (by decide)) c9)
    refine va_new (ci := 2) (fs := [.null, .null]) (C := RX2) (T := TX2) (N := 2) hx hb hts in_X2 tyX2 tyX2_ok hown (hts _ q72) (hts _ q73) (hts _ q19) hK hP hD hS hA rfl (fun j hj => by rcases (show j = 0 ∨ j = 1 by omega) with rfl | rfl <;> rfl) (Nat.le_of_ble_eq_true rfl) (Nat.le_of_ble_eq_true rfl) dX0_run_39 (fun qe H hP hD hS => ?_)
    have hP : va_P D sCl [(h0, .inr (0, [.ref a1, .ref a2, .ref a3])), (a1, .inl (dB, 32, .inl f)), (a2, .inl (dB, 16, .inl g)), (a3, .inl (dB, 16, .inl h)), (q4, .inl (dB, 16, .inl (sm_cp f (fun _ => 0) 16))), (qe, .inr (2, [.null, .null]))] H := hP
    have hD : va_D A [(h0, .inr (0, [.ref a1, .ref a2, .ref a3])), (a1, .inl (dB, 32, .inl f)), (a2, .inl (dB, 16, .inl g)), (a3, .inl (dB, 16, .inl h)), (q4, .inl (dB, 16, .inl (sm_cp f (fun _ => 0) 16))), (qe, .inr (2, [.null, .null]))] := hD
    refine lv_dup hx hb dX0_run_42 rfl ?_
    refine sm_cI (wr := [(h0, .inr (0, [.ref a1, .ref a2, .ref a3])), (a1, .inl (dB, 32, .inl f)), (a2, .inl (dB, 16, .inl g)), (a3, .inl (dB, 16, .inl h)), (q4, .inl (dB, 16, .inl (sm_cp f (fun _ => 0) 16)))]) (As := []) (rest := [.ref qe]) hF (met_e0 l D dB dN qe) (lw_meth q76) (hts _ q19) (hts _ q74) (hts _ q75) rfl hdI_X2_init ⟨Nat.le_of_ble_eq_true rfl, Nat.le_of_ble_eq_true rfl⟩ sm_no_ok trivial hK hP hD hS hA [5] [0, 1, 2, 3, 4] rfl rfl rfl (by decide) (by decide) (by decide) hl.1 rfl (Nat.le_of_ble_eq_true rfl) dX0_run_43 ⟨Nat.le_of_ble_eq_true rfl, Nat.le_of_ble_eq_true rfl⟩ (fun qx H locs _ hP hD hS => ?_)
    have hP : va_P D sCl [(h0, .inr (0, [.ref a1, .ref a2, .ref a3])), (a1, .inl (dB, 32, .inl f)), (a2, .inl (dB, 16, .inl g)), (a3, .inl (dB, 16, .inl h)), (q4, .inl (dB, 16, .inl (sm_cp f (fun _ => 0) 16))), (qe, .inr (2, [.ref qx, .null])), (qx, .inl (dN, 4, .inl (fun _ => 0)))] H := hP
    have hD : va_D A [(h0, .inr (0, [.ref a1, .ref a2, .ref a3])), (a1, .inl (dB, 32, .inl f)), (a2, .inl (dB, 16, .inl g)), (a3, .inl (dB, 16, .inl h)), (q4, .inl (dB, 16, .inl (sm_cp f (fun _ => 0) 16))), (qe, .inr (2, [.ref qx, .null])), (qx, .inl (dN, 4, .inl (fun _ => 0)))] := hD
    refine lv_astore (lv' := [(5, .ref qe), (4, .ref q4), (3, .int (16 : Int32)), (0, .ref h0), (1, .int z)]) hx hb dX0_run_46 hl (by decide) rfl (fun ls hl => ?_)
    refine lv_aload hx hb dX0_run_48 (lv_at hl 0 rfl) ?_
    refine lv_iload_n hx hb dX0_run_50 rfl (lv_at hl 4 rfl) ?_
    refine va_new (ci := 3) (fs := [.null]) (C := RX3) (T := TX3) (N := 1) hx hb hts in_X3 tyX3 tyX3_ok hown (hts _ q86) (hts _ q87) (hts _ q20) hK hP hD hS hA rfl (fun j hj => by rcases (show j = 0 by omega) with rfl <;> rfl) (Nat.le_of_ble_eq_true rfl) (Nat.le_of_ble_eq_true rfl) dX0_run_51 (fun qk H hP hD hS => ?_)
    have hP : va_P D sCl [(h0, .inr (0, [.ref a1, .ref a2, .ref a3])), (a1, .inl (dB, 32, .inl f)), (a2, .inl (dB, 16, .inl g)), (a3, .inl (dB, 16, .inl h)), (q4, .inl (dB, 16, .inl (sm_cp f (fun _ => 0) 16))), (qe, .inr (2, [.ref qx, .null])), (qx, .inl (dN, 4, .inl (fun _ => 0))), (qk, .inr (3, [.null]))] H := hP
    have hD : va_D A [(h0, .inr (0, [.ref a1, .ref a2, .ref a3])), (a1, .inl (dB, 32, .inl f)), (a2, .inl (dB, 16, .inl g)), (a3, .inl (dB, 16, .inl h)), (q4, .inl (dB, 16, .inl (sm_cp f (fun _ => 0) 16))), (qe, .inr (2, [.ref qx, .null])), (qx, .inl (dN, 4, .inl (fun _ => 0))), (qk, .inr (3, [.null]))] := hD
    refine lv_dup hx hb dX0_run_54 rfl ?_
    refine lv_aload hx hb dX0_run_55 (lv_at hl 1 rfl) ?_
    refine sm_cI (wr := [(h0, .inr (0, [.ref a1, .ref a2, .ref a3])), (a1, .inl (dB, 32, .inl f)), (a2, .inl (dB, 16, .inl g)), (a3, .inl (dB, 16, .inl h)), (qe, .inr (2, [.ref qx, .null])), (qx, .inl (dN, 4, .inl (fun _ => 0)))]) (As := [.ref q4]) (rest := [.ref qk, .int z, .ref qe]) hF (met_k1 l D dB dN qk q4 (sm_cp f (fun _ => 0) 16) (sm_cp_fit f)) (lw_meth q90) (hts _ q20) (hts _ q88) (hts _ q89) rfl hdI_X3_init ⟨Nat.le_of_ble_eq_true rfl, Nat.le_of_ble_eq_true rfl⟩ sm_no_ok trivial hK hP hD hS hA [7, 4] [0, 1, 2, 3, 5, 6] rfl rfl rfl (by decide) (by decide) (by decide) hl.1 rfl (Nat.le_of_ble_eq_true rfl) dX0_run_57 ⟨Nat.le_of_ble_eq_true rfl, Nat.le_of_ble_eq_true rfl⟩ (fun qb H locs _ hP hD hS => ?_)
    have hP : va_P D sCl [(h0, .inr (0, [.ref a1, .ref a2, .ref a3])), (a1, .inl (dB, 32, .inl f)), (a2, .inl (dB, 16, .inl g)), (a3, .inl (dB, 16, .inl h)), (qe, .inr (2, [.ref qx, .null])), (qx, .inl (dN, 4, .inl (fun _ => 0))), (qk, .inr (3, [.ref qb])), (q4, .inl (dB, 16, .inl (sm_cp f (fun _ => 0) 16))), (qb, .inl (dB, 16, .inl (va_cpy (sm_cp f (fun _ => 0) 16) (fun _ => 0) 0 0 16)))] H := hP
    have hD : va_D A [(h0, .inr (0, [.ref a1, .ref a2, .ref a3])), (a1, .inl (dB, 32, .inl f)), (a2, .inl (dB, 16, .inl g)), (a3, .inl (dB, 16, .inl h)), (qe, .inr (2, [.ref qx, .null])), (qx, .inl (dN, 4, .inl (fun _ => 0))), (qk, .inr (3, [.ref qb])), (q4, .inl (dB, 16, .inl (sm_cp f (fun _ => 0) 16))), (qb, .inl (dB, 16, .inl (va_cpy (sm_cp f (fun _ => 0) 16) (fun _ => 0) 0 0 16)))] := hD
    refine sm_cF (wr := [(h0, .inr (0, [.ref a1, .ref a2, .ref a3])), (a1, .inl (dB, 32, .inl f)), (a2, .inl (dB, 16, .inl g)), (a3, .inl (dB, 16, .inl h)), (qx, .inl (dN, 4, .inl (fun _ => 0))), (q4, .inl (dB, 16, .inl (sm_cp f (fun _ => 0) 16)))]) (C := RX2) (x := sm_xI) (As := [.int z, .ref qk]) (rest := []) (hK.1 2 _ rfl).2 hF (met_in l D dB dN qe (.ref qx) qk qb (va_cpy (sm_cp f (fun _ => 0) 16) (fun _ => 0) 0 0 16) z) (sm_lwF q106 q110 q112 q19 q114) hEx.2.1 hd_xI ⟨Nat.le_of_ble_eq_true rfl, Nat.le_of_ble_eq_true rfl⟩ (va_recv hK hP (ci := 2) (q0 := 4) rfl rfl) sm_St_ok hEx.1 hK hP hD hS hA [4, 6, 8] [0, 1, 2, 3, 5, 7] rfl rfl rfl (by decide) (by decide) (by decide) hl.1 rfl (Nat.le_of_ble_eq_true rfl) dX0_run_60 ⟨Nat.le_of_ble_eq_true rfl, Nat.le_of_ble_eq_true rfl⟩ (fun u H locs hu1 hP hD hS => ?_)
    have hP : va_P D sCl [(h0, .inr (0, [.ref a1, .ref a2, .ref a3])), (a1, .inl (dB, 32, .inl f)), (a2, .inl (dB, 16, .inl g)), (a3, .inl (dB, 16, .inl h)), (qx, .inl (dN, 4, .inl (fun _ => 0))), (q4, .inl (dB, 16, .inl (sm_cp f (fun _ => 0) 16))), (qe, .inr (2, [.ref qx, .ref u.1])), (qk, .inr (3, [.ref qb])), (qb, .inl (dB, 16, .inl (va_cpy (sm_cp f (fun _ => 0) 16) (fun _ => 0) 0 0 16))), (u.1, .inl (dN, 32, .inl u.2))] H := hP
    have hD : va_D A [(h0, .inr (0, [.ref a1, .ref a2, .ref a3])), (a1, .inl (dB, 32, .inl f)), (a2, .inl (dB, 16, .inl g)), (a3, .inl (dB, 16, .inl h)), (qx, .inl (dN, 4, .inl (fun _ => 0))), (q4, .inl (dB, 16, .inl (sm_cp f (fun _ => 0) 16))), (qe, .inr (2, [.ref qx, .ref u.1])), (qk, .inr (3, [.ref qb])), (qb, .inl (dB, 16, .inl (va_cpy (sm_cp f (fun _ => 0) 16) (fun _ => 0) 0 0 16))), (u.1, .inl (dN, 32, .inl u.2))] := hD
    obtain ⟨qr, rf⟩ := u
    have hP : va_P D sCl [(h0, .inr (0, [.ref a1, .ref a2, .ref a3])), (a1, .inl (dB, 32, .inl f)), (a2, .inl (dB, 16, .inl g)), (a3, .inl (dB, 16, .inl h)), (qe, .inr (2, [.ref qx, .ref qr])), (qx, .inl (dN, 4, .inl (fun _ => 0))), (qr, .inl (dN, 32, .inl rf))] H := hP.sub [0, 1, 2, 3, 6, 4, 9] rfl
    have hD : va_D A [(h0, .inr (0, [.ref a1, .ref a2, .ref a3])), (a1, .inl (dB, 32, .inl f)), (a2, .inl (dB, 16, .inl g)), (a3, .inl (dB, 16, .inl h)), (qe, .inr (2, [.ref qx, .ref qr])), (qx, .inl (dN, 4, .inl (fun _ => 0))), (qr, .inl (dN, 32, .inl rf))] := hD.sub [0, 1, 2, 3, 6, 4, 9] (by decide) rfl
    refine lv_aload hx hb dX0_run_65 (lv_at hl 0 rfl) ?_
    refine lv_aload_n hx hb dX0_run_67 rfl (lv_at hl 3 rfl) ?_
    refine va_get (D := D) (ci := 0) (C := RX0) (T := TX0) (N := 3) hx hb hts in_X0 hown hK hP 0 rfl rfl 1 (by decide) (hts _ q40) (fun _ h9 => h9) rfl dX0_run_68 ?_
    refine lv_iconst (v := (0 : Int32)) hx hb dX0_run_71 (by decide) ?_
    refine lv_aload_n hx hb dX0_run_72 rfl (lv_at hl 3 rfl) ?_
    refine va_get (D := D) (ci := 0) (C := RX0) (T := TX0) (N := 3) hx hb hts in_X0 hown hK hP 0 rfl rfl 2 (by decide) (hts _ q41) (fun _ h9 => h9) rfl dX0_run_73 ?_
    refine lv_iconst (v := (0 : Int32)) hx hb dX0_run_76 (by decide) ?_
    refine sm_cFi (wr := [(h0, .inr (0, [.ref a1, .ref a2, .ref a3])), (a1, .inl (dB, 32, .inl f))]) (C := RX2) (x := sm_xP) (As := [.ref a2, .int (0 : Int32), .ref a3, .int (0 : Int32)]) (rest := []) (hK.1 2 _ rfl).2 hF (met_pb l D dB dN qe qx qr a2 a3 (fun _ => 0) rf g h) (sm_lwF q219 q222 q224 q19 q226) hEx.2.2 hd_xP ⟨Nat.le_of_ble_eq_true rfl, Nat.le_of_ble_eq_true rfl⟩ (va_recv hK hP (ci := 2) (q0 := 4) rfl rfl) sm_St_ok hEx.1 hK hP hD hS hA [4, 5, 6, 2, 3] [0, 1] rfl rfl rfl (by decide) (by decide) (by decide) hl.1 rfl (Nat.le_of_ble_eq_true rfl) dX0_run_77 ⟨Nat.le_of_ble_eq_true rfl, Nat.le_of_ble_eq_true rfl⟩ (fun r9 v H locs hu hP hD hS => ?_)
    have hP : va_P D sCl [(h0, .inr (0, [.ref a1, .ref a2, .ref a3])), (a1, .inl (dB, 32, .inl f)), (qe, .inr (2, [.ref qx, .ref qr])), (qx, .inl (dN, 4, .inl v)), (qr, .inl (dN, 32, .inl rf)), (a2, .inl (dB, 16, .inl g)), (a3, .inl (dB, 16, .inl (sm_pI h 0 (sm_xq g rf 35) (sm_xq g rf 34) (sm_xq g rf 33) (sm_xq g rf 32) 16)))] H := hP
    have hD : va_D A [(h0, .inr (0, [.ref a1, .ref a2, .ref a3])), (a1, .inl (dB, 32, .inl f)), (qe, .inr (2, [.ref qx, .ref qr])), (qx, .inl (dN, 4, .inl v)), (qr, .inl (dN, 32, .inl rf)), (a2, .inl (dB, 16, .inl g)), (a3, .inl (dB, 16, .inl (sm_pI h 0 (sm_xq g rf 35) (sm_xq g rf 34) (sm_xq g rf 33) (sm_xq g rf 32) 16)))] := hD
    refine lv_pop hx hb dX0_run_82 rfl ?_
    have hP : va_P D sCl [(h0, .inr (0, [.ref a1, .ref a2, .ref a3])), (a1, .inl (dB, 32, .inl f)), (a2, .inl (dB, 16, .inl g)), (a3, .inl (dB, 16, .inl (sm_pI h 0 (sm_xq g rf 35) (sm_xq g rf 34) (sm_xq g rf 33) (sm_xq g rf 32) 16)))] H := hP.sub [0, 1, 5, 6] rfl
    have hD : va_D A [(h0, .inr (0, [.ref a1, .ref a2, .ref a3])), (a1, .inl (dB, 32, .inl f)), (a2, .inl (dB, 16, .inl g)), (a3, .inl (dB, 16, .inl (sm_pI h 0 (sm_xq g rf 35) (sm_xq g rf 34) (sm_xq g rf 33) (sm_xq g rf 32) 16)))] := hD.sub [0, 1, 5, 6] (by decide) rfl
    rw [sm_out_eq f g h z rf (fun j hj => hu1 j hj)] at hP hD
    exact sm_vr (post := (fun _ : Unit => True)) (w1 := (fun _ : Unit => [(h0, .inr (0, [.ref a1, .ref a2, .ref a3])), (a1, .inl (dB, 32, .inl f)), (a2, .inl (dB, 16, .inl g)), (a3, .inl (dB, 16, .inl (sm_out f g h z)))])) (u := ()) hx hb hr hlk trivial hP hK hD hS (Nat.le_of_ble_eq_true rfl) (Nat.le_of_ble_eq_true rfl) dX0_run_83
set_option maxHeartbeats 4000000 in
set_option maxRecDepth 100000 in
/-- lock(kind) -/
theorem met_dl (l : Launch) (D : va_G) (dB dN : ClassId) (h0 a1 a2 a3 : Nat) (f g h : Nat → Int32) (kd : Int32) : sm_Eff l D dB dN yX0_lock cX0_lock 2 ({ frames := 6, cells := 8, slots := 79, locals := 138 } : Room) [.ref h0, .int kd] [(h0, .inr (0, [.ref a1, .ref a2, .ref a3])), (a1, .inl (dB, 32, .inl f)), (a2, .inl (dB, 16, .inl g)), (a3, .inl (dB, 16, .inl h))] sm_Rx (fun _ : Unit => True) (fun _ : Unit => [(h0, .inr (0, [.ref a1, .ref a2, .ref a3])), (a1, .inl (dB, 32, .inl f)), (a2, .inl (dB, 16, .inl g)), (a3, .inl (dB, 16, .inl (sm_out f g h (1 : Int32))))]) := by
  intro sz
  refine sm_met (by decide) (Nat.le_of_ble_eq_true rfl) (fun p e s m below meth c ls hx hb hr hlk hml hown hin hts hB hl => ?_)
  have hl : lv_has ls 2 [(0, .ref h0), (1, .int kd)] := hl
  have hF : CallFix p m c cX0_lock 2 s _ lw_all RX0 := ⟨hx, hb, hml, hown, hts⟩
  obtain ⟨hsz, hP, hK, hD0, hEx⟩ := hB
  subst hsz
  have hD := hD0.self (sz := s.heap.size)
  generalize hAe : va_A [(h0, .inr (0, [.ref a1, .ref a2, .ref a3])), (a1, .inl (dB, 32, .inl f)), (a2, .inl (dB, 16, .inl g)), (a3, .inl (dB, 16, .inl h))] s.heap.size = A at hD hEx ⊢
  have hA : ∀ q : Nat, s.heap.size ≤ q → A q := fun q h => by rw [← hAe]; exact Or.inr h
  have hS : va_S A s.heap s.heap [] := va_S.rf
  refine lv_aload_n hx hb dX0_lock_0 rfl (lv_at hl 0 rfl) ?_
  refine lv_iconst (v := (1 : Int32)) hx hb dX0_lock_1 (by decide) ?_
  refine lv_iload_n hx hb dX0_lock_2 rfl (lv_at hl 1 rfl) ?_
  refine sm_cV (wr := []) (C := RX0) (As := [.int (1 : Int32), .int kd]) (rest := []) hF (met_dr l D dB dN h0 a1 a2 a3 f g h (1 : Int32) kd) (lw_V q65 q67 qs0 q17 q68) hdV_X0_run ⟨Nat.le_of_ble_eq_true rfl, Nat.le_of_ble_eq_true rfl⟩ (va_recv hK hP (ci := 0) (q0 := 0) rfl rfl) sm_Rx_ok hEx hK hP hD hS hA [0, 1, 2, 3] [] rfl rfl rfl (by decide) (by decide) (by decide) hl.1 rfl (Nat.le_of_ble_eq_true rfl) dX0_lock_3 ⟨Nat.le_of_ble_eq_true rfl, Nat.le_of_ble_eq_true rfl⟩ (fun _ H locs _ hP hD hS => ?_)
  have hP : va_P D sCl [(h0, .inr (0, [.ref a1, .ref a2, .ref a3])), (a1, .inl (dB, 32, .inl f)), (a2, .inl (dB, 16, .inl g)), (a3, .inl (dB, 16, .inl (sm_out f g h (1 : Int32))))] H := hP
  have hD : va_D A [(h0, .inr (0, [.ref a1, .ref a2, .ref a3])), (a1, .inl (dB, 32, .inl f)), (a2, .inl (dB, 16, .inl g)), (a3, .inl (dB, 16, .inl (sm_out f g h (1 : Int32))))] := hD
  exact sm_vr (post := (fun _ : Unit => True)) (w1 := (fun _ : Unit => [(h0, .inr (0, [.ref a1, .ref a2, .ref a3])), (a1, .inl (dB, 32, .inl f)), (a2, .inl (dB, 16, .inl g)), (a3, .inl (dB, 16, .inl (sm_out f g h (1 : Int32))))])) (u := ()) hx hb hr hlk trivial hP hK hD hS (Nat.le_of_ble_eq_true rfl) (Nat.le_of_ble_eq_true rfl) dX0_lock_6
set_option maxHeartbeats 4000000 in
set_option maxRecDepth 100000 in
/-- open(kind) -/
theorem met_do (l : Launch) (D : va_G) (dB dN : ClassId) (h0 a1 a2 a3 : Nat) (f g h : Nat → Int32) (kd : Int32) : sm_Eff l D dB dN yX0_open cX0_open 2 ({ frames := 6, cells := 8, slots := 79, locals := 138 } : Room) [.ref h0, .int kd] [(h0, .inr (0, [.ref a1, .ref a2, .ref a3])), (a1, .inl (dB, 32, .inl f)), (a2, .inl (dB, 16, .inl g)), (a3, .inl (dB, 16, .inl h))] sm_Rx (fun _ : Unit => True) (fun _ : Unit => [(h0, .inr (0, [.ref a1, .ref a2, .ref a3])), (a1, .inl (dB, 32, .inl f)), (a2, .inl (dB, 16, .inl g)), (a3, .inl (dB, 16, .inl (sm_out f g h (0 : Int32))))]) := by
  intro sz
  refine sm_met (by decide) (Nat.le_of_ble_eq_true rfl) (fun p e s m below meth c ls hx hb hr hlk hml hown hin hts hB hl => ?_)
  have hl : lv_has ls 2 [(0, .ref h0), (1, .int kd)] := hl
  have hF : CallFix p m c cX0_open 2 s _ lw_all RX0 := ⟨hx, hb, hml, hown, hts⟩
  obtain ⟨hsz, hP, hK, hD0, hEx⟩ := hB
  subst hsz
  have hD := hD0.self (sz := s.heap.size)
  generalize hAe : va_A [(h0, .inr (0, [.ref a1, .ref a2, .ref a3])), (a1, .inl (dB, 32, .inl f)), (a2, .inl (dB, 16, .inl g)), (a3, .inl (dB, 16, .inl h))] s.heap.size = A at hD hEx ⊢
  have hA : ∀ q : Nat, s.heap.size ≤ q → A q := fun q h => by rw [← hAe]; exact Or.inr h
  have hS : va_S A s.heap s.heap [] := va_S.rf
  refine lv_aload_n hx hb dX0_open_0 rfl (lv_at hl 0 rfl) ?_
  refine lv_iconst (v := (0 : Int32)) hx hb dX0_open_1 (by decide) ?_
  refine lv_iload_n hx hb dX0_open_2 rfl (lv_at hl 1 rfl) ?_
  refine sm_cV (wr := []) (C := RX0) (As := [.int (0 : Int32), .int kd]) (rest := []) hF (met_dr l D dB dN h0 a1 a2 a3 f g h (0 : Int32) kd) (lw_V q65 q67 qs0 q17 q68) hdV_X0_run ⟨Nat.le_of_ble_eq_true rfl, Nat.le_of_ble_eq_true rfl⟩ (va_recv hK hP (ci := 0) (q0 := 0) rfl rfl) sm_Rx_ok hEx hK hP hD hS hA [0, 1, 2, 3] [] rfl rfl rfl (by decide) (by decide) (by decide) hl.1 rfl (Nat.le_of_ble_eq_true rfl) dX0_open_3 ⟨Nat.le_of_ble_eq_true rfl, Nat.le_of_ble_eq_true rfl⟩ (fun _ H locs _ hP hD hS => ?_)
  have hP : va_P D sCl [(h0, .inr (0, [.ref a1, .ref a2, .ref a3])), (a1, .inl (dB, 32, .inl f)), (a2, .inl (dB, 16, .inl g)), (a3, .inl (dB, 16, .inl (sm_out f g h (0 : Int32))))] H := hP
  have hD : va_D A [(h0, .inr (0, [.ref a1, .ref a2, .ref a3])), (a1, .inl (dB, 32, .inl f)), (a2, .inl (dB, 16, .inl g)), (a3, .inl (dB, 16, .inl (sm_out f g h (0 : Int32))))] := hD
  exact sm_vr (post := (fun _ : Unit => True)) (w1 := (fun _ : Unit => [(h0, .inr (0, [.ref a1, .ref a2, .ref a3])), (a1, .inl (dB, 32, .inl f)), (a2, .inl (dB, 16, .inl g)), (a3, .inl (dB, 16, .inl (sm_out f g h (0 : Int32))))])) (u := ()) hx hb hr hlk trivial hP hK hD hS (Nat.le_of_ble_eq_true rfl) (Nat.le_of_ble_eq_true rfl) dX0_open_6
set_option maxHeartbeats 4000000 in
set_option maxRecDepth 100000 in
/-- again() -/
theorem met_da (l : Launch) (D : va_G) (dB dN : ClassId) (h0 a1 a2 a3 : Nat) (f g h : Nat → Int32) : sm_Eff l D dB dN yX0_again cX0_again 2 ({ frames := 0, cells := 0, slots := 0, locals := 0 } : Room) [.ref h0] [(h0, .inr (0, [.ref a1, .ref a2, .ref a3])), (a1, .inl (dB, 32, .inl f)), (a2, .inl (dB, 16, .inl g)), (a3, .inl (dB, 16, .inl h))] sm_no (fun _ : Unit => True) (fun _ : Unit => [(h0, .inr (0, [.ref a1, .ref a2, .ref a3])), (a1, .inl (dB, 32, .inl f)), (a2, .inl (dB, 16, .inl (sm_cp h g 16))), (a3, .inl (dB, 16, .inl h))]) := by
  intro sz
  refine sm_met (by decide) (Nat.le_of_ble_eq_true rfl) (fun p e s m below meth c ls hx hb hr hlk hml hown hin hts hB hl => ?_)
  have hl : lv_has ls 2 [(0, .ref h0)] := hl
  have hF : CallFix p m c cX0_again 2 s _ lw_all RX0 := ⟨hx, hb, hml, hown, hts⟩
  obtain ⟨hsz, hP, hK, hD0, hEx⟩ := hB
  subst hsz
  have hD := hD0.self (sz := s.heap.size)
  generalize hAe : va_A [(h0, .inr (0, [.ref a1, .ref a2, .ref a3])), (a1, .inl (dB, 32, .inl f)), (a2, .inl (dB, 16, .inl g)), (a3, .inl (dB, 16, .inl h))] s.heap.size = A at hD hEx ⊢
  have hA : ∀ q : Nat, s.heap.size ≤ q → A q := fun q h => by rw [← hAe]; exact Or.inr h
  have hS : va_S A s.heap s.heap [] := va_S.rf
  refine lv_iconst (v := (0 : Int32)) hx hb dX0_again_0 (by decide) ?_
  refine lv_istore_n (lv' := [(1, .int (0 : Int32)), (0, .ref h0)]) hx hb dX0_again_1 rfl hl (by decide) rfl (fun ls hl => ?_)
  have c0 := sm_cp_0 h g
  have hP : va_P D sCl [(h0, .inr (0, [.ref a1, .ref a2, .ref a3])), (a1, .inl (dB, 32, .inl f)), (a2, .inl (dB, 16, .inl (sm_cp h g 0))), (a3, .inl (dB, 16, .inl h))] s.heap := by rw [c0]; exact hP
  have hD : va_D A [(h0, .inr (0, [.ref a1, .ref a2, .ref a3])), (a1, .inl (dB, 32, .inl f)), (a2, .inl (dB, 16, .inl (sm_cp h g 0))), (a3, .inl (dB, 16, .inl h))] := by rw [c0]; exact hD
  refine sm_loop (fun i H locs ls => va_P D sCl [(h0, .inr (0, [.ref a1, .ref a2, .ref a3])), (a1, .inl (dB, 32, .inl f)), (a2, .inl (dB, 16, .inl (sm_cp h g i))), (a3, .inl (dB, 16, .inl h))] H ∧ va_D A [(h0, .inr (0, [.ref a1, .ref a2, .ref a3])), (a1, .inl (dB, 32, .inl f)), (a2, .inl (dB, 16, .inl (sm_cp h g i))), (a3, .inl (dB, 16, .inl h))] ∧ va_S A s.heap H locs ∧ lv_has ls 2 [(1, .int (nI i)), (0, .ref h0)]) 16 ?_ ?_ 0 (by decide) _ _ _ ⟨hP, hD, hS, lv_sub hl [0, 1] rfl⟩
  · intro i H locs ls hi ⟨hP, hD, hS, hl⟩ ih
    refine lv_iload_n hx hb dX0_again_2 rfl (lv_at hl 0 rfl) ?_
    refine lv_bipush (v := (16 : Int32)) hx hb dX0_again_3 (by decide) ?_
    refine lv_icmp_ge (tgt := 26) hx hb dX0_again_5 (by decide) (fun c9 => absurd c9 (nI_ge (b := 16) hi (by decide))) (fun _ => ?_)
    refine lv_aload_n hx hb dX0_again_8 rfl (lv_at hl 1 rfl) ?_
    refine va_get (D := D) (ci := 0) (C := RX0) (T := TX0) (N := 3) hx hb hts in_X0 hown hK hP 0 rfl rfl 1 (by decide) (hts _ q40) (fun _ h9 => h9) rfl dX0_again_9 ?_
    refine lv_iload_n hx hb dX0_again_12 rfl (lv_at hl 0 rfl) ?_
    refine lv_aload_n hx hb dX0_again_13 rfl (lv_at hl 1 rfl) ?_
    refine va_get (D := D) (ci := 0) (C := RX0) (T := TX0) (N := 3) hx hb hts in_X0 hown hK hP 0 rfl rfl 2 (by decide) (hts _ q41) (fun _ h9 => h9) rfl dX0_again_14 ?_
    refine lv_iload_n hx hb dX0_again_17 rfl (lv_at hl 0 rfl) ?_
    refine sm_bald hx hb hK hP 3 rfl i rfl (by omega) (by decide) dX0_again_18 ?_
    refine sm_bast (x' := ((h i)).toInt8.toInt32) hx hb hK hP hD hS 2 rfl i rfl (by omega) (by decide) rfl dX0_again_19 (fun H locs hP hD hS => ?_)
    have hP : va_P D sCl [(h0, .inr (0, [.ref a1, .ref a2, .ref a3])), (a1, .inl (dB, 32, .inl f)), (a2, .inl (dB, 16, .inl (upd (sm_cp h g i) i (((h i)).toInt8.toInt32)))), (a3, .inl (dB, 16, .inl h))] H := hP
    have hD : va_D A [(h0, .inr (0, [.ref a1, .ref a2, .ref a3])), (a1, .inl (dB, 32, .inl f)), (a2, .inl (dB, 16, .inl (upd (sm_cp h g i) i (((h i)).toInt8.toInt32)))), (a3, .inl (dB, 16, .inl h))] := hD
    rw [sm_cp_s] at hP hD
    refine lv_iinc (v := (nI (i + 1))) (lv' := [(1, .int (nI (i + 1))), (0, .ref h0)]) hx hb dX0_again_20 hl (k := 0) rfl (sm_inc i) (by decide) rfl (fun ls hl => ?_)
    refine lv_goto (tgt := 2) hx hb dX0_again_23 (by decide) ?_
    exact ih _ _ _ ⟨hP, hD, hS, lv_sub hl [0, 1] rfl⟩
  · intro H locs ls ⟨hP, hD, hS, hl⟩
    refine lv_iload_n hx hb dX0_again_2 rfl (lv_at hl 0 rfl) ?_
    refine lv_bipush (v := (16 : Int32)) hx hb dX0_again_3 (by decide) ?_
    refine lv_icmp_ge (tgt := 26) hx hb dX0_again_5 (by decide) (fun _ => ?_) (fun c9 => absurd (nI_le (Nat.le_refl 16) (by decide)) c9)
    exact sm_vr (post := (fun _ : Unit => True)) (w1 := (fun _ : Unit => [(h0, .inr (0, [.ref a1, .ref a2, .ref a3])), (a1, .inl (dB, 32, .inl f)), (a2, .inl (dB, 16, .inl (sm_cp h g 16))), (a3, .inl (dB, 16, .inl h))])) (u := ()) hx hb hr hlk trivial hP hK hD hS (Nat.le_refl _) (Nat.le_refl _) dX0_again_26
set_option maxHeartbeats 4000000 in
set_option maxRecDepth 100000 in
/-- out(at) -/
theorem met_dx (l : Launch) (D : va_G) (dB dN : ClassId) (h0 a1 a2 a3 : Nat) (f g h : Nat → Int32) (x : Int32) : sm_Pure l yX0_out cX0_out 2 ({ frames := 0, cells := 0, slots := 0, locals := 0 } : Room) [.ref h0, .int x] (fun U H => va_P D sCl [(h0, .inr (0, [.ref a1, .ref a2, .ref a3])), (a1, .inl (dB, 32, .inl f)), (a2, .inl (dB, 16, .inl g)), (a3, .inl (dB, 16, .inl h))] H ∧ va_K D sCl (sTy dB dN) U) (h (x.toBitVec.toNat % 16) &&& (255 : Int32)) := by
  refine sm_met (by decide) (Nat.le_of_ble_eq_true rfl) (fun p e s m below meth c ls hx hb hr hlk hml hown hin hts hB hl => ?_)
  have hl : lv_has ls 2 [(0, .ref h0), (1, .int x)] := hl
  have hF : CallFix p m c cX0_out 2 s _ lw_all RX0 := ⟨hx, hb, hml, hown, hts⟩
  obtain ⟨hP, hK⟩ := hB
  refine lv_aload_n hx hb dX0_out_0 rfl (lv_at hl 0 rfl) ?_
  refine va_get (D := D) (ci := 0) (C := RX0) (T := TX0) (N := 3) hx hb hts in_X0 hown hK hP 0 rfl rfl 2 (by decide) (hts _ q41) (fun _ h9 => h9) rfl dX0_out_1 ?_
  refine lv_iload_n hx hb dX0_out_4 rfl (lv_at hl 1 rfl) ?_
  refine lv_bipush (v := (15 : Int32)) hx hb dX0_out_5 (by decide) ?_
  refine lv_iand hx hb dX0_out_7 ?_
  refine sm_top (y := nI (x.toBitVec.toNat % 16)) (pk_and x 4 (by decide)) ?_
  refine sm_bald hx hb hK hP 3 rfl (x.toBitVec.toNat % 16) rfl (by omega) (by decide) dX0_out_8 ?_
  refine lv_sipush (v := (255 : Int32)) hx hb dX0_out_9 (by decide) ?_
  refine lv_iand hx hb dX0_out_12 ?_
  exact sm_iret hx hb hr hlk rfl dX0_out_13
end
section
/-! SmFourDeskModel: the methods that only answer -/
theorem sm_mxW_ok : ∀ k, k < 8 → ((((167 : Int32) <<< (nI k &&& 31)) ||| ((167 : Int32) >>> (((8 : Int32) - nI k) &&& 31))) &&& (255 : Int32)) = nI (sm_mxW k) := by decide +kernel
theorem sm_bit (n b : Nat) (hn : n < 2 ^ 31) (hb : b < 32) : ((nI n) >>> (nI b &&& 31)) &&& (1 : Int32) = nI (n / 2 ^ b % 2) := by
  rw [pk_shrN hn (nI b &&& 31) b (s_l b hb)]
  have h : n / 2 ^ b < 2 ^ 32 := Nat.lt_of_le_of_lt (Nat.div_le_self _ _) (by omega)
  exact pk_andN h 1 (by decide)
theorem sm_mxI_s (r x w b : Nat) (hx : x < 256) (hb : b < 32) : nI r ^^^ ((((nI x) &&& (nI w)) >>> (nI b &&& 31)) &&& (1 : Int32)) = nI (r ^^^ ((x &&& w) / 2 ^ b % 2)) := by
  rw [nx_and, sm_bit (x &&& w) b (Nat.lt_of_le_of_lt Nat.and_le_left (by omega)) hb, nx_xor]
theorem sm_mxI_le (y : Nat) : ∀ b, sm_mxI y b < 2 := by
  intro b
  induction b with
  | zero => show 0 < 2; omega
  | succ b ih =>
    show sm_mxI y b ^^^ (y / 2 ^ b % 2) < 2
    exact Nat.xor_lt_two_pow (n := 1) ih (Nat.mod_lt _ (by omega))
theorem sm_mxO_s (x k : Nat) (hk : k < 8) : nI (sm_mxO x k) ||| (nI (sm_mxI (x &&& sm_mxW k) 8) <<< (nI k &&& 31)) = nI (sm_mxO x (k + 1)) := by
  have h1 := sm_mxI_le (x &&& sm_mxW k) 8
  have h2 : 2 ^ k ≤ 2 ^ 7 := Nat.pow_le_pow_right (by omega) (by omega)
  have h3 : sm_mxI (x &&& sm_mxW k) 8 * 2 ^ k < 2 ^ 32 := Nat.lt_of_le_of_lt (Nat.mul_le_mul (show _ ≤ 1 by omega) h2) (by decide)
  rw [pk_shlN (nI k &&& 31) k (s_l k (by omega)) h3, nx_or]
  rfl
theorem sm_and256 : ∀ y, y < 256 → (((nI (y * 2)) &&& (256 : Int32)) = 0 ↔ y < 128) := by decide +kernel
theorem sm_501 : ∀ y, y < 256 → ¬ y < 128 → (y * 2) ^^^ 501 < 256 := by decide +kernel
theorem sm_tl_s (b n k r y : Nat) : sm_tl b (n + 1) k r y = sm_tl b n (k + 1) (r ^^^ (if b / 2 ^ k % 2 = 1 then y else 0)) (if y < 128 then y * 2 else (y * 2) ^^^ 501) := rfl
theorem sm_tl_lt (b : Nat) : ∀ n k r y, r < 256 → y < 256 → sm_tl b n k r y < 256 := by
  intro n
  induction n with
  | zero => intro k r y hr hy; exact hr
  | succ n ih =>
    intro k r y hr hy
    rw [sm_tl_s]
    refine ih _ _ _ ?_ ?_
    · by_cases h : b / 2 ^ k % 2 = 1
      · rw [if_pos h]; exact Nat.xor_lt_two_pow (n := 8) hr hy
      · rw [if_neg h, Nat.xor_zero]; exact hr
    · by_cases h : y < 128
      · rw [if_pos h]; omega
      · rw [if_neg h]; exact sm_501 y hy h
theorem sm_tm_lt {a b : Nat} (ha : a < 256) : sm_tm a b < 256 := sm_tl_lt b 8 0 0 a (by omega) ha
theorem sm_iv_s (a n b : Nat) : sm_iv a (n + 1) b = if sm_tm a b = 1 then b else sm_iv a n (b + 1) := rfl
theorem sm_iv_lt (a : Nat) : ∀ n b, b + n ≤ 256 → sm_iv a n b < 256 := by
  intro n
  induction n with
  | zero => intro b h; show 0 < 256; omega
  | succ n ih =>
    intro b h
    rw [sm_iv_s]
    by_cases e : sm_tm a b = 1
    · rw [if_pos e]; omega
    · rw [if_neg e]; exact ih (b + 1) (by omega)
theorem sm_248 (r : Nat) (hr : r < 4) : (24 : Int32) - (8 : Int32) * nI r = nI (24 - 8 * r) := by
  rcases (show r = 0 ∨ r = 1 ∨ r = 2 ∨ r = 3 by omega) with rfl | rfl | rfl | rfl <;> decide
theorem nI_ne {a b : Nat} (h : ¬ a = b) (ha : a < 2 ^ 31) (hb : b < 2 ^ 31) : ¬ nI a = nI b := fun e => h ((nI_eq ha hb).mp e)
theorem hdS_X1_mixed : yX1_mixed.cls ≠ "java/lang/invoke/MethodHandle" ∧ yX1_mixed.cls ≠ "java/lang/invoke/VarHandle" ∧ (parseMethodDescriptor yX1_mixed.desc).map (fun d => d.parameters.length) = some 1 := by decide +kernel
theorem hdS_X1_times : yX1_times.cls ≠ "java/lang/invoke/MethodHandle" ∧ yX1_times.cls ≠ "java/lang/invoke/VarHandle" ∧ (parseMethodDescriptor yX1_times.desc).map (fun d => d.parameters.length) = some 2 := by decide +kernel
theorem hdS_X1_inverse : yX1_inverse.cls ≠ "java/lang/invoke/MethodHandle" ∧ yX1_inverse.cls ≠ "java/lang/invoke/VarHandle" ∧ (parseMethodDescriptor yX1_inverse.desc).map (fun d => d.parameters.length) = some 1 := by decide +kernel
theorem hdS_X1_turned : yX1_turned.cls ≠ "java/lang/invoke/MethodHandle" ∧ yX1_turned.cls ≠ "java/lang/invoke/VarHandle" ∧ (parseMethodDescriptor yX1_turned.desc).map (fun d => d.parameters.length) = some 2 := by decide +kernel
theorem hdV_X1_boxed : yX1_boxed.cls = RX1 ∧ yX1_boxed.cls ≠ "java/lang/invoke/MethodHandle" ∧ yX1_boxed.cls ≠ "java/lang/invoke/VarHandle" ∧ (parseMethodDescriptor yX1_boxed.desc).map (fun d => d.parameters.length) = some 1 := by decide +kernel
theorem hdS_X1_word : yX1_word.cls ≠ "java/lang/invoke/MethodHandle" ∧ yX1_word.cls ≠ "java/lang/invoke/VarHandle" ∧ (parseMethodDescriptor yX1_word.desc).map (fun d => d.parameters.length) = some 2 := by decide +kernel
theorem hdS_X1_system : yX1_system.cls ≠ "java/lang/invoke/MethodHandle" ∧ yX1_system.cls ≠ "java/lang/invoke/VarHandle" ∧ (parseMethodDescriptor yX1_system.desc).map (fun d => d.parameters.length) = some 1 := by decide +kernel
theorem hdS_X1_fixed : yX1_fixed.cls ≠ "java/lang/invoke/MethodHandle" ∧ yX1_fixed.cls ≠ "java/lang/invoke/VarHandle" ∧ (parseMethodDescriptor yX1_fixed.desc).map (fun d => d.parameters.length) = some 1 := by decide +kernel
theorem hdS_X1_at : yX1_at.cls ≠ "java/lang/invoke/MethodHandle" ∧ yX1_at.cls ≠ "java/lang/invoke/VarHandle" ∧ (parseMethodDescriptor yX1_at.desc).map (fun d => d.parameters.length) = some 6 := by decide +kernel
theorem hdV_X1_expands : yX1_expands.cls = RX1 ∧ yX1_expands.cls ≠ "java/lang/invoke/MethodHandle" ∧ yX1_expands.cls ≠ "java/lang/invoke/VarHandle" ∧ (parseMethodDescriptor yX1_expands.desc).map (fun d => d.parameters.length) = some 0 := by decide +kernel
theorem hdV_X1_runs : yX1_runs.cls = RX1 ∧ yX1_runs.cls ≠ "java/lang/invoke/MethodHandle" ∧ yX1_runs.cls ≠ "java/lang/invoke/VarHandle" ∧ (parseMethodDescriptor yX1_runs.desc).map (fun d => d.parameters.length) = some 1 := by decide +kernel
theorem hdV_X1_lock : yX1_lock.cls = RX1 ∧ yX1_lock.cls ≠ "java/lang/invoke/MethodHandle" ∧ yX1_lock.cls ≠ "java/lang/invoke/VarHandle" ∧ (parseMethodDescriptor yX1_lock.desc).map (fun d => d.parameters.length) = some 1 := by decide +kernel
theorem hdV_X1_open : yX1_open.cls = RX1 ∧ yX1_open.cls ≠ "java/lang/invoke/MethodHandle" ∧ yX1_open.cls ≠ "java/lang/invoke/VarHandle" ∧ (parseMethodDescriptor yX1_open.desc).map (fun d => d.parameters.length) = some 1 := by decide +kernel
theorem hdV_X1_key : yX1_key.cls = RX1 ∧ yX1_key.cls ≠ "java/lang/invoke/MethodHandle" ∧ yX1_key.cls ≠ "java/lang/invoke/VarHandle" ∧ (parseMethodDescriptor yX1_key.desc).map (fun d => d.parameters.length) = some 5 := by decide +kernel
theorem hdV_X1_block : yX1_block.cls = RX1 ∧ yX1_block.cls ≠ "java/lang/invoke/MethodHandle" ∧ yX1_block.cls ≠ "java/lang/invoke/VarHandle" ∧ (parseMethodDescriptor yX1_block.desc).map (fun d => d.parameters.length) = some 4 := by decide +kernel
theorem hdV_X1_again : yX1_again.cls = RX1 ∧ yX1_again.cls ≠ "java/lang/invoke/MethodHandle" ∧ yX1_again.cls ≠ "java/lang/invoke/VarHandle" ∧ (parseMethodDescriptor yX1_again.desc).map (fun d => d.parameters.length) = some 0 := by decide +kernel
theorem hdV_X1_out : yX1_out.cls = RX1 ∧ yX1_out.cls ≠ "java/lang/invoke/MethodHandle" ∧ yX1_out.cls ≠ "java/lang/invoke/VarHandle" ∧ (parseMethodDescriptor yX1_out.desc).map (fun d => d.parameters.length) = some 1 := by decide +kernel
theorem hdI_X1_init : yX1_init.cls ≠ "java/lang/invoke/MethodHandle" ∧ yX1_init.cls ≠ "java/lang/invoke/VarHandle" ∧ (parseMethodDescriptor yX1_init.desc).map (fun d => d.parameters.length) = some 0 := by decide +kernel
set_option maxHeartbeats 4000000 in
set_option maxRecDepth 100000 in
/-- mixed -/
theorem met_mx (l : Launch) (x : Nat) (hx0 : x < 256) : sm_Pure l yX1_mixed cX1_mixed 6 ({ frames := 0, cells := 0, slots := 0, locals := 0 } : Room) [.int (nI x)] (fun _ _ => True) (nI (sm_mx x)) := by
  refine sm_met (by decide) (Nat.le_of_ble_eq_true rfl) (fun p e s m below meth c ls hx hb hr hlk hml hown hin hts hB hl => ?_)
  have hl : lv_has ls 6 [(0, .int (nI x))] := hl
  have hF : CallFix p m c cX1_mixed 6 s _ lw_all RX1 := ⟨hx, hb, hml, hown, hts⟩
  refine lv_iconst (v := (0 : Int32)) hx hb dX1_mixed_0 (by decide) ?_
  refine lv_istore_n (lv' := [(1, .int (0 : Int32)), (0, .int (nI x))]) hx hb dX1_mixed_1 rfl hl (by decide) rfl (fun ls hl => ?_)
  refine lv_iconst (v := (0 : Int32)) hx hb dX1_mixed_2 (by decide) ?_
  refine lv_istore_n (lv' := [(2, .int (0 : Int32)), (1, .int (0 : Int32)), (0, .int (nI x))]) hx hb dX1_mixed_3 rfl hl (by decide) rfl (fun ls hl => ?_)
  refine sm_loopP (fun k ls => lv_has ls 6 [(2, .int (nI k)), (1, .int (nI (sm_mxO x k))), (0, .int (nI x))]) 8 ?_ ?_ 0 (by decide) _ (lv_sub hl [0, 1, 2] rfl)
  · intro k ls hk hl ih
    refine lv_iload_n hx hb dX1_mixed_4 rfl (lv_at hl 0 rfl) ?_
    refine lv_bipush (v := (8 : Int32)) hx hb dX1_mixed_5 (by decide) ?_
    refine lv_icmp_ge (tgt := 74) hx hb dX1_mixed_7 (by decide) (fun c9 => absurd c9 (nI_ge (b := 8) hk (by decide))) (fun _ => ?_)
    refine lv_sipush (v := (167 : Int32)) hx hb dX1_mixed_10 (by decide) ?_
    refine lv_iload_n hx hb dX1_mixed_13 rfl (lv_at hl 0 rfl) ?_
    refine lv_ishl hx hb dX1_mixed_14 ?_
    refine lv_sipush (v := (167 : Int32)) hx hb dX1_mixed_15 (by decide) ?_
    refine lv_bipush (v := (8 : Int32)) hx hb dX1_mixed_18 (by decide) ?_
    refine lv_iload_n hx hb dX1_mixed_20 rfl (lv_at hl 0 rfl) ?_
    refine lv_isub hx hb dX1_mixed_21 ?_
    refine lv_ishr hx hb dX1_mixed_22 ?_
    refine lv_ior hx hb dX1_mixed_23 ?_
    refine lv_sipush (v := (255 : Int32)) hx hb dX1_mixed_24 (by decide) ?_
    refine lv_iand hx hb dX1_mixed_27 ?_
    refine sm_top (y := nI (sm_mxW k)) (sm_mxW_ok k hk) ?_
    refine lv_istore_n (lv' := [(3, .int (nI (sm_mxW k))), (2, .int (nI k)), (1, .int (nI (sm_mxO x k))), (0, .int (nI x))]) hx hb dX1_mixed_28 rfl hl (by decide) rfl (fun ls hl => ?_)
    refine lv_iconst (v := (0 : Int32)) hx hb dX1_mixed_29 (by decide) ?_
    refine lv_istore (lv' := [(4, .int (0 : Int32)), (3, .int (nI (sm_mxW k))), (2, .int (nI k)), (1, .int (nI (sm_mxO x k))), (0, .int (nI x))]) hx hb dX1_mixed_30 hl (by decide) rfl (fun ls hl => ?_)
    refine lv_iconst (v := (0 : Int32)) hx hb dX1_mixed_32 (by decide) ?_
    refine lv_istore (lv' := [(5, .int (0 : Int32)), (4, .int (0 : Int32)), (3, .int (nI (sm_mxW k))), (2, .int (nI k)), (1, .int (nI (sm_mxO x k))), (0, .int (nI x))]) hx hb dX1_mixed_33 hl (by decide) rfl (fun ls hl => ?_)
    refine sm_loopP (fun b ls => lv_has ls 6 [(5, .int (nI b)), (4, .int (nI (sm_mxI (x &&& sm_mxW k) b))), (3, .int (nI (sm_mxW k))), (2, .int (nI k)), (1, .int (nI (sm_mxO x k))), (0, .int (nI x))]) 8 ?_ ?_ 0 (by decide) _ (lv_sub hl [0, 1, 2, 3, 4, 5] rfl)
    · intro b ls hb9 hl ih2
      refine lv_iload hx hb dX1_mixed_35 (lv_at hl 0 rfl) ?_
      refine lv_bipush (v := (8 : Int32)) hx hb dX1_mixed_37 (by decide) ?_
      refine lv_icmp_ge (tgt := 61) hx hb dX1_mixed_39 (by decide) (fun c9 => absurd c9 (nI_ge (b := 8) hb9 (by decide))) (fun _ => ?_)
      refine lv_iload hx hb dX1_mixed_42 (lv_at hl 1 rfl) ?_
      refine lv_iload_n hx hb dX1_mixed_44 rfl (lv_at hl 5 rfl) ?_
      refine lv_iload_n hx hb dX1_mixed_45 rfl (lv_at hl 2 rfl) ?_
      refine lv_iand hx hb dX1_mixed_46 ?_
      refine lv_iload hx hb dX1_mixed_47 (lv_at hl 0 rfl) ?_
      refine lv_ishr hx hb dX1_mixed_49 ?_
      refine lv_iconst (v := (1 : Int32)) hx hb dX1_mixed_50 (by decide) ?_
      refine lv_iand hx hb dX1_mixed_51 ?_
      refine lv_ixor hx hb dX1_mixed_52 ?_
      refine sm_top (y := nI (sm_mxI (x &&& sm_mxW k) (b + 1))) (sm_mxI_s _ x (sm_mxW k) b hx0 (by omega)) ?_
      refine lv_istore (lv' := [(4, .int (nI (sm_mxI (x &&& sm_mxW k) (b + 1)))), (5, .int (nI b)), (3, .int (nI (sm_mxW k))), (2, .int (nI k)), (1, .int (nI (sm_mxO x k))), (0, .int (nI x))]) hx hb dX1_mixed_53 hl (by decide) rfl (fun ls hl => ?_)
      refine lv_iinc (v := (nI (b + 1))) (lv' := [(5, .int (nI (b + 1))), (4, .int (nI (sm_mxI (x &&& sm_mxW k) (b + 1)))), (3, .int (nI (sm_mxW k))), (2, .int (nI k)), (1, .int (nI (sm_mxO x k))), (0, .int (nI x))]) hx hb dX1_mixed_55 hl (k := 1) rfl (sm_inc b) (by decide) rfl (fun ls hl => ?_)
      refine lv_goto (tgt := 35) hx hb dX1_mixed_58 (by decide) ?_
      exact ih2 _ (lv_sub hl [0, 1, 2, 3, 4, 5] rfl)
    · intro ls hl
      refine lv_iload hx hb dX1_mixed_35 (lv_at hl 0 rfl) ?_
      refine lv_bipush (v := (8 : Int32)) hx hb dX1_mixed_37 (by decide) ?_
      refine lv_icmp_ge (tgt := 61) hx hb dX1_mixed_39 (by decide) (fun _ => ?_) (fun c9 => absurd (nI_le (Nat.le_refl 8) (by decide)) c9)
      refine lv_iload_n hx hb dX1_mixed_61 rfl (lv_at hl 4 rfl) ?_
      refine lv_iload hx hb dX1_mixed_62 (lv_at hl 1 rfl) ?_
      refine lv_iload_n hx hb dX1_mixed_64 rfl (lv_at hl 3 rfl) ?_
      refine lv_ishl hx hb dX1_mixed_65 ?_
      refine lv_ior hx hb dX1_mixed_66 ?_
      refine sm_top (y := nI (sm_mxO x (k + 1))) (sm_mxO_s x k hk) ?_
      refine lv_istore_n (lv' := [(1, .int (nI (sm_mxO x (k + 1)))), (5, .int (nI 8)), (4, .int (nI (sm_mxI (x &&& sm_mxW k) 8))), (3, .int (nI (sm_mxW k))), (2, .int (nI k)), (0, .int (nI x))]) hx hb dX1_mixed_67 rfl hl (by decide) rfl (fun ls hl => ?_)
      refine lv_iinc (v := (nI (k + 1))) (lv' := [(2, .int (nI (k + 1))), (1, .int (nI (sm_mxO x (k + 1)))), (5, .int (nI 8)), (4, .int (nI (sm_mxI (x &&& sm_mxW k) 8))), (3, .int (nI (sm_mxW k))), (0, .int (nI x))]) hx hb dX1_mixed_68 hl (k := 4) rfl (sm_inc k) (by decide) rfl (fun ls hl => ?_)
      refine lv_goto (tgt := 4) hx hb dX1_mixed_71 (by decide) ?_
      exact ih _ (lv_sub hl [0, 1, 5] rfl)
  · intro ls hl
    refine lv_iload_n hx hb dX1_mixed_4 rfl (lv_at hl 0 rfl) ?_
    refine lv_bipush (v := (8 : Int32)) hx hb dX1_mixed_5 (by decide) ?_
    refine lv_icmp_ge (tgt := 74) hx hb dX1_mixed_7 (by decide) (fun _ => ?_) (fun c9 => absurd (nI_le (Nat.le_refl 8) (by decide)) c9)
    refine lv_iload_n hx hb dX1_mixed_74 rfl (lv_at hl 1 rfl) ?_
    exact sm_iret hx hb hr hlk rfl dX1_mixed_75
set_option maxHeartbeats 4000000 in
set_option maxRecDepth 100000 in
/-- times -/
theorem met_tm (l : Launch) (a b : Nat) (ha : a < 256) (hb0 : b < 256) : sm_Pure l yX1_times cX1_times 5 ({ frames := 0, cells := 0, slots := 0, locals := 0 } : Room) [.int (nI a), .int (nI b)] (fun _ _ => True) (nI (sm_tm a b)) := by
  refine sm_met (by decide) (Nat.le_of_ble_eq_true rfl) (fun p e s m below meth c ls hx hb hr hlk hml hown hin hts hB hl => ?_)
  have hl : lv_has ls 5 [(0, .int (nI a)), (1, .int (nI b))] := hl
  have hF : CallFix p m c cX1_times 5 s _ lw_all RX1 := ⟨hx, hb, hml, hown, hts⟩
  refine lv_iconst (v := (0 : Int32)) hx hb dX1_times_0 (by decide) ?_
  refine lv_istore_n (lv' := [(2, .int (0 : Int32)), (0, .int (nI a)), (1, .int (nI b))]) hx hb dX1_times_1 rfl hl (by decide) rfl (fun ls hl => ?_)
  refine lv_iload_n hx hb dX1_times_2 rfl (lv_at hl 1 rfl) ?_
  refine lv_istore_n (lv' := [(3, .int (nI a)), (2, .int (0 : Int32)), (0, .int (nI a)), (1, .int (nI b))]) hx hb dX1_times_3 rfl hl (by decide) rfl (fun ls hl => ?_)
  refine lv_iconst (v := (0 : Int32)) hx hb dX1_times_4 (by decide) ?_
  refine lv_istore (lv' := [(4, .int (0 : Int32)), (3, .int (nI a)), (2, .int (0 : Int32)), (0, .int (nI a)), (1, .int (nI b))]) hx hb dX1_times_5 hl (by decide) rfl (fun ls hl => ?_)
  refine sm_loopP (fun k ls => ∃ r y : Nat, y < 256 ∧ sm_tl b (8 - k) k r y = sm_tm a b ∧ lv_has ls 5 [(4, .int (nI k)), (3, .int (nI y)), (2, .int (nI r)), (0, .int (nI a)), (1, .int (nI b))]) 8 ?_ ?_ 0 (by decide) _ ⟨0, a, ha, rfl, lv_sub hl [0, 1, 2, 3, 4] rfl⟩
  · intro k ls hk ⟨r, y, hy, ht, hl⟩ ih
    rw [show 8 - k = (8 - (k + 1)) + 1 by omega, sm_tl_s] at ht
    refine lv_iload hx hb dX1_times_7 (lv_at hl 0 rfl) ?_
    refine lv_bipush (v := (8 : Int32)) hx hb dX1_times_9 (by decide) ?_
    refine lv_icmp_ge (tgt := 60) hx hb dX1_times_11 (by decide) (fun c9 => absurd c9 (nI_ge (b := 8) hk (by decide))) (fun _ => ?_)
    refine lv_iload_n hx hb dX1_times_14 rfl (lv_at hl 2 rfl) ?_
    refine lv_iload_n hx hb dX1_times_15 rfl (lv_at hl 4 rfl) ?_
    refine lv_iload hx hb dX1_times_16 (lv_at hl 0 rfl) ?_
    refine lv_ishr hx hb dX1_times_18 ?_
    refine lv_iconst (v := (1 : Int32)) hx hb dX1_times_19 (by decide) ?_
    refine lv_iand hx hb dX1_times_20 ?_
    refine sm_top (y := nI (b / 2 ^ k % 2)) (sm_bit b k (by omega) (by omega)) ?_
    refine lv_iconst (v := (1 : Int32)) hx hb dX1_times_21 (by decide) ?_
    refine lv_icmp_ne (tgt := 29) hx hb dX1_times_22 (by decide) (fun hc => ?_) (fun hc => ?_)
    · have hc2 : ¬ b / 2 ^ k % 2 = 1 := fun h9 => hc (by rw [h9]; rfl)
      refine lv_iconst (v := (0 : Int32)) hx hb dX1_times_29 (by decide) ?_
      refine lv_ixor hx hb dX1_times_30 ?_
      refine sm_top (y := nI r) (Int32.xor_zero) ?_
      refine lv_istore_n (lv' := [(2, .int (nI r)), (4, .int (nI k)), (3, .int (nI y)), (0, .int (nI a)), (1, .int (nI b))]) hx hb dX1_times_31 rfl hl (by decide) rfl (fun ls hl => ?_)
      refine lv_iload_n hx hb dX1_times_32 rfl (lv_at hl 2 rfl) ?_
      refine lv_iconst (v := (1 : Int32)) hx hb dX1_times_33 (by decide) ?_
      refine lv_ishl hx hb dX1_times_34 ?_
      refine sm_top (y := nI (y * 2)) (pk_shlN (n := y) ((1 : Int32) &&& 31) 1 (by decide) (by omega)) ?_
      refine lv_istore_n (lv' := [(3, .int (nI (y * 2))), (2, .int (nI r)), (4, .int (nI k)), (0, .int (nI a)), (1, .int (nI b))]) hx hb dX1_times_35 rfl hl (by decide) rfl (fun ls hl => ?_)
      refine lv_iload_n hx hb dX1_times_36 rfl (lv_at hl 0 rfl) ?_
      refine lv_iload_n hx hb dX1_times_37 rfl (lv_at hl 0 rfl) ?_
      refine lv_sipush (v := (256 : Int32)) hx hb dX1_times_38 (by decide) ?_
      refine lv_iand hx hb dX1_times_41 ?_
      refine lv_if_eq (tgt := 51) hx hb dX1_times_42 (by decide) (fun hd => ?_) (fun hd => ?_)
      · have hy2 : y < 128 := (sm_and256 y hy).mp hd
        rw [if_neg hc2, if_pos hy2, Nat.xor_zero] at ht
        refine lv_iconst (v := (0 : Int32)) hx hb dX1_times_51 (by decide) ?_
        refine lv_ixor hx hb dX1_times_52 ?_
        refine sm_top (y := nI (y * 2)) (Int32.xor_zero) ?_
        refine lv_istore_n (lv' := [(3, .int (nI (y * 2))), (2, .int (nI r)), (4, .int (nI k)), (0, .int (nI a)), (1, .int (nI b))]) hx hb dX1_times_53 rfl hl (by decide) rfl (fun ls hl => ?_)
        refine lv_iinc (v := (nI (k + 1))) (lv' := [(4, .int (nI (k + 1))), (3, .int (nI (y * 2))), (2, .int (nI r)), (0, .int (nI a)), (1, .int (nI b))]) hx hb dX1_times_54 hl (k := 2) rfl (sm_inc k) (by decide) rfl (fun ls hl => ?_)
        refine lv_goto (tgt := 7) hx hb dX1_times_57 (by decide) ?_
        exact ih _ ⟨r, (y * 2), by omega, ht, lv_sub hl [0, 1, 2, 3, 4] rfl⟩
      · have hy2 : ¬ y < 128 := fun h9 => hd ((sm_and256 y hy).mpr h9)
        rw [if_neg hc2, if_neg hy2, Nat.xor_zero] at ht
        refine lv_sipush (v := (501 : Int32)) hx hb dX1_times_45 (by decide) ?_
        refine lv_goto (tgt := 52) hx hb dX1_times_48 (by decide) ?_
        refine lv_ixor hx hb dX1_times_52 ?_
        refine sm_top (y := nI ((y * 2) ^^^ 501)) (nx_xor (y * 2) 501) ?_
        refine lv_istore_n (lv' := [(3, .int (nI ((y * 2) ^^^ 501))), (2, .int (nI r)), (4, .int (nI k)), (0, .int (nI a)), (1, .int (nI b))]) hx hb dX1_times_53 rfl hl (by decide) rfl (fun ls hl => ?_)
        refine lv_iinc (v := (nI (k + 1))) (lv' := [(4, .int (nI (k + 1))), (3, .int (nI ((y * 2) ^^^ 501))), (2, .int (nI r)), (0, .int (nI a)), (1, .int (nI b))]) hx hb dX1_times_54 hl (k := 2) rfl (sm_inc k) (by decide) rfl (fun ls hl => ?_)
        refine lv_goto (tgt := 7) hx hb dX1_times_57 (by decide) ?_
        exact ih _ ⟨r, ((y * 2) ^^^ 501), sm_501 y hy hy2, ht, lv_sub hl [0, 1, 2, 3, 4] rfl⟩
    · have hc2 : b / 2 ^ k % 2 = 1 := (nI_eq (b := 1) (Nat.lt_of_lt_of_le (Nat.mod_lt _ (by omega)) (by decide)) (by decide)).mp hc
      refine lv_iload_n hx hb dX1_times_25 rfl (lv_at hl 1 rfl) ?_
      refine lv_goto (tgt := 30) hx hb dX1_times_26 (by decide) ?_
      refine lv_ixor hx hb dX1_times_30 ?_
      refine sm_top (y := nI (r ^^^ y)) (nx_xor r y) ?_
      refine lv_istore_n (lv' := [(2, .int (nI (r ^^^ y))), (4, .int (nI k)), (3, .int (nI y)), (0, .int (nI a)), (1, .int (nI b))]) hx hb dX1_times_31 rfl hl (by decide) rfl (fun ls hl => ?_)
      refine lv_iload_n hx hb dX1_times_32 rfl (lv_at hl 2 rfl) ?_
      refine lv_iconst (v := (1 : Int32)) hx hb dX1_times_33 (by decide) ?_
      refine lv_ishl hx hb dX1_times_34 ?_
      refine sm_top (y := nI (y * 2)) (pk_shlN (n := y) ((1 : Int32) &&& 31) 1 (by decide) (by omega)) ?_
      refine lv_istore_n (lv' := [(3, .int (nI (y * 2))), (2, .int (nI (r ^^^ y))), (4, .int (nI k)), (0, .int (nI a)), (1, .int (nI b))]) hx hb dX1_times_35 rfl hl (by decide) rfl (fun ls hl => ?_)
      refine lv_iload_n hx hb dX1_times_36 rfl (lv_at hl 0 rfl) ?_
      refine lv_iload_n hx hb dX1_times_37 rfl (lv_at hl 0 rfl) ?_
      refine lv_sipush (v := (256 : Int32)) hx hb dX1_times_38 (by decide) ?_
      refine lv_iand hx hb dX1_times_41 ?_
      refine lv_if_eq (tgt := 51) hx hb dX1_times_42 (by decide) (fun hd => ?_) (fun hd => ?_)
      · have hy2 : y < 128 := (sm_and256 y hy).mp hd
        rw [if_pos hc2, if_pos hy2] at ht
        refine lv_iconst (v := (0 : Int32)) hx hb dX1_times_51 (by decide) ?_
        refine lv_ixor hx hb dX1_times_52 ?_
        refine sm_top (y := nI (y * 2)) (Int32.xor_zero) ?_
        refine lv_istore_n (lv' := [(3, .int (nI (y * 2))), (2, .int (nI (r ^^^ y))), (4, .int (nI k)), (0, .int (nI a)), (1, .int (nI b))]) hx hb dX1_times_53 rfl hl (by decide) rfl (fun ls hl => ?_)
        refine lv_iinc (v := (nI (k + 1))) (lv' := [(4, .int (nI (k + 1))), (3, .int (nI (y * 2))), (2, .int (nI (r ^^^ y))), (0, .int (nI a)), (1, .int (nI b))]) hx hb dX1_times_54 hl (k := 2) rfl (sm_inc k) (by decide) rfl (fun ls hl => ?_)
        refine lv_goto (tgt := 7) hx hb dX1_times_57 (by decide) ?_
        exact ih _ ⟨(r ^^^ y), (y * 2), by omega, ht, lv_sub hl [0, 1, 2, 3, 4] rfl⟩
      · have hy2 : ¬ y < 128 := fun h9 => hd ((sm_and256 y hy).mpr h9)
        rw [if_pos hc2, if_neg hy2] at ht
        refine lv_sipush (v := (501 : Int32)) hx hb dX1_times_45 (by decide) ?_
        refine lv_goto (tgt := 52) hx hb dX1_times_48 (by decide) ?_
        refine lv_ixor hx hb dX1_times_52 ?_
        refine sm_top (y := nI ((y * 2) ^^^ 501)) (nx_xor (y * 2) 501) ?_
        refine lv_istore_n (lv' := [(3, .int (nI ((y * 2) ^^^ 501))), (2, .int (nI (r ^^^ y))), (4, .int (nI k)), (0, .int (nI a)), (1, .int (nI b))]) hx hb dX1_times_53 rfl hl (by decide) rfl (fun ls hl => ?_)
        refine lv_iinc (v := (nI (k + 1))) (lv' := [(4, .int (nI (k + 1))), (3, .int (nI ((y * 2) ^^^ 501))), (2, .int (nI (r ^^^ y))), (0, .int (nI a)), (1, .int (nI b))]) hx hb dX1_times_54 hl (k := 2) rfl (sm_inc k) (by decide) rfl (fun ls hl => ?_)
        refine lv_goto (tgt := 7) hx hb dX1_times_57 (by decide) ?_
        exact ih _ ⟨(r ^^^ y), ((y * 2) ^^^ 501), sm_501 y hy hy2, ht, lv_sub hl [0, 1, 2, 3, 4] rfl⟩
  · intro ls ⟨r, y, hy, ht, hl⟩
    refine lv_iload hx hb dX1_times_7 (lv_at hl 0 rfl) ?_
    refine lv_bipush (v := (8 : Int32)) hx hb dX1_times_9 (by decide) ?_
    refine lv_icmp_ge (tgt := 60) hx hb dX1_times_11 (by decide) (fun _ => ?_) (fun c9 => absurd (nI_le (Nat.le_refl 8) (by decide)) c9)
    refine lv_iload_n hx hb dX1_times_60 rfl (lv_at hl 2 rfl) ?_
    exact sm_iret hx hb hr hlk (by rw [← ht]; rfl) dX1_times_61
set_option maxHeartbeats 4000000 in
set_option maxRecDepth 100000 in
/-- inverse -/
theorem met_iv (l : Launch) (a : Nat) (ha : a < 256) : sm_Pure l yX1_inverse cX1_inverse 2 ({ frames := 1, cells := 0, slots := 0, locals := 24 } : Room) [.int (nI a)] (fun _ _ => True) (nI (sm_iv a 255 1)) := by
  refine sm_met (by decide) (Nat.le_of_ble_eq_true rfl) (fun p e s m below meth c ls hx hb hr hlk hml hown hin hts hB hl => ?_)
  have hl : lv_has ls 2 [(0, .int (nI a))] := hl
  have hF : CallFix p m c cX1_inverse 2 s _ lw_all RX1 := ⟨hx, hb, hml, hown, hts⟩
  refine lv_iconst (v := (1 : Int32)) hx hb dX1_inverse_0 (by decide) ?_
  refine lv_istore_n (lv' := [(1, .int (1 : Int32)), (0, .int (nI a))]) hx hb dX1_inverse_1 rfl hl (by decide) rfl (fun ls hl => ?_)
  refine sm_loopP (fun b ls => (sm_iv a (256 - b) b = sm_iv a 255 1 ∧ lv_has ls 2 [(1, .int (nI b)), (0, .int (nI a))])) 256 ?_ ?_ 1 (by decide) _ ⟨rfl, lv_sub hl [0, 1] rfl⟩
  · intro b ls hb9 ⟨ht, hl⟩ ih
    rw [show 256 - b = (256 - (b + 1)) + 1 by omega, sm_iv_s] at ht
    refine lv_iload_n hx hb dX1_inverse_2 rfl (lv_at hl 0 rfl) ?_
    refine lv_sipush (v := (256 : Int32)) hx hb dX1_inverse_3 (by decide) ?_
    refine lv_icmp_ge (tgt := 26) hx hb dX1_inverse_6 (by decide) (fun c9 => absurd c9 (nI_ge (b := 256) hb9 (by decide))) (fun _ => ?_)
    refine lv_iload_n hx hb dX1_inverse_9 rfl (lv_at hl 1 rfl) ?_
    refine lv_iload_n hx hb dX1_inverse_10 rfl (lv_at hl 0 rfl) ?_
    refine sm_pS (rest := []) hF (met_tm l a b ha hb9) (lw_S q331 q332 q18 q333) hdS_X1_times ⟨rfl, rfl, Nat.le_of_ble_eq_true rfl, Nat.le_of_ble_eq_true rfl⟩ sm_mvT trivial hl.1 rfl (Nat.le_of_ble_eq_true rfl) dX1_inverse_11 ⟨Nat.le_of_ble_eq_true rfl, Nat.le_of_ble_eq_true rfl⟩ ?_
    refine lv_iconst (v := (1 : Int32)) hx hb dX1_inverse_14 (by decide) ?_
    refine lv_icmp_ne (tgt := 20) hx hb dX1_inverse_15 (by decide) (fun hc => ?_) (fun hc => ?_)
    · rw [if_neg (fun h9 => hc (by rw [h9]; rfl))] at ht
      refine lv_iinc (v := (nI (b + 1))) (lv' := [(1, .int (nI (b + 1))), (0, .int (nI a))]) hx hb dX1_inverse_20 hl (k := 0) rfl (sm_inc b) (by decide) rfl (fun ls hl => ?_)
      refine lv_goto (tgt := 2) hx hb dX1_inverse_23 (by decide) ?_
      exact ih _ ⟨ht, lv_sub hl [0, 1] rfl⟩
    · rw [if_pos ((nI_eq (b := 1) (Nat.lt_of_lt_of_le (sm_tm_lt ha) (by decide)) (by decide)).mp hc)] at ht
      refine lv_iload_n hx hb dX1_inverse_18 rfl (lv_at hl 0 rfl) ?_
      exact sm_iret hx hb hr hlk (by rw [ht]) dX1_inverse_19
  · intro ls ⟨ht, hl⟩
    refine lv_iload_n hx hb dX1_inverse_2 rfl (lv_at hl 0 rfl) ?_
    refine lv_sipush (v := (256 : Int32)) hx hb dX1_inverse_3 (by decide) ?_
    refine lv_icmp_ge (tgt := 26) hx hb dX1_inverse_6 (by decide) (fun _ => ?_) (fun c9 => absurd (nI_le (Nat.le_refl 256) (by decide)) c9)
    refine lv_iconst (v := (0 : Int32)) hx hb dX1_inverse_26 (by decide) ?_
    exact sm_iret hx hb hr hlk (by rw [← ht]; rfl) dX1_inverse_27
set_option maxHeartbeats 4000000 in
set_option maxRecDepth 100000 in
/-- turned -/
theorem met_tu (l : Launch) (x n : Int32) : sm_Pure l yX1_turned cX1_turned 2 ({ frames := 0, cells := 0, slots := 0, locals := 0 } : Room) [.int x, .int n] (fun _ _ => True) (sm_trn x n) := by
  refine sm_met (by decide) (Nat.le_of_ble_eq_true rfl) (fun p e s m below meth c ls hx hb hr hlk hml hown hin hts hB hl => ?_)
  have hl : lv_has ls 2 [(0, .int x), (1, .int n)] := hl
  have hF : CallFix p m c cX1_turned 2 s _ lw_all RX1 := ⟨hx, hb, hml, hown, hts⟩
  refine lv_iload_n hx hb dX1_turned_0 rfl (lv_at hl 0 rfl) ?_
  refine lv_iload_n hx hb dX1_turned_1 rfl (lv_at hl 1 rfl) ?_
  refine lv_ishl hx hb dX1_turned_2 ?_
  refine lv_iload_n hx hb dX1_turned_3 rfl (lv_at hl 0 rfl) ?_
  refine lv_bipush (v := (32 : Int32)) hx hb dX1_turned_4 (by decide) ?_
  refine lv_iload_n hx hb dX1_turned_6 rfl (lv_at hl 1 rfl) ?_
  refine lv_isub hx hb dX1_turned_7 ?_
  refine lv_iushr hx hb dX1_turned_8 rfl ?_
  refine lv_ior hx hb dX1_turned_9 ?_
  exact sm_iret hx hb hr hlk rfl dX1_turned_10
set_option maxHeartbeats 4000000 in
set_option maxRecDepth 100000 in
/-- boxed -/
theorem met_bx (l : Launch) (D : va_G) (dB dN : ClassId) (h0 : Nat) (v0 v1 v2 : Value) (b1 : Nat) (v4 v5 : Value) (z : Int32) : sm_Pure l yX1_boxed cX1_boxed 4 ({ frames := 0, cells := 0, slots := 0, locals := 0 } : Room) [.ref h0, .int z] (fun U H => va_P D sCl [(h0, .inr (1, [v0, v1, v2, .ref b1, v4, v5])), (b1, .inl (dN, 256, .inl sm_box))] H ∧ va_K D sCl (sTy dB dN) U) (sm_tau z) := by
  refine sm_met (by decide) (Nat.le_of_ble_eq_true rfl) (fun p e s m below meth c ls hx hb hr hlk hml hown hin hts hB hl => ?_)
  have hl : lv_has ls 4 [(0, .ref h0), (1, .int z)] := hl
  have hF : CallFix p m c cX1_boxed 4 s _ lw_all RX1 := ⟨hx, hb, hml, hown, hts⟩
  obtain ⟨hP, hK⟩ := hB
  refine lv_iconst (v := (0 : Int32)) hx hb dX1_boxed_0 (by decide) ?_
  refine lv_istore_n (lv' := [(2, .int (0 : Int32)), (0, .ref h0), (1, .int z)]) hx hb dX1_boxed_1 rfl hl (by decide) rfl (fun ls hl => ?_)
  refine lv_iconst (v := (0 : Int32)) hx hb dX1_boxed_2 (by decide) ?_
  refine lv_istore_n (lv' := [(3, .int (0 : Int32)), (2, .int (0 : Int32)), (0, .ref h0), (1, .int z)]) hx hb dX1_boxed_3 rfl hl (by decide) rfl (fun ls hl => ?_)
  refine sm_loopP (fun k ls => lv_has ls 4 [(3, .int (nI k)), (2, .int (sm_bxl z k)), (0, .ref h0), (1, .int z)]) 4 ?_ ?_ 0 (by decide) _ (lv_sub hl [0, 1, 2, 3] rfl)
  · intro k ls hk hl ih
    refine lv_iload_n hx hb dX1_boxed_4 rfl (lv_at hl 0 rfl) ?_
    refine lv_iconst (v := (4 : Int32)) hx hb dX1_boxed_5 (by decide) ?_
    refine lv_icmp_ge (tgt := 38) hx hb dX1_boxed_6 (by decide) (fun c9 => absurd c9 (nI_ge (b := 4) hk (by decide))) (fun _ => ?_)
    refine lv_iload_n hx hb dX1_boxed_9 rfl (lv_at hl 1 rfl) ?_
    refine lv_aload_n hx hb dX1_boxed_10 rfl (lv_at hl 2 rfl) ?_
    refine va_get (D := D) (ci := 1) (C := RX1) (T := TX1) (N := 6) hx hb hts in_X1 hown hK hP 0 rfl rfl 3 (by decide) (hts _ q337) (fun _ h9 => h9) rfl dX1_boxed_11 ?_
    refine lv_iload_n hx hb dX1_boxed_14 rfl (lv_at hl 3 rfl) ?_
    refine lv_bipush (v := (8 : Int32)) hx hb dX1_boxed_15 (by decide) ?_
    refine lv_iload_n hx hb dX1_boxed_17 rfl (lv_at hl 0 rfl) ?_
    refine lv_imul hx hb dX1_boxed_18 ?_
    refine lv_iushr hx hb dX1_boxed_19 rfl ?_
    refine lv_sipush (v := (255 : Int32)) hx hb dX1_boxed_20 (by decide) ?_
    refine lv_iand hx hb dX1_boxed_23 ?_
    refine va_iald hx hb hK hP 1 1 rfl rfl (pk_andIn _ 8 (by decide) (by decide)) dX1_boxed_24 ?_
    refine lv_bipush (v := (8 : Int32)) hx hb dX1_boxed_25 (by decide) ?_
    refine lv_iload_n hx hb dX1_boxed_27 rfl (lv_at hl 0 rfl) ?_
    refine lv_imul hx hb dX1_boxed_28 ?_
    refine lv_ishl hx hb dX1_boxed_29 ?_
    refine lv_ior hx hb dX1_boxed_30 ?_
    refine sm_top (y := sm_bxl z (k + 1)) rfl ?_
    refine lv_istore_n (lv' := [(2, .int (sm_bxl z (k + 1))), (3, .int (nI k)), (0, .ref h0), (1, .int z)]) hx hb dX1_boxed_31 rfl hl (by decide) rfl (fun ls hl => ?_)
    refine lv_iinc (v := (nI (k + 1))) (lv' := [(3, .int (nI (k + 1))), (2, .int (sm_bxl z (k + 1))), (0, .ref h0), (1, .int z)]) hx hb dX1_boxed_32 hl (k := 1) rfl (sm_inc k) (by decide) rfl (fun ls hl => ?_)
    refine lv_goto (tgt := 4) hx hb dX1_boxed_35 (by decide) ?_
    exact ih _ (lv_sub hl [0, 1, 2, 3] rfl)
  · intro ls hl
    refine lv_iload_n hx hb dX1_boxed_4 rfl (lv_at hl 0 rfl) ?_
    refine lv_iconst (v := (4 : Int32)) hx hb dX1_boxed_5 (by decide) ?_
    refine lv_icmp_ge (tgt := 38) hx hb dX1_boxed_6 (by decide) (fun _ => ?_) (fun c9 => absurd (nI_le (Nat.le_refl 4) (by decide)) c9)
    refine lv_iload_n hx hb dX1_boxed_38 rfl (lv_at hl 1 rfl) ?_
    exact sm_iret hx hb hr hlk (sm_bxl_tau z) dX1_boxed_39
set_option maxHeartbeats 4000000 in
set_option maxRecDepth 100000 in
/-- word -/
theorem met_mw (l : Launch) (D : va_G) (dB dN : ClassId) (a n : Nat) (f : Nat → Int32) (k : Nat) (hk : 4 * k + 3 < n) (hn : n < 2 ^ 31) : sm_Pure l yX1_word cX1_word 2 ({ frames := 0, cells := 0, slots := 0, locals := 0 } : Room) [.ref a, .int (nI k)] (fun U H => va_P D sCl [(a, .inl (dB, n, .inl f))] H ∧ va_K D sCl (sTy dB dN) U) (sm_wd f (4 * k)) := by
  refine sm_met (by decide) (Nat.le_of_ble_eq_true rfl) (fun p e s m below meth c ls hx hb hr hlk hml hown hin hts hB hl => ?_)
  have hl : lv_has ls 2 [(0, .ref a), (1, .int (nI k))] := hl
  have hF : CallFix p m c cX1_word 2 s _ lw_all RX1 := ⟨hx, hb, hml, hown, hts⟩
  obtain ⟨hP, hK⟩ := hB
  refine lv_aload_n hx hb dX1_word_0 rfl (lv_at hl 0 rfl) ?_
  refine lv_iconst (v := (4 : Int32)) hx hb dX1_word_1 (by decide) ?_
  refine lv_iload_n hx hb dX1_word_2 rfl (lv_at hl 1 rfl) ?_
  refine lv_imul hx hb dX1_word_3 ?_
  refine sm_top (y := nI (4 * k)) (pk_mul 4 k) ?_
  refine sm_bald hx hb hK hP 0 rfl (4 * k) rfl (by omega) hn dX1_word_4 ?_
  refine lv_sipush (v := (255 : Int32)) hx hb dX1_word_5 (by decide) ?_
  refine lv_iand hx hb dX1_word_8 ?_
  refine lv_bipush (v := (24 : Int32)) hx hb dX1_word_9 (by decide) ?_
  refine lv_ishl hx hb dX1_word_11 ?_
  refine lv_aload_n hx hb dX1_word_12 rfl (lv_at hl 0 rfl) ?_
  refine lv_iconst (v := (4 : Int32)) hx hb dX1_word_13 (by decide) ?_
  refine lv_iload_n hx hb dX1_word_14 rfl (lv_at hl 1 rfl) ?_
  refine lv_imul hx hb dX1_word_15 ?_
  refine sm_top (y := nI (4 * k)) (pk_mul 4 k) ?_
  refine lv_iconst (v := (1 : Int32)) hx hb dX1_word_16 (by decide) ?_
  refine lv_iadd hx hb dX1_word_17 ?_
  refine sm_bald hx hb hK hP 0 rfl ((4 * k) + 1) (nI_add (4 * k) 1) (by omega) hn dX1_word_18 ?_
  refine lv_sipush (v := (255 : Int32)) hx hb dX1_word_19 (by decide) ?_
  refine lv_iand hx hb dX1_word_22 ?_
  refine lv_bipush (v := (16 : Int32)) hx hb dX1_word_23 (by decide) ?_
  refine lv_ishl hx hb dX1_word_25 ?_
  refine lv_ior hx hb dX1_word_26 ?_
  refine lv_aload_n hx hb dX1_word_27 rfl (lv_at hl 0 rfl) ?_
  refine lv_iconst (v := (4 : Int32)) hx hb dX1_word_28 (by decide) ?_
  refine lv_iload_n hx hb dX1_word_29 rfl (lv_at hl 1 rfl) ?_
  refine lv_imul hx hb dX1_word_30 ?_
  refine sm_top (y := nI (4 * k)) (pk_mul 4 k) ?_
  refine lv_iconst (v := (2 : Int32)) hx hb dX1_word_31 (by decide) ?_
  refine lv_iadd hx hb dX1_word_32 ?_
  refine sm_bald hx hb hK hP 0 rfl ((4 * k) + 2) (nI_add (4 * k) 2) (by omega) hn dX1_word_33 ?_
  refine lv_sipush (v := (255 : Int32)) hx hb dX1_word_34 (by decide) ?_
  refine lv_iand hx hb dX1_word_37 ?_
  refine lv_bipush (v := (8 : Int32)) hx hb dX1_word_38 (by decide) ?_
  refine lv_ishl hx hb dX1_word_40 ?_
  refine lv_ior hx hb dX1_word_41 ?_
  refine lv_aload_n hx hb dX1_word_42 rfl (lv_at hl 0 rfl) ?_
  refine lv_iconst (v := (4 : Int32)) hx hb dX1_word_43 (by decide) ?_
  refine lv_iload_n hx hb dX1_word_44 rfl (lv_at hl 1 rfl) ?_
  refine lv_imul hx hb dX1_word_45 ?_
  refine sm_top (y := nI (4 * k)) (pk_mul 4 k) ?_
  refine lv_iconst (v := (3 : Int32)) hx hb dX1_word_46 (by decide) ?_
  refine lv_iadd hx hb dX1_word_47 ?_
  refine sm_bald hx hb hK hP 0 rfl ((4 * k) + 3) (nI_add (4 * k) 3) (by omega) hn dX1_word_48 ?_
  refine lv_sipush (v := (255 : Int32)) hx hb dX1_word_49 (by decide) ?_
  refine lv_iand hx hb dX1_word_52 ?_
  refine lv_ior hx hb dX1_word_53 ?_
  exact sm_iret hx hb hr hlk rfl dX1_word_54
set_option maxHeartbeats 4000000 in
set_option maxRecDepth 100000 in
/-- system -/
theorem met_sy (l : Launch) (k : Nat) (hk : k < 4) : sm_Pure l yX1_system cX1_system 1 ({ frames := 0, cells := 0, slots := 0, locals := 0 } : Room) [.int (nI k)] (fun _ _ => True) (sm_fk k) := by
  refine sm_met (by decide) (Nat.le_of_ble_eq_true rfl) (fun p e s m below meth c ls hx hb hr hlk hml hown hin hts hB hl => ?_)
  have hl : lv_has ls 1 [(0, .int (nI k))] := hl
  have hF : CallFix p m c cX1_system 1 s _ lw_all RX1 := ⟨hx, hb, hml, hown, hts⟩
  rcases (show k = 0 ∨ k = 1 ∨ k = 2 ∨ k = 3 by omega) with rfl | rfl | rfl | rfl
  · refine lv_iload_n hx hb dX1_system_0 rfl (lv_at hl 0 rfl) ?_
    refine lv_if_ne (tgt := 9) hx hb dX1_system_1 (by decide) (fun c9 => absurd (show nI 0 = 0 by decide) c9) (fun _ => ?_)
    refine lv_ldc hx hb hown (hts _ q371) dX1_system_4 ?_
    refine lv_goto (tgt := 31) hx hb dX1_system_6 (by decide) ?_
    exact sm_iret hx hb hr hlk rfl dX1_system_31
  · refine lv_iload_n hx hb dX1_system_0 rfl (lv_at hl 0 rfl) ?_
    refine lv_if_ne (tgt := 9) hx hb dX1_system_1 (by decide) (fun _ => ?_) (fun c9 => absurd c9 (show ¬ nI 1 = 0 by decide))
    refine lv_iload_n hx hb dX1_system_9 rfl (lv_at hl 0 rfl) ?_
    refine lv_iconst (v := (1 : Int32)) hx hb dX1_system_10 (by decide) ?_
    refine lv_icmp_ne (tgt := 19) hx hb dX1_system_11 (by decide) (fun c9 => absurd (show nI 1 = (1 : Int32) by decide) c9) (fun _ => ?_)
    refine lv_ldc hx hb hown (hts _ q372) dX1_system_14 ?_
    refine lv_goto (tgt := 31) hx hb dX1_system_16 (by decide) ?_
    exact sm_iret hx hb hr hlk rfl dX1_system_31
  · refine lv_iload_n hx hb dX1_system_0 rfl (lv_at hl 0 rfl) ?_
    refine lv_if_ne (tgt := 9) hx hb dX1_system_1 (by decide) (fun _ => ?_) (fun c9 => absurd c9 (show ¬ nI 2 = 0 by decide))
    refine lv_iload_n hx hb dX1_system_9 rfl (lv_at hl 0 rfl) ?_
    refine lv_iconst (v := (1 : Int32)) hx hb dX1_system_10 (by decide) ?_
    refine lv_icmp_ne (tgt := 19) hx hb dX1_system_11 (by decide) (fun _ => ?_) (fun c9 => absurd c9 (show ¬ nI 2 = (1 : Int32) by decide))
    refine lv_iload_n hx hb dX1_system_19 rfl (lv_at hl 0 rfl) ?_
    refine lv_iconst (v := (2 : Int32)) hx hb dX1_system_20 (by decide) ?_
    refine lv_icmp_ne (tgt := 29) hx hb dX1_system_21 (by decide) (fun c9 => absurd (show nI 2 = (2 : Int32) by decide) c9) (fun _ => ?_)
    refine lv_ldc hx hb hown (hts _ q373) dX1_system_24 ?_
    refine lv_goto (tgt := 31) hx hb dX1_system_26 (by decide) ?_
    exact sm_iret hx hb hr hlk rfl dX1_system_31
  · refine lv_iload_n hx hb dX1_system_0 rfl (lv_at hl 0 rfl) ?_
    refine lv_if_ne (tgt := 9) hx hb dX1_system_1 (by decide) (fun _ => ?_) (fun c9 => absurd c9 (show ¬ nI 3 = 0 by decide))
    refine lv_iload_n hx hb dX1_system_9 rfl (lv_at hl 0 rfl) ?_
    refine lv_iconst (v := (1 : Int32)) hx hb dX1_system_10 (by decide) ?_
    refine lv_icmp_ne (tgt := 19) hx hb dX1_system_11 (by decide) (fun _ => ?_) (fun c9 => absurd c9 (show ¬ nI 3 = (1 : Int32) by decide))
    refine lv_iload_n hx hb dX1_system_19 rfl (lv_at hl 0 rfl) ?_
    refine lv_iconst (v := (2 : Int32)) hx hb dX1_system_20 (by decide) ?_
    refine lv_icmp_ne (tgt := 29) hx hb dX1_system_21 (by decide) (fun _ => ?_) (fun c9 => absurd c9 (show ¬ nI 3 = (2 : Int32) by decide))
    refine lv_ldc hx hb hown (hts _ q374) dX1_system_29 ?_
    exact sm_iret hx hb hr hlk rfl dX1_system_31
set_option maxHeartbeats 4000000 in
set_option maxRecDepth 100000 in
/-- fixed -/
theorem met_fi (l : Launch) (i : Nat) (hi : i < 32) : sm_Pure l yX1_fixed cX1_fixed 3 ({ frames := 0, cells := 0, slots := 0, locals := 0 } : Room) [.int (nI i)] (fun _ _ => True) (sm_ck i) := by
  refine sm_met (by decide) (Nat.le_of_ble_eq_true rfl) (fun p e s m below meth c ls hx hb hr hlk hml hown hin hts hB hl => ?_)
  have hl : lv_has ls 3 [(0, .int (nI i))] := hl
  have hF : CallFix p m c cX1_fixed 3 s _ lw_all RX1 := ⟨hx, hb, hml, hown, hts⟩
  refine lv_iconst (v := (0 : Int32)) hx hb dX1_fixed_0 (by decide) ?_
  refine lv_istore_n (lv' := [(1, .int (0 : Int32)), (0, .int (nI i))]) hx hb dX1_fixed_1 rfl hl (by decide) rfl (fun ls hl => ?_)
  refine lv_iconst (v := (0 : Int32)) hx hb dX1_fixed_2 (by decide) ?_
  refine lv_istore_n (lv' := [(2, .int (0 : Int32)), (1, .int (0 : Int32)), (0, .int (nI i))]) hx hb dX1_fixed_3 rfl hl (by decide) rfl (fun ls hl => ?_)
  refine sm_loopP (fun j ls => lv_has ls 3 [(2, .int (nI j)), (1, .int (sm_fx i j)), (0, .int (nI i))]) 4 ?_ ?_ 0 (by decide) _ (lv_sub hl [0, 1, 2] rfl)
  · intro j ls hj hl ih
    refine lv_iload_n hx hb dX1_fixed_4 rfl (lv_at hl 0 rfl) ?_
    refine lv_iconst (v := (4 : Int32)) hx hb dX1_fixed_5 (by decide) ?_
    refine lv_icmp_ge (tgt := 33) hx hb dX1_fixed_6 (by decide) (fun c9 => absurd c9 (nI_ge (b := 4) hj (by decide))) (fun _ => ?_)
    refine lv_iload_n hx hb dX1_fixed_9 rfl (lv_at hl 1 rfl) ?_
    refine lv_bipush (v := (8 : Int32)) hx hb dX1_fixed_10 (by decide) ?_
    refine lv_ishl hx hb dX1_fixed_12 ?_
    refine lv_iconst (v := (4 : Int32)) hx hb dX1_fixed_13 (by decide) ?_
    refine lv_iload_n hx hb dX1_fixed_14 rfl (lv_at hl 2 rfl) ?_
    refine lv_imul hx hb dX1_fixed_15 ?_
    refine lv_iload_n hx hb dX1_fixed_16 rfl (lv_at hl 0 rfl) ?_
    refine lv_iadd hx hb dX1_fixed_17 ?_
    refine lv_bipush (v := (7 : Int32)) hx hb dX1_fixed_18 (by decide) ?_
    refine lv_imul hx hb dX1_fixed_20 ?_
    refine lv_sipush (v := (255 : Int32)) hx hb dX1_fixed_21 (by decide) ?_
    refine lv_iand hx hb dX1_fixed_24 ?_
    refine lv_ior hx hb dX1_fixed_25 ?_
    refine sm_top (y := sm_fx i (j + 1)) rfl ?_
    refine lv_istore_n (lv' := [(1, .int (sm_fx i (j + 1))), (2, .int (nI j)), (0, .int (nI i))]) hx hb dX1_fixed_26 rfl hl (by decide) rfl (fun ls hl => ?_)
    refine lv_iinc (v := (nI (j + 1))) (lv' := [(2, .int (nI (j + 1))), (1, .int (sm_fx i (j + 1))), (0, .int (nI i))]) hx hb dX1_fixed_27 hl (k := 1) rfl (sm_inc j) (by decide) rfl (fun ls hl => ?_)
    refine lv_goto (tgt := 4) hx hb dX1_fixed_30 (by decide) ?_
    exact ih _ (lv_sub hl [0, 1, 2] rfl)
  · intro ls hl
    refine lv_iload_n hx hb dX1_fixed_4 rfl (lv_at hl 0 rfl) ?_
    refine lv_iconst (v := (4 : Int32)) hx hb dX1_fixed_5 (by decide) ?_
    refine lv_icmp_ge (tgt := 33) hx hb dX1_fixed_6 (by decide) (fun _ => ?_) (fun c9 => absurd (nI_le (Nat.le_refl 4) (by decide)) c9)
    refine lv_iload_n hx hb dX1_fixed_33 rfl (lv_at hl 1 rfl) ?_
    exact sm_iret hx hb hr hlk (sm_fx_ck i hi) dX1_fixed_34
set_option maxHeartbeats 4000000 in
set_option maxRecDepth 100000 in
/-- at -/
theorem met_at (l : Launch) (q r : Nat) (x1 x2 x3 x4 : Int32) (hq : q < 4) (hr0 : r < 4) : sm_Pure l yX1_at cX1_at 7 ({ frames := 0, cells := 0, slots := 0, locals := 0 } : Room) [.int (nI q), .int (nI r), .int x1, .int x2, .int x3, .int x4] (fun _ _ => True) (sm_at (sm_sel q x1 x2 x3 x4) r) := by
  refine sm_met (by decide) (Nat.le_of_ble_eq_true rfl) (fun p e s m below meth c ls hx hb hr hlk hml hown hin hts hB hl => ?_)
  have hl : lv_has ls 7 [(0, .int (nI q)), (1, .int (nI r)), (2, .int x1), (3, .int x2), (4, .int x3), (5, .int x4)] := hl
  have hF : CallFix p m c cX1_at 7 s _ lw_all RX1 := ⟨hx, hb, hml, hown, hts⟩
  rcases (show q = 0 ∨ q = 1 ∨ q = 2 ∨ q = 3 by omega) with rfl | rfl | rfl | rfl
  · refine lv_iload_n hx hb dX1_at_0 rfl (lv_at hl 0 rfl) ?_
    refine lv_if_ne (tgt := 8) hx hb dX1_at_1 (by decide) (fun c9 => absurd (show nI 0 = 0 by decide) c9) (fun _ => ?_)
    refine lv_iload_n hx hb dX1_at_4 rfl (lv_at hl 2 rfl) ?_
    refine lv_goto (tgt := 29) hx hb dX1_at_5 (by decide) ?_
    refine lv_istore (lv' := [(6, .int x1), (0, .int (nI 0)), (1, .int (nI r)), (2, .int x1), (3, .int x2), (4, .int x3), (5, .int x4)]) hx hb dX1_at_29 hl (by decide) rfl (fun ls hl => ?_)
    refine lv_iload hx hb dX1_at_31 (lv_at hl 0 rfl) ?_
    refine lv_bipush (v := (24 : Int32)) hx hb dX1_at_33 (by decide) ?_
    refine lv_bipush (v := (8 : Int32)) hx hb dX1_at_35 (by decide) ?_
    refine lv_iload_n hx hb dX1_at_37 rfl (lv_at hl 2 rfl) ?_
    refine lv_imul hx hb dX1_at_38 ?_
    refine lv_isub hx hb dX1_at_39 ?_
    refine sm_top (y := nI (24 - 8 * r)) (sm_248 r hr0) ?_
    refine lv_iushr hx hb dX1_at_40 rfl ?_
    exact sm_iret hx hb hr hlk rfl dX1_at_41
  · refine lv_iload_n hx hb dX1_at_0 rfl (lv_at hl 0 rfl) ?_
    refine lv_if_ne (tgt := 8) hx hb dX1_at_1 (by decide) (fun _ => ?_) (fun c9 => absurd c9 (show ¬ nI 1 = 0 by decide))
    refine lv_iload_n hx hb dX1_at_8 rfl (lv_at hl 0 rfl) ?_
    refine lv_iconst (v := (1 : Int32)) hx hb dX1_at_9 (by decide) ?_
    refine lv_icmp_ne (tgt := 17) hx hb dX1_at_10 (by decide) (fun c9 => absurd (show nI 1 = (1 : Int32) by decide) c9) (fun _ => ?_)
    refine lv_iload_n hx hb dX1_at_13 rfl (lv_at hl 3 rfl) ?_
    refine lv_goto (tgt := 29) hx hb dX1_at_14 (by decide) ?_
    refine lv_istore (lv' := [(6, .int x2), (0, .int (nI 1)), (1, .int (nI r)), (2, .int x1), (3, .int x2), (4, .int x3), (5, .int x4)]) hx hb dX1_at_29 hl (by decide) rfl (fun ls hl => ?_)
    refine lv_iload hx hb dX1_at_31 (lv_at hl 0 rfl) ?_
    refine lv_bipush (v := (24 : Int32)) hx hb dX1_at_33 (by decide) ?_
    refine lv_bipush (v := (8 : Int32)) hx hb dX1_at_35 (by decide) ?_
    refine lv_iload_n hx hb dX1_at_37 rfl (lv_at hl 2 rfl) ?_
    refine lv_imul hx hb dX1_at_38 ?_
    refine lv_isub hx hb dX1_at_39 ?_
    refine sm_top (y := nI (24 - 8 * r)) (sm_248 r hr0) ?_
    refine lv_iushr hx hb dX1_at_40 rfl ?_
    exact sm_iret hx hb hr hlk rfl dX1_at_41
  · refine lv_iload_n hx hb dX1_at_0 rfl (lv_at hl 0 rfl) ?_
    refine lv_if_ne (tgt := 8) hx hb dX1_at_1 (by decide) (fun _ => ?_) (fun c9 => absurd c9 (show ¬ nI 2 = 0 by decide))
    refine lv_iload_n hx hb dX1_at_8 rfl (lv_at hl 0 rfl) ?_
    refine lv_iconst (v := (1 : Int32)) hx hb dX1_at_9 (by decide) ?_
    refine lv_icmp_ne (tgt := 17) hx hb dX1_at_10 (by decide) (fun _ => ?_) (fun c9 => absurd c9 (show ¬ nI 2 = (1 : Int32) by decide))
    refine lv_iload_n hx hb dX1_at_17 rfl (lv_at hl 0 rfl) ?_
    refine lv_iconst (v := (2 : Int32)) hx hb dX1_at_18 (by decide) ?_
    refine lv_icmp_ne (tgt := 27) hx hb dX1_at_19 (by decide) (fun c9 => absurd (show nI 2 = (2 : Int32) by decide) c9) (fun _ => ?_)
    refine lv_iload hx hb dX1_at_22 (lv_at hl 4 rfl) ?_
    refine lv_goto (tgt := 29) hx hb dX1_at_24 (by decide) ?_
    refine lv_istore (lv' := [(6, .int x3), (0, .int (nI 2)), (1, .int (nI r)), (2, .int x1), (3, .int x2), (4, .int x3), (5, .int x4)]) hx hb dX1_at_29 hl (by decide) rfl (fun ls hl => ?_)
    refine lv_iload hx hb dX1_at_31 (lv_at hl 0 rfl) ?_
    refine lv_bipush (v := (24 : Int32)) hx hb dX1_at_33 (by decide) ?_
    refine lv_bipush (v := (8 : Int32)) hx hb dX1_at_35 (by decide) ?_
    refine lv_iload_n hx hb dX1_at_37 rfl (lv_at hl 2 rfl) ?_
    refine lv_imul hx hb dX1_at_38 ?_
    refine lv_isub hx hb dX1_at_39 ?_
    refine sm_top (y := nI (24 - 8 * r)) (sm_248 r hr0) ?_
    refine lv_iushr hx hb dX1_at_40 rfl ?_
    exact sm_iret hx hb hr hlk rfl dX1_at_41
  · refine lv_iload_n hx hb dX1_at_0 rfl (lv_at hl 0 rfl) ?_
    refine lv_if_ne (tgt := 8) hx hb dX1_at_1 (by decide) (fun _ => ?_) (fun c9 => absurd c9 (show ¬ nI 3 = 0 by decide))
    refine lv_iload_n hx hb dX1_at_8 rfl (lv_at hl 0 rfl) ?_
    refine lv_iconst (v := (1 : Int32)) hx hb dX1_at_9 (by decide) ?_
    refine lv_icmp_ne (tgt := 17) hx hb dX1_at_10 (by decide) (fun _ => ?_) (fun c9 => absurd c9 (show ¬ nI 3 = (1 : Int32) by decide))
    refine lv_iload_n hx hb dX1_at_17 rfl (lv_at hl 0 rfl) ?_
    refine lv_iconst (v := (2 : Int32)) hx hb dX1_at_18 (by decide) ?_
    refine lv_icmp_ne (tgt := 27) hx hb dX1_at_19 (by decide) (fun _ => ?_) (fun c9 => absurd c9 (show ¬ nI 3 = (2 : Int32) by decide))
    refine lv_iload hx hb dX1_at_27 (lv_at hl 5 rfl) ?_
    refine lv_istore (lv' := [(6, .int x4), (0, .int (nI 3)), (1, .int (nI r)), (2, .int x1), (3, .int x2), (4, .int x3), (5, .int x4)]) hx hb dX1_at_29 hl (by decide) rfl (fun ls hl => ?_)
    refine lv_iload hx hb dX1_at_31 (lv_at hl 0 rfl) ?_
    refine lv_bipush (v := (24 : Int32)) hx hb dX1_at_33 (by decide) ?_
    refine lv_bipush (v := (8 : Int32)) hx hb dX1_at_35 (by decide) ?_
    refine lv_iload_n hx hb dX1_at_37 rfl (lv_at hl 2 rfl) ?_
    refine lv_imul hx hb dX1_at_38 ?_
    refine lv_isub hx hb dX1_at_39 ?_
    refine sm_top (y := nI (24 - 8 * r)) (sm_248 r hr0) ?_
    refine lv_iushr hx hb dX1_at_40 rfl ?_
    exact sm_iret hx hb hr hlk rfl dX1_at_41
end
section
/-! SmFourDeskModel: the methods with effects -/
def sm_up (F a : Nat → Int32) (i : Nat) : Prop := ∀ j, j < i → a j = F j
theorem sm_up_s {F a : Nat → Int32} {i : Nat} {v : Int32} (h : sm_up F a i) (hv : v = F i) : sm_up F (upd a i v) (i + 1) := by
  intro j hj
  unfold upd
  by_cases e : j = i
  · rw [if_pos e, e]; exact hv
  · rw [if_neg e]; exact h j (by omega)
theorem sm_pI_s0 (h : Nat → Int32) (a b c d : Int32) (i : Nat) : upd (sm_pI h 0 a b c d i) i (sm_by (sm_sel (i / 4) a b c d) (i % 4)) = sm_pI h 0 a b c d (i + 1) := by
  have e := sm_pI_s h 0 a b c d i
  rw [Nat.zero_add] at e
  exact e
theorem sm_sel_v (v : Nat → Int32) (i : Nat) (hi : i < 16) : (sm_at (v (35 - (i / 4))) (i % 4)).toInt8.toInt32 = sm_by (sm_sel (i / 4) (v 35) (v 34) (v 33) (v 32)) (i % 4) := by
  have e : v (35 - (i / 4)) = sm_sel (i / 4) (v 35) (v 34) (v 33) (v 32) := by
    rcases (show i / 4 = 0 ∨ i / 4 = 1 ∨ i / 4 = 2 ∨ i / 4 = 3 by omega) with h | h | h | h <;> rw [h] <;> rfl
  rw [e]
  rfl
def sm_bxp (i : Nat) : Nat → Int32 := fun j => if j < i then sm_sb j &&& (255 : Int32) else 0
theorem sm_bxp_0 : sm_bxp 0 = fun _ => 0 := by
  funext j
  unfold sm_bxp
  rw [if_neg (by omega)]
theorem sm_bxp_s (i : Nat) : upd (sm_bxp i) i (sm_sb i &&& (255 : Int32)) = sm_bxp (i + 1) := by
  funext j
  unfold sm_bxp upd
  by_cases h1 : j = i
  · subst h1
    rw [if_pos rfl, if_pos (by omega)]
  · rw [if_neg h1]
    dsimp only
    by_cases h2 : j < i
    · rw [if_pos h2, if_pos (by omega)]
    · rw [if_neg h2, if_neg (by omega)]
theorem sm_bxp_e : sm_bxp 256 = sm_box := rfl
set_option maxHeartbeats 4000000 in
set_option maxRecDepth 100000 in
/-- expands() -/
theorem met_ex (l : Launch) (D : va_G) (dB dN : ClassId) (h0 a1 a2 a3 b1 b2 b3 : Nat) (f g h rd wd : Nat → Int32) : sm_Eff l D dB dN yX1_expands cX1_expands 3 ({ frames := 1, cells := 0, slots := 0, locals := 23 } : Room) [.ref h0] [(h0, .inr (1, [.ref a1, .ref a2, .ref a3, .ref b1, .ref b2, .ref b3])), (a1, .inl (dB, 32, .inl f)), (a2, .inl (dB, 16, .inl g)), (a3, .inl (dB, 16, .inl h)), (b1, .inl (dN, 256, .inl sm_box)), (b2, .inl (dN, 32, .inl rd)), (b3, .inl (dN, 36, .inl wd))] sm_no (fun u : (Nat → Int32) × (Nat → Int32) => ∀ j, j < 32 → u.1 j = sm_kq f (j + 4)) (fun u : (Nat → Int32) × (Nat → Int32) => [(h0, .inr (1, [.ref a1, .ref a2, .ref a3, .ref b1, .ref b2, .ref b3])), (a1, .inl (dB, 32, .inl f)), (a2, .inl (dB, 16, .inl g)), (a3, .inl (dB, 16, .inl h)), (b1, .inl (dN, 256, .inl sm_box)), (b2, .inl (dN, 32, .inl u.1)), (b3, .inl (dN, 36, .inl u.2))]) := by
  intro sz
  refine sm_met (by decide) (Nat.le_of_ble_eq_true rfl) (fun p e s m below meth c ls hx hb hr hlk hml hown hin hts hB hl => ?_)
  have hl : lv_has ls 3 [(0, .ref h0)] := hl
  have hF : CallFix p m c cX1_expands 3 s _ lw_all RX1 := ⟨hx, hb, hml, hown, hts⟩
  obtain ⟨hsz, hP, hK, hD0, hEx⟩ := hB
  subst hsz
  have hD := hD0.self (sz := s.heap.size)
  generalize hAe : va_A [(h0, .inr (1, [.ref a1, .ref a2, .ref a3, .ref b1, .ref b2, .ref b3])), (a1, .inl (dB, 32, .inl f)), (a2, .inl (dB, 16, .inl g)), (a3, .inl (dB, 16, .inl h)), (b1, .inl (dN, 256, .inl sm_box)), (b2, .inl (dN, 32, .inl rd)), (b3, .inl (dN, 36, .inl wd))] s.heap.size = A at hD hEx ⊢
  have hA : ∀ q : Nat, s.heap.size ≤ q → A q := fun q h => by rw [← hAe]; exact Or.inr h
  have hS : va_S A s.heap s.heap [] := va_S.rf
  refine lv_iconst (v := (0 : Int32)) hx hb dX1_expands_0 (by decide) ?_
  refine lv_istore_n (lv' := [(1, .int (0 : Int32)), (0, .ref h0)]) hx hb dX1_expands_1 rfl hl (by decide) rfl (fun ls hl => ?_)
  refine sm_loop (fun k H locs ls => ∃ v : Nat → Int32, sm_up (sm_kq f) v k ∧ va_P D sCl [(h0, .inr (1, [.ref a1, .ref a2, .ref a3, .ref b1, .ref b2, .ref b3])), (a1, .inl (dB, 32, .inl f)), (a2, .inl (dB, 16, .inl g)), (a3, .inl (dB, 16, .inl h)), (b1, .inl (dN, 256, .inl sm_box)), (b2, .inl (dN, 32, .inl rd)), (b3, .inl (dN, 36, .inl v))] H ∧ va_D A [(h0, .inr (1, [.ref a1, .ref a2, .ref a3, .ref b1, .ref b2, .ref b3])), (a1, .inl (dB, 32, .inl f)), (a2, .inl (dB, 16, .inl g)), (a3, .inl (dB, 16, .inl h)), (b1, .inl (dN, 256, .inl sm_box)), (b2, .inl (dN, 32, .inl rd)), (b3, .inl (dN, 36, .inl v))] ∧ va_S A s.heap H locs ∧ lv_has ls 3 [(1, .int (nI k)), (0, .ref h0)]) 4 ?_ ?_ 0 (by decide) _ _ _ ⟨wd, (fun j hj => absurd hj (by omega)), hP, hD, hS, lv_sub hl [0, 1] rfl⟩
  · intro k H locs ls hk ⟨v, hv, hP, hD, hS, hl⟩ ih
    refine lv_iload_n hx hb dX1_expands_2 rfl (lv_at hl 0 rfl) ?_
    refine lv_iconst (v := (4 : Int32)) hx hb dX1_expands_3 (by decide) ?_
    refine lv_icmp_ge (tgt := 32) hx hb dX1_expands_4 (by decide) (fun c9 => absurd c9 (nI_ge (b := 4) hk (by decide))) (fun _ => ?_)
    refine lv_aload_n hx hb dX1_expands_7 rfl (lv_at hl 1 rfl) ?_
    refine va_get (D := D) (ci := 1) (C := RX1) (T := TX1) (N := 6) hx hb hts in_X1 hown hK hP 0 rfl rfl 5 (by decide) (hts _ q339) (fun _ h9 => h9) rfl dX1_expands_8 ?_
    refine lv_iload_n hx hb dX1_expands_11 rfl (lv_at hl 0 rfl) ?_
    refine lv_aload_n hx hb dX1_expands_12 rfl (lv_at hl 1 rfl) ?_
    refine va_get (D := D) (ci := 1) (C := RX1) (T := TX1) (N := 6) hx hb hts in_X1 hown hK hP 0 rfl rfl 0 (by decide) (hts _ q334) (fun _ h9 => h9) rfl dX1_expands_13 ?_
    refine lv_iload_n hx hb dX1_expands_16 rfl (lv_at hl 0 rfl) ?_
    refine sm_pS (rest := [.int (nI k), .ref b3]) hF (met_mw l D dB dN a1 32 f k (by omega) (by decide)) (lw_S q365 q366 q18 q367) hdS_X1_word ⟨rfl, rfl, Nat.le_of_ble_eq_true rfl, Nat.le_of_ble_eq_true rfl⟩ (sm_mvW _ _ _ _) ⟨hP.sub [1] rfl, hK⟩ hl.1 rfl (Nat.le_of_ble_eq_true rfl) dX1_expands_17 ⟨Nat.le_of_ble_eq_true rfl, Nat.le_of_ble_eq_true rfl⟩ ?_
    refine lv_iload_n hx hb dX1_expands_20 rfl (lv_at hl 0 rfl) ?_
    refine sm_pS (rest := [.int (sm_wd f (4 * k)), .int (nI k), .ref b3]) hF (met_sy l k hk) (lw_S q368 q369 q18 q370) hdS_X1_system ⟨rfl, rfl, Nat.le_of_ble_eq_true rfl, Nat.le_of_ble_eq_true rfl⟩ sm_mvT trivial hl.1 rfl (Nat.le_of_ble_eq_true rfl) dX1_expands_21 ⟨Nat.le_of_ble_eq_true rfl, Nat.le_of_ble_eq_true rfl⟩ ?_
    refine lv_ixor hx hb dX1_expands_24 ?_
    refine sm_iast hx hb hK hP hD hS 6 rfl k rfl (by omega) (by decide) dX1_expands_25 (fun H locs hP hD hS => ?_)
    have hP : va_P D sCl [(h0, .inr (1, [.ref a1, .ref a2, .ref a3, .ref b1, .ref b2, .ref b3])), (a1, .inl (dB, 32, .inl f)), (a2, .inl (dB, 16, .inl g)), (a3, .inl (dB, 16, .inl h)), (b1, .inl (dN, 256, .inl sm_box)), (b2, .inl (dN, 32, .inl rd)), (b3, .inl (dN, 36, .inl (upd v k ((sm_wd f (4 * k)) ^^^ (sm_fk k)))))] H := hP
    have hD : va_D A [(h0, .inr (1, [.ref a1, .ref a2, .ref a3, .ref b1, .ref b2, .ref b3])), (a1, .inl (dB, 32, .inl f)), (a2, .inl (dB, 16, .inl g)), (a3, .inl (dB, 16, .inl h)), (b1, .inl (dN, 256, .inl sm_box)), (b2, .inl (dN, 32, .inl rd)), (b3, .inl (dN, 36, .inl (upd v k ((sm_wd f (4 * k)) ^^^ (sm_fk k)))))] := hD
    obtain ⟨v2, h_v2⟩ : ∃ g9 : Nat → Int32, g9 = (upd v k ((sm_wd f (4 * k)) ^^^ (sm_fk k))) := ⟨_, rfl⟩
    rw [← h_v2] at hP hD
    have hv2 : sm_up (sm_kq f) v2 (k + 1) := by rw [h_v2]; exact sm_up_s hv (sm_kq_lo f k hk).symm
    refine lv_iinc (v := (nI (k + 1))) (lv' := [(1, .int (nI (k + 1))), (0, .ref h0)]) hx hb dX1_expands_26 hl (k := 0) rfl (sm_inc k) (by decide) rfl (fun ls hl => ?_)
    refine lv_goto (tgt := 2) hx hb dX1_expands_29 (by decide) ?_
    exact ih _ _ _ ⟨v2, hv2, hP, hD, hS, lv_sub hl [0, 1] rfl⟩
  · intro H locs ls ⟨v, hv, hP, hD, hS, hl⟩
    refine lv_iload_n hx hb dX1_expands_2 rfl (lv_at hl 0 rfl) ?_
    refine lv_iconst (v := (4 : Int32)) hx hb dX1_expands_3 (by decide) ?_
    refine lv_icmp_ge (tgt := 32) hx hb dX1_expands_4 (by decide) (fun _ => ?_) (fun c9 => absurd (nI_le (Nat.le_refl 4) (by decide)) c9)
    refine lv_iconst (v := (0 : Int32)) hx hb dX1_expands_32 (by decide) ?_
    refine lv_istore_n (lv' := [(1, .int (0 : Int32)), (0, .ref h0)]) hx hb dX1_expands_33 rfl hl (by decide) rfl (fun ls hl => ?_)
    refine sm_loop (fun i H locs ls => ∃ r v : Nat → Int32, sm_up (fun j => sm_kq f (j + 4)) r i ∧ sm_up (sm_kq f) v (i + 4) ∧ va_P D sCl [(h0, .inr (1, [.ref a1, .ref a2, .ref a3, .ref b1, .ref b2, .ref b3])), (a1, .inl (dB, 32, .inl f)), (a2, .inl (dB, 16, .inl g)), (a3, .inl (dB, 16, .inl h)), (b1, .inl (dN, 256, .inl sm_box)), (b2, .inl (dN, 32, .inl r)), (b3, .inl (dN, 36, .inl v))] H ∧ va_D A [(h0, .inr (1, [.ref a1, .ref a2, .ref a3, .ref b1, .ref b2, .ref b3])), (a1, .inl (dB, 32, .inl f)), (a2, .inl (dB, 16, .inl g)), (a3, .inl (dB, 16, .inl h)), (b1, .inl (dN, 256, .inl sm_box)), (b2, .inl (dN, 32, .inl r)), (b3, .inl (dN, 36, .inl v))] ∧ va_S A s.heap H locs ∧ lv_has ls 3 [(1, .int (nI i)), (0, .ref h0)]) 32 ?_ ?_ 0 (by decide) _ _ _ ⟨rd, v, (fun j hj => absurd hj (by omega)), hv, hP, hD, hS, lv_sub hl [0, 1] rfl⟩
    · intro i H locs ls hi ⟨r, v, hrr, hv, hP, hD, hS, hl⟩ ih
      have e0 : v i = sm_kq f i := hv i (by omega)
      have e1 : v (i + 1) = sm_kq f (i + 1) := hv (i + 1) (by omega)
      have e2 : v (i + 2) = sm_kq f (i + 2) := hv (i + 2) (by omega)
      have e3 : v (i + 3) = sm_kq f (i + 3) := hv (i + 3) (by omega)
      refine lv_iload_n hx hb dX1_expands_34 rfl (lv_at hl 0 rfl) ?_
      refine lv_bipush (v := (32 : Int32)) hx hb dX1_expands_35 (by decide) ?_
      refine lv_icmp_ge (tgt := 126) hx hb dX1_expands_37 (by decide) (fun c9 => absurd c9 (nI_ge (b := 32) hi (by decide))) (fun _ => ?_)
      refine lv_aload_n hx hb dX1_expands_40 rfl (lv_at hl 1 rfl) ?_
      refine lv_aload_n hx hb dX1_expands_41 rfl (lv_at hl 1 rfl) ?_
      refine va_get (D := D) (ci := 1) (C := RX1) (T := TX1) (N := 6) hx hb hts in_X1 hown hK hP 0 rfl rfl 5 (by decide) (hts _ q339) (fun _ h9 => h9) rfl dX1_expands_42 ?_
      refine lv_iload_n hx hb dX1_expands_45 rfl (lv_at hl 0 rfl) ?_
      refine lv_iconst (v := (1 : Int32)) hx hb dX1_expands_46 (by decide) ?_
      refine lv_iadd hx hb dX1_expands_47 ?_
      refine sm_iald hx hb hK hP 6 rfl (i + 1) (nI_add i 1) (by omega) (by decide) dX1_expands_48 ?_
      refine lv_aload_n hx hb dX1_expands_49 rfl (lv_at hl 1 rfl) ?_
      refine va_get (D := D) (ci := 1) (C := RX1) (T := TX1) (N := 6) hx hb hts in_X1 hown hK hP 0 rfl rfl 5 (by decide) (hts _ q339) (fun _ h9 => h9) rfl dX1_expands_50 ?_
      refine lv_iload_n hx hb dX1_expands_53 rfl (lv_at hl 0 rfl) ?_
      refine lv_iconst (v := (2 : Int32)) hx hb dX1_expands_54 (by decide) ?_
      refine lv_iadd hx hb dX1_expands_55 ?_
      refine sm_iald hx hb hK hP 6 rfl (i + 2) (nI_add i 2) (by omega) (by decide) dX1_expands_56 ?_
      refine lv_ixor hx hb dX1_expands_57 ?_
      refine lv_aload_n hx hb dX1_expands_58 rfl (lv_at hl 1 rfl) ?_
      refine va_get (D := D) (ci := 1) (C := RX1) (T := TX1) (N := 6) hx hb hts in_X1 hown hK hP 0 rfl rfl 5 (by decide) (hts _ q339) (fun _ h9 => h9) rfl dX1_expands_59 ?_
      refine lv_iload_n hx hb dX1_expands_62 rfl (lv_at hl 0 rfl) ?_
      refine lv_iconst (v := (3 : Int32)) hx hb dX1_expands_63 (by decide) ?_
      refine lv_iadd hx hb dX1_expands_64 ?_
      refine sm_iald hx hb hK hP 6 rfl (i + 3) (nI_add i 3) (by omega) (by decide) dX1_expands_65 ?_
      refine lv_ixor hx hb dX1_expands_66 ?_
      refine lv_iload_n hx hb dX1_expands_67 rfl (lv_at hl 0 rfl) ?_
      refine sm_pS (rest := [.int (((v (i + 1)) ^^^ (v (i + 2))) ^^^ (v (i + 3))), .ref h0]) hF (met_fi l i hi) (lw_S q375 q376 q18 q377) hdS_X1_fixed ⟨rfl, rfl, Nat.le_of_ble_eq_true rfl, Nat.le_of_ble_eq_true rfl⟩ sm_mvT trivial hl.1 rfl (Nat.le_of_ble_eq_true rfl) dX1_expands_68 ⟨Nat.le_of_ble_eq_true rfl, Nat.le_of_ble_eq_true rfl⟩ ?_
      refine lv_ixor hx hb dX1_expands_71 ?_
      refine sm_pV (C := RX1) (As := [.int ((((v (i + 1)) ^^^ (v (i + 2))) ^^^ (v (i + 3))) ^^^ (sm_ck i))]) (rest := []) hF (met_bx l D dB dN h0 (.ref a1) (.ref a2) (.ref a3) b1 (.ref b2) (.ref b3) ((((v (i + 1)) ^^^ (v (i + 2))) ^^^ (v (i + 3))) ^^^ (sm_ck i))) (lw_V q378 q380 qs15 q18 q381) hdV_X1_boxed ⟨rfl, rfl, Nat.le_of_ble_eq_true rfl, Nat.le_of_ble_eq_true rfl⟩ (va_recv hK hP (ci := 1) (q0 := 0) rfl rfl) (sm_mvW _ _ _ _) ⟨hP.sub [0, 4] rfl, hK⟩ hl.1 rfl (Nat.le_of_ble_eq_true rfl) dX1_expands_72 ⟨Nat.le_of_ble_eq_true rfl, Nat.le_of_ble_eq_true rfl⟩ ?_
      obtain ⟨b, hbe⟩ : ∃ b : Int32, b = sm_tau ((((v (i + 1)) ^^^ (v (i + 2))) ^^^ (v (i + 3))) ^^^ (sm_ck i)) := ⟨_, rfl⟩
      refine sm_top (y := b) hbe.symm ?_
      refine lv_istore_n (lv' := [(2, .int b), (1, .int (nI i)), (0, .ref h0)]) hx hb dX1_expands_75 rfl hl (by decide) rfl (fun ls hl => ?_)
      refine lv_aload_n hx hb dX1_expands_76 rfl (lv_at hl 2 rfl) ?_
      refine va_get (D := D) (ci := 1) (C := RX1) (T := TX1) (N := 6) hx hb hts in_X1 hown hK hP 0 rfl rfl 5 (by decide) (hts _ q339) (fun _ h9 => h9) rfl dX1_expands_77 ?_
      refine lv_iload_n hx hb dX1_expands_80 rfl (lv_at hl 1 rfl) ?_
      refine lv_iconst (v := (4 : Int32)) hx hb dX1_expands_81 (by decide) ?_
      refine lv_iadd hx hb dX1_expands_82 ?_
      refine lv_aload_n hx hb dX1_expands_83 rfl (lv_at hl 2 rfl) ?_
      refine va_get (D := D) (ci := 1) (C := RX1) (T := TX1) (N := 6) hx hb hts in_X1 hown hK hP 0 rfl rfl 5 (by decide) (hts _ q339) (fun _ h9 => h9) rfl dX1_expands_84 ?_
      refine lv_iload_n hx hb dX1_expands_87 rfl (lv_at hl 1 rfl) ?_
      refine sm_iald hx hb hK hP 6 rfl i rfl (by omega) (by decide) dX1_expands_88 ?_
      refine lv_iload_n hx hb dX1_expands_89 rfl (lv_at hl 0 rfl) ?_
      refine lv_ixor hx hb dX1_expands_90 ?_
      refine lv_iload_n hx hb dX1_expands_91 rfl (lv_at hl 0 rfl) ?_
      refine lv_bipush (v := (13 : Int32)) hx hb dX1_expands_92 (by decide) ?_
      refine sm_pS (rest := [.int ((v i) ^^^ b), .int ((nI i) + (4 : Int32)), .ref b3]) hF (met_tu l b (13 : Int32)) (lw_S q382 q383 q18 q384) hdS_X1_turned ⟨rfl, rfl, Nat.le_of_ble_eq_true rfl, Nat.le_of_ble_eq_true rfl⟩ sm_mvT trivial hl.1 rfl (Nat.le_of_ble_eq_true rfl) dX1_expands_94 ⟨Nat.le_of_ble_eq_true rfl, Nat.le_of_ble_eq_true rfl⟩ ?_
      refine lv_ixor hx hb dX1_expands_97 ?_
      refine lv_iload_n hx hb dX1_expands_98 rfl (lv_at hl 0 rfl) ?_
      refine lv_bipush (v := (23 : Int32)) hx hb dX1_expands_99 (by decide) ?_
      refine sm_pS (rest := [.int (((v i) ^^^ b) ^^^ (sm_trn b (13 : Int32))), .int ((nI i) + (4 : Int32)), .ref b3]) hF (met_tu l b (23 : Int32)) (lw_S q382 q383 q18 q384) hdS_X1_turned ⟨rfl, rfl, Nat.le_of_ble_eq_true rfl, Nat.le_of_ble_eq_true rfl⟩ sm_mvT trivial hl.1 rfl (Nat.le_of_ble_eq_true rfl) dX1_expands_101 ⟨Nat.le_of_ble_eq_true rfl, Nat.le_of_ble_eq_true rfl⟩ ?_
      refine lv_ixor hx hb dX1_expands_104 ?_
      refine sm_top (y := sm_kq f (i + 4)) (by rw [sm_lap_m, hbe, e0, e1, e2, e3]; rfl) ?_
      refine sm_iast hx hb hK hP hD hS 6 rfl (i + 4) (nI_add i 4) (by omega) (by decide) dX1_expands_105 (fun H locs hP hD hS => ?_)
      have hP : va_P D sCl [(h0, .inr (1, [.ref a1, .ref a2, .ref a3, .ref b1, .ref b2, .ref b3])), (a1, .inl (dB, 32, .inl f)), (a2, .inl (dB, 16, .inl g)), (a3, .inl (dB, 16, .inl h)), (b1, .inl (dN, 256, .inl sm_box)), (b2, .inl (dN, 32, .inl r)), (b3, .inl (dN, 36, .inl (upd v (i + 4) (sm_kq f (i + 4)))))] H := hP
      have hD : va_D A [(h0, .inr (1, [.ref a1, .ref a2, .ref a3, .ref b1, .ref b2, .ref b3])), (a1, .inl (dB, 32, .inl f)), (a2, .inl (dB, 16, .inl g)), (a3, .inl (dB, 16, .inl h)), (b1, .inl (dN, 256, .inl sm_box)), (b2, .inl (dN, 32, .inl r)), (b3, .inl (dN, 36, .inl (upd v (i + 4) (sm_kq f (i + 4)))))] := hD
      obtain ⟨v2, h_v2⟩ : ∃ g9 : Nat → Int32, g9 = (upd v (i + 4) (sm_kq f (i + 4))) := ⟨_, rfl⟩
      rw [← h_v2] at hP hD
      have hv2 : sm_up (sm_kq f) v2 (i + 1 + 4) := by rw [h_v2]; exact fun j hj => sm_up_s hv rfl j (by omega)
      refine lv_aload_n hx hb dX1_expands_106 rfl (lv_at hl 2 rfl) ?_
      refine va_get (D := D) (ci := 1) (C := RX1) (T := TX1) (N := 6) hx hb hts in_X1 hown hK hP 0 rfl rfl 4 (by decide) (hts _ q338) (fun _ h9 => h9) rfl dX1_expands_107 ?_
      refine lv_iload_n hx hb dX1_expands_110 rfl (lv_at hl 1 rfl) ?_
      refine lv_aload_n hx hb dX1_expands_111 rfl (lv_at hl 2 rfl) ?_
      refine va_get (D := D) (ci := 1) (C := RX1) (T := TX1) (N := 6) hx hb hts in_X1 hown hK hP 0 rfl rfl 5 (by decide) (hts _ q339) (fun _ h9 => h9) rfl dX1_expands_112 ?_
      refine lv_iload_n hx hb dX1_expands_115 rfl (lv_at hl 1 rfl) ?_
      refine lv_iconst (v := (4 : Int32)) hx hb dX1_expands_116 (by decide) ?_
      refine lv_iadd hx hb dX1_expands_117 ?_
      refine sm_iald hx hb hK hP 6 rfl (i + 4) (nI_add i 4) (by omega) (by decide) dX1_expands_118 ?_
      refine sm_iast hx hb hK hP hD hS 5 rfl i rfl (by omega) (by decide) dX1_expands_119 (fun H locs hP hD hS => ?_)
      have hP : va_P D sCl [(h0, .inr (1, [.ref a1, .ref a2, .ref a3, .ref b1, .ref b2, .ref b3])), (a1, .inl (dB, 32, .inl f)), (a2, .inl (dB, 16, .inl g)), (a3, .inl (dB, 16, .inl h)), (b1, .inl (dN, 256, .inl sm_box)), (b2, .inl (dN, 32, .inl (upd r i (v2 (i + 4))))), (b3, .inl (dN, 36, .inl v2))] H := hP
      have hD : va_D A [(h0, .inr (1, [.ref a1, .ref a2, .ref a3, .ref b1, .ref b2, .ref b3])), (a1, .inl (dB, 32, .inl f)), (a2, .inl (dB, 16, .inl g)), (a3, .inl (dB, 16, .inl h)), (b1, .inl (dN, 256, .inl sm_box)), (b2, .inl (dN, 32, .inl (upd r i (v2 (i + 4))))), (b3, .inl (dN, 36, .inl v2))] := hD
      obtain ⟨r2, h_r2⟩ : ∃ g9 : Nat → Int32, g9 = (upd r i (v2 (i + 4))) := ⟨_, rfl⟩
      rw [← h_r2] at hP hD
      have hr2 : sm_up (fun j => sm_kq f (j + 4)) r2 (i + 1) := by rw [h_r2]; exact sm_up_s hrr (hv2 (i + 4) (by omega))
      refine lv_iinc (v := (nI (i + 1))) (lv' := [(1, .int (nI (i + 1))), (2, .int b), (0, .ref h0)]) hx hb dX1_expands_120 hl (k := 1) rfl (sm_inc i) (by decide) rfl (fun ls hl => ?_)
      refine lv_goto (tgt := 34) hx hb dX1_expands_123 (by decide) ?_
      exact ih _ _ _ ⟨r2, v2, hr2, hv2, hP, hD, hS, lv_sub hl [0, 2] rfl⟩
    · intro H locs ls ⟨r, v, hrr, hv, hP, hD, hS, hl⟩
      refine lv_iload_n hx hb dX1_expands_34 rfl (lv_at hl 0 rfl) ?_
      refine lv_bipush (v := (32 : Int32)) hx hb dX1_expands_35 (by decide) ?_
      refine lv_icmp_ge (tgt := 126) hx hb dX1_expands_37 (by decide) (fun _ => ?_) (fun c9 => absurd (nI_le (Nat.le_refl 32) (by decide)) c9)
      exact sm_vr (post := (fun u : (Nat → Int32) × (Nat → Int32) => ∀ j, j < 32 → u.1 j = sm_kq f (j + 4))) (w1 := (fun u : (Nat → Int32) × (Nat → Int32) => [(h0, .inr (1, [.ref a1, .ref a2, .ref a3, .ref b1, .ref b2, .ref b3])), (a1, .inl (dB, 32, .inl f)), (a2, .inl (dB, 16, .inl g)), (a3, .inl (dB, 16, .inl h)), (b1, .inl (dN, 256, .inl sm_box)), (b2, .inl (dN, 32, .inl u.1)), (b3, .inl (dN, 36, .inl u.2))])) (u := (r, v)) hx hb hr hlk (fun j hj => hrr j hj) hP hK hD hS (Nat.le_refl _) (Nat.le_refl _) dX1_expands_126
set_option maxHeartbeats 4000000 in
set_option maxRecDepth 100000 in
/-- runs(z) -/
theorem met_mr (l : Launch) (D : va_G) (dB dN : ClassId) (h0 a1 a2 a3 b1 b2 b3 : Nat) (f g h rd wd : Nat → Int32) (z : Int32) : sm_Eff l D dB dN yX1_runs cX1_runs 4 ({ frames := 2, cells := 0, slots := 0, locals := 45 } : Room) [.ref h0, .int z] [(h0, .inr (1, [.ref a1, .ref a2, .ref a3, .ref b1, .ref b2, .ref b3])), (a1, .inl (dB, 32, .inl f)), (a2, .inl (dB, 16, .inl g)), (a3, .inl (dB, 16, .inl h)), (b1, .inl (dN, 256, .inl sm_box)), (b2, .inl (dN, 32, .inl rd)), (b3, .inl (dN, 36, .inl wd))] sm_no (fun _ : (Nat → Int32) × (Nat → Int32) => True) (fun u : (Nat → Int32) × (Nat → Int32) => [(h0, .inr (1, [.ref a1, .ref a2, .ref a3, .ref b1, .ref b2, .ref b3])), (a1, .inl (dB, 32, .inl f)), (a2, .inl (dB, 16, .inl g)), (a3, .inl (dB, 16, .inl (sm_out f g h z))), (b1, .inl (dN, 256, .inl sm_box)), (b2, .inl (dN, 32, .inl u.1)), (b3, .inl (dN, 36, .inl u.2))]) := by
  intro sz
  refine sm_met (by decide) (Nat.le_of_ble_eq_true rfl) (fun p e s m below meth c ls hx hb hr hlk hml hown hin hts hB hl => ?_)
  have hl : lv_has ls 4 [(0, .ref h0), (1, .int z)] := hl
  have hF : CallFix p m c cX1_runs 4 s _ lw_all RX1 := ⟨hx, hb, hml, hown, hts⟩
  obtain ⟨hsz, hP, hK, hD0, hEx⟩ := hB
  subst hsz
  have hD := hD0.self (sz := s.heap.size)
  generalize hAe : va_A [(h0, .inr (1, [.ref a1, .ref a2, .ref a3, .ref b1, .ref b2, .ref b3])), (a1, .inl (dB, 32, .inl f)), (a2, .inl (dB, 16, .inl g)), (a3, .inl (dB, 16, .inl h)), (b1, .inl (dN, 256, .inl sm_box)), (b2, .inl (dN, 32, .inl rd)), (b3, .inl (dN, 36, .inl wd))] s.heap.size = A at hD hEx ⊢
  have hA : ∀ q : Nat, s.heap.size ≤ q → A q := fun q h => by rw [← hAe]; exact Or.inr h
  have hS : va_S A s.heap s.heap [] := va_S.rf
  refine lv_aload_n hx hb dX1_runs_0 rfl (lv_at hl 0 rfl) ?_
  refine sm_cV (wr := []) (C := RX1) (As := []) (rest := []) hF (met_ex l D dB dN h0 a1 a2 a3 b1 b2 b3 f g h rd wd) (lw_V q361 q363 qs14 q18 q364) hdV_X1_expands ⟨Nat.le_of_ble_eq_true rfl, Nat.le_of_ble_eq_true rfl⟩ (va_recv hK hP (ci := 1) (q0 := 0) rfl rfl) sm_no_ok trivial hK hP hD hS hA [0, 1, 2, 3, 4, 5, 6] [] rfl rfl rfl (by decide) (by decide) (by decide) hl.1 rfl (Nat.le_of_ble_eq_true rfl) dX1_runs_1 ⟨Nat.le_of_ble_eq_true rfl, Nat.le_of_ble_eq_true rfl⟩ (fun u H locs hu hP hD hS => ?_)
  have hP : va_P D sCl [(h0, .inr (1, [.ref a1, .ref a2, .ref a3, .ref b1, .ref b2, .ref b3])), (a1, .inl (dB, 32, .inl f)), (a2, .inl (dB, 16, .inl g)), (a3, .inl (dB, 16, .inl h)), (b1, .inl (dN, 256, .inl sm_box)), (b2, .inl (dN, 32, .inl u.1)), (b3, .inl (dN, 36, .inl u.2))] H := hP
  have hD : va_D A [(h0, .inr (1, [.ref a1, .ref a2, .ref a3, .ref b1, .ref b2, .ref b3])), (a1, .inl (dB, 32, .inl f)), (a2, .inl (dB, 16, .inl g)), (a3, .inl (dB, 16, .inl h)), (b1, .inl (dN, 256, .inl sm_box)), (b2, .inl (dN, 32, .inl u.1)), (b3, .inl (dN, 36, .inl u.2))] := hD
  obtain ⟨r, v0⟩ := u
  have hP : va_P D sCl [(h0, .inr (1, [.ref a1, .ref a2, .ref a3, .ref b1, .ref b2, .ref b3])), (a1, .inl (dB, 32, .inl f)), (a2, .inl (dB, 16, .inl g)), (a3, .inl (dB, 16, .inl h)), (b1, .inl (dN, 256, .inl sm_box)), (b2, .inl (dN, 32, .inl r)), (b3, .inl (dN, 36, .inl v0))] H := hP
  have hD : va_D A [(h0, .inr (1, [.ref a1, .ref a2, .ref a3, .ref b1, .ref b2, .ref b3])), (a1, .inl (dB, 32, .inl f)), (a2, .inl (dB, 16, .inl g)), (a3, .inl (dB, 16, .inl h)), (b1, .inl (dN, 256, .inl sm_box)), (b2, .inl (dN, 32, .inl r)), (b3, .inl (dN, 36, .inl v0))] := hD
  have hrr : ∀ j, j < 32 → r j = sm_kq f (j + 4) := hu
  refine lv_iconst (v := (0 : Int32)) hx hb dX1_runs_4 (by decide) ?_
  refine lv_istore_n (lv' := [(2, .int (0 : Int32)), (0, .ref h0), (1, .int z)]) hx hb dX1_runs_5 rfl hl (by decide) rfl (fun ls hl => ?_)
  refine sm_loop (fun k H locs ls => ∃ v : Nat → Int32, sm_up (sm_xq g (sm_rk f z)) v k ∧ va_P D sCl [(h0, .inr (1, [.ref a1, .ref a2, .ref a3, .ref b1, .ref b2, .ref b3])), (a1, .inl (dB, 32, .inl f)), (a2, .inl (dB, 16, .inl g)), (a3, .inl (dB, 16, .inl h)), (b1, .inl (dN, 256, .inl sm_box)), (b2, .inl (dN, 32, .inl r)), (b3, .inl (dN, 36, .inl v))] H ∧ va_D A [(h0, .inr (1, [.ref a1, .ref a2, .ref a3, .ref b1, .ref b2, .ref b3])), (a1, .inl (dB, 32, .inl f)), (a2, .inl (dB, 16, .inl g)), (a3, .inl (dB, 16, .inl h)), (b1, .inl (dN, 256, .inl sm_box)), (b2, .inl (dN, 32, .inl r)), (b3, .inl (dN, 36, .inl v))] ∧ va_S A s.heap H locs ∧ lv_has ls 4 [(2, .int (nI k)), (0, .ref h0), (1, .int z)]) 4 ?_ ?_ 0 (by decide) _ _ _ ⟨v0, (fun j hj => absurd hj (by omega)), hP, hD, hS, lv_sub hl [0, 1, 2] rfl⟩
  · intro k H locs ls hk ⟨v, hv, hP, hD, hS, hl⟩ ih
    refine lv_iload_n hx hb dX1_runs_6 rfl (lv_at hl 0 rfl) ?_
    refine lv_iconst (v := (4 : Int32)) hx hb dX1_runs_7 (by decide) ?_
    refine lv_icmp_ge (tgt := 31) hx hb dX1_runs_8 (by decide) (fun c9 => absurd c9 (nI_ge (b := 4) hk (by decide))) (fun _ => ?_)
    refine lv_aload_n hx hb dX1_runs_11 rfl (lv_at hl 1 rfl) ?_
    refine va_get (D := D) (ci := 1) (C := RX1) (T := TX1) (N := 6) hx hb hts in_X1 hown hK hP 0 rfl rfl 5 (by decide) (hts _ q339) (fun _ h9 => h9) rfl dX1_runs_12 ?_
    refine lv_iload_n hx hb dX1_runs_15 rfl (lv_at hl 0 rfl) ?_
    refine lv_aload_n hx hb dX1_runs_16 rfl (lv_at hl 1 rfl) ?_
    refine va_get (D := D) (ci := 1) (C := RX1) (T := TX1) (N := 6) hx hb hts in_X1 hown hK hP 0 rfl rfl 1 (by decide) (hts _ q335) (fun _ h9 => h9) rfl dX1_runs_17 ?_
    refine lv_iload_n hx hb dX1_runs_20 rfl (lv_at hl 0 rfl) ?_
    refine sm_pS (rest := [.int (nI k), .ref b3]) hF (met_mw l D dB dN a2 16 g k (by omega) (by decide)) (lw_S q365 q366 q18 q367) hdS_X1_word ⟨rfl, rfl, Nat.le_of_ble_eq_true rfl, Nat.le_of_ble_eq_true rfl⟩ (sm_mvW _ _ _ _) ⟨hP.sub [2] rfl, hK⟩ hl.1 rfl (Nat.le_of_ble_eq_true rfl) dX1_runs_21 ⟨Nat.le_of_ble_eq_true rfl, Nat.le_of_ble_eq_true rfl⟩ ?_
    refine sm_iast hx hb hK hP hD hS 6 rfl k rfl (by omega) (by decide) dX1_runs_24 (fun H locs hP hD hS => ?_)
    have hP : va_P D sCl [(h0, .inr (1, [.ref a1, .ref a2, .ref a3, .ref b1, .ref b2, .ref b3])), (a1, .inl (dB, 32, .inl f)), (a2, .inl (dB, 16, .inl g)), (a3, .inl (dB, 16, .inl h)), (b1, .inl (dN, 256, .inl sm_box)), (b2, .inl (dN, 32, .inl r)), (b3, .inl (dN, 36, .inl (upd v k (sm_wd g (4 * k)))))] H := hP
    have hD : va_D A [(h0, .inr (1, [.ref a1, .ref a2, .ref a3, .ref b1, .ref b2, .ref b3])), (a1, .inl (dB, 32, .inl f)), (a2, .inl (dB, 16, .inl g)), (a3, .inl (dB, 16, .inl h)), (b1, .inl (dN, 256, .inl sm_box)), (b2, .inl (dN, 32, .inl r)), (b3, .inl (dN, 36, .inl (upd v k (sm_wd g (4 * k)))))] := hD
    obtain ⟨v2, h_v2⟩ : ∃ g9 : Nat → Int32, g9 = (upd v k (sm_wd g (4 * k))) := ⟨_, rfl⟩
    rw [← h_v2] at hP hD
    have hv2 : sm_up (sm_xq g (sm_rk f z)) v2 (k + 1) := by rw [h_v2]; exact sm_up_s hv (sm_xq_lo g _ k hk).symm
    refine lv_iinc (v := (nI (k + 1))) (lv' := [(2, .int (nI (k + 1))), (0, .ref h0), (1, .int z)]) hx hb dX1_runs_25 hl (k := 0) rfl (sm_inc k) (by decide) rfl (fun ls hl => ?_)
    refine lv_goto (tgt := 6) hx hb dX1_runs_28 (by decide) ?_
    exact ih _ _ _ ⟨v2, hv2, hP, hD, hS, lv_sub hl [0, 1, 2] rfl⟩
  · intro H locs ls ⟨v, hv, hP, hD, hS, hl⟩
    refine lv_iload_n hx hb dX1_runs_6 rfl (lv_at hl 0 rfl) ?_
    refine lv_iconst (v := (4 : Int32)) hx hb dX1_runs_7 (by decide) ?_
    refine lv_icmp_ge (tgt := 31) hx hb dX1_runs_8 (by decide) (fun _ => ?_) (fun c9 => absurd (nI_le (Nat.le_refl 4) (by decide)) c9)
    refine lv_iconst (v := (0 : Int32)) hx hb dX1_runs_31 (by decide) ?_
    refine lv_istore_n (lv' := [(2, .int (0 : Int32)), (0, .ref h0), (1, .int z)]) hx hb dX1_runs_32 rfl hl (by decide) rfl (fun ls hl => ?_)
    refine sm_loop (fun i H locs ls => ∃ v : Nat → Int32, sm_up (sm_xq g (sm_rk f z)) v (i + 4) ∧ va_P D sCl [(h0, .inr (1, [.ref a1, .ref a2, .ref a3, .ref b1, .ref b2, .ref b3])), (a1, .inl (dB, 32, .inl f)), (a2, .inl (dB, 16, .inl g)), (a3, .inl (dB, 16, .inl h)), (b1, .inl (dN, 256, .inl sm_box)), (b2, .inl (dN, 32, .inl r)), (b3, .inl (dN, 36, .inl v))] H ∧ va_D A [(h0, .inr (1, [.ref a1, .ref a2, .ref a3, .ref b1, .ref b2, .ref b3])), (a1, .inl (dB, 32, .inl f)), (a2, .inl (dB, 16, .inl g)), (a3, .inl (dB, 16, .inl h)), (b1, .inl (dN, 256, .inl sm_box)), (b2, .inl (dN, 32, .inl r)), (b3, .inl (dN, 36, .inl v))] ∧ va_S A s.heap H locs ∧ lv_has ls 4 [(2, .int (nI i)), (0, .ref h0), (1, .int z)]) 32 ?_ ?_ 0 (by decide) _ _ _ ⟨v, hv, hP, hD, hS, lv_sub hl [0, 1, 2] rfl⟩
    · intro i H locs ls hi ⟨v, hv, hP, hD, hS, hl⟩ ih
      have e0 : v i = sm_xq g (sm_rk f z) i := hv i (by omega)
      have e1 : v (i + 1) = sm_xq g (sm_rk f z) (i + 1) := hv (i + 1) (by omega)
      have e2 : v (i + 2) = sm_xq g (sm_rk f z) (i + 2) := hv (i + 2) (by omega)
      have e3 : v (i + 3) = sm_xq g (sm_rk f z) (i + 3) := hv (i + 3) (by omega)
      refine lv_iload_n hx hb dX1_runs_33 rfl (lv_at hl 0 rfl) ?_
      refine lv_bipush (v := (32 : Int32)) hx hb dX1_runs_34 (by decide) ?_
      refine lv_icmp_ge (tgt := 137) hx hb dX1_runs_36 (by decide) (fun c9 => absurd c9 (nI_ge (b := 32) hi (by decide))) (fun _ => ?_)
      refine lv_aload_n hx hb dX1_runs_39 rfl (lv_at hl 1 rfl) ?_
      refine lv_aload_n hx hb dX1_runs_40 rfl (lv_at hl 1 rfl) ?_
      refine va_get (D := D) (ci := 1) (C := RX1) (T := TX1) (N := 6) hx hb hts in_X1 hown hK hP 0 rfl rfl 5 (by decide) (hts _ q339) (fun _ h9 => h9) rfl dX1_runs_41 ?_
      refine lv_iload_n hx hb dX1_runs_44 rfl (lv_at hl 0 rfl) ?_
      refine lv_iconst (v := (1 : Int32)) hx hb dX1_runs_45 (by decide) ?_
      refine lv_iadd hx hb dX1_runs_46 ?_
      refine sm_iald hx hb hK hP 6 rfl (i + 1) (nI_add i 1) (by omega) (by decide) dX1_runs_47 ?_
      refine lv_aload_n hx hb dX1_runs_48 rfl (lv_at hl 1 rfl) ?_
      refine va_get (D := D) (ci := 1) (C := RX1) (T := TX1) (N := 6) hx hb hts in_X1 hown hK hP 0 rfl rfl 5 (by decide) (hts _ q339) (fun _ h9 => h9) rfl dX1_runs_49 ?_
      refine lv_iload_n hx hb dX1_runs_52 rfl (lv_at hl 0 rfl) ?_
      refine lv_iconst (v := (2 : Int32)) hx hb dX1_runs_53 (by decide) ?_
      refine lv_iadd hx hb dX1_runs_54 ?_
      refine sm_iald hx hb hK hP 6 rfl (i + 2) (nI_add i 2) (by omega) (by decide) dX1_runs_55 ?_
      refine lv_ixor hx hb dX1_runs_56 ?_
      refine lv_aload_n hx hb dX1_runs_57 rfl (lv_at hl 1 rfl) ?_
      refine va_get (D := D) (ci := 1) (C := RX1) (T := TX1) (N := 6) hx hb hts in_X1 hown hK hP 0 rfl rfl 5 (by decide) (hts _ q339) (fun _ h9 => h9) rfl dX1_runs_58 ?_
      refine lv_iload_n hx hb dX1_runs_61 rfl (lv_at hl 0 rfl) ?_
      refine lv_iconst (v := (3 : Int32)) hx hb dX1_runs_62 (by decide) ?_
      refine lv_iadd hx hb dX1_runs_63 ?_
      refine sm_iald hx hb hK hP 6 rfl (i + 3) (nI_add i 3) (by omega) (by decide) dX1_runs_64 ?_
      refine lv_ixor hx hb dX1_runs_65 ?_
      refine lv_aload_n hx hb dX1_runs_66 rfl (lv_at hl 1 rfl) ?_
      refine va_get (D := D) (ci := 1) (C := RX1) (T := TX1) (N := 6) hx hb hts in_X1 hown hK hP 0 rfl rfl 4 (by decide) (hts _ q338) (fun _ h9 => h9) rfl dX1_runs_67 ?_
      refine lv_iload_n hx hb dX1_runs_70 rfl (lv_at hl 2 rfl) ?_
      refine lv_if_eq (tgt := 78) hx hb dX1_runs_71 (by decide) (fun hz => ?_) (fun hz => ?_)
      · have e4 : r (31 - i) = sm_rk f z i := by unfold sm_rk; rw [if_pos hz]; exact hrr _ (by omega)
        refine lv_bipush (v := (31 : Int32)) hx hb dX1_runs_78 (by decide) ?_
        refine lv_iload_n hx hb dX1_runs_80 rfl (lv_at hl 0 rfl) ?_
        refine lv_isub hx hb dX1_runs_81 ?_
        refine sm_iald hx hb hK hP 5 rfl (31 - i) (pk_sub (a := 31) (b := i) (by omega)) (by omega) (by decide) dX1_runs_82 ?_
        refine lv_ixor hx hb dX1_runs_83 ?_
        refine sm_pV (C := RX1) (As := [.int ((((v (i + 1)) ^^^ (v (i + 2))) ^^^ (v (i + 3))) ^^^ (r (31 - i)))]) (rest := []) hF (met_bx l D dB dN h0 (.ref a1) (.ref a2) (.ref a3) b1 (.ref b2) (.ref b3) ((((v (i + 1)) ^^^ (v (i + 2))) ^^^ (v (i + 3))) ^^^ (r (31 - i)))) (lw_V q378 q380 qs15 q18 q381) hdV_X1_boxed ⟨rfl, rfl, Nat.le_of_ble_eq_true rfl, Nat.le_of_ble_eq_true rfl⟩ (va_recv hK hP (ci := 1) (q0 := 0) rfl rfl) (sm_mvW _ _ _ _) ⟨hP.sub [0, 4] rfl, hK⟩ hl.1 rfl (Nat.le_of_ble_eq_true rfl) dX1_runs_84 ⟨Nat.le_of_ble_eq_true rfl, Nat.le_of_ble_eq_true rfl⟩ ?_
        obtain ⟨b, hbe⟩ : ∃ b : Int32, b = sm_tau ((((v (i + 1)) ^^^ (v (i + 2))) ^^^ (v (i + 3))) ^^^ (r (31 - i))) := ⟨_, rfl⟩
        refine sm_top (y := b) hbe.symm ?_
        refine lv_istore_n (lv' := [(3, .int b), (2, .int (nI i)), (0, .ref h0), (1, .int z)]) hx hb dX1_runs_87 rfl hl (by decide) rfl (fun ls hl => ?_)
        refine lv_aload_n hx hb dX1_runs_88 rfl (lv_at hl 2 rfl) ?_
        refine va_get (D := D) (ci := 1) (C := RX1) (T := TX1) (N := 6) hx hb hts in_X1 hown hK hP 0 rfl rfl 5 (by decide) (hts _ q339) (fun _ h9 => h9) rfl dX1_runs_89 ?_
        refine lv_iload_n hx hb dX1_runs_92 rfl (lv_at hl 1 rfl) ?_
        refine lv_iconst (v := (4 : Int32)) hx hb dX1_runs_93 (by decide) ?_
        refine lv_iadd hx hb dX1_runs_94 ?_
        refine lv_aload_n hx hb dX1_runs_95 rfl (lv_at hl 2 rfl) ?_
        refine va_get (D := D) (ci := 1) (C := RX1) (T := TX1) (N := 6) hx hb hts in_X1 hown hK hP 0 rfl rfl 5 (by decide) (hts _ q339) (fun _ h9 => h9) rfl dX1_runs_96 ?_
        refine lv_iload_n hx hb dX1_runs_99 rfl (lv_at hl 1 rfl) ?_
        refine sm_iald hx hb hK hP 6 rfl i rfl (by omega) (by decide) dX1_runs_100 ?_
        refine lv_iload_n hx hb dX1_runs_101 rfl (lv_at hl 0 rfl) ?_
        refine lv_ixor hx hb dX1_runs_102 ?_
        refine lv_iload_n hx hb dX1_runs_103 rfl (lv_at hl 0 rfl) ?_
        refine lv_iconst (v := (2 : Int32)) hx hb dX1_runs_104 (by decide) ?_
        refine sm_pS (rest := [.int ((v i) ^^^ b), .int ((nI i) + (4 : Int32)), .ref b3]) hF (met_tu l b (2 : Int32)) (lw_S q382 q383 q18 q384) hdS_X1_turned ⟨rfl, rfl, Nat.le_of_ble_eq_true rfl, Nat.le_of_ble_eq_true rfl⟩ sm_mvT trivial hl.1 rfl (Nat.le_of_ble_eq_true rfl) dX1_runs_105 ⟨Nat.le_of_ble_eq_true rfl, Nat.le_of_ble_eq_true rfl⟩ ?_
        refine lv_ixor hx hb dX1_runs_108 ?_
        refine lv_iload_n hx hb dX1_runs_109 rfl (lv_at hl 0 rfl) ?_
        refine lv_bipush (v := (10 : Int32)) hx hb dX1_runs_110 (by decide) ?_
        refine sm_pS (rest := [.int (((v i) ^^^ b) ^^^ (sm_trn b (2 : Int32))), .int ((nI i) + (4 : Int32)), .ref b3]) hF (met_tu l b (10 : Int32)) (lw_S q382 q383 q18 q384) hdS_X1_turned ⟨rfl, rfl, Nat.le_of_ble_eq_true rfl, Nat.le_of_ble_eq_true rfl⟩ sm_mvT trivial hl.1 rfl (Nat.le_of_ble_eq_true rfl) dX1_runs_112 ⟨Nat.le_of_ble_eq_true rfl, Nat.le_of_ble_eq_true rfl⟩ ?_
        refine lv_ixor hx hb dX1_runs_115 ?_
        refine lv_iload_n hx hb dX1_runs_116 rfl (lv_at hl 0 rfl) ?_
        refine lv_bipush (v := (18 : Int32)) hx hb dX1_runs_117 (by decide) ?_
        refine sm_pS (rest := [.int ((((v i) ^^^ b) ^^^ (sm_trn b (2 : Int32))) ^^^ (sm_trn b (10 : Int32))), .int ((nI i) + (4 : Int32)), .ref b3]) hF (met_tu l b (18 : Int32)) (lw_S q382 q383 q18 q384) hdS_X1_turned ⟨rfl, rfl, Nat.le_of_ble_eq_true rfl, Nat.le_of_ble_eq_true rfl⟩ sm_mvT trivial hl.1 rfl (Nat.le_of_ble_eq_true rfl) dX1_runs_119 ⟨Nat.le_of_ble_eq_true rfl, Nat.le_of_ble_eq_true rfl⟩ ?_
        refine lv_ixor hx hb dX1_runs_122 ?_
        refine lv_iload_n hx hb dX1_runs_123 rfl (lv_at hl 0 rfl) ?_
        refine lv_bipush (v := (24 : Int32)) hx hb dX1_runs_124 (by decide) ?_
        refine sm_pS (rest := [.int (((((v i) ^^^ b) ^^^ (sm_trn b (2 : Int32))) ^^^ (sm_trn b (10 : Int32))) ^^^ (sm_trn b (18 : Int32))), .int ((nI i) + (4 : Int32)), .ref b3]) hF (met_tu l b (24 : Int32)) (lw_S q382 q383 q18 q384) hdS_X1_turned ⟨rfl, rfl, Nat.le_of_ble_eq_true rfl, Nat.le_of_ble_eq_true rfl⟩ sm_mvT trivial hl.1 rfl (Nat.le_of_ble_eq_true rfl) dX1_runs_126 ⟨Nat.le_of_ble_eq_true rfl, Nat.le_of_ble_eq_true rfl⟩ ?_
        refine lv_ixor hx hb dX1_runs_129 ?_
        refine sm_top (y := sm_xq g (sm_rk f z) (i + 4)) (by rw [sm_l_m, hbe, e0, e1, e2, e3, e4]; rfl) ?_
        refine sm_iast hx hb hK hP hD hS 6 rfl (i + 4) (nI_add i 4) (by omega) (by decide) dX1_runs_130 (fun H locs hP hD hS => ?_)
        have hP : va_P D sCl [(h0, .inr (1, [.ref a1, .ref a2, .ref a3, .ref b1, .ref b2, .ref b3])), (a1, .inl (dB, 32, .inl f)), (a2, .inl (dB, 16, .inl g)), (a3, .inl (dB, 16, .inl h)), (b1, .inl (dN, 256, .inl sm_box)), (b2, .inl (dN, 32, .inl r)), (b3, .inl (dN, 36, .inl (upd v (i + 4) (sm_xq g (sm_rk f z) (i + 4)))))] H := hP
        have hD : va_D A [(h0, .inr (1, [.ref a1, .ref a2, .ref a3, .ref b1, .ref b2, .ref b3])), (a1, .inl (dB, 32, .inl f)), (a2, .inl (dB, 16, .inl g)), (a3, .inl (dB, 16, .inl h)), (b1, .inl (dN, 256, .inl sm_box)), (b2, .inl (dN, 32, .inl r)), (b3, .inl (dN, 36, .inl (upd v (i + 4) (sm_xq g (sm_rk f z) (i + 4)))))] := hD
        obtain ⟨v2, h_v2⟩ : ∃ g9 : Nat → Int32, g9 = (upd v (i + 4) (sm_xq g (sm_rk f z) (i + 4))) := ⟨_, rfl⟩
        rw [← h_v2] at hP hD
        have hv2 : sm_up (sm_xq g (sm_rk f z)) v2 (i + 1 + 4) := by rw [h_v2]; exact fun j hj => sm_up_s hv rfl j (by omega)
        refine lv_iinc (v := (nI (i + 1))) (lv' := [(2, .int (nI (i + 1))), (3, .int b), (0, .ref h0), (1, .int z)]) hx hb dX1_runs_131 hl (k := 1) rfl (sm_inc i) (by decide) rfl (fun ls hl => ?_)
        refine lv_goto (tgt := 33) hx hb dX1_runs_134 (by decide) ?_
        exact ih _ _ _ ⟨v2, hv2, hP, hD, hS, lv_sub hl [0, 2, 3] rfl⟩
      · have e4 : r i = sm_rk f z i := by unfold sm_rk; rw [if_neg hz]; exact hrr _ (by omega)
        refine lv_iload_n hx hb dX1_runs_74 rfl (lv_at hl 0 rfl) ?_
        refine lv_goto (tgt := 82) hx hb dX1_runs_75 (by decide) ?_
        refine sm_iald hx hb hK hP 5 rfl i rfl (by omega) (by decide) dX1_runs_82 ?_
        refine lv_ixor hx hb dX1_runs_83 ?_
        refine sm_pV (C := RX1) (As := [.int ((((v (i + 1)) ^^^ (v (i + 2))) ^^^ (v (i + 3))) ^^^ (r i))]) (rest := []) hF (met_bx l D dB dN h0 (.ref a1) (.ref a2) (.ref a3) b1 (.ref b2) (.ref b3) ((((v (i + 1)) ^^^ (v (i + 2))) ^^^ (v (i + 3))) ^^^ (r i))) (lw_V q378 q380 qs15 q18 q381) hdV_X1_boxed ⟨rfl, rfl, Nat.le_of_ble_eq_true rfl, Nat.le_of_ble_eq_true rfl⟩ (va_recv hK hP (ci := 1) (q0 := 0) rfl rfl) (sm_mvW _ _ _ _) ⟨hP.sub [0, 4] rfl, hK⟩ hl.1 rfl (Nat.le_of_ble_eq_true rfl) dX1_runs_84 ⟨Nat.le_of_ble_eq_true rfl, Nat.le_of_ble_eq_true rfl⟩ ?_
        obtain ⟨b, hbe⟩ : ∃ b : Int32, b = sm_tau ((((v (i + 1)) ^^^ (v (i + 2))) ^^^ (v (i + 3))) ^^^ (r i)) := ⟨_, rfl⟩
        refine sm_top (y := b) hbe.symm ?_
        refine lv_istore_n (lv' := [(3, .int b), (2, .int (nI i)), (0, .ref h0), (1, .int z)]) hx hb dX1_runs_87 rfl hl (by decide) rfl (fun ls hl => ?_)
        refine lv_aload_n hx hb dX1_runs_88 rfl (lv_at hl 2 rfl) ?_
        refine va_get (D := D) (ci := 1) (C := RX1) (T := TX1) (N := 6) hx hb hts in_X1 hown hK hP 0 rfl rfl 5 (by decide) (hts _ q339) (fun _ h9 => h9) rfl dX1_runs_89 ?_
        refine lv_iload_n hx hb dX1_runs_92 rfl (lv_at hl 1 rfl) ?_
        refine lv_iconst (v := (4 : Int32)) hx hb dX1_runs_93 (by decide) ?_
        refine lv_iadd hx hb dX1_runs_94 ?_
        refine lv_aload_n hx hb dX1_runs_95 rfl (lv_at hl 2 rfl) ?_
        refine va_get (D := D) (ci := 1) (C := RX1) (T := TX1) (N := 6) hx hb hts in_X1 hown hK hP 0 rfl rfl 5 (by decide) (hts _ q339) (fun _ h9 => h9) rfl dX1_runs_96 ?_
        refine lv_iload_n hx hb dX1_runs_99 rfl (lv_at hl 1 rfl) ?_
        refine sm_iald hx hb hK hP 6 rfl i rfl (by omega) (by decide) dX1_runs_100 ?_
        refine lv_iload_n hx hb dX1_runs_101 rfl (lv_at hl 0 rfl) ?_
        refine lv_ixor hx hb dX1_runs_102 ?_
        refine lv_iload_n hx hb dX1_runs_103 rfl (lv_at hl 0 rfl) ?_
        refine lv_iconst (v := (2 : Int32)) hx hb dX1_runs_104 (by decide) ?_
        refine sm_pS (rest := [.int ((v i) ^^^ b), .int ((nI i) + (4 : Int32)), .ref b3]) hF (met_tu l b (2 : Int32)) (lw_S q382 q383 q18 q384) hdS_X1_turned ⟨rfl, rfl, Nat.le_of_ble_eq_true rfl, Nat.le_of_ble_eq_true rfl⟩ sm_mvT trivial hl.1 rfl (Nat.le_of_ble_eq_true rfl) dX1_runs_105 ⟨Nat.le_of_ble_eq_true rfl, Nat.le_of_ble_eq_true rfl⟩ ?_
        refine lv_ixor hx hb dX1_runs_108 ?_
        refine lv_iload_n hx hb dX1_runs_109 rfl (lv_at hl 0 rfl) ?_
        refine lv_bipush (v := (10 : Int32)) hx hb dX1_runs_110 (by decide) ?_
        refine sm_pS (rest := [.int (((v i) ^^^ b) ^^^ (sm_trn b (2 : Int32))), .int ((nI i) + (4 : Int32)), .ref b3]) hF (met_tu l b (10 : Int32)) (lw_S q382 q383 q18 q384) hdS_X1_turned ⟨rfl, rfl, Nat.le_of_ble_eq_true rfl, Nat.le_of_ble_eq_true rfl⟩ sm_mvT trivial hl.1 rfl (Nat.le_of_ble_eq_true rfl) dX1_runs_112 ⟨Nat.le_of_ble_eq_true rfl, Nat.le_of_ble_eq_true rfl⟩ ?_
        refine lv_ixor hx hb dX1_runs_115 ?_
        refine lv_iload_n hx hb dX1_runs_116 rfl (lv_at hl 0 rfl) ?_
        refine lv_bipush (v := (18 : Int32)) hx hb dX1_runs_117 (by decide) ?_
        refine sm_pS (rest := [.int ((((v i) ^^^ b) ^^^ (sm_trn b (2 : Int32))) ^^^ (sm_trn b (10 : Int32))), .int ((nI i) + (4 : Int32)), .ref b3]) hF (met_tu l b (18 : Int32)) (lw_S q382 q383 q18 q384) hdS_X1_turned ⟨rfl, rfl, Nat.le_of_ble_eq_true rfl, Nat.le_of_ble_eq_true rfl⟩ sm_mvT trivial hl.1 rfl (Nat.le_of_ble_eq_true rfl) dX1_runs_119 ⟨Nat.le_of_ble_eq_true rfl, Nat.le_of_ble_eq_true rfl⟩ ?_
        refine lv_ixor hx hb dX1_runs_122 ?_
        refine lv_iload_n hx hb dX1_runs_123 rfl (lv_at hl 0 rfl) ?_
        refine lv_bipush (v := (24 : Int32)) hx hb dX1_runs_124 (by decide) ?_
        refine sm_pS (rest := [.int (((((v i) ^^^ b) ^^^ (sm_trn b (2 : Int32))) ^^^ (sm_trn b (10 : Int32))) ^^^ (sm_trn b (18 : Int32))), .int ((nI i) + (4 : Int32)), .ref b3]) hF (met_tu l b (24 : Int32)) (lw_S q382 q383 q18 q384) hdS_X1_turned ⟨rfl, rfl, Nat.le_of_ble_eq_true rfl, Nat.le_of_ble_eq_true rfl⟩ sm_mvT trivial hl.1 rfl (Nat.le_of_ble_eq_true rfl) dX1_runs_126 ⟨Nat.le_of_ble_eq_true rfl, Nat.le_of_ble_eq_true rfl⟩ ?_
        refine lv_ixor hx hb dX1_runs_129 ?_
        refine sm_top (y := sm_xq g (sm_rk f z) (i + 4)) (by rw [sm_l_m, hbe, e0, e1, e2, e3, e4]; rfl) ?_
        refine sm_iast hx hb hK hP hD hS 6 rfl (i + 4) (nI_add i 4) (by omega) (by decide) dX1_runs_130 (fun H locs hP hD hS => ?_)
        have hP : va_P D sCl [(h0, .inr (1, [.ref a1, .ref a2, .ref a3, .ref b1, .ref b2, .ref b3])), (a1, .inl (dB, 32, .inl f)), (a2, .inl (dB, 16, .inl g)), (a3, .inl (dB, 16, .inl h)), (b1, .inl (dN, 256, .inl sm_box)), (b2, .inl (dN, 32, .inl r)), (b3, .inl (dN, 36, .inl (upd v (i + 4) (sm_xq g (sm_rk f z) (i + 4)))))] H := hP
        have hD : va_D A [(h0, .inr (1, [.ref a1, .ref a2, .ref a3, .ref b1, .ref b2, .ref b3])), (a1, .inl (dB, 32, .inl f)), (a2, .inl (dB, 16, .inl g)), (a3, .inl (dB, 16, .inl h)), (b1, .inl (dN, 256, .inl sm_box)), (b2, .inl (dN, 32, .inl r)), (b3, .inl (dN, 36, .inl (upd v (i + 4) (sm_xq g (sm_rk f z) (i + 4)))))] := hD
        obtain ⟨v2, h_v2⟩ : ∃ g9 : Nat → Int32, g9 = (upd v (i + 4) (sm_xq g (sm_rk f z) (i + 4))) := ⟨_, rfl⟩
        rw [← h_v2] at hP hD
        have hv2 : sm_up (sm_xq g (sm_rk f z)) v2 (i + 1 + 4) := by rw [h_v2]; exact fun j hj => sm_up_s hv rfl j (by omega)
        refine lv_iinc (v := (nI (i + 1))) (lv' := [(2, .int (nI (i + 1))), (3, .int b), (0, .ref h0), (1, .int z)]) hx hb dX1_runs_131 hl (k := 1) rfl (sm_inc i) (by decide) rfl (fun ls hl => ?_)
        refine lv_goto (tgt := 33) hx hb dX1_runs_134 (by decide) ?_
        exact ih _ _ _ ⟨v2, hv2, hP, hD, hS, lv_sub hl [0, 2, 3] rfl⟩
    · intro H locs ls ⟨v, hv, hP, hD, hS, hl⟩
      refine lv_iload_n hx hb dX1_runs_33 rfl (lv_at hl 0 rfl) ?_
      refine lv_bipush (v := (32 : Int32)) hx hb dX1_runs_34 (by decide) ?_
      refine lv_icmp_ge (tgt := 137) hx hb dX1_runs_36 (by decide) (fun _ => ?_) (fun c9 => absurd (nI_le (Nat.le_refl 32) (by decide)) c9)
      refine lv_iconst (v := (0 : Int32)) hx hb dX1_runs_137 (by decide) ?_
      refine lv_istore_n (lv' := [(2, .int (0 : Int32)), (0, .ref h0), (1, .int z)]) hx hb dX1_runs_138 rfl hl (by decide) rfl (fun ls hl => ?_)
      have c0 := sm_pI_0 h 0 (v 35) (v 34) (v 33) (v 32)
      have hP : va_P D sCl [(h0, .inr (1, [.ref a1, .ref a2, .ref a3, .ref b1, .ref b2, .ref b3])), (a1, .inl (dB, 32, .inl f)), (a2, .inl (dB, 16, .inl g)), (a3, .inl (dB, 16, .inl (sm_pI h 0 (v 35) (v 34) (v 33) (v 32) 0))), (b1, .inl (dN, 256, .inl sm_box)), (b2, .inl (dN, 32, .inl r)), (b3, .inl (dN, 36, .inl v))] H := by rw [c0]; exact hP
      have hD : va_D A [(h0, .inr (1, [.ref a1, .ref a2, .ref a3, .ref b1, .ref b2, .ref b3])), (a1, .inl (dB, 32, .inl f)), (a2, .inl (dB, 16, .inl g)), (a3, .inl (dB, 16, .inl (sm_pI h 0 (v 35) (v 34) (v 33) (v 32) 0))), (b1, .inl (dN, 256, .inl sm_box)), (b2, .inl (dN, 32, .inl r)), (b3, .inl (dN, 36, .inl v))] := by rw [c0]; exact hD
      refine sm_loop (fun i H locs ls => va_P D sCl [(h0, .inr (1, [.ref a1, .ref a2, .ref a3, .ref b1, .ref b2, .ref b3])), (a1, .inl (dB, 32, .inl f)), (a2, .inl (dB, 16, .inl g)), (a3, .inl (dB, 16, .inl (sm_pI h 0 (v 35) (v 34) (v 33) (v 32) i))), (b1, .inl (dN, 256, .inl sm_box)), (b2, .inl (dN, 32, .inl r)), (b3, .inl (dN, 36, .inl v))] H ∧ va_D A [(h0, .inr (1, [.ref a1, .ref a2, .ref a3, .ref b1, .ref b2, .ref b3])), (a1, .inl (dB, 32, .inl f)), (a2, .inl (dB, 16, .inl g)), (a3, .inl (dB, 16, .inl (sm_pI h 0 (v 35) (v 34) (v 33) (v 32) i))), (b1, .inl (dN, 256, .inl sm_box)), (b2, .inl (dN, 32, .inl r)), (b3, .inl (dN, 36, .inl v))] ∧ va_S A s.heap H locs ∧ lv_has ls 4 [(2, .int (nI i)), (0, .ref h0)]) 16 ?_ ?_ 0 (by decide) _ _ _ ⟨hP, hD, hS, lv_sub hl [0, 1] rfl⟩
      · intro i H locs ls hi ⟨hP, hD, hS, hl⟩ ih
        refine lv_iload_n hx hb dX1_runs_139 rfl (lv_at hl 0 rfl) ?_
        refine lv_bipush (v := (16 : Int32)) hx hb dX1_runs_140 (by decide) ?_
        refine lv_icmp_ge (tgt := 179) hx hb dX1_runs_142 (by decide) (fun c9 => absurd c9 (nI_ge (b := 16) hi (by decide))) (fun _ => ?_)
        refine lv_aload_n hx hb dX1_runs_145 rfl (lv_at hl 1 rfl) ?_
        refine va_get (D := D) (ci := 1) (C := RX1) (T := TX1) (N := 6) hx hb hts in_X1 hown hK hP 0 rfl rfl 2 (by decide) (hts _ q336) (fun _ h9 => h9) rfl dX1_runs_146 ?_
        refine lv_iload_n hx hb dX1_runs_149 rfl (lv_at hl 0 rfl) ?_
        refine lv_aload_n hx hb dX1_runs_150 rfl (lv_at hl 1 rfl) ?_
        refine va_get (D := D) (ci := 1) (C := RX1) (T := TX1) (N := 6) hx hb hts in_X1 hown hK hP 0 rfl rfl 5 (by decide) (hts _ q339) (fun _ h9 => h9) rfl dX1_runs_151 ?_
        refine lv_bipush (v := (35 : Int32)) hx hb dX1_runs_154 (by decide) ?_
        refine lv_iload_n hx hb dX1_runs_156 rfl (lv_at hl 0 rfl) ?_
        refine lv_iconst (v := (4 : Int32)) hx hb dX1_runs_157 (by decide) ?_
        refine lv_idiv hx hb dX1_runs_158 (by decide) ?_
        refine sm_top (y := nI (i / 4)) (pk_div (a := i) (d := 4) (by omega) (by decide) (by decide)) ?_
        refine lv_isub hx hb dX1_runs_159 ?_
        refine sm_iald hx hb hK hP 6 rfl (35 - (i / 4)) (pk_sub (a := 35) (b := (i / 4)) (by omega)) (by omega) (by decide) dX1_runs_160 ?_
        refine lv_bipush (v := (24 : Int32)) hx hb dX1_runs_161 (by decide) ?_
        refine lv_bipush (v := (8 : Int32)) hx hb dX1_runs_163 (by decide) ?_
        refine lv_iload_n hx hb dX1_runs_165 rfl (lv_at hl 0 rfl) ?_
        refine lv_iconst (v := (4 : Int32)) hx hb dX1_runs_166 (by decide) ?_
        refine lv_irem hx hb dX1_runs_167 (by decide) ?_
        refine sm_top (y := nI (i % 4)) (pk_rem (a := i) (d := 4) (by omega) (by decide) (by decide)) ?_
        refine lv_imul hx hb dX1_runs_168 ?_
        refine lv_isub hx hb dX1_runs_169 ?_
        refine sm_top (y := nI (24 - 8 * (i % 4))) (sm_248 (i % 4) (by omega)) ?_
        refine lv_iushr hx hb dX1_runs_170 rfl ?_
        refine lv_i2b hx hb dX1_runs_171 rfl ?_
        refine sm_bast (x' := (sm_by (sm_sel (i / 4) (v 35) (v 34) (v 33) (v 32)) (i % 4))) hx hb hK hP hD hS 3 rfl i rfl (by omega) (by decide) ((pk_vb _).trans (sm_sel_v v i hi)) dX1_runs_172 (fun H locs hP hD hS => ?_)
        have hP : va_P D sCl [(h0, .inr (1, [.ref a1, .ref a2, .ref a3, .ref b1, .ref b2, .ref b3])), (a1, .inl (dB, 32, .inl f)), (a2, .inl (dB, 16, .inl g)), (a3, .inl (dB, 16, .inl (upd (sm_pI h 0 (v 35) (v 34) (v 33) (v 32) i) i (sm_by (sm_sel (i / 4) (v 35) (v 34) (v 33) (v 32)) (i % 4))))), (b1, .inl (dN, 256, .inl sm_box)), (b2, .inl (dN, 32, .inl r)), (b3, .inl (dN, 36, .inl v))] H := hP
        have hD : va_D A [(h0, .inr (1, [.ref a1, .ref a2, .ref a3, .ref b1, .ref b2, .ref b3])), (a1, .inl (dB, 32, .inl f)), (a2, .inl (dB, 16, .inl g)), (a3, .inl (dB, 16, .inl (upd (sm_pI h 0 (v 35) (v 34) (v 33) (v 32) i) i (sm_by (sm_sel (i / 4) (v 35) (v 34) (v 33) (v 32)) (i % 4))))), (b1, .inl (dN, 256, .inl sm_box)), (b2, .inl (dN, 32, .inl r)), (b3, .inl (dN, 36, .inl v))] := hD
        rw [sm_pI_s0] at hP hD
        refine lv_iinc (v := (nI (i + 1))) (lv' := [(2, .int (nI (i + 1))), (0, .ref h0)]) hx hb dX1_runs_173 hl (k := 0) rfl (sm_inc i) (by decide) rfl (fun ls hl => ?_)
        refine lv_goto (tgt := 139) hx hb dX1_runs_176 (by decide) ?_
        exact ih _ _ _ ⟨hP, hD, hS, lv_sub hl [0, 1] rfl⟩
      · intro H locs ls ⟨hP, hD, hS, hl⟩
        refine lv_iload_n hx hb dX1_runs_139 rfl (lv_at hl 0 rfl) ?_
        refine lv_bipush (v := (16 : Int32)) hx hb dX1_runs_140 (by decide) ?_
        refine lv_icmp_ge (tgt := 179) hx hb dX1_runs_142 (by decide) (fun _ => ?_) (fun c9 => absurd (nI_le (Nat.le_refl 16) (by decide)) c9)
        have e9 : (sm_pI h 0 (v 35) (v 34) (v 33) (v 32) 16) = sm_out f g h z := by unfold sm_out; rw [hv 35 (by decide), hv 34 (by decide), hv 33 (by decide), hv 32 (by decide)]
        rw [e9] at hP hD
        exact sm_vr (post := (fun _ : (Nat → Int32) × (Nat → Int32) => True)) (w1 := (fun u : (Nat → Int32) × (Nat → Int32) => [(h0, .inr (1, [.ref a1, .ref a2, .ref a3, .ref b1, .ref b2, .ref b3])), (a1, .inl (dB, 32, .inl f)), (a2, .inl (dB, 16, .inl g)), (a3, .inl (dB, 16, .inl (sm_out f g h z))), (b1, .inl (dN, 256, .inl sm_box)), (b2, .inl (dN, 32, .inl u.1)), (b3, .inl (dN, 36, .inl u.2))])) (u := (r, v)) hx hb hr hlk trivial hP hK hD hS (Nat.le_refl _) (Nat.le_refl _) dX1_runs_179
set_option maxHeartbeats 4000000 in
set_option maxRecDepth 100000 in
/-- lock(kind) -/
theorem met_ml (l : Launch) (D : va_G) (dB dN : ClassId) (h0 a1 a2 a3 b1 b2 b3 : Nat) (f g h rd wd : Nat → Int32) (kd : Int32) : sm_Eff l D dB dN yX1_lock cX1_lock 2 ({ frames := 3, cells := 0, slots := 0, locals := 68 } : Room) [.ref h0, .int kd] [(h0, .inr (1, [.ref a1, .ref a2, .ref a3, .ref b1, .ref b2, .ref b3])), (a1, .inl (dB, 32, .inl f)), (a2, .inl (dB, 16, .inl g)), (a3, .inl (dB, 16, .inl h)), (b1, .inl (dN, 256, .inl sm_box)), (b2, .inl (dN, 32, .inl rd)), (b3, .inl (dN, 36, .inl wd))] sm_no (fun _ : (Nat → Int32) × (Nat → Int32) => True) (fun u : (Nat → Int32) × (Nat → Int32) => [(h0, .inr (1, [.ref a1, .ref a2, .ref a3, .ref b1, .ref b2, .ref b3])), (a1, .inl (dB, 32, .inl f)), (a2, .inl (dB, 16, .inl g)), (a3, .inl (dB, 16, .inl (sm_out f g h (1 : Int32)))), (b1, .inl (dN, 256, .inl sm_box)), (b2, .inl (dN, 32, .inl u.1)), (b3, .inl (dN, 36, .inl u.2))]) := by
  intro sz
  refine sm_met (by decide) (Nat.le_of_ble_eq_true rfl) (fun p e s m below meth c ls hx hb hr hlk hml hown hin hts hB hl => ?_)
  have hl : lv_has ls 2 [(0, .ref h0), (1, .int kd)] := hl
  have hF : CallFix p m c cX1_lock 2 s _ lw_all RX1 := ⟨hx, hb, hml, hown, hts⟩
  obtain ⟨hsz, hP, hK, hD0, hEx⟩ := hB
  subst hsz
  have hD := hD0.self (sz := s.heap.size)
  generalize hAe : va_A [(h0, .inr (1, [.ref a1, .ref a2, .ref a3, .ref b1, .ref b2, .ref b3])), (a1, .inl (dB, 32, .inl f)), (a2, .inl (dB, 16, .inl g)), (a3, .inl (dB, 16, .inl h)), (b1, .inl (dN, 256, .inl sm_box)), (b2, .inl (dN, 32, .inl rd)), (b3, .inl (dN, 36, .inl wd))] s.heap.size = A at hD hEx ⊢
  have hA : ∀ q : Nat, s.heap.size ≤ q → A q := fun q h => by rw [← hAe]; exact Or.inr h
  have hS : va_S A s.heap s.heap [] := va_S.rf
  refine lv_aload_n hx hb dX1_lock_0 rfl (lv_at hl 0 rfl) ?_
  refine lv_iconst (v := (1 : Int32)) hx hb dX1_lock_1 (by decide) ?_
  refine sm_cV (wr := []) (C := RX1) (As := [.int (1 : Int32)]) (rest := []) hF (met_mr l D dB dN h0 a1 a2 a3 b1 b2 b3 f g h rd wd (1 : Int32)) (lw_V q357 q359 qs13 q18 q360) hdV_X1_runs ⟨Nat.le_of_ble_eq_true rfl, Nat.le_of_ble_eq_true rfl⟩ (va_recv hK hP (ci := 1) (q0 := 0) rfl rfl) sm_no_ok trivial hK hP hD hS hA [0, 1, 2, 3, 4, 5, 6] [] rfl rfl rfl (by decide) (by decide) (by decide) hl.1 rfl (Nat.le_of_ble_eq_true rfl) dX1_lock_2 ⟨Nat.le_of_ble_eq_true rfl, Nat.le_of_ble_eq_true rfl⟩ (fun u H locs _ hP hD hS => ?_)
  have hP : va_P D sCl [(h0, .inr (1, [.ref a1, .ref a2, .ref a3, .ref b1, .ref b2, .ref b3])), (a1, .inl (dB, 32, .inl f)), (a2, .inl (dB, 16, .inl g)), (a3, .inl (dB, 16, .inl (sm_out f g h (1 : Int32)))), (b1, .inl (dN, 256, .inl sm_box)), (b2, .inl (dN, 32, .inl u.1)), (b3, .inl (dN, 36, .inl u.2))] H := hP
  have hD : va_D A [(h0, .inr (1, [.ref a1, .ref a2, .ref a3, .ref b1, .ref b2, .ref b3])), (a1, .inl (dB, 32, .inl f)), (a2, .inl (dB, 16, .inl g)), (a3, .inl (dB, 16, .inl (sm_out f g h (1 : Int32)))), (b1, .inl (dN, 256, .inl sm_box)), (b2, .inl (dN, 32, .inl u.1)), (b3, .inl (dN, 36, .inl u.2))] := hD
  exact sm_vr (post := (fun _ : (Nat → Int32) × (Nat → Int32) => True)) (w1 := (fun u : (Nat → Int32) × (Nat → Int32) => [(h0, .inr (1, [.ref a1, .ref a2, .ref a3, .ref b1, .ref b2, .ref b3])), (a1, .inl (dB, 32, .inl f)), (a2, .inl (dB, 16, .inl g)), (a3, .inl (dB, 16, .inl (sm_out f g h (1 : Int32)))), (b1, .inl (dN, 256, .inl sm_box)), (b2, .inl (dN, 32, .inl u.1)), (b3, .inl (dN, 36, .inl u.2))])) (u := u) hx hb hr hlk trivial hP hK hD hS (Nat.le_refl _) (Nat.le_refl _) dX1_lock_5
set_option maxHeartbeats 4000000 in
set_option maxRecDepth 100000 in
/-- open(kind) -/
theorem met_mo (l : Launch) (D : va_G) (dB dN : ClassId) (h0 a1 a2 a3 b1 b2 b3 : Nat) (f g h rd wd : Nat → Int32) (kd : Int32) : sm_Eff l D dB dN yX1_open cX1_open 2 ({ frames := 3, cells := 0, slots := 0, locals := 68 } : Room) [.ref h0, .int kd] [(h0, .inr (1, [.ref a1, .ref a2, .ref a3, .ref b1, .ref b2, .ref b3])), (a1, .inl (dB, 32, .inl f)), (a2, .inl (dB, 16, .inl g)), (a3, .inl (dB, 16, .inl h)), (b1, .inl (dN, 256, .inl sm_box)), (b2, .inl (dN, 32, .inl rd)), (b3, .inl (dN, 36, .inl wd))] sm_no (fun _ : (Nat → Int32) × (Nat → Int32) => True) (fun u : (Nat → Int32) × (Nat → Int32) => [(h0, .inr (1, [.ref a1, .ref a2, .ref a3, .ref b1, .ref b2, .ref b3])), (a1, .inl (dB, 32, .inl f)), (a2, .inl (dB, 16, .inl g)), (a3, .inl (dB, 16, .inl (sm_out f g h (0 : Int32)))), (b1, .inl (dN, 256, .inl sm_box)), (b2, .inl (dN, 32, .inl u.1)), (b3, .inl (dN, 36, .inl u.2))]) := by
  intro sz
  refine sm_met (by decide) (Nat.le_of_ble_eq_true rfl) (fun p e s m below meth c ls hx hb hr hlk hml hown hin hts hB hl => ?_)
  have hl : lv_has ls 2 [(0, .ref h0), (1, .int kd)] := hl
  have hF : CallFix p m c cX1_open 2 s _ lw_all RX1 := ⟨hx, hb, hml, hown, hts⟩
  obtain ⟨hsz, hP, hK, hD0, hEx⟩ := hB
  subst hsz
  have hD := hD0.self (sz := s.heap.size)
  generalize hAe : va_A [(h0, .inr (1, [.ref a1, .ref a2, .ref a3, .ref b1, .ref b2, .ref b3])), (a1, .inl (dB, 32, .inl f)), (a2, .inl (dB, 16, .inl g)), (a3, .inl (dB, 16, .inl h)), (b1, .inl (dN, 256, .inl sm_box)), (b2, .inl (dN, 32, .inl rd)), (b3, .inl (dN, 36, .inl wd))] s.heap.size = A at hD hEx ⊢
  have hA : ∀ q : Nat, s.heap.size ≤ q → A q := fun q h => by rw [← hAe]; exact Or.inr h
  have hS : va_S A s.heap s.heap [] := va_S.rf
  refine lv_aload_n hx hb dX1_open_0 rfl (lv_at hl 0 rfl) ?_
  refine lv_iconst (v := (0 : Int32)) hx hb dX1_open_1 (by decide) ?_
  refine sm_cV (wr := []) (C := RX1) (As := [.int (0 : Int32)]) (rest := []) hF (met_mr l D dB dN h0 a1 a2 a3 b1 b2 b3 f g h rd wd (0 : Int32)) (lw_V q357 q359 qs13 q18 q360) hdV_X1_runs ⟨Nat.le_of_ble_eq_true rfl, Nat.le_of_ble_eq_true rfl⟩ (va_recv hK hP (ci := 1) (q0 := 0) rfl rfl) sm_no_ok trivial hK hP hD hS hA [0, 1, 2, 3, 4, 5, 6] [] rfl rfl rfl (by decide) (by decide) (by decide) hl.1 rfl (Nat.le_of_ble_eq_true rfl) dX1_open_2 ⟨Nat.le_of_ble_eq_true rfl, Nat.le_of_ble_eq_true rfl⟩ (fun u H locs _ hP hD hS => ?_)
  have hP : va_P D sCl [(h0, .inr (1, [.ref a1, .ref a2, .ref a3, .ref b1, .ref b2, .ref b3])), (a1, .inl (dB, 32, .inl f)), (a2, .inl (dB, 16, .inl g)), (a3, .inl (dB, 16, .inl (sm_out f g h (0 : Int32)))), (b1, .inl (dN, 256, .inl sm_box)), (b2, .inl (dN, 32, .inl u.1)), (b3, .inl (dN, 36, .inl u.2))] H := hP
  have hD : va_D A [(h0, .inr (1, [.ref a1, .ref a2, .ref a3, .ref b1, .ref b2, .ref b3])), (a1, .inl (dB, 32, .inl f)), (a2, .inl (dB, 16, .inl g)), (a3, .inl (dB, 16, .inl (sm_out f g h (0 : Int32)))), (b1, .inl (dN, 256, .inl sm_box)), (b2, .inl (dN, 32, .inl u.1)), (b3, .inl (dN, 36, .inl u.2))] := hD
  exact sm_vr (post := (fun _ : (Nat → Int32) × (Nat → Int32) => True)) (w1 := (fun u : (Nat → Int32) × (Nat → Int32) => [(h0, .inr (1, [.ref a1, .ref a2, .ref a3, .ref b1, .ref b2, .ref b3])), (a1, .inl (dB, 32, .inl f)), (a2, .inl (dB, 16, .inl g)), (a3, .inl (dB, 16, .inl (sm_out f g h (0 : Int32)))), (b1, .inl (dN, 256, .inl sm_box)), (b2, .inl (dN, 32, .inl u.1)), (b3, .inl (dN, 36, .inl u.2))])) (u := u) hx hb hr hlk trivial hP hK hD hS (Nat.le_refl _) (Nat.le_refl _) dX1_open_5
set_option maxHeartbeats 4000000 in
set_option maxRecDepth 100000 in
/-- key(half, a, b, c, d) -/
theorem met_mk (l : Launch) (D : va_G) (dB dN : ClassId) (h0 a1 a2 a3 b1 b2 b3 : Nat) (f g h rd wd : Nat → Int32) (q9 x1 x2 x3 x4 : Int32) : sm_Eff l D dB dN yX1_key cX1_key 7 ({ frames := 1, cells := 0, slots := 0, locals := 26 } : Room) [.ref h0, .int q9, .int x1, .int x2, .int x3, .int x4] [(h0, .inr (1, [.ref a1, .ref a2, .ref a3, .ref b1, .ref b2, .ref b3])), (a1, .inl (dB, 32, .inl f)), (a2, .inl (dB, 16, .inl g)), (a3, .inl (dB, 16, .inl h)), (b1, .inl (dN, 256, .inl sm_box)), (b2, .inl (dN, 32, .inl rd)), (b3, .inl (dN, 36, .inl wd))] sm_no (fun _ : Unit => True) (fun _ : Unit => [(h0, .inr (1, [.ref a1, .ref a2, .ref a3, .ref b1, .ref b2, .ref b3])), (a1, .inl (dB, 32, .inl (sm_pI f (q9.toBitVec.toNat % 2 * 16) x1 x2 x3 x4 16))), (a2, .inl (dB, 16, .inl g)), (a3, .inl (dB, 16, .inl h)), (b1, .inl (dN, 256, .inl sm_box)), (b2, .inl (dN, 32, .inl rd)), (b3, .inl (dN, 36, .inl wd))]) := by
  intro sz
  refine sm_met (by decide) (Nat.le_of_ble_eq_true rfl) (fun p e s m below meth c ls hx hb hr hlk hml hown hin hts hB hl => ?_)
  have hl : lv_has ls 7 [(0, .ref h0), (1, .int q9), (2, .int x1), (3, .int x2), (4, .int x3), (5, .int x4)] := hl
  have hF : CallFix p m c cX1_key 7 s _ lw_all RX1 := ⟨hx, hb, hml, hown, hts⟩
  obtain ⟨hsz, hP, hK, hD0, hEx⟩ := hB
  subst hsz
  have hD := hD0.self (sz := s.heap.size)
  generalize hAe : va_A [(h0, .inr (1, [.ref a1, .ref a2, .ref a3, .ref b1, .ref b2, .ref b3])), (a1, .inl (dB, 32, .inl f)), (a2, .inl (dB, 16, .inl g)), (a3, .inl (dB, 16, .inl h)), (b1, .inl (dN, 256, .inl sm_box)), (b2, .inl (dN, 32, .inl rd)), (b3, .inl (dN, 36, .inl wd))] s.heap.size = A at hD hEx ⊢
  have hA : ∀ q : Nat, s.heap.size ≤ q → A q := fun q h => by rw [← hAe]; exact Or.inr h
  have hS : va_S A s.heap s.heap [] := va_S.rf
  obtain ⟨o, ho⟩ : ∃ o : Nat, o = q9.toBitVec.toNat % 2 * 16 := ⟨_, rfl⟩
  have h16 : o ≤ 16 := by omega
  refine lv_iconst (v := (0 : Int32)) hx hb dX1_key_0 (by decide) ?_
  refine lv_istore (lv' := [(6, .int (0 : Int32)), (0, .ref h0), (1, .int q9), (2, .int x1), (3, .int x2), (4, .int x3), (5, .int x4)]) hx hb dX1_key_1 hl (by decide) rfl (fun ls hl => ?_)
  have c0 := sm_pI_0 f o x1 x2 x3 x4
  have hP : va_P D sCl [(h0, .inr (1, [.ref a1, .ref a2, .ref a3, .ref b1, .ref b2, .ref b3])), (a1, .inl (dB, 32, .inl (sm_pI f o x1 x2 x3 x4 0))), (a2, .inl (dB, 16, .inl g)), (a3, .inl (dB, 16, .inl h)), (b1, .inl (dN, 256, .inl sm_box)), (b2, .inl (dN, 32, .inl rd)), (b3, .inl (dN, 36, .inl wd))] s.heap := by rw [c0]; exact hP
  have hD : va_D A [(h0, .inr (1, [.ref a1, .ref a2, .ref a3, .ref b1, .ref b2, .ref b3])), (a1, .inl (dB, 32, .inl (sm_pI f o x1 x2 x3 x4 0))), (a2, .inl (dB, 16, .inl g)), (a3, .inl (dB, 16, .inl h)), (b1, .inl (dN, 256, .inl sm_box)), (b2, .inl (dN, 32, .inl rd)), (b3, .inl (dN, 36, .inl wd))] := by rw [c0]; exact hD
  refine sm_loop (fun i H locs ls => va_P D sCl [(h0, .inr (1, [.ref a1, .ref a2, .ref a3, .ref b1, .ref b2, .ref b3])), (a1, .inl (dB, 32, .inl (sm_pI f o x1 x2 x3 x4 i))), (a2, .inl (dB, 16, .inl g)), (a3, .inl (dB, 16, .inl h)), (b1, .inl (dN, 256, .inl sm_box)), (b2, .inl (dN, 32, .inl rd)), (b3, .inl (dN, 36, .inl wd))] H ∧ va_D A [(h0, .inr (1, [.ref a1, .ref a2, .ref a3, .ref b1, .ref b2, .ref b3])), (a1, .inl (dB, 32, .inl (sm_pI f o x1 x2 x3 x4 i))), (a2, .inl (dB, 16, .inl g)), (a3, .inl (dB, 16, .inl h)), (b1, .inl (dN, 256, .inl sm_box)), (b2, .inl (dN, 32, .inl rd)), (b3, .inl (dN, 36, .inl wd))] ∧ va_S A s.heap H locs ∧ lv_has ls 7 [(6, .int (nI i)), (0, .ref h0), (1, .int q9), (2, .int x1), (3, .int x2), (4, .int x3), (5, .int x4)]) 16 ?_ ?_ 0 (by decide) _ _ _ ⟨hP, hD, hS, lv_sub hl [0, 1, 2, 3, 4, 5, 6] rfl⟩
  · intro i H locs ls hi ⟨hP, hD, hS, hl⟩ ih
    refine lv_iload hx hb dX1_key_3 (lv_at hl 0 rfl) ?_
    refine lv_bipush (v := (16 : Int32)) hx hb dX1_key_5 (by decide) ?_
    refine lv_icmp_ge (tgt := 48) hx hb dX1_key_7 (by decide) (fun c9 => absurd c9 (nI_ge (b := 16) hi (by decide))) (fun _ => ?_)
    refine lv_aload_n hx hb dX1_key_10 rfl (lv_at hl 1 rfl) ?_
    refine va_get (D := D) (ci := 1) (C := RX1) (T := TX1) (N := 6) hx hb hts in_X1 hown hK hP 0 rfl rfl 0 (by decide) (hts _ q334) (fun _ h9 => h9) rfl dX1_key_11 ?_
    refine lv_bipush (v := (16 : Int32)) hx hb dX1_key_14 (by decide) ?_
    refine lv_iload_n hx hb dX1_key_16 rfl (lv_at hl 2 rfl) ?_
    refine lv_iconst (v := (1 : Int32)) hx hb dX1_key_17 (by decide) ?_
    refine lv_iand hx hb dX1_key_18 ?_
    refine sm_top (y := nI (q9.toBitVec.toNat % 2)) (pk_and q9 1 (by decide)) ?_
    refine lv_imul hx hb dX1_key_19 ?_
    refine sm_top (y := nI o) (by rw [ho, Nat.mul_comm]; exact pk_mul 16 _) ?_
    refine lv_iload hx hb dX1_key_20 (lv_at hl 0 rfl) ?_
    refine lv_iadd hx hb dX1_key_22 ?_
    refine sm_top (y := nI (o + i)) (nI_add o i) ?_
    refine lv_iload hx hb dX1_key_23 (lv_at hl 0 rfl) ?_
    refine lv_iconst (v := (4 : Int32)) hx hb dX1_key_25 (by decide) ?_
    refine lv_idiv hx hb dX1_key_26 (by decide) ?_
    refine sm_top (y := nI (i / 4)) (pk_div (a := i) (d := 4) (by omega) (by decide) (by decide)) ?_
    refine lv_iload hx hb dX1_key_27 (lv_at hl 0 rfl) ?_
    refine lv_iconst (v := (4 : Int32)) hx hb dX1_key_29 (by decide) ?_
    refine lv_irem hx hb dX1_key_30 (by decide) ?_
    refine sm_top (y := nI (i % 4)) (pk_rem (a := i) (d := 4) (by omega) (by decide) (by decide)) ?_
    refine lv_iload_n hx hb dX1_key_31 rfl (lv_at hl 3 rfl) ?_
    refine lv_iload_n hx hb dX1_key_32 rfl (lv_at hl 4 rfl) ?_
    refine lv_iload hx hb dX1_key_33 (lv_at hl 5 rfl) ?_
    refine lv_iload hx hb dX1_key_35 (lv_at hl 6 rfl) ?_
    refine sm_pS (rest := [.int (nI (o + i)), .ref a1]) hF (met_at l (i / 4) (i % 4) x1 x2 x3 x4 (by omega) (by omega)) (lw_S q393 q394 q18 q395) hdS_X1_at ⟨rfl, rfl, Nat.le_of_ble_eq_true rfl, Nat.le_of_ble_eq_true rfl⟩ sm_mvT trivial hl.1 rfl (Nat.le_of_ble_eq_true rfl) dX1_key_37 ⟨Nat.le_of_ble_eq_true rfl, Nat.le_of_ble_eq_true rfl⟩ ?_
    refine lv_i2b hx hb dX1_key_40 rfl ?_
    refine sm_bast (x' := (sm_by (sm_sel (i / 4) x1 x2 x3 x4) (i % 4))) hx hb hK hP hD hS 1 rfl (o + i) rfl (by omega) (by decide) (pk_vb _) dX1_key_41 (fun H locs hP hD hS => ?_)
    have hP : va_P D sCl [(h0, .inr (1, [.ref a1, .ref a2, .ref a3, .ref b1, .ref b2, .ref b3])), (a1, .inl (dB, 32, .inl (upd (sm_pI f o x1 x2 x3 x4 i) (o + i) (sm_by (sm_sel (i / 4) x1 x2 x3 x4) (i % 4))))), (a2, .inl (dB, 16, .inl g)), (a3, .inl (dB, 16, .inl h)), (b1, .inl (dN, 256, .inl sm_box)), (b2, .inl (dN, 32, .inl rd)), (b3, .inl (dN, 36, .inl wd))] H := hP
    have hD : va_D A [(h0, .inr (1, [.ref a1, .ref a2, .ref a3, .ref b1, .ref b2, .ref b3])), (a1, .inl (dB, 32, .inl (upd (sm_pI f o x1 x2 x3 x4 i) (o + i) (sm_by (sm_sel (i / 4) x1 x2 x3 x4) (i % 4))))), (a2, .inl (dB, 16, .inl g)), (a3, .inl (dB, 16, .inl h)), (b1, .inl (dN, 256, .inl sm_box)), (b2, .inl (dN, 32, .inl rd)), (b3, .inl (dN, 36, .inl wd))] := hD
    rw [sm_pI_s] at hP hD
    refine lv_iinc (v := (nI (i + 1))) (lv' := [(6, .int (nI (i + 1))), (0, .ref h0), (1, .int q9), (2, .int x1), (3, .int x2), (4, .int x3), (5, .int x4)]) hx hb dX1_key_42 hl (k := 0) rfl (sm_inc i) (by decide) rfl (fun ls hl => ?_)
    refine lv_goto (tgt := 3) hx hb dX1_key_45 (by decide) ?_
    exact ih _ _ _ ⟨hP, hD, hS, lv_sub hl [0, 1, 2, 3, 4, 5, 6] rfl⟩
  · intro H locs ls ⟨hP, hD, hS, hl⟩
    refine lv_iload hx hb dX1_key_3 (lv_at hl 0 rfl) ?_
    refine lv_bipush (v := (16 : Int32)) hx hb dX1_key_5 (by decide) ?_
    refine lv_icmp_ge (tgt := 48) hx hb dX1_key_7 (by decide) (fun _ => ?_) (fun c9 => absurd (nI_le (Nat.le_refl 16) (by decide)) c9)
    rw [ho] at hP hD
    exact sm_vr (post := (fun _ : Unit => True)) (w1 := (fun _ : Unit => [(h0, .inr (1, [.ref a1, .ref a2, .ref a3, .ref b1, .ref b2, .ref b3])), (a1, .inl (dB, 32, .inl (sm_pI f (q9.toBitVec.toNat % 2 * 16) x1 x2 x3 x4 16))), (a2, .inl (dB, 16, .inl g)), (a3, .inl (dB, 16, .inl h)), (b1, .inl (dN, 256, .inl sm_box)), (b2, .inl (dN, 32, .inl rd)), (b3, .inl (dN, 36, .inl wd))])) (u := ()) hx hb hr hlk trivial hP hK hD hS (Nat.le_refl _) (Nat.le_refl _) dX1_key_48
set_option maxHeartbeats 4000000 in
set_option maxRecDepth 100000 in
/-- block(a, b, c, d) -/
theorem met_mb (l : Launch) (D : va_G) (dB dN : ClassId) (h0 a1 a2 a3 b1 b2 b3 : Nat) (f g h rd wd : Nat → Int32) (x1 x2 x3 x4 : Int32) : sm_Eff l D dB dN yX1_block cX1_block 6 ({ frames := 1, cells := 0, slots := 0, locals := 26 } : Room) [.ref h0, .int x1, .int x2, .int x3, .int x4] [(h0, .inr (1, [.ref a1, .ref a2, .ref a3, .ref b1, .ref b2, .ref b3])), (a1, .inl (dB, 32, .inl f)), (a2, .inl (dB, 16, .inl g)), (a3, .inl (dB, 16, .inl h)), (b1, .inl (dN, 256, .inl sm_box)), (b2, .inl (dN, 32, .inl rd)), (b3, .inl (dN, 36, .inl wd))] sm_no (fun _ : Unit => True) (fun _ : Unit => [(h0, .inr (1, [.ref a1, .ref a2, .ref a3, .ref b1, .ref b2, .ref b3])), (a1, .inl (dB, 32, .inl f)), (a2, .inl (dB, 16, .inl (sm_pI g 0 x1 x2 x3 x4 16))), (a3, .inl (dB, 16, .inl h)), (b1, .inl (dN, 256, .inl sm_box)), (b2, .inl (dN, 32, .inl rd)), (b3, .inl (dN, 36, .inl wd))]) := by
  intro sz
  refine sm_met (by decide) (Nat.le_of_ble_eq_true rfl) (fun p e s m below meth c ls hx hb hr hlk hml hown hin hts hB hl => ?_)
  have hl : lv_has ls 6 [(0, .ref h0), (1, .int x1), (2, .int x2), (3, .int x3), (4, .int x4)] := hl
  have hF : CallFix p m c cX1_block 6 s _ lw_all RX1 := ⟨hx, hb, hml, hown, hts⟩
  obtain ⟨hsz, hP, hK, hD0, hEx⟩ := hB
  subst hsz
  have hD := hD0.self (sz := s.heap.size)
  generalize hAe : va_A [(h0, .inr (1, [.ref a1, .ref a2, .ref a3, .ref b1, .ref b2, .ref b3])), (a1, .inl (dB, 32, .inl f)), (a2, .inl (dB, 16, .inl g)), (a3, .inl (dB, 16, .inl h)), (b1, .inl (dN, 256, .inl sm_box)), (b2, .inl (dN, 32, .inl rd)), (b3, .inl (dN, 36, .inl wd))] s.heap.size = A at hD hEx ⊢
  have hA : ∀ q : Nat, s.heap.size ≤ q → A q := fun q h => by rw [← hAe]; exact Or.inr h
  have hS : va_S A s.heap s.heap [] := va_S.rf
  refine lv_iconst (v := (0 : Int32)) hx hb dX1_block_0 (by decide) ?_
  refine lv_istore (lv' := [(5, .int (0 : Int32)), (0, .ref h0), (1, .int x1), (2, .int x2), (3, .int x3), (4, .int x4)]) hx hb dX1_block_1 hl (by decide) rfl (fun ls hl => ?_)
  have c0 := sm_pI_0 g 0 x1 x2 x3 x4
  have hP : va_P D sCl [(h0, .inr (1, [.ref a1, .ref a2, .ref a3, .ref b1, .ref b2, .ref b3])), (a1, .inl (dB, 32, .inl f)), (a2, .inl (dB, 16, .inl (sm_pI g 0 x1 x2 x3 x4 0))), (a3, .inl (dB, 16, .inl h)), (b1, .inl (dN, 256, .inl sm_box)), (b2, .inl (dN, 32, .inl rd)), (b3, .inl (dN, 36, .inl wd))] s.heap := by rw [c0]; exact hP
  have hD : va_D A [(h0, .inr (1, [.ref a1, .ref a2, .ref a3, .ref b1, .ref b2, .ref b3])), (a1, .inl (dB, 32, .inl f)), (a2, .inl (dB, 16, .inl (sm_pI g 0 x1 x2 x3 x4 0))), (a3, .inl (dB, 16, .inl h)), (b1, .inl (dN, 256, .inl sm_box)), (b2, .inl (dN, 32, .inl rd)), (b3, .inl (dN, 36, .inl wd))] := by rw [c0]; exact hD
  refine sm_loop (fun i H locs ls => va_P D sCl [(h0, .inr (1, [.ref a1, .ref a2, .ref a3, .ref b1, .ref b2, .ref b3])), (a1, .inl (dB, 32, .inl f)), (a2, .inl (dB, 16, .inl (sm_pI g 0 x1 x2 x3 x4 i))), (a3, .inl (dB, 16, .inl h)), (b1, .inl (dN, 256, .inl sm_box)), (b2, .inl (dN, 32, .inl rd)), (b3, .inl (dN, 36, .inl wd))] H ∧ va_D A [(h0, .inr (1, [.ref a1, .ref a2, .ref a3, .ref b1, .ref b2, .ref b3])), (a1, .inl (dB, 32, .inl f)), (a2, .inl (dB, 16, .inl (sm_pI g 0 x1 x2 x3 x4 i))), (a3, .inl (dB, 16, .inl h)), (b1, .inl (dN, 256, .inl sm_box)), (b2, .inl (dN, 32, .inl rd)), (b3, .inl (dN, 36, .inl wd))] ∧ va_S A s.heap H locs ∧ lv_has ls 6 [(5, .int (nI i)), (0, .ref h0), (1, .int x1), (2, .int x2), (3, .int x3), (4, .int x4)]) 16 ?_ ?_ 0 (by decide) _ _ _ ⟨hP, hD, hS, lv_sub hl [0, 1, 2, 3, 4, 5] rfl⟩
  · intro i H locs ls hi ⟨hP, hD, hS, hl⟩ ih
    refine lv_iload hx hb dX1_block_3 (lv_at hl 0 rfl) ?_
    refine lv_bipush (v := (16 : Int32)) hx hb dX1_block_5 (by decide) ?_
    refine lv_icmp_ge (tgt := 40) hx hb dX1_block_7 (by decide) (fun c9 => absurd c9 (nI_ge (b := 16) hi (by decide))) (fun _ => ?_)
    refine lv_aload_n hx hb dX1_block_10 rfl (lv_at hl 1 rfl) ?_
    refine va_get (D := D) (ci := 1) (C := RX1) (T := TX1) (N := 6) hx hb hts in_X1 hown hK hP 0 rfl rfl 1 (by decide) (hts _ q335) (fun _ h9 => h9) rfl dX1_block_11 ?_
    refine lv_iload hx hb dX1_block_14 (lv_at hl 0 rfl) ?_
    refine lv_iload hx hb dX1_block_16 (lv_at hl 0 rfl) ?_
    refine lv_iconst (v := (4 : Int32)) hx hb dX1_block_18 (by decide) ?_
    refine lv_idiv hx hb dX1_block_19 (by decide) ?_
    refine sm_top (y := nI (i / 4)) (pk_div (a := i) (d := 4) (by omega) (by decide) (by decide)) ?_
    refine lv_iload hx hb dX1_block_20 (lv_at hl 0 rfl) ?_
    refine lv_iconst (v := (4 : Int32)) hx hb dX1_block_22 (by decide) ?_
    refine lv_irem hx hb dX1_block_23 (by decide) ?_
    refine sm_top (y := nI (i % 4)) (pk_rem (a := i) (d := 4) (by omega) (by decide) (by decide)) ?_
    refine lv_iload_n hx hb dX1_block_24 rfl (lv_at hl 2 rfl) ?_
    refine lv_iload_n hx hb dX1_block_25 rfl (lv_at hl 3 rfl) ?_
    refine lv_iload_n hx hb dX1_block_26 rfl (lv_at hl 4 rfl) ?_
    refine lv_iload hx hb dX1_block_27 (lv_at hl 5 rfl) ?_
    refine sm_pS (rest := [.int (nI i), .ref a2]) hF (met_at l (i / 4) (i % 4) x1 x2 x3 x4 (by omega) (by omega)) (lw_S q393 q394 q18 q395) hdS_X1_at ⟨rfl, rfl, Nat.le_of_ble_eq_true rfl, Nat.le_of_ble_eq_true rfl⟩ sm_mvT trivial hl.1 rfl (Nat.le_of_ble_eq_true rfl) dX1_block_29 ⟨Nat.le_of_ble_eq_true rfl, Nat.le_of_ble_eq_true rfl⟩ ?_
    refine lv_i2b hx hb dX1_block_32 rfl ?_
    refine sm_bast (x' := (sm_by (sm_sel (i / 4) x1 x2 x3 x4) (i % 4))) hx hb hK hP hD hS 2 rfl i rfl (by omega) (by decide) (pk_vb _) dX1_block_33 (fun H locs hP hD hS => ?_)
    have hP : va_P D sCl [(h0, .inr (1, [.ref a1, .ref a2, .ref a3, .ref b1, .ref b2, .ref b3])), (a1, .inl (dB, 32, .inl f)), (a2, .inl (dB, 16, .inl (upd (sm_pI g 0 x1 x2 x3 x4 i) i (sm_by (sm_sel (i / 4) x1 x2 x3 x4) (i % 4))))), (a3, .inl (dB, 16, .inl h)), (b1, .inl (dN, 256, .inl sm_box)), (b2, .inl (dN, 32, .inl rd)), (b3, .inl (dN, 36, .inl wd))] H := hP
    have hD : va_D A [(h0, .inr (1, [.ref a1, .ref a2, .ref a3, .ref b1, .ref b2, .ref b3])), (a1, .inl (dB, 32, .inl f)), (a2, .inl (dB, 16, .inl (upd (sm_pI g 0 x1 x2 x3 x4 i) i (sm_by (sm_sel (i / 4) x1 x2 x3 x4) (i % 4))))), (a3, .inl (dB, 16, .inl h)), (b1, .inl (dN, 256, .inl sm_box)), (b2, .inl (dN, 32, .inl rd)), (b3, .inl (dN, 36, .inl wd))] := hD
    rw [sm_pI_s0] at hP hD
    refine lv_iinc (v := (nI (i + 1))) (lv' := [(5, .int (nI (i + 1))), (0, .ref h0), (1, .int x1), (2, .int x2), (3, .int x3), (4, .int x4)]) hx hb dX1_block_34 hl (k := 0) rfl (sm_inc i) (by decide) rfl (fun ls hl => ?_)
    refine lv_goto (tgt := 3) hx hb dX1_block_37 (by decide) ?_
    exact ih _ _ _ ⟨hP, hD, hS, lv_sub hl [0, 1, 2, 3, 4, 5] rfl⟩
  · intro H locs ls ⟨hP, hD, hS, hl⟩
    refine lv_iload hx hb dX1_block_3 (lv_at hl 0 rfl) ?_
    refine lv_bipush (v := (16 : Int32)) hx hb dX1_block_5 (by decide) ?_
    refine lv_icmp_ge (tgt := 40) hx hb dX1_block_7 (by decide) (fun _ => ?_) (fun c9 => absurd (nI_le (Nat.le_refl 16) (by decide)) c9)
    exact sm_vr (post := (fun _ : Unit => True)) (w1 := (fun _ : Unit => [(h0, .inr (1, [.ref a1, .ref a2, .ref a3, .ref b1, .ref b2, .ref b3])), (a1, .inl (dB, 32, .inl f)), (a2, .inl (dB, 16, .inl (sm_pI g 0 x1 x2 x3 x4 16))), (a3, .inl (dB, 16, .inl h)), (b1, .inl (dN, 256, .inl sm_box)), (b2, .inl (dN, 32, .inl rd)), (b3, .inl (dN, 36, .inl wd))])) (u := ()) hx hb hr hlk trivial hP hK hD hS (Nat.le_refl _) (Nat.le_refl _) dX1_block_40
set_option maxHeartbeats 4000000 in
set_option maxRecDepth 100000 in
/-- again() -/
theorem met_ma (l : Launch) (D : va_G) (dB dN : ClassId) (h0 a1 a2 a3 b1 b2 b3 : Nat) (f g h rd wd : Nat → Int32) : sm_Eff l D dB dN yX1_again cX1_again 2 ({ frames := 0, cells := 0, slots := 0, locals := 0 } : Room) [.ref h0] [(h0, .inr (1, [.ref a1, .ref a2, .ref a3, .ref b1, .ref b2, .ref b3])), (a1, .inl (dB, 32, .inl f)), (a2, .inl (dB, 16, .inl g)), (a3, .inl (dB, 16, .inl h)), (b1, .inl (dN, 256, .inl sm_box)), (b2, .inl (dN, 32, .inl rd)), (b3, .inl (dN, 36, .inl wd))] sm_no (fun _ : Unit => True) (fun _ : Unit => [(h0, .inr (1, [.ref a1, .ref a2, .ref a3, .ref b1, .ref b2, .ref b3])), (a1, .inl (dB, 32, .inl f)), (a2, .inl (dB, 16, .inl (sm_cp h g 16))), (a3, .inl (dB, 16, .inl h)), (b1, .inl (dN, 256, .inl sm_box)), (b2, .inl (dN, 32, .inl rd)), (b3, .inl (dN, 36, .inl wd))]) := by
  intro sz
  refine sm_met (by decide) (Nat.le_of_ble_eq_true rfl) (fun p e s m below meth c ls hx hb hr hlk hml hown hin hts hB hl => ?_)
  have hl : lv_has ls 2 [(0, .ref h0)] := hl
  have hF : CallFix p m c cX1_again 2 s _ lw_all RX1 := ⟨hx, hb, hml, hown, hts⟩
  obtain ⟨hsz, hP, hK, hD0, hEx⟩ := hB
  subst hsz
  have hD := hD0.self (sz := s.heap.size)
  generalize hAe : va_A [(h0, .inr (1, [.ref a1, .ref a2, .ref a3, .ref b1, .ref b2, .ref b3])), (a1, .inl (dB, 32, .inl f)), (a2, .inl (dB, 16, .inl g)), (a3, .inl (dB, 16, .inl h)), (b1, .inl (dN, 256, .inl sm_box)), (b2, .inl (dN, 32, .inl rd)), (b3, .inl (dN, 36, .inl wd))] s.heap.size = A at hD hEx ⊢
  have hA : ∀ q : Nat, s.heap.size ≤ q → A q := fun q h => by rw [← hAe]; exact Or.inr h
  have hS : va_S A s.heap s.heap [] := va_S.rf
  refine lv_iconst (v := (0 : Int32)) hx hb dX1_again_0 (by decide) ?_
  refine lv_istore_n (lv' := [(1, .int (0 : Int32)), (0, .ref h0)]) hx hb dX1_again_1 rfl hl (by decide) rfl (fun ls hl => ?_)
  have c0 := sm_cp_0 h g
  have hP : va_P D sCl [(h0, .inr (1, [.ref a1, .ref a2, .ref a3, .ref b1, .ref b2, .ref b3])), (a1, .inl (dB, 32, .inl f)), (a2, .inl (dB, 16, .inl (sm_cp h g 0))), (a3, .inl (dB, 16, .inl h)), (b1, .inl (dN, 256, .inl sm_box)), (b2, .inl (dN, 32, .inl rd)), (b3, .inl (dN, 36, .inl wd))] s.heap := by rw [c0]; exact hP
  have hD : va_D A [(h0, .inr (1, [.ref a1, .ref a2, .ref a3, .ref b1, .ref b2, .ref b3])), (a1, .inl (dB, 32, .inl f)), (a2, .inl (dB, 16, .inl (sm_cp h g 0))), (a3, .inl (dB, 16, .inl h)), (b1, .inl (dN, 256, .inl sm_box)), (b2, .inl (dN, 32, .inl rd)), (b3, .inl (dN, 36, .inl wd))] := by rw [c0]; exact hD
  refine sm_loop (fun i H locs ls => va_P D sCl [(h0, .inr (1, [.ref a1, .ref a2, .ref a3, .ref b1, .ref b2, .ref b3])), (a1, .inl (dB, 32, .inl f)), (a2, .inl (dB, 16, .inl (sm_cp h g i))), (a3, .inl (dB, 16, .inl h)), (b1, .inl (dN, 256, .inl sm_box)), (b2, .inl (dN, 32, .inl rd)), (b3, .inl (dN, 36, .inl wd))] H ∧ va_D A [(h0, .inr (1, [.ref a1, .ref a2, .ref a3, .ref b1, .ref b2, .ref b3])), (a1, .inl (dB, 32, .inl f)), (a2, .inl (dB, 16, .inl (sm_cp h g i))), (a3, .inl (dB, 16, .inl h)), (b1, .inl (dN, 256, .inl sm_box)), (b2, .inl (dN, 32, .inl rd)), (b3, .inl (dN, 36, .inl wd))] ∧ va_S A s.heap H locs ∧ lv_has ls 2 [(1, .int (nI i)), (0, .ref h0)]) 16 ?_ ?_ 0 (by decide) _ _ _ ⟨hP, hD, hS, lv_sub hl [0, 1] rfl⟩
  · intro i H locs ls hi ⟨hP, hD, hS, hl⟩ ih
    refine lv_iload_n hx hb dX1_again_2 rfl (lv_at hl 0 rfl) ?_
    refine lv_bipush (v := (16 : Int32)) hx hb dX1_again_3 (by decide) ?_
    refine lv_icmp_ge (tgt := 26) hx hb dX1_again_5 (by decide) (fun c9 => absurd c9 (nI_ge (b := 16) hi (by decide))) (fun _ => ?_)
    refine lv_aload_n hx hb dX1_again_8 rfl (lv_at hl 1 rfl) ?_
    refine va_get (D := D) (ci := 1) (C := RX1) (T := TX1) (N := 6) hx hb hts in_X1 hown hK hP 0 rfl rfl 1 (by decide) (hts _ q335) (fun _ h9 => h9) rfl dX1_again_9 ?_
    refine lv_iload_n hx hb dX1_again_12 rfl (lv_at hl 0 rfl) ?_
    refine lv_aload_n hx hb dX1_again_13 rfl (lv_at hl 1 rfl) ?_
    refine va_get (D := D) (ci := 1) (C := RX1) (T := TX1) (N := 6) hx hb hts in_X1 hown hK hP 0 rfl rfl 2 (by decide) (hts _ q336) (fun _ h9 => h9) rfl dX1_again_14 ?_
    refine lv_iload_n hx hb dX1_again_17 rfl (lv_at hl 0 rfl) ?_
    refine sm_bald hx hb hK hP 3 rfl i rfl (by omega) (by decide) dX1_again_18 ?_
    refine sm_bast (x' := ((h i)).toInt8.toInt32) hx hb hK hP hD hS 2 rfl i rfl (by omega) (by decide) rfl dX1_again_19 (fun H locs hP hD hS => ?_)
    have hP : va_P D sCl [(h0, .inr (1, [.ref a1, .ref a2, .ref a3, .ref b1, .ref b2, .ref b3])), (a1, .inl (dB, 32, .inl f)), (a2, .inl (dB, 16, .inl (upd (sm_cp h g i) i (((h i)).toInt8.toInt32)))), (a3, .inl (dB, 16, .inl h)), (b1, .inl (dN, 256, .inl sm_box)), (b2, .inl (dN, 32, .inl rd)), (b3, .inl (dN, 36, .inl wd))] H := hP
    have hD : va_D A [(h0, .inr (1, [.ref a1, .ref a2, .ref a3, .ref b1, .ref b2, .ref b3])), (a1, .inl (dB, 32, .inl f)), (a2, .inl (dB, 16, .inl (upd (sm_cp h g i) i (((h i)).toInt8.toInt32)))), (a3, .inl (dB, 16, .inl h)), (b1, .inl (dN, 256, .inl sm_box)), (b2, .inl (dN, 32, .inl rd)), (b3, .inl (dN, 36, .inl wd))] := hD
    rw [sm_cp_s] at hP hD
    refine lv_iinc (v := (nI (i + 1))) (lv' := [(1, .int (nI (i + 1))), (0, .ref h0)]) hx hb dX1_again_20 hl (k := 0) rfl (sm_inc i) (by decide) rfl (fun ls hl => ?_)
    refine lv_goto (tgt := 2) hx hb dX1_again_23 (by decide) ?_
    exact ih _ _ _ ⟨hP, hD, hS, lv_sub hl [0, 1] rfl⟩
  · intro H locs ls ⟨hP, hD, hS, hl⟩
    refine lv_iload_n hx hb dX1_again_2 rfl (lv_at hl 0 rfl) ?_
    refine lv_bipush (v := (16 : Int32)) hx hb dX1_again_3 (by decide) ?_
    refine lv_icmp_ge (tgt := 26) hx hb dX1_again_5 (by decide) (fun _ => ?_) (fun c9 => absurd (nI_le (Nat.le_refl 16) (by decide)) c9)
    exact sm_vr (post := (fun _ : Unit => True)) (w1 := (fun _ : Unit => [(h0, .inr (1, [.ref a1, .ref a2, .ref a3, .ref b1, .ref b2, .ref b3])), (a1, .inl (dB, 32, .inl f)), (a2, .inl (dB, 16, .inl (sm_cp h g 16))), (a3, .inl (dB, 16, .inl h)), (b1, .inl (dN, 256, .inl sm_box)), (b2, .inl (dN, 32, .inl rd)), (b3, .inl (dN, 36, .inl wd))])) (u := ()) hx hb hr hlk trivial hP hK hD hS (Nat.le_refl _) (Nat.le_refl _) dX1_again_26
set_option maxHeartbeats 4000000 in
set_option maxRecDepth 100000 in
/-- out(at) -/
theorem met_mz (l : Launch) (D : va_G) (dB dN : ClassId) (h0 a1 a2 a3 b1 b2 b3 : Nat) (f g h rd wd : Nat → Int32) (x : Int32) : sm_Pure l yX1_out cX1_out 2 ({ frames := 0, cells := 0, slots := 0, locals := 0 } : Room) [.ref h0, .int x] (fun U H => va_P D sCl [(h0, .inr (1, [.ref a1, .ref a2, .ref a3, .ref b1, .ref b2, .ref b3])), (a1, .inl (dB, 32, .inl f)), (a2, .inl (dB, 16, .inl g)), (a3, .inl (dB, 16, .inl h)), (b1, .inl (dN, 256, .inl sm_box)), (b2, .inl (dN, 32, .inl rd)), (b3, .inl (dN, 36, .inl wd))] H ∧ va_K D sCl (sTy dB dN) U) (h (x.toBitVec.toNat % 16) &&& (255 : Int32)) := by
  refine sm_met (by decide) (Nat.le_of_ble_eq_true rfl) (fun p e s m below meth c ls hx hb hr hlk hml hown hin hts hB hl => ?_)
  have hl : lv_has ls 2 [(0, .ref h0), (1, .int x)] := hl
  have hF : CallFix p m c cX1_out 2 s _ lw_all RX1 := ⟨hx, hb, hml, hown, hts⟩
  obtain ⟨hP, hK⟩ := hB
  refine lv_aload_n hx hb dX1_out_0 rfl (lv_at hl 0 rfl) ?_
  refine va_get (D := D) (ci := 1) (C := RX1) (T := TX1) (N := 6) hx hb hts in_X1 hown hK hP 0 rfl rfl 2 (by decide) (hts _ q336) (fun _ h9 => h9) rfl dX1_out_1 ?_
  refine lv_iload_n hx hb dX1_out_4 rfl (lv_at hl 1 rfl) ?_
  refine lv_bipush (v := (15 : Int32)) hx hb dX1_out_5 (by decide) ?_
  refine lv_iand hx hb dX1_out_7 ?_
  refine sm_top (y := nI (x.toBitVec.toNat % 16)) (pk_and x 4 (by decide)) ?_
  refine sm_bald hx hb hK hP 3 rfl (x.toBitVec.toNat % 16) rfl (by omega) (by decide) dX1_out_8 ?_
  refine lv_sipush (v := (255 : Int32)) hx hb dX1_out_9 (by decide) ?_
  refine lv_iand hx hb dX1_out_12 ?_
  exact sm_iret hx hb hr hlk rfl dX1_out_13
set_option maxHeartbeats 4000000 in
set_option maxRecDepth 100000 in
/-- SmFourDeskModel() -/
theorem met_m0 (l : Launch) (D : va_G) (dB dN : ClassId) (h0 : Nat) : sm_Eff l D dB dN yX1_init cX1_init 2 ({ frames := 2, cells := 6, slots := 388, locals := 45 } : Room) [.ref h0] [(h0, .inr (1, [.null, .null, .null, .null, .null, .null]))] sm_no (fun _ : Nat × Nat × Nat × Nat × Nat × Nat => True) (fun u : Nat × Nat × Nat × Nat × Nat × Nat => [(h0, .inr (1, [.ref u.1, .ref u.2.1, .ref u.2.2.1, .ref u.2.2.2.1, .ref u.2.2.2.2.1, .ref u.2.2.2.2.2])), (u.1, .inl (dB, 32, .inl (fun _ => 0))), (u.2.1, .inl (dB, 16, .inl (fun _ => 0))), (u.2.2.1, .inl (dB, 16, .inl (fun _ => 0))), (u.2.2.2.1, .inl (dN, 256, .inl sm_box)), (u.2.2.2.2.1, .inl (dN, 32, .inl (fun _ => 0))), (u.2.2.2.2.2, .inl (dN, 36, .inl (fun _ => 0)))]) := by
  intro sz
  refine sm_met (by decide) (Nat.le_of_ble_eq_true rfl) (fun p e s m below meth c ls hx hb hr hlk hml hown hin hts hB hl => ?_)
  have hl : lv_has ls 2 [(0, .ref h0)] := hl
  have hF : CallFix p m c cX1_init 2 s _ lw_all RX1 := ⟨hx, hb, hml, hown, hts⟩
  obtain ⟨hsz, hP, hK, hD0, hEx⟩ := hB
  subst hsz
  have hD := hD0.self (sz := s.heap.size)
  generalize hAe : va_A [(h0, .inr (1, [.null, .null, .null, .null, .null, .null]))] s.heap.size = A at hD hEx ⊢
  have hA : ∀ q : Nat, s.heap.size ≤ q → A q := fun q h => by rw [← hAe]; exact Or.inr h
  have hS : va_S A s.heap s.heap [] := va_S.rf
  refine lv_aload_n hx hb dX1_init_0 rfl (lv_at hl 0 rfl) ?_
  refine W.objInit hx hb hown (hts _ q324) (hts _ q37) (hts _ q38) rfl (by rw [hml]; exact hl.1) rfl dX1_init_1 (Nat.le_of_ble_eq_true rfl) (Nat.le_of_ble_eq_true rfl) ?_
  refine W.eq (g2 := F0 m 4 ls []) rfl ?_
  refine lv_aload_n hx hb dX1_init_4 rfl (lv_at hl 0 rfl) ?_
  refine lv_bipush (v := (32 : Int32)) hx hb dX1_init_5 (by decide) ?_
  refine sm_newB (N := 32) hx hb hts hK hP hD hS hA rfl (by decide) (Nat.le_of_ble_eq_true rfl) (Nat.le_of_ble_eq_true rfl) dX1_init_7 (fun n1 H hP hD hS => ?_)
  have hP : va_P D sCl [(h0, .inr (1, [.null, .null, .null, .null, .null, .null])), (n1, .inl (dB, 32, .inl (fun _ => 0)))] H := hP
  have hD : va_D A [(h0, .inr (1, [.null, .null, .null, .null, .null, .null])), (n1, .inl (dB, 32, .inl (fun _ => 0)))] := hD
  refine va_putF (D := D) (ci := 1) (v := .ref n1) (ty := .array .byte) (C := RX1) (T := TX1) (N := 6) hx hb hts in_X1 tyX1 tyX1_ok nmX1 hown hK hP hD hS 0 rfl rfl 0 (by decide) (hts _ q334) (fun _ h9 => h9) rfl hin rfl (by decide +kernel) rfl rfl (Nat.le_of_ble_eq_true rfl) dX1_init_9 (fun H locs hP hD hS => ?_)
  have hP : va_P D sCl [(h0, .inr (1, [.ref n1, .null, .null, .null, .null, .null])), (n1, .inl (dB, 32, .inl (fun _ => 0)))] H := hP
  have hD : va_D A [(h0, .inr (1, [.ref n1, .null, .null, .null, .null, .null])), (n1, .inl (dB, 32, .inl (fun _ => 0)))] := hD
  refine lv_aload_n hx hb dX1_init_12 rfl (lv_at hl 0 rfl) ?_
  refine lv_bipush (v := (16 : Int32)) hx hb dX1_init_13 (by decide) ?_
  refine sm_newB (N := 16) hx hb hts hK hP hD hS hA rfl (by decide) (Nat.le_of_ble_eq_true rfl) (Nat.le_of_ble_eq_true rfl) dX1_init_15 (fun n2 H hP hD hS => ?_)
  have hP : va_P D sCl [(h0, .inr (1, [.ref n1, .null, .null, .null, .null, .null])), (n1, .inl (dB, 32, .inl (fun _ => 0))), (n2, .inl (dB, 16, .inl (fun _ => 0)))] H := hP
  have hD : va_D A [(h0, .inr (1, [.ref n1, .null, .null, .null, .null, .null])), (n1, .inl (dB, 32, .inl (fun _ => 0))), (n2, .inl (dB, 16, .inl (fun _ => 0)))] := hD
  refine va_putF (D := D) (ci := 1) (v := .ref n2) (ty := .array .byte) (C := RX1) (T := TX1) (N := 6) hx hb hts in_X1 tyX1 tyX1_ok nmX1 hown hK hP hD hS 0 rfl rfl 1 (by decide) (hts _ q335) (fun _ h9 => h9) rfl hin rfl (by decide +kernel) rfl rfl (Nat.le_of_ble_eq_true rfl) dX1_init_17 (fun H locs hP hD hS => ?_)
  have hP : va_P D sCl [(h0, .inr (1, [.ref n1, .ref n2, .null, .null, .null, .null])), (n1, .inl (dB, 32, .inl (fun _ => 0))), (n2, .inl (dB, 16, .inl (fun _ => 0)))] H := hP
  have hD : va_D A [(h0, .inr (1, [.ref n1, .ref n2, .null, .null, .null, .null])), (n1, .inl (dB, 32, .inl (fun _ => 0))), (n2, .inl (dB, 16, .inl (fun _ => 0)))] := hD
  refine lv_aload_n hx hb dX1_init_20 rfl (lv_at hl 0 rfl) ?_
  refine lv_bipush (v := (16 : Int32)) hx hb dX1_init_21 (by decide) ?_
  refine sm_newB (N := 16) hx hb hts hK hP hD hS hA rfl (by decide) (Nat.le_of_ble_eq_true rfl) (Nat.le_of_ble_eq_true rfl) dX1_init_23 (fun n3 H hP hD hS => ?_)
  have hP : va_P D sCl [(h0, .inr (1, [.ref n1, .ref n2, .null, .null, .null, .null])), (n1, .inl (dB, 32, .inl (fun _ => 0))), (n2, .inl (dB, 16, .inl (fun _ => 0))), (n3, .inl (dB, 16, .inl (fun _ => 0)))] H := hP
  have hD : va_D A [(h0, .inr (1, [.ref n1, .ref n2, .null, .null, .null, .null])), (n1, .inl (dB, 32, .inl (fun _ => 0))), (n2, .inl (dB, 16, .inl (fun _ => 0))), (n3, .inl (dB, 16, .inl (fun _ => 0)))] := hD
  refine va_putF (D := D) (ci := 1) (v := .ref n3) (ty := .array .byte) (C := RX1) (T := TX1) (N := 6) hx hb hts in_X1 tyX1 tyX1_ok nmX1 hown hK hP hD hS 0 rfl rfl 2 (by decide) (hts _ q336) (fun _ h9 => h9) rfl hin rfl (by decide +kernel) rfl rfl (Nat.le_of_ble_eq_true rfl) dX1_init_25 (fun H locs hP hD hS => ?_)
  have hP : va_P D sCl [(h0, .inr (1, [.ref n1, .ref n2, .ref n3, .null, .null, .null])), (n1, .inl (dB, 32, .inl (fun _ => 0))), (n2, .inl (dB, 16, .inl (fun _ => 0))), (n3, .inl (dB, 16, .inl (fun _ => 0)))] H := hP
  have hD : va_D A [(h0, .inr (1, [.ref n1, .ref n2, .ref n3, .null, .null, .null])), (n1, .inl (dB, 32, .inl (fun _ => 0))), (n2, .inl (dB, 16, .inl (fun _ => 0))), (n3, .inl (dB, 16, .inl (fun _ => 0)))] := hD
  refine lv_aload_n hx hb dX1_init_28 rfl (lv_at hl 0 rfl) ?_
  refine lv_sipush (v := (256 : Int32)) hx hb dX1_init_29 (by decide) ?_
  refine sm_newI (N := 256) hx hb hts hK hP hD hS hA rfl (by decide) (Nat.le_of_ble_eq_true rfl) (Nat.le_of_ble_eq_true rfl) dX1_init_32 (fun n4 H hP hD hS => ?_)
  have hP : va_P D sCl [(h0, .inr (1, [.ref n1, .ref n2, .ref n3, .null, .null, .null])), (n1, .inl (dB, 32, .inl (fun _ => 0))), (n2, .inl (dB, 16, .inl (fun _ => 0))), (n3, .inl (dB, 16, .inl (fun _ => 0))), (n4, .inl (dN, 256, .inl (fun _ => 0)))] H := hP
  have hD : va_D A [(h0, .inr (1, [.ref n1, .ref n2, .ref n3, .null, .null, .null])), (n1, .inl (dB, 32, .inl (fun _ => 0))), (n2, .inl (dB, 16, .inl (fun _ => 0))), (n3, .inl (dB, 16, .inl (fun _ => 0))), (n4, .inl (dN, 256, .inl (fun _ => 0)))] := hD
  refine va_putF (D := D) (ci := 1) (v := .ref n4) (ty := .array .int) (C := RX1) (T := TX1) (N := 6) hx hb hts in_X1 tyX1 tyX1_ok nmX1 hown hK hP hD hS 0 rfl rfl 3 (by decide) (hts _ q337) (fun _ h9 => h9) rfl hin rfl (by decide +kernel) rfl rfl (Nat.le_of_ble_eq_true rfl) dX1_init_34 (fun H locs hP hD hS => ?_)
  have hP : va_P D sCl [(h0, .inr (1, [.ref n1, .ref n2, .ref n3, .ref n4, .null, .null])), (n1, .inl (dB, 32, .inl (fun _ => 0))), (n2, .inl (dB, 16, .inl (fun _ => 0))), (n3, .inl (dB, 16, .inl (fun _ => 0))), (n4, .inl (dN, 256, .inl (fun _ => 0)))] H := hP
  have hD : va_D A [(h0, .inr (1, [.ref n1, .ref n2, .ref n3, .ref n4, .null, .null])), (n1, .inl (dB, 32, .inl (fun _ => 0))), (n2, .inl (dB, 16, .inl (fun _ => 0))), (n3, .inl (dB, 16, .inl (fun _ => 0))), (n4, .inl (dN, 256, .inl (fun _ => 0)))] := hD
  refine lv_aload_n hx hb dX1_init_37 rfl (lv_at hl 0 rfl) ?_
  refine lv_bipush (v := (32 : Int32)) hx hb dX1_init_38 (by decide) ?_
  refine sm_newI (N := 32) hx hb hts hK hP hD hS hA rfl (by decide) (Nat.le_of_ble_eq_true rfl) (Nat.le_of_ble_eq_true rfl) dX1_init_40 (fun n5 H hP hD hS => ?_)
  have hP : va_P D sCl [(h0, .inr (1, [.ref n1, .ref n2, .ref n3, .ref n4, .null, .null])), (n1, .inl (dB, 32, .inl (fun _ => 0))), (n2, .inl (dB, 16, .inl (fun _ => 0))), (n3, .inl (dB, 16, .inl (fun _ => 0))), (n4, .inl (dN, 256, .inl (fun _ => 0))), (n5, .inl (dN, 32, .inl (fun _ => 0)))] H := hP
  have hD : va_D A [(h0, .inr (1, [.ref n1, .ref n2, .ref n3, .ref n4, .null, .null])), (n1, .inl (dB, 32, .inl (fun _ => 0))), (n2, .inl (dB, 16, .inl (fun _ => 0))), (n3, .inl (dB, 16, .inl (fun _ => 0))), (n4, .inl (dN, 256, .inl (fun _ => 0))), (n5, .inl (dN, 32, .inl (fun _ => 0)))] := hD
  refine va_putF (D := D) (ci := 1) (v := .ref n5) (ty := .array .int) (C := RX1) (T := TX1) (N := 6) hx hb hts in_X1 tyX1 tyX1_ok nmX1 hown hK hP hD hS 0 rfl rfl 4 (by decide) (hts _ q338) (fun _ h9 => h9) rfl hin rfl (by decide +kernel) rfl rfl (Nat.le_of_ble_eq_true rfl) dX1_init_42 (fun H locs hP hD hS => ?_)
  have hP : va_P D sCl [(h0, .inr (1, [.ref n1, .ref n2, .ref n3, .ref n4, .ref n5, .null])), (n1, .inl (dB, 32, .inl (fun _ => 0))), (n2, .inl (dB, 16, .inl (fun _ => 0))), (n3, .inl (dB, 16, .inl (fun _ => 0))), (n4, .inl (dN, 256, .inl (fun _ => 0))), (n5, .inl (dN, 32, .inl (fun _ => 0)))] H := hP
  have hD : va_D A [(h0, .inr (1, [.ref n1, .ref n2, .ref n3, .ref n4, .ref n5, .null])), (n1, .inl (dB, 32, .inl (fun _ => 0))), (n2, .inl (dB, 16, .inl (fun _ => 0))), (n3, .inl (dB, 16, .inl (fun _ => 0))), (n4, .inl (dN, 256, .inl (fun _ => 0))), (n5, .inl (dN, 32, .inl (fun _ => 0)))] := hD
  refine lv_aload_n hx hb dX1_init_45 rfl (lv_at hl 0 rfl) ?_
  refine lv_bipush (v := (36 : Int32)) hx hb dX1_init_46 (by decide) ?_
  refine sm_newI (N := 36) hx hb hts hK hP hD hS hA rfl (by decide) (Nat.le_of_ble_eq_true rfl) (Nat.le_of_ble_eq_true rfl) dX1_init_48 (fun n6 H hP hD hS => ?_)
  have hP : va_P D sCl [(h0, .inr (1, [.ref n1, .ref n2, .ref n3, .ref n4, .ref n5, .null])), (n1, .inl (dB, 32, .inl (fun _ => 0))), (n2, .inl (dB, 16, .inl (fun _ => 0))), (n3, .inl (dB, 16, .inl (fun _ => 0))), (n4, .inl (dN, 256, .inl (fun _ => 0))), (n5, .inl (dN, 32, .inl (fun _ => 0))), (n6, .inl (dN, 36, .inl (fun _ => 0)))] H := hP
  have hD : va_D A [(h0, .inr (1, [.ref n1, .ref n2, .ref n3, .ref n4, .ref n5, .null])), (n1, .inl (dB, 32, .inl (fun _ => 0))), (n2, .inl (dB, 16, .inl (fun _ => 0))), (n3, .inl (dB, 16, .inl (fun _ => 0))), (n4, .inl (dN, 256, .inl (fun _ => 0))), (n5, .inl (dN, 32, .inl (fun _ => 0))), (n6, .inl (dN, 36, .inl (fun _ => 0)))] := hD
  refine va_putF (D := D) (ci := 1) (v := .ref n6) (ty := .array .int) (C := RX1) (T := TX1) (N := 6) hx hb hts in_X1 tyX1 tyX1_ok nmX1 hown hK hP hD hS 0 rfl rfl 5 (by decide) (hts _ q339) (fun _ h9 => h9) rfl hin rfl (by decide +kernel) rfl rfl (Nat.le_of_ble_eq_true rfl) dX1_init_50 (fun H locs hP hD hS => ?_)
  have hP : va_P D sCl [(h0, .inr (1, [.ref n1, .ref n2, .ref n3, .ref n4, .ref n5, .ref n6])), (n1, .inl (dB, 32, .inl (fun _ => 0))), (n2, .inl (dB, 16, .inl (fun _ => 0))), (n3, .inl (dB, 16, .inl (fun _ => 0))), (n4, .inl (dN, 256, .inl (fun _ => 0))), (n5, .inl (dN, 32, .inl (fun _ => 0))), (n6, .inl (dN, 36, .inl (fun _ => 0)))] H := hP
  have hD : va_D A [(h0, .inr (1, [.ref n1, .ref n2, .ref n3, .ref n4, .ref n5, .ref n6])), (n1, .inl (dB, 32, .inl (fun _ => 0))), (n2, .inl (dB, 16, .inl (fun _ => 0))), (n3, .inl (dB, 16, .inl (fun _ => 0))), (n4, .inl (dN, 256, .inl (fun _ => 0))), (n5, .inl (dN, 32, .inl (fun _ => 0))), (n6, .inl (dN, 36, .inl (fun _ => 0)))] := hD
  refine lv_iconst (v := (0 : Int32)) hx hb dX1_init_53 (by decide) ?_
  refine lv_istore_n (lv' := [(1, .int (0 : Int32)), (0, .ref h0)]) hx hb dX1_init_54 rfl hl (by decide) rfl (fun ls hl => ?_)
  have c0 := sm_bxp_0
  have hP : va_P D sCl [(h0, .inr (1, [.ref n1, .ref n2, .ref n3, .ref n4, .ref n5, .ref n6])), (n1, .inl (dB, 32, .inl (fun _ => 0))), (n2, .inl (dB, 16, .inl (fun _ => 0))), (n3, .inl (dB, 16, .inl (fun _ => 0))), (n4, .inl (dN, 256, .inl (sm_bxp 0))), (n5, .inl (dN, 32, .inl (fun _ => 0))), (n6, .inl (dN, 36, .inl (fun _ => 0)))] H := by rw [c0]; exact hP
  have hD : va_D A [(h0, .inr (1, [.ref n1, .ref n2, .ref n3, .ref n4, .ref n5, .ref n6])), (n1, .inl (dB, 32, .inl (fun _ => 0))), (n2, .inl (dB, 16, .inl (fun _ => 0))), (n3, .inl (dB, 16, .inl (fun _ => 0))), (n4, .inl (dN, 256, .inl (sm_bxp 0))), (n5, .inl (dN, 32, .inl (fun _ => 0))), (n6, .inl (dN, 36, .inl (fun _ => 0)))] := by rw [c0]; exact hD
  refine sm_loop (fun i H locs ls => va_P D sCl [(h0, .inr (1, [.ref n1, .ref n2, .ref n3, .ref n4, .ref n5, .ref n6])), (n1, .inl (dB, 32, .inl (fun _ => 0))), (n2, .inl (dB, 16, .inl (fun _ => 0))), (n3, .inl (dB, 16, .inl (fun _ => 0))), (n4, .inl (dN, 256, .inl (sm_bxp i))), (n5, .inl (dN, 32, .inl (fun _ => 0))), (n6, .inl (dN, 36, .inl (fun _ => 0)))] H ∧ va_D A [(h0, .inr (1, [.ref n1, .ref n2, .ref n3, .ref n4, .ref n5, .ref n6])), (n1, .inl (dB, 32, .inl (fun _ => 0))), (n2, .inl (dB, 16, .inl (fun _ => 0))), (n3, .inl (dB, 16, .inl (fun _ => 0))), (n4, .inl (dN, 256, .inl (sm_bxp i))), (n5, .inl (dN, 32, .inl (fun _ => 0))), (n6, .inl (dN, 36, .inl (fun _ => 0)))] ∧ va_S A s.heap H locs ∧ lv_has ls 2 [(1, .int (nI i)), (0, .ref h0)]) 256 ?_ ?_ 0 (by decide) _ _ _ ⟨hP, hD, hS, lv_sub hl [0, 1] rfl⟩
  · intro i H locs ls hi ⟨hP, hD, hS, hl⟩ ih
    refine lv_iload_n hx hb dX1_init_55 rfl (lv_at hl 0 rfl) ?_
    refine lv_sipush (v := (256 : Int32)) hx hb dX1_init_56 (by decide) ?_
    refine lv_icmp_ge (tgt := 92) hx hb dX1_init_59 (by decide) (fun c9 => absurd c9 (nI_ge (b := 256) hi (by decide))) (fun _ => ?_)
    refine lv_aload_n hx hb dX1_init_62 rfl (lv_at hl 1 rfl) ?_
    refine va_get (D := D) (ci := 1) (C := RX1) (T := TX1) (N := 6) hx hb hts in_X1 hown hK hP 0 rfl rfl 3 (by decide) (hts _ q337) (fun _ h9 => h9) rfl dX1_init_63 ?_
    refine lv_iload_n hx hb dX1_init_66 rfl (lv_at hl 0 rfl) ?_
    refine lv_iload_n hx hb dX1_init_67 rfl (lv_at hl 0 rfl) ?_
    refine sm_pS (rest := [.int (nI i), .ref n4]) hF (met_mx l i hi) (lw_S q325 q326 q18 q327) hdS_X1_mixed ⟨rfl, rfl, Nat.le_of_ble_eq_true rfl, Nat.le_of_ble_eq_true rfl⟩ sm_mvT trivial hl.1 rfl (Nat.le_of_ble_eq_true rfl) dX1_init_68 ⟨Nat.le_of_ble_eq_true rfl, Nat.le_of_ble_eq_true rfl⟩ ?_
    refine lv_sipush (v := (211 : Int32)) hx hb dX1_init_71 (by decide) ?_
    refine lv_ixor hx hb dX1_init_74 ?_
    refine sm_top (y := nI (sm_mx i ^^^ 211)) (nx_xor (sm_mx i) 211) ?_
    refine sm_pS (rest := [.int (nI i), .ref n4]) hF (met_iv l (sm_mx i ^^^ 211) (sm_mx_211 i hi)) (lw_S q328 q329 q18 q330) hdS_X1_inverse ⟨rfl, rfl, Nat.le_of_ble_eq_true rfl, Nat.le_of_ble_eq_true rfl⟩ sm_mvT trivial hl.1 rfl (Nat.le_of_ble_eq_true rfl) dX1_init_75 ⟨Nat.le_of_ble_eq_true rfl, Nat.le_of_ble_eq_true rfl⟩ ?_
    refine sm_pS (rest := [.int (nI i), .ref n4]) hF (met_mx l (sm_iv (sm_mx i ^^^ 211) 255 1) (sm_iv_lt _ 255 1 (by decide))) (lw_S q325 q326 q18 q327) hdS_X1_mixed ⟨rfl, rfl, Nat.le_of_ble_eq_true rfl, Nat.le_of_ble_eq_true rfl⟩ sm_mvT trivial hl.1 rfl (Nat.le_of_ble_eq_true rfl) dX1_init_78 ⟨Nat.le_of_ble_eq_true rfl, Nat.le_of_ble_eq_true rfl⟩ ?_
    refine lv_sipush (v := (211 : Int32)) hx hb dX1_init_81 (by decide) ?_
    refine lv_ixor hx hb dX1_init_84 ?_
    refine sm_top (y := (sm_sb i &&& (255 : Int32))) ((nx_xor _ 211).trans ((congrArg nI (sm_bq_ok i hi)).trans (sm_un_ok i hi))) ?_
    refine sm_iast hx hb hK hP hD hS 4 rfl i rfl (by omega) (by decide) dX1_init_85 (fun H locs hP hD hS => ?_)
    have hP : va_P D sCl [(h0, .inr (1, [.ref n1, .ref n2, .ref n3, .ref n4, .ref n5, .ref n6])), (n1, .inl (dB, 32, .inl (fun _ => 0))), (n2, .inl (dB, 16, .inl (fun _ => 0))), (n3, .inl (dB, 16, .inl (fun _ => 0))), (n4, .inl (dN, 256, .inl (upd (sm_bxp i) i (sm_sb i &&& (255 : Int32))))), (n5, .inl (dN, 32, .inl (fun _ => 0))), (n6, .inl (dN, 36, .inl (fun _ => 0)))] H := hP
    have hD : va_D A [(h0, .inr (1, [.ref n1, .ref n2, .ref n3, .ref n4, .ref n5, .ref n6])), (n1, .inl (dB, 32, .inl (fun _ => 0))), (n2, .inl (dB, 16, .inl (fun _ => 0))), (n3, .inl (dB, 16, .inl (fun _ => 0))), (n4, .inl (dN, 256, .inl (upd (sm_bxp i) i (sm_sb i &&& (255 : Int32))))), (n5, .inl (dN, 32, .inl (fun _ => 0))), (n6, .inl (dN, 36, .inl (fun _ => 0)))] := hD
    rw [sm_bxp_s] at hP hD
    refine lv_iinc (v := (nI (i + 1))) (lv' := [(1, .int (nI (i + 1))), (0, .ref h0)]) hx hb dX1_init_86 hl (k := 0) rfl (sm_inc i) (by decide) rfl (fun ls hl => ?_)
    refine lv_goto (tgt := 55) hx hb dX1_init_89 (by decide) ?_
    exact ih _ _ _ ⟨hP, hD, hS, lv_sub hl [0, 1] rfl⟩
  · intro H locs ls ⟨hP, hD, hS, hl⟩
    refine lv_iload_n hx hb dX1_init_55 rfl (lv_at hl 0 rfl) ?_
    refine lv_sipush (v := (256 : Int32)) hx hb dX1_init_56 (by decide) ?_
    refine lv_icmp_ge (tgt := 92) hx hb dX1_init_59 (by decide) (fun _ => ?_) (fun c9 => absurd (nI_le (Nat.le_refl 256) (by decide)) c9)
    rw [sm_bxp_e] at hP hD
    exact sm_vr (post := (fun _ : Nat × Nat × Nat × Nat × Nat × Nat => True)) (w1 := (fun u : Nat × Nat × Nat × Nat × Nat × Nat => [(h0, .inr (1, [.ref u.1, .ref u.2.1, .ref u.2.2.1, .ref u.2.2.2.1, .ref u.2.2.2.2.1, .ref u.2.2.2.2.2])), (u.1, .inl (dB, 32, .inl (fun _ => 0))), (u.2.1, .inl (dB, 16, .inl (fun _ => 0))), (u.2.2.1, .inl (dB, 16, .inl (fun _ => 0))), (u.2.2.2.1, .inl (dN, 256, .inl sm_box)), (u.2.2.2.2.1, .inl (dN, 32, .inl (fun _ => 0))), (u.2.2.2.2.2, .inl (dN, 36, .inl (fun _ => 0)))])) (u := (n1, n2, n3, n4, n5, n6)) hx hb hr hlk trivial hP hK hD hS (Nat.le_refl _) (Nat.le_refl _) dX1_init_92
end
section
/-! THE START: the static tables, the classes, the interface's methods, out of what the Statement gives -/
theorem sm_fl_mem {L : List Cond} {k n j : Nat} {F : Nat → Cond} (h : (L.drop k).take n = (List.range n).map F) (hj : j < n) : F j ∈ L := by
  have h1 : F j ∈ (L.drop k).take n := by
    rw [h]
    exact List.mem_map.mpr ⟨j, List.mem_range.mpr hj, rfl⟩
  exact List.mem_of_mem_drop (List.mem_of_mem_take h1)
abbrev sm_elC (n d : String) (F : Nat → Int32) (j : Nat) : Cond := Cond.eq (.elem (.static "SM4Engine" n d) (.int (Int32.ofNat j))) (.int (F j))
set_option maxRecDepth 100000 in
theorem sm_fl_F : ((flatC (Jvm.Cond.and given_1 narrow_1)).drop 11).take 4 = (List.range 4).map (sm_elC "FK" "[I" sm_fk) := by decide +kernel
set_option maxRecDepth 100000 in
theorem sm_fl_C : ((flatC (Jvm.Cond.and given_1 narrow_1)).drop 19).take 32 = (List.range 32).map (sm_elC "CK" "[I" sm_ck) := by decide +kernel
set_option maxRecDepth 100000 in
theorem sm_fl_S : ((flatC (Jvm.Cond.and given_1 narrow_1)).drop 55).take 256 = (List.range 256).map (sm_elC "Sbox" "[B" sm_sb) := by decide +kernel
theorem sm_tab {s : State} {args : Array Value} {n d : String} {ty : FieldType} {N : Nat} {F : Nat → Int32} {A : Nat → Prop} (hN : N < 2 ^ 31) (hl : (Cond.laysStatic "SM4Engine" n d).before args s = true) (hini : (Cond.initialized "SM4Engine").before args s = true) (harr : (Cond.arrayOf (.static "SM4Engine" n d) ty).before args s = true) (hlen : (Cond.eq (.length (.static "SM4Engine" n d)) (.int (Int32.ofNat N))).before args s = true) (hel : ∀ j : Nat, j < N → (sm_elC n d F j).before args s = true) (hA : ∀ a : Nat, a < s.heap.size → ¬ A a) : ∃ t : Nat, va_Z "SM4Engine" n d (.ref t) A s s.heap ∧ va_T ty t N (fun j => .int (F j)) A s s.heap := by
  obtain ⟨t, h1, h2⟩ := va_Tof (f := fun j => .int (F j)) hN harr (Cond.eq_int hlen rfl) (fun j hj => Cond.eq_int (hel j hj) rfl) hA
  exact ⟨t, va_Zof hl hini h1 hA, h2⟩
theorem sm_st0 {s : State} {b : Nat} {A : Nat → Prop} (hts : ∀ w ∈ lw_tbl, w.before #[Value.ref b] s = true) (hgv : (Jvm.Cond.and given_1 narrow_1).before #[Value.ref b] s = true) (hA : ∀ a : Nat, a < s.heap.size → ¬ A a) : sm_St A s s.heap := by
  have hs := flat_of_before _ hgv
  refine ⟨?_, ?_, ?_⟩
  · exact sm_tab (by decide) (hts _ q208) (hts _ (lw_all_tbl q19)) (hs _ (by decide +kernel)) (hs _ (by decide +kernel)) (fun j hj => hs _ (sm_fl_mem sm_fl_S hj)) hA
  · exact sm_tab (by decide) (hts _ q198) (hts _ (lw_all_tbl q19)) (hs _ (by decide +kernel)) (hs _ (by decide +kernel)) (fun j hj => hs _ (sm_fl_mem sm_fl_C hj)) hA
  · exact sm_tab (by decide) (hts _ q196) (hts _ (lw_all_tbl q19)) (hs _ (by decide +kernel)) (hs _ (by decide +kernel)) (fun j hj => hs _ (sm_fl_mem sm_fl_F hj)) hA
theorem sm_rx0 {s : State} {b : Nat} {A : Nat → Prop} (hts : ∀ w ∈ lw_tbl, w.before #[Value.ref b] s = true) (hgv : (Jvm.Cond.and given_1 narrow_1).before #[Value.ref b] s = true) (hA : ∀ a : Nat, a < s.heap.size → ¬ A a) : sm_Rx A s s.heap :=
  ⟨sm_st0 hts hgv hA, va_Fw.of (hts _ q108) (hts _ q107) (hts _ q113) (hts _ q111) (hts _ q109), va_Fw.of (hts _ q221) (hts _ q220) (hts _ q225) (hts _ q223) (hts _ q109)⟩
theorem sm_kn0 {s : State} {b : Nat} (hts : ∀ w ∈ lw_all, w.before #[Value.ref b] s = true) : ∃ (D : va_G) (dB dN : ClassId), va_K D sCl (sTy dB dN) s := by
  obtain ⟨c0, i0, k0⟩ := u_known (C := RX0) (T := TX0) (N := 3) (n := 3) hts in_X0 (hts _ q32)
  obtain ⟨c1, i1, k1⟩ := u_known (C := RX1) (T := TX1) (N := 6) (n := 6) hts in_X1 (hts _ q320)
  obtain ⟨c2, i2, k2⟩ := u_known (C := RX2) (T := TX2) (N := 2) (n := 2) hts in_X2 (hts _ q73)
  obtain ⟨c3, i3, k3⟩ := u_known (C := RX3) (T := TX3) (N := 1) (n := 1) hts in_X3 (hts _ q87)
  obtain ⟨dB, kB, cB, fB, gB, eB⟩ := Cond.arrayClass_spec (hts _ q49)
  obtain ⟨dN, kN, cN, fN, gN, eN⟩ := Cond.arrayClass_spec (hts _ q85)
  refine ⟨(fun k => if k = 0 then c0 else if k = 1 then c1 else if k = 2 then c2 else c3, fun k => if k = 0 then i0 else if k = 1 then i1 else if k = 2 then i2 else i3), dB, dN, ?_, ?_⟩
  · intro k q hq
    match k, hq with
    | 0, hq => cases hq; exact k0
    | 1, hq => cases hq; exact k1
    | 2, hq => cases hq; exact k2
    | 3, hq => cases hq; exact k3
    | k + 4, hq => simp at hq
  · intro k q hq
    match k, hq with
    | 0, hq => cases hq; exact ⟨fun n z => ⟨fun k h => (by cases h), kB, gB, cB, eB⟩, fB⟩
    | 1, hq => cases hq; exact ⟨fun n z => ⟨fun k h => (by cases h), kN, gN, cN, eN⟩, fN⟩
    | k + 2, hq => simp at hq
end
section
/-! THE CLAIM OUT OF ONE WALK OF THE LAW'S BODY. Your part is whole_start (and what it stands on); all else here is the same for every law, but numbers. -/
def R_law : String := "SmFourDeskLaw"
def lw_P (b : Addr) (xs : List Int32) (args : Array Value) (s : State) : Prop := args = #[.ref b] ∧ s.IntsAt b xs ∧ xs.length ≤ 288 ∧ (Jvm.Cond.and given_1 narrow_1).before args s = true
def lw_Q (_ : Array Value) (s : State) (o : Outcome) (t : State) : Prop := o = .returned (some (.int 1)) ∧ Framed s o t [] 600096 7301386
def lw_Z (below : List Frame) (a : Array Value) (s : State) : State → Prop := fun t => ∃ o, t.status = .running ∧ Ended t below o ∧ lw_Q a s o t
/-- the law's own end, with 1 on the stack, nothing written that was there before, its room as the claim has it -/
theorem lw_ret {p : Program} {l : Launch} {e : Env} {s : State} {m : MethodId} {below : List Frame} {meth : Method} {c : Code} {b : Nat} (hx : p.tables.exec = Jvm.exec) (hb : c.code = code) (hr : meth.sig.returnType = ret) (hlocks : meth.locks = false) {pc : Nat} {H : Heap} {ls : Array Slot} (hdg : decode code pc = .ok (.ireturn, 1)) : W p l e room_1 s m #[Value.ref b] below meth c H [] 600096 7301386 (lw_Z below #[Value.ref b] s) (F0 m pc ls [.int 1]) := by
  intro T hT X
  obtain ⟨fs, hret, hrun, hended, hW, hframe⟩ := X.leave (v := some (.int 1)) (hlocks := hlocks) (fun h => by rw [hr] at h; cases h)
  have hmeth' : T.vm.method? m = some meth := X.method'
  refine ⟨T.setFrames fs, ?_, .returned (some (.int 1)), hrun, hended, rfl, ⟨_, rfl⟩, hW, hframe⟩
  jvm_step X.here [X.here.top, hx, hb, hdg, hmeth', hr, ret, narrow_b1]
  (try refine ⟨rfl, ?_⟩); (try refine ⟨rfl, ?_⟩)
  first | (intro acts; rw [hret _ acts rfl rfl rfl]) | rw [hret _ _ rfl rfl rfl]
  exact Steps.refl _
/-- what holds at the law's entry: the machine, the code, the tables' words (any of lw_tbl by 'hts w (by decide +kernel)'), the script of L ints xs at the cell b, what the Statement gives of the start (any of its parts by flat_of_before) -/
def lw_At (p : Program) (s : State) (m : MethodId) (meth : Method) (c : Code) (b L : Nat) (xs : Nat → Int32) : Prop :=
  p.tables.exec = Jvm.exec ∧ c.code = code ∧ meth.sig.returnType = ret ∧ c.maxLocals = 4 ∧ s.vm.findClass R_law = some m.cls ∧ (∀ w ∈ lw_tbl, w.before #[Value.ref b] s = true) ∧ va_X b L xs s s.heap ∧ b < s.heap.size ∧ meth.locks = false ∧ (Jvm.Cond.and given_1 narrow_1).before #[Value.ref b] s = true
section SML
variable {p : Program} {l : Launch} {e : Env} {R : Room} {s : State} {m : MethodId} {args : Array Value} {below : List Frame} {meth : Method} {c : Code} {H : Heap} {locs : List Loc} {cells slots : Nat} {Q : State → Prop} {cc : ByteArray} {pc : Nat} {ls : Array Slot} {rest : List Value} {A : Nat → Prop} {H0 : Heap}
/-- a loop whose room grows with its turns -/
theorem sm_loopC (I : Nat → Heap → List Loc → Array Slot → Prop) (cs ss : Nat → Nat) (N : Nat)
    (step : ∀ (i : Nat) (H : Heap) (locs : List Loc) (ls : Array Slot), i < N → I i H locs ls → (∀ (H' : Heap) (locs' : List Loc) (ls' : Array Slot), I (i + 1) H' locs' ls' → W p l e R s m args below meth c H' locs' (cs (i + 1)) (ss (i + 1)) Q (F0 m pc ls' [])) → W p l e R s m args below meth c H locs (cs i) (ss i) Q (F0 m pc ls []))
    (fin : ∀ (H : Heap) (locs : List Loc) (ls : Array Slot), I N H locs ls → W p l e R s m args below meth c H locs (cs N) (ss N) Q (F0 m pc ls []))
    (i : Nat) (hi : i ≤ N) (H : Heap) (locs : List Loc) (ls : Array Slot) (h : I i H locs ls) : W p l e R s m args below meth c H locs (cs i) (ss i) Q (F0 m pc ls []) := by
  have key : ∀ (n i : Nat), i + n = N → ∀ (H : Heap) (locs : List Loc) (ls : Array Slot), I i H locs ls → W p l e R s m args below meth c H locs (cs i) (ss i) Q (F0 m pc ls []) := by
    intro n
    induction n with
    | zero =>
      intro i e0 H locs ls h
      have e1 : i = N := by omega
      subst e1
      exact fin H locs ls h
    | succ n ih =>
      intro i e0 H locs ls h
      exact step i H locs ls (by omega) h (fun H' locs' ls' h' => ih (i + 1) (by omega) H' locs' ls' h')
  exact key (N - i) i (by omega) H locs ls h
theorem sm_sld {b L : Nat} {xs : Nat → Int32} {i : Int32} (hx : p.tables.exec = Jvm.exec) (hb : c.code = cc) (hX : va_X b L xs s H0) (hbl : b < H0.size) (hbA : ¬ A b) (hS : va_S A H0 H locs) (k : Nat) (hi : i = nI k) (hk : k < L) (hL : L < 2 ^ 31) (hdg : decode cc pc = .ok (.iaload, 1))
    (kk : W p l e R s m args below meth c H locs cells slots Q (F0 m (pc + 1) ls (.int (xs k) :: rest))) : W p l e R s m args below meth c H locs cells slots Q (F0 m pc ls (.int i :: .ref b :: rest)) := by
  subst hi
  refine va_sld hx hb hX hbl hbA hS (vp_in_nI hk hL) hdg ?_
  rw [nI_clamp (Nat.lt_trans hk hL)]
  exact kk
end SML
theorem sm_gtN {L t : Nat} (hL : L ≤ 288) (ht : t < L / 6) : ¬ (nI L - (6 : Int32)) < nI (6 * t) := by
  intro h
  rw [Int32.lt_iff_toInt_lt] at h
  rw [show (6 : Int32) = nI 6 from rfl, pk_sub_toInt (by omega) (by decide), nI_toInt (by omega)] at h
  omega
theorem sm_gtY {L : Nat} (hL : L ≤ 288) : (nI L - (6 : Int32)) < nI (6 * (L / 6)) := by
  rw [Int32.lt_iff_toInt_lt]
  rw [show (6 : Int32) = nI 6 from rfl, pk_sub_toInt (by omega) (by decide), nI_toInt (by omega)]
  omega
set_option maxHeartbeats 4000000 in
set_option maxRecDepth 100000 in
theorem whole_start {p : Program} {e : Env} {s : State} {m : MethodId} {below : List Frame} {meth : Method} {c : Code} (l : Launch) (hflags : l.flags = flags0) {b L : Nat} {xs : Nat → Int32} (hL : L ≤ 288) (C0 : lw_At p s m meth c b L xs) : W p l e room_1 s m #[Value.ref b] below meth c s.heap [] 0 0 (lw_Z below #[Value.ref b] s) (entryFrame m ([Value.ref b] : List Value).toArray 4) := by
  obtain ⟨hx, hb, hr, hml, hown, hts0, hX, hbl, hlk, hgv⟩ := C0
  have hts : ∀ w ∈ lw_all, w.before #[Value.ref b] s = true := fun w h => hts0 w (lw_all_tbl h)
  have hF : CallFix p m c cL_law 4 s #[Value.ref b] lw_all R_law := ⟨hx, hb, hml, hown, hts⟩
  obtain ⟨D, dB, dN, hK⟩ := sm_kn0 hts
  obtain ⟨A, hAe⟩ : ∃ A : Nat → Prop, A = fun q => s.heap.size ≤ q := ⟨_, rfl⟩
  have hA : ∀ q : Nat, s.heap.size ≤ q → A q := fun q h => by rw [hAe]; exact h
  have hA0 : ∀ q : Nat, q < s.heap.size → ¬ A q := fun q h h1 => by rw [hAe] at h1; exact Nat.not_le_of_lt h h1
  have hEx : sm_Rx A s s.heap := sm_rx0 hts0 hgv hA0
  have hbA : ¬ A b := hA0 b hbl
  have hP : va_P D sCl [] s.heap := fun k q h => by simp at h
  have hD : va_D A [] := ⟨fun i j p q h => by simp at h, fun k q h => by simp at h⟩
  have hS : va_S A s.heap s.heap [] := va_S.rf
  have hl := lv_entry ([.ref b]) (n := 4) (Nat.le_of_ble_eq_true rfl)
  rw [lg_entry_eq]
  generalize (lg_sl ([.ref b]) ++ List.replicate (4 - (lg_sl ([.ref b])).length) Slot.unset).toArray = ls at hl ⊢
  have hl : lv_has ls 4 [(0, .ref b)] := hl
  refine va_new (ci := 0) (fs := [.null, .null, .null]) (C := RX0) (T := TX0) (N := 3) hx hb hts in_X0 tyX0 tyX0_ok hown (hts _ q31) (hts _ q32) (hts _ q17) hK hP hD hS hA rfl (fun j hj => by rcases (show j = 0 ∨ j = 1 ∨ j = 2 by omega) with rfl | rfl | rfl <;> rfl) (Nat.le_of_ble_eq_true rfl) (Nat.le_of_ble_eq_true rfl) dL_law_0 (fun h0 H hP hD hS => ?_)
  have hP : va_P D sCl [(h0, .inr (0, [.null, .null, .null]))] H := hP
  have hD : va_D A [(h0, .inr (0, [.null, .null, .null]))] := hD
  refine lv_dup hx hb dL_law_3 rfl ?_
  refine sm_cI (wr := []) (As := []) (rest := [.ref h0]) hF (met_d0 l D dB dN h0) (lw_meth q35) (hts _ q17) (hts _ q33) (hts _ q34) rfl hdI_X0_init ⟨Nat.le_of_ble_eq_true rfl, Nat.le_of_ble_eq_true rfl⟩ sm_no_ok trivial hK hP hD hS hA [0] [] rfl rfl rfl (by decide) (by decide) (by decide) hl.1 rfl (Nat.le_of_ble_eq_true rfl) dL_law_4 ⟨Nat.le_of_ble_eq_true rfl, Nat.le_of_ble_eq_true rfl⟩ (fun u H locs _ hP hD hS => ?_)
  have hP : va_P D sCl [(h0, .inr (0, [.ref u.1, .ref u.2.1, .ref u.2.2])), (u.1, .inl (dB, 32, .inl (fun _ => 0))), (u.2.1, .inl (dB, 16, .inl (fun _ => 0))), (u.2.2, .inl (dB, 16, .inl (fun _ => 0)))] H := hP
  have hD : va_D A [(h0, .inr (0, [.ref u.1, .ref u.2.1, .ref u.2.2])), (u.1, .inl (dB, 32, .inl (fun _ => 0))), (u.2.1, .inl (dB, 16, .inl (fun _ => 0))), (u.2.2, .inl (dB, 16, .inl (fun _ => 0)))] := hD
  obtain ⟨a1, a2, a3⟩ := u
  have hP : va_P D sCl [(h0, .inr (0, [.ref a1, .ref a2, .ref a3])), (a1, .inl (dB, 32, .inl (fun _ => 0))), (a2, .inl (dB, 16, .inl (fun _ => 0))), (a3, .inl (dB, 16, .inl (fun _ => 0)))] H := hP
  have hD : va_D A [(h0, .inr (0, [.ref a1, .ref a2, .ref a3])), (a1, .inl (dB, 32, .inl (fun _ => 0))), (a2, .inl (dB, 16, .inl (fun _ => 0))), (a3, .inl (dB, 16, .inl (fun _ => 0)))] := hD
  refine lv_astore_n (lv' := [(1, .ref h0), (0, .ref b)]) hx hb dL_law_7 rfl hl (by decide) rfl (fun ls hl => ?_)
  refine va_new (ci := 1) (fs := [.null, .null, .null, .null, .null, .null]) (C := RX1) (T := TX1) (N := 6) hx hb hts in_X1 tyX1 tyX1_ok hown (hts _ q319) (hts _ q320) (hts _ q18) hK hP hD hS hA rfl (fun j hj => by rcases (show j = 0 ∨ j = 1 ∨ j = 2 ∨ j = 3 ∨ j = 4 ∨ j = 5 by omega) with rfl | rfl | rfl | rfl | rfl | rfl <;> rfl) (Nat.le_of_ble_eq_true rfl) (Nat.le_of_ble_eq_true rfl) dL_law_8 (fun m0 H hP hD hS => ?_)
  have hP : va_P D sCl [(h0, .inr (0, [.ref a1, .ref a2, .ref a3])), (a1, .inl (dB, 32, .inl (fun _ => 0))), (a2, .inl (dB, 16, .inl (fun _ => 0))), (a3, .inl (dB, 16, .inl (fun _ => 0))), (m0, .inr (1, [.null, .null, .null, .null, .null, .null]))] H := hP
  have hD : va_D A [(h0, .inr (0, [.ref a1, .ref a2, .ref a3])), (a1, .inl (dB, 32, .inl (fun _ => 0))), (a2, .inl (dB, 16, .inl (fun _ => 0))), (a3, .inl (dB, 16, .inl (fun _ => 0))), (m0, .inr (1, [.null, .null, .null, .null, .null, .null]))] := hD
  refine lv_dup hx hb dL_law_11 rfl ?_
  refine sm_cI (wr := [(h0, .inr (0, [.ref a1, .ref a2, .ref a3])), (a1, .inl (dB, 32, .inl (fun _ => 0))), (a2, .inl (dB, 16, .inl (fun _ => 0))), (a3, .inl (dB, 16, .inl (fun _ => 0)))]) (As := []) (rest := [.ref m0]) hF (met_m0 l D dB dN m0) (lw_meth q323) (hts _ q18) (hts _ q321) (hts _ q322) rfl hdI_X1_init ⟨Nat.le_of_ble_eq_true rfl, Nat.le_of_ble_eq_true rfl⟩ sm_no_ok trivial hK hP hD hS hA [4] [0, 1, 2, 3] rfl rfl rfl (by decide) (by decide) (by decide) hl.1 rfl (Nat.le_of_ble_eq_true rfl) dL_law_12 ⟨Nat.le_of_ble_eq_true rfl, Nat.le_of_ble_eq_true rfl⟩ (fun u H locs _ hP hD hS => ?_)
  have hP : va_P D sCl [(h0, .inr (0, [.ref a1, .ref a2, .ref a3])), (a1, .inl (dB, 32, .inl (fun _ => 0))), (a2, .inl (dB, 16, .inl (fun _ => 0))), (a3, .inl (dB, 16, .inl (fun _ => 0))), (m0, .inr (1, [.ref u.1, .ref u.2.1, .ref u.2.2.1, .ref u.2.2.2.1, .ref u.2.2.2.2.1, .ref u.2.2.2.2.2])), (u.1, .inl (dB, 32, .inl (fun _ => 0))), (u.2.1, .inl (dB, 16, .inl (fun _ => 0))), (u.2.2.1, .inl (dB, 16, .inl (fun _ => 0))), (u.2.2.2.1, .inl (dN, 256, .inl sm_box)), (u.2.2.2.2.1, .inl (dN, 32, .inl (fun _ => 0))), (u.2.2.2.2.2, .inl (dN, 36, .inl (fun _ => 0)))] H := hP
  have hD : va_D A [(h0, .inr (0, [.ref a1, .ref a2, .ref a3])), (a1, .inl (dB, 32, .inl (fun _ => 0))), (a2, .inl (dB, 16, .inl (fun _ => 0))), (a3, .inl (dB, 16, .inl (fun _ => 0))), (m0, .inr (1, [.ref u.1, .ref u.2.1, .ref u.2.2.1, .ref u.2.2.2.1, .ref u.2.2.2.2.1, .ref u.2.2.2.2.2])), (u.1, .inl (dB, 32, .inl (fun _ => 0))), (u.2.1, .inl (dB, 16, .inl (fun _ => 0))), (u.2.2.1, .inl (dB, 16, .inl (fun _ => 0))), (u.2.2.2.1, .inl (dN, 256, .inl sm_box)), (u.2.2.2.2.1, .inl (dN, 32, .inl (fun _ => 0))), (u.2.2.2.2.2, .inl (dN, 36, .inl (fun _ => 0)))] := hD
  obtain ⟨c1, c2, c3, b1, b2, b3⟩ := u
  have hP : va_P D sCl [(h0, .inr (0, [.ref a1, .ref a2, .ref a3])), (a1, .inl (dB, 32, .inl (fun _ => 0))), (a2, .inl (dB, 16, .inl (fun _ => 0))), (a3, .inl (dB, 16, .inl (fun _ => 0))), (m0, .inr (1, [.ref c1, .ref c2, .ref c3, .ref b1, .ref b2, .ref b3])), (c1, .inl (dB, 32, .inl (fun _ => 0))), (c2, .inl (dB, 16, .inl (fun _ => 0))), (c3, .inl (dB, 16, .inl (fun _ => 0))), (b1, .inl (dN, 256, .inl sm_box)), (b2, .inl (dN, 32, .inl (fun _ => 0))), (b3, .inl (dN, 36, .inl (fun _ => 0)))] H := hP
  have hD : va_D A [(h0, .inr (0, [.ref a1, .ref a2, .ref a3])), (a1, .inl (dB, 32, .inl (fun _ => 0))), (a2, .inl (dB, 16, .inl (fun _ => 0))), (a3, .inl (dB, 16, .inl (fun _ => 0))), (m0, .inr (1, [.ref c1, .ref c2, .ref c3, .ref b1, .ref b2, .ref b3])), (c1, .inl (dB, 32, .inl (fun _ => 0))), (c2, .inl (dB, 16, .inl (fun _ => 0))), (c3, .inl (dB, 16, .inl (fun _ => 0))), (b1, .inl (dN, 256, .inl sm_box)), (b2, .inl (dN, 32, .inl (fun _ => 0))), (b3, .inl (dN, 36, .inl (fun _ => 0)))] := hD
  refine lv_astore_n (lv' := [(2, .ref m0), (1, .ref h0), (0, .ref b)]) hx hb dL_law_15 rfl hl (by decide) rfl (fun ls hl => ?_)
  refine lv_iconst (v := (0 : Int32)) hx hb dL_law_16 (by decide) ?_
  refine lv_istore_n (lv' := [(3, .int (0 : Int32)), (2, .ref m0), (1, .ref h0), (0, .ref b)]) hx hb dL_law_17 rfl hl (by decide) rfl (fun ls hl => ?_)
  refine sm_loopC (fun t H locs ls => ∃ f g h rd wd : Nat → Int32, va_P D sCl [(h0, .inr (0, [.ref a1, .ref a2, .ref a3])), (a1, .inl (dB, 32, .inl f)), (a2, .inl (dB, 16, .inl g)), (a3, .inl (dB, 16, .inl h)), (m0, .inr (1, [.ref c1, .ref c2, .ref c3, .ref b1, .ref b2, .ref b3])), (c1, .inl (dB, 32, .inl f)), (c2, .inl (dB, 16, .inl g)), (c3, .inl (dB, 16, .inl h)), (b1, .inl (dN, 256, .inl sm_box)), (b2, .inl (dN, 32, .inl rd)), (b3, .inl (dN, 36, .inl wd))] H ∧ va_D A [(h0, .inr (0, [.ref a1, .ref a2, .ref a3])), (a1, .inl (dB, 32, .inl f)), (a2, .inl (dB, 16, .inl g)), (a3, .inl (dB, 16, .inl h)), (m0, .inr (1, [.ref c1, .ref c2, .ref c3, .ref b1, .ref b2, .ref b3])), (c1, .inl (dB, 32, .inl f)), (c2, .inl (dB, 16, .inl g)), (c3, .inl (dB, 16, .inl h)), (b1, .inl (dN, 256, .inl sm_box)), (b2, .inl (dN, 32, .inl rd)), (b3, .inl (dN, 36, .inl wd))] ∧ va_S A s.heap H locs ∧ lv_has ls 4 [(3, .int (nI (6 * t))), (0, .ref b), (1, .ref h0), (2, .ref m0)]) (fun t => 11 + 8 * t) (fun t => 461 + 79 * t) (L / 6) ?_ ?_ 0 (Nat.zero_le _) _ _ _ ⟨_, _, _, _, _, hP, hD, hS, lv_sub hl [0, 3, 2, 1] rfl⟩
  · intro t H locs ls ht ⟨f, g, h, rd, wd, hP, hD, hS, hl⟩ ih
    have h48 : t < 48 := by omega
    have h6 : 6 * t + 5 < L := by omega
    have hL31 : L < 2 ^ 31 := by omega
    refine lv_iload_n hx hb dL_law_18 rfl (lv_at hl 0 rfl) ?_
    refine lv_aload_n hx hb dL_law_19 rfl (lv_at hl 1 rfl) ?_
    refine va_slen hx hb hX hbl hbA hS dL_law_20 ?_
    refine sm_top (y := nI L) rfl ?_
    refine lv_bipush (v := (6 : Int32)) hx hb dL_law_21 (by decide) ?_
    refine lv_isub hx hb dL_law_23 ?_
    refine lv_icmp_gt (tgt := 266) hx hb dL_law_24 (by decide) (fun c9 => absurd c9 (sm_gtN hL ht)) (fun _ => ?_)
    refine lv_aload_n hx hb dL_law_27 rfl (lv_at hl 1 rfl) ?_
    refine lv_iload_n hx hb dL_law_28 rfl (lv_at hl 0 rfl) ?_
    refine sm_sld hx hb hX hbl hbA hS (6 * t) rfl (by omega) hL31 dL_law_29 ?_
    refine lv_bipush (v := (7 : Int32)) hx hb dL_law_30 (by decide) ?_
    refine lv_iand hx hb dL_law_32 ?_
    obtain ⟨o, ho⟩ : ∃ o : Nat, o = (xs (6 * t)).toBitVec.toNat % 8 := ⟨_, rfl⟩
    refine sm_top (y := nI o) ((pk_and (xs (6 * t)) 3 (by decide)).trans (congrArg nI ho.symm)) ?_
    have ho8 : o < 8 := by omega
    rcases (show o = 0 ∨ o = 1 ∨ o = 2 ∨ o = 3 ∨ o = 4 ∨ o = 5 ∨ o = 6 ∨ o = 7 by omega) with rfl | rfl | rfl | rfl | rfl | rfl | rfl | rfl
    · refine lv_tableIn (off := 39) (tgt := 72) hx hb dL_law_33 (by decide) (by decide) (by decide) (by decide) ?_
      refine lv_aload_n hx hb dL_law_72 rfl (lv_at hl 2 rfl) ?_
      refine lv_aload_n hx hb dL_law_73 rfl (lv_at hl 1 rfl) ?_
      refine lv_iload_n hx hb dL_law_74 rfl (lv_at hl 0 rfl) ?_
      refine lv_iconst (v := (1 : Int32)) hx hb dL_law_75 (by decide) ?_
      refine lv_iadd hx hb dL_law_76 ?_
      refine sm_sld hx hb hX hbl hbA hS ((6 * t) + 1) (nI_add (6 * t) 1) (by omega) hL31 dL_law_77 ?_
      refine lv_aload_n hx hb dL_law_78 rfl (lv_at hl 1 rfl) ?_
      refine lv_iload_n hx hb dL_law_79 rfl (lv_at hl 0 rfl) ?_
      refine lv_iconst (v := (2 : Int32)) hx hb dL_law_80 (by decide) ?_
      refine lv_iadd hx hb dL_law_81 ?_
      refine sm_sld hx hb hX hbl hbA hS ((6 * t) + 2) (nI_add (6 * t) 2) (by omega) hL31 dL_law_82 ?_
      refine lv_aload_n hx hb dL_law_83 rfl (lv_at hl 1 rfl) ?_
      refine lv_iload_n hx hb dL_law_84 rfl (lv_at hl 0 rfl) ?_
      refine lv_iconst (v := (3 : Int32)) hx hb dL_law_85 (by decide) ?_
      refine lv_iadd hx hb dL_law_86 ?_
      refine sm_sld hx hb hX hbl hbA hS ((6 * t) + 3) (nI_add (6 * t) 3) (by omega) hL31 dL_law_87 ?_
      refine lv_aload_n hx hb dL_law_88 rfl (lv_at hl 1 rfl) ?_
      refine lv_iload_n hx hb dL_law_89 rfl (lv_at hl 0 rfl) ?_
      refine lv_iconst (v := (4 : Int32)) hx hb dL_law_90 (by decide) ?_
      refine lv_iadd hx hb dL_law_91 ?_
      refine sm_sld hx hb hX hbl hbA hS ((6 * t) + 4) (nI_add (6 * t) 4) (by omega) hL31 dL_law_92 ?_
      refine lv_aload_n hx hb dL_law_93 rfl (lv_at hl 1 rfl) ?_
      refine lv_iload_n hx hb dL_law_94 rfl (lv_at hl 0 rfl) ?_
      refine lv_iconst (v := (5 : Int32)) hx hb dL_law_95 (by decide) ?_
      refine lv_iadd hx hb dL_law_96 ?_
      refine sm_sld hx hb hX hbl hbA hS ((6 * t) + 5) (nI_add (6 * t) 5) (by omega) hL31 dL_law_97 ?_
      refine sm_cV (wr := [(m0, .inr (1, [.ref c1, .ref c2, .ref c3, .ref b1, .ref b2, .ref b3])), (c1, .inl (dB, 32, .inl f)), (c2, .inl (dB, 16, .inl g)), (c3, .inl (dB, 16, .inl h)), (b1, .inl (dN, 256, .inl sm_box)), (b2, .inl (dN, 32, .inl rd)), (b3, .inl (dN, 36, .inl wd))]) (C := RX0) (As := [.int (xs ((6 * t) + 1)), .int (xs ((6 * t) + 2)), .int (xs ((6 * t) + 3)), .int (xs ((6 * t) + 4)), .int (xs ((6 * t) + 5))]) (rest := []) hF (met_dk l D dB dN h0 a1 a2 a3 f g h (xs ((6 * t) + 1)) (xs ((6 * t) + 2)) (xs ((6 * t) + 3)) (xs ((6 * t) + 4)) (xs ((6 * t) + 5))) (lw_V q50 q51 q52 q17 q53) hdV_X0_key ⟨Nat.le_of_ble_eq_true rfl, Nat.le_of_ble_eq_true rfl⟩ (va_recv hK hP (ci := 0) (q0 := 0) rfl rfl) sm_no_ok trivial hK hP hD hS hA [0, 1, 2, 3] [4, 5, 6, 7, 8, 9, 10] rfl rfl rfl (by decide) (by decide) (by decide) hl.1 rfl (Nat.le_of_ble_eq_true rfl) dL_law_98 ⟨(by show 11 + 8 * t + 0 ≤ 600096; omega), (by show 461 + 79 * t + 0 ≤ 7301386; omega)⟩ (fun _ H locs _ hP hD hS => ?_)
      have hP : va_P D sCl [(m0, .inr (1, [.ref c1, .ref c2, .ref c3, .ref b1, .ref b2, .ref b3])), (c1, .inl (dB, 32, .inl f)), (c2, .inl (dB, 16, .inl g)), (c3, .inl (dB, 16, .inl h)), (b1, .inl (dN, 256, .inl sm_box)), (b2, .inl (dN, 32, .inl rd)), (b3, .inl (dN, 36, .inl wd)), (h0, .inr (0, [.ref a1, .ref a2, .ref a3])), (a1, .inl (dB, 32, .inl (sm_pI f ((xs ((6 * t) + 1)).toBitVec.toNat % 2 * 16) (xs ((6 * t) + 2)) (xs ((6 * t) + 3)) (xs ((6 * t) + 4)) (xs ((6 * t) + 5)) 16))), (a2, .inl (dB, 16, .inl g)), (a3, .inl (dB, 16, .inl h))] H := hP
      have hD : va_D A [(m0, .inr (1, [.ref c1, .ref c2, .ref c3, .ref b1, .ref b2, .ref b3])), (c1, .inl (dB, 32, .inl f)), (c2, .inl (dB, 16, .inl g)), (c3, .inl (dB, 16, .inl h)), (b1, .inl (dN, 256, .inl sm_box)), (b2, .inl (dN, 32, .inl rd)), (b3, .inl (dN, 36, .inl wd)), (h0, .inr (0, [.ref a1, .ref a2, .ref a3])), (a1, .inl (dB, 32, .inl (sm_pI f ((xs ((6 * t) + 1)).toBitVec.toNat % 2 * 16) (xs ((6 * t) + 2)) (xs ((6 * t) + 3)) (xs ((6 * t) + 4)) (xs ((6 * t) + 5)) 16))), (a2, .inl (dB, 16, .inl g)), (a3, .inl (dB, 16, .inl h))] := hD
      refine lv_aload_n hx hb dL_law_101 rfl (lv_at hl 3 rfl) ?_
      refine lv_aload_n hx hb dL_law_102 rfl (lv_at hl 1 rfl) ?_
      refine lv_iload_n hx hb dL_law_103 rfl (lv_at hl 0 rfl) ?_
      refine lv_iconst (v := (1 : Int32)) hx hb dL_law_104 (by decide) ?_
      refine lv_iadd hx hb dL_law_105 ?_
      refine sm_sld hx hb hX hbl hbA hS ((6 * t) + 1) (nI_add (6 * t) 1) (by omega) hL31 dL_law_106 ?_
      refine lv_aload_n hx hb dL_law_107 rfl (lv_at hl 1 rfl) ?_
      refine lv_iload_n hx hb dL_law_108 rfl (lv_at hl 0 rfl) ?_
      refine lv_iconst (v := (2 : Int32)) hx hb dL_law_109 (by decide) ?_
      refine lv_iadd hx hb dL_law_110 ?_
      refine sm_sld hx hb hX hbl hbA hS ((6 * t) + 2) (nI_add (6 * t) 2) (by omega) hL31 dL_law_111 ?_
      refine lv_aload_n hx hb dL_law_112 rfl (lv_at hl 1 rfl) ?_
      refine lv_iload_n hx hb dL_law_113 rfl (lv_at hl 0 rfl) ?_
      refine lv_iconst (v := (3 : Int32)) hx hb dL_law_114 (by decide) ?_
      refine lv_iadd hx hb dL_law_115 ?_
      refine sm_sld hx hb hX hbl hbA hS ((6 * t) + 3) (nI_add (6 * t) 3) (by omega) hL31 dL_law_116 ?_
      refine lv_aload_n hx hb dL_law_117 rfl (lv_at hl 1 rfl) ?_
      refine lv_iload_n hx hb dL_law_118 rfl (lv_at hl 0 rfl) ?_
      refine lv_iconst (v := (4 : Int32)) hx hb dL_law_119 (by decide) ?_
      refine lv_iadd hx hb dL_law_120 ?_
      refine sm_sld hx hb hX hbl hbA hS ((6 * t) + 4) (nI_add (6 * t) 4) (by omega) hL31 dL_law_121 ?_
      refine lv_aload_n hx hb dL_law_122 rfl (lv_at hl 1 rfl) ?_
      refine lv_iload_n hx hb dL_law_123 rfl (lv_at hl 0 rfl) ?_
      refine lv_iconst (v := (5 : Int32)) hx hb dL_law_124 (by decide) ?_
      refine lv_iadd hx hb dL_law_125 ?_
      refine sm_sld hx hb hX hbl hbA hS ((6 * t) + 5) (nI_add (6 * t) 5) (by omega) hL31 dL_law_126 ?_
      refine sm_cV (wr := [(h0, .inr (0, [.ref a1, .ref a2, .ref a3])), (a1, .inl (dB, 32, .inl (sm_pI f ((xs ((6 * t) + 1)).toBitVec.toNat % 2 * 16) (xs ((6 * t) + 2)) (xs ((6 * t) + 3)) (xs ((6 * t) + 4)) (xs ((6 * t) + 5)) 16))), (a2, .inl (dB, 16, .inl g)), (a3, .inl (dB, 16, .inl h))]) (C := RX1) (As := [.int (xs ((6 * t) + 1)), .int (xs ((6 * t) + 2)), .int (xs ((6 * t) + 3)), .int (xs ((6 * t) + 4)), .int (xs ((6 * t) + 5))]) (rest := []) hF (met_mk l D dB dN m0 c1 c2 c3 b1 b2 b3 f g h rd wd (xs ((6 * t) + 1)) (xs ((6 * t) + 2)) (xs ((6 * t) + 3)) (xs ((6 * t) + 4)) (xs ((6 * t) + 5))) (lw_V q389 q390 q391 q18 q392) hdV_X1_key ⟨Nat.le_of_ble_eq_true rfl, Nat.le_of_ble_eq_true rfl⟩ (va_recv hK hP (ci := 1) (q0 := 0) rfl rfl) sm_no_ok trivial hK hP hD hS hA [0, 1, 2, 3, 4, 5, 6] [7, 8, 9, 10] rfl rfl rfl (by decide) (by decide) (by decide) hl.1 rfl (Nat.le_of_ble_eq_true rfl) dL_law_127 ⟨(by show 11 + 8 * t + 0 ≤ 600096; omega), (by show 461 + 79 * t + 0 ≤ 7301386; omega)⟩ (fun _ H locs _ hP hD hS => ?_)
      have hP : va_P D sCl [(h0, .inr (0, [.ref a1, .ref a2, .ref a3])), (a1, .inl (dB, 32, .inl (sm_pI f ((xs ((6 * t) + 1)).toBitVec.toNat % 2 * 16) (xs ((6 * t) + 2)) (xs ((6 * t) + 3)) (xs ((6 * t) + 4)) (xs ((6 * t) + 5)) 16))), (a2, .inl (dB, 16, .inl g)), (a3, .inl (dB, 16, .inl h)), (m0, .inr (1, [.ref c1, .ref c2, .ref c3, .ref b1, .ref b2, .ref b3])), (c1, .inl (dB, 32, .inl (sm_pI f ((xs ((6 * t) + 1)).toBitVec.toNat % 2 * 16) (xs ((6 * t) + 2)) (xs ((6 * t) + 3)) (xs ((6 * t) + 4)) (xs ((6 * t) + 5)) 16))), (c2, .inl (dB, 16, .inl g)), (c3, .inl (dB, 16, .inl h)), (b1, .inl (dN, 256, .inl sm_box)), (b2, .inl (dN, 32, .inl rd)), (b3, .inl (dN, 36, .inl wd))] H := hP
      have hD : va_D A [(h0, .inr (0, [.ref a1, .ref a2, .ref a3])), (a1, .inl (dB, 32, .inl (sm_pI f ((xs ((6 * t) + 1)).toBitVec.toNat % 2 * 16) (xs ((6 * t) + 2)) (xs ((6 * t) + 3)) (xs ((6 * t) + 4)) (xs ((6 * t) + 5)) 16))), (a2, .inl (dB, 16, .inl g)), (a3, .inl (dB, 16, .inl h)), (m0, .inr (1, [.ref c1, .ref c2, .ref c3, .ref b1, .ref b2, .ref b3])), (c1, .inl (dB, 32, .inl (sm_pI f ((xs ((6 * t) + 1)).toBitVec.toNat % 2 * 16) (xs ((6 * t) + 2)) (xs ((6 * t) + 3)) (xs ((6 * t) + 4)) (xs ((6 * t) + 5)) 16))), (c2, .inl (dB, 16, .inl g)), (c3, .inl (dB, 16, .inl h)), (b1, .inl (dN, 256, .inl sm_box)), (b2, .inl (dN, 32, .inl rd)), (b3, .inl (dN, 36, .inl wd))] := hD
      refine lv_goto (tgt := 260) hx hb dL_law_130 (by decide) ?_
      refine lv_iinc (v := (nI (6 * (t + 1)))) (lv' := [(3, .int (nI (6 * (t + 1)))), (0, .ref b), (1, .ref h0), (2, .ref m0)]) hx hb dL_law_260 hl (k := 0) rfl (nI_add (6 * t) 6) (by decide) rfl (fun ls hl => ?_)
      refine lv_goto (tgt := 18) hx hb dL_law_263 (by decide) ?_
      refine W.widen (k := 11 + 8 * (t + 1)) (n := 461 + 79 * (t + 1)) (by first | omega | (dsimp only; omega)) (by first | omega | (dsimp only; omega)) ?_
      exact ih _ _ _ ⟨_, _, _, _, _, hP, hD, hS, lv_sub hl [0, 1, 2, 3] rfl⟩
    · refine lv_tableIn (off := 100) (tgt := 133) hx hb dL_law_33 (by decide) (by decide) (by decide) (by decide) ?_
      refine lv_aload_n hx hb dL_law_133 rfl (lv_at hl 2 rfl) ?_
      refine lv_aload_n hx hb dL_law_134 rfl (lv_at hl 1 rfl) ?_
      refine lv_iload_n hx hb dL_law_135 rfl (lv_at hl 0 rfl) ?_
      refine lv_iconst (v := (1 : Int32)) hx hb dL_law_136 (by decide) ?_
      refine lv_iadd hx hb dL_law_137 ?_
      refine sm_sld hx hb hX hbl hbA hS ((6 * t) + 1) (nI_add (6 * t) 1) (by omega) hL31 dL_law_138 ?_
      refine lv_aload_n hx hb dL_law_139 rfl (lv_at hl 1 rfl) ?_
      refine lv_iload_n hx hb dL_law_140 rfl (lv_at hl 0 rfl) ?_
      refine lv_iconst (v := (2 : Int32)) hx hb dL_law_141 (by decide) ?_
      refine lv_iadd hx hb dL_law_142 ?_
      refine sm_sld hx hb hX hbl hbA hS ((6 * t) + 2) (nI_add (6 * t) 2) (by omega) hL31 dL_law_143 ?_
      refine lv_aload_n hx hb dL_law_144 rfl (lv_at hl 1 rfl) ?_
      refine lv_iload_n hx hb dL_law_145 rfl (lv_at hl 0 rfl) ?_
      refine lv_iconst (v := (3 : Int32)) hx hb dL_law_146 (by decide) ?_
      refine lv_iadd hx hb dL_law_147 ?_
      refine sm_sld hx hb hX hbl hbA hS ((6 * t) + 3) (nI_add (6 * t) 3) (by omega) hL31 dL_law_148 ?_
      refine lv_aload_n hx hb dL_law_149 rfl (lv_at hl 1 rfl) ?_
      refine lv_iload_n hx hb dL_law_150 rfl (lv_at hl 0 rfl) ?_
      refine lv_iconst (v := (4 : Int32)) hx hb dL_law_151 (by decide) ?_
      refine lv_iadd hx hb dL_law_152 ?_
      refine sm_sld hx hb hX hbl hbA hS ((6 * t) + 4) (nI_add (6 * t) 4) (by omega) hL31 dL_law_153 ?_
      refine sm_cV (wr := [(m0, .inr (1, [.ref c1, .ref c2, .ref c3, .ref b1, .ref b2, .ref b3])), (c1, .inl (dB, 32, .inl f)), (c2, .inl (dB, 16, .inl g)), (c3, .inl (dB, 16, .inl h)), (b1, .inl (dN, 256, .inl sm_box)), (b2, .inl (dN, 32, .inl rd)), (b3, .inl (dN, 36, .inl wd))]) (C := RX0) (As := [.int (xs ((6 * t) + 1)), .int (xs ((6 * t) + 2)), .int (xs ((6 * t) + 3)), .int (xs ((6 * t) + 4))]) (rest := []) hF (met_db l D dB dN h0 a1 a2 a3 f g h (xs ((6 * t) + 1)) (xs ((6 * t) + 2)) (xs ((6 * t) + 3)) (xs ((6 * t) + 4))) (lw_V q57 q58 q59 q17 q60) hdV_X0_block ⟨Nat.le_of_ble_eq_true rfl, Nat.le_of_ble_eq_true rfl⟩ (va_recv hK hP (ci := 0) (q0 := 0) rfl rfl) sm_no_ok trivial hK hP hD hS hA [0, 1, 2, 3] [4, 5, 6, 7, 8, 9, 10] rfl rfl rfl (by decide) (by decide) (by decide) hl.1 rfl (Nat.le_of_ble_eq_true rfl) dL_law_154 ⟨(by show 11 + 8 * t + 0 ≤ 600096; omega), (by show 461 + 79 * t + 0 ≤ 7301386; omega)⟩ (fun _ H locs _ hP hD hS => ?_)
      have hP : va_P D sCl [(m0, .inr (1, [.ref c1, .ref c2, .ref c3, .ref b1, .ref b2, .ref b3])), (c1, .inl (dB, 32, .inl f)), (c2, .inl (dB, 16, .inl g)), (c3, .inl (dB, 16, .inl h)), (b1, .inl (dN, 256, .inl sm_box)), (b2, .inl (dN, 32, .inl rd)), (b3, .inl (dN, 36, .inl wd)), (h0, .inr (0, [.ref a1, .ref a2, .ref a3])), (a1, .inl (dB, 32, .inl f)), (a2, .inl (dB, 16, .inl (sm_pI g 0 (xs ((6 * t) + 1)) (xs ((6 * t) + 2)) (xs ((6 * t) + 3)) (xs ((6 * t) + 4)) 16))), (a3, .inl (dB, 16, .inl h))] H := hP
      have hD : va_D A [(m0, .inr (1, [.ref c1, .ref c2, .ref c3, .ref b1, .ref b2, .ref b3])), (c1, .inl (dB, 32, .inl f)), (c2, .inl (dB, 16, .inl g)), (c3, .inl (dB, 16, .inl h)), (b1, .inl (dN, 256, .inl sm_box)), (b2, .inl (dN, 32, .inl rd)), (b3, .inl (dN, 36, .inl wd)), (h0, .inr (0, [.ref a1, .ref a2, .ref a3])), (a1, .inl (dB, 32, .inl f)), (a2, .inl (dB, 16, .inl (sm_pI g 0 (xs ((6 * t) + 1)) (xs ((6 * t) + 2)) (xs ((6 * t) + 3)) (xs ((6 * t) + 4)) 16))), (a3, .inl (dB, 16, .inl h))] := hD
      refine lv_aload_n hx hb dL_law_157 rfl (lv_at hl 3 rfl) ?_
      refine lv_aload_n hx hb dL_law_158 rfl (lv_at hl 1 rfl) ?_
      refine lv_iload_n hx hb dL_law_159 rfl (lv_at hl 0 rfl) ?_
      refine lv_iconst (v := (1 : Int32)) hx hb dL_law_160 (by decide) ?_
      refine lv_iadd hx hb dL_law_161 ?_
      refine sm_sld hx hb hX hbl hbA hS ((6 * t) + 1) (nI_add (6 * t) 1) (by omega) hL31 dL_law_162 ?_
      refine lv_aload_n hx hb dL_law_163 rfl (lv_at hl 1 rfl) ?_
      refine lv_iload_n hx hb dL_law_164 rfl (lv_at hl 0 rfl) ?_
      refine lv_iconst (v := (2 : Int32)) hx hb dL_law_165 (by decide) ?_
      refine lv_iadd hx hb dL_law_166 ?_
      refine sm_sld hx hb hX hbl hbA hS ((6 * t) + 2) (nI_add (6 * t) 2) (by omega) hL31 dL_law_167 ?_
      refine lv_aload_n hx hb dL_law_168 rfl (lv_at hl 1 rfl) ?_
      refine lv_iload_n hx hb dL_law_169 rfl (lv_at hl 0 rfl) ?_
      refine lv_iconst (v := (3 : Int32)) hx hb dL_law_170 (by decide) ?_
      refine lv_iadd hx hb dL_law_171 ?_
      refine sm_sld hx hb hX hbl hbA hS ((6 * t) + 3) (nI_add (6 * t) 3) (by omega) hL31 dL_law_172 ?_
      refine lv_aload_n hx hb dL_law_173 rfl (lv_at hl 1 rfl) ?_
      refine lv_iload_n hx hb dL_law_174 rfl (lv_at hl 0 rfl) ?_
      refine lv_iconst (v := (4 : Int32)) hx hb dL_law_175 (by decide) ?_
      refine lv_iadd hx hb dL_law_176 ?_
      refine sm_sld hx hb hX hbl hbA hS ((6 * t) + 4) (nI_add (6 * t) 4) (by omega) hL31 dL_law_177 ?_
      refine sm_cV (wr := [(h0, .inr (0, [.ref a1, .ref a2, .ref a3])), (a1, .inl (dB, 32, .inl f)), (a2, .inl (dB, 16, .inl (sm_pI g 0 (xs ((6 * t) + 1)) (xs ((6 * t) + 2)) (xs ((6 * t) + 3)) (xs ((6 * t) + 4)) 16))), (a3, .inl (dB, 16, .inl h))]) (C := RX1) (As := [.int (xs ((6 * t) + 1)), .int (xs ((6 * t) + 2)), .int (xs ((6 * t) + 3)), .int (xs ((6 * t) + 4))]) (rest := []) hF (met_mb l D dB dN m0 c1 c2 c3 b1 b2 b3 f g h rd wd (xs ((6 * t) + 1)) (xs ((6 * t) + 2)) (xs ((6 * t) + 3)) (xs ((6 * t) + 4))) (lw_V q396 q397 q398 q18 q399) hdV_X1_block ⟨Nat.le_of_ble_eq_true rfl, Nat.le_of_ble_eq_true rfl⟩ (va_recv hK hP (ci := 1) (q0 := 0) rfl rfl) sm_no_ok trivial hK hP hD hS hA [0, 1, 2, 3, 4, 5, 6] [7, 8, 9, 10] rfl rfl rfl (by decide) (by decide) (by decide) hl.1 rfl (Nat.le_of_ble_eq_true rfl) dL_law_178 ⟨(by show 11 + 8 * t + 0 ≤ 600096; omega), (by show 461 + 79 * t + 0 ≤ 7301386; omega)⟩ (fun _ H locs _ hP hD hS => ?_)
      have hP : va_P D sCl [(h0, .inr (0, [.ref a1, .ref a2, .ref a3])), (a1, .inl (dB, 32, .inl f)), (a2, .inl (dB, 16, .inl (sm_pI g 0 (xs ((6 * t) + 1)) (xs ((6 * t) + 2)) (xs ((6 * t) + 3)) (xs ((6 * t) + 4)) 16))), (a3, .inl (dB, 16, .inl h)), (m0, .inr (1, [.ref c1, .ref c2, .ref c3, .ref b1, .ref b2, .ref b3])), (c1, .inl (dB, 32, .inl f)), (c2, .inl (dB, 16, .inl (sm_pI g 0 (xs ((6 * t) + 1)) (xs ((6 * t) + 2)) (xs ((6 * t) + 3)) (xs ((6 * t) + 4)) 16))), (c3, .inl (dB, 16, .inl h)), (b1, .inl (dN, 256, .inl sm_box)), (b2, .inl (dN, 32, .inl rd)), (b3, .inl (dN, 36, .inl wd))] H := hP
      have hD : va_D A [(h0, .inr (0, [.ref a1, .ref a2, .ref a3])), (a1, .inl (dB, 32, .inl f)), (a2, .inl (dB, 16, .inl (sm_pI g 0 (xs ((6 * t) + 1)) (xs ((6 * t) + 2)) (xs ((6 * t) + 3)) (xs ((6 * t) + 4)) 16))), (a3, .inl (dB, 16, .inl h)), (m0, .inr (1, [.ref c1, .ref c2, .ref c3, .ref b1, .ref b2, .ref b3])), (c1, .inl (dB, 32, .inl f)), (c2, .inl (dB, 16, .inl (sm_pI g 0 (xs ((6 * t) + 1)) (xs ((6 * t) + 2)) (xs ((6 * t) + 3)) (xs ((6 * t) + 4)) 16))), (c3, .inl (dB, 16, .inl h)), (b1, .inl (dN, 256, .inl sm_box)), (b2, .inl (dN, 32, .inl rd)), (b3, .inl (dN, 36, .inl wd))] := hD
      refine lv_goto (tgt := 260) hx hb dL_law_181 (by decide) ?_
      refine lv_iinc (v := (nI (6 * (t + 1)))) (lv' := [(3, .int (nI (6 * (t + 1)))), (0, .ref b), (1, .ref h0), (2, .ref m0)]) hx hb dL_law_260 hl (k := 0) rfl (nI_add (6 * t) 6) (by decide) rfl (fun ls hl => ?_)
      refine lv_goto (tgt := 18) hx hb dL_law_263 (by decide) ?_
      refine W.widen (k := 11 + 8 * (t + 1)) (n := 461 + 79 * (t + 1)) (by first | omega | (dsimp only; omega)) (by first | omega | (dsimp only; omega)) ?_
      exact ih _ _ _ ⟨_, _, _, _, _, hP, hD, hS, lv_sub hl [0, 1, 2, 3] rfl⟩
    · refine lv_tableIn (off := 151) (tgt := 184) hx hb dL_law_33 (by decide) (by decide) (by decide) (by decide) ?_
      refine lv_aload_n hx hb dL_law_184 rfl (lv_at hl 2 rfl) ?_
      refine lv_aload_n hx hb dL_law_185 rfl (lv_at hl 1 rfl) ?_
      refine lv_iload_n hx hb dL_law_186 rfl (lv_at hl 0 rfl) ?_
      refine lv_iconst (v := (1 : Int32)) hx hb dL_law_187 (by decide) ?_
      refine lv_iadd hx hb dL_law_188 ?_
      refine sm_sld hx hb hX hbl hbA hS ((6 * t) + 1) (nI_add (6 * t) 1) (by omega) hL31 dL_law_189 ?_
      refine sm_cV (wr := [(m0, .inr (1, [.ref c1, .ref c2, .ref c3, .ref b1, .ref b2, .ref b3])), (c1, .inl (dB, 32, .inl f)), (c2, .inl (dB, 16, .inl g)), (c3, .inl (dB, 16, .inl h)), (b1, .inl (dN, 256, .inl sm_box)), (b2, .inl (dN, 32, .inl rd)), (b3, .inl (dN, 36, .inl wd))]) (C := RX0) (As := [.int (xs ((6 * t) + 1))]) (rest := []) hF (met_dl l D dB dN h0 a1 a2 a3 f g h (xs ((6 * t) + 1))) (lw_V q61 q62 q63 q17 q64) hdV_X0_lock ⟨Nat.le_of_ble_eq_true rfl, Nat.le_of_ble_eq_true rfl⟩ (va_recv hK hP (ci := 0) (q0 := 0) rfl rfl) sm_Rx_ok hEx hK hP hD hS hA [0, 1, 2, 3] [4, 5, 6, 7, 8, 9, 10] rfl rfl rfl (by decide) (by decide) (by decide) hl.1 rfl (Nat.le_of_ble_eq_true rfl) dL_law_190 ⟨(by show 11 + 8 * t + 8 ≤ 600096; omega), (by show 461 + 79 * t + 79 ≤ 7301386; omega)⟩ (fun _ H locs _ hP hD hS => ?_)
      have hP : va_P D sCl [(m0, .inr (1, [.ref c1, .ref c2, .ref c3, .ref b1, .ref b2, .ref b3])), (c1, .inl (dB, 32, .inl f)), (c2, .inl (dB, 16, .inl g)), (c3, .inl (dB, 16, .inl h)), (b1, .inl (dN, 256, .inl sm_box)), (b2, .inl (dN, 32, .inl rd)), (b3, .inl (dN, 36, .inl wd)), (h0, .inr (0, [.ref a1, .ref a2, .ref a3])), (a1, .inl (dB, 32, .inl f)), (a2, .inl (dB, 16, .inl g)), (a3, .inl (dB, 16, .inl (sm_out f g h (1 : Int32))))] H := hP
      have hD : va_D A [(m0, .inr (1, [.ref c1, .ref c2, .ref c3, .ref b1, .ref b2, .ref b3])), (c1, .inl (dB, 32, .inl f)), (c2, .inl (dB, 16, .inl g)), (c3, .inl (dB, 16, .inl h)), (b1, .inl (dN, 256, .inl sm_box)), (b2, .inl (dN, 32, .inl rd)), (b3, .inl (dN, 36, .inl wd)), (h0, .inr (0, [.ref a1, .ref a2, .ref a3])), (a1, .inl (dB, 32, .inl f)), (a2, .inl (dB, 16, .inl g)), (a3, .inl (dB, 16, .inl (sm_out f g h (1 : Int32))))] := hD
      refine lv_aload_n hx hb dL_law_193 rfl (lv_at hl 3 rfl) ?_
      refine lv_aload_n hx hb dL_law_194 rfl (lv_at hl 1 rfl) ?_
      refine lv_iload_n hx hb dL_law_195 rfl (lv_at hl 0 rfl) ?_
      refine lv_iconst (v := (1 : Int32)) hx hb dL_law_196 (by decide) ?_
      refine lv_iadd hx hb dL_law_197 ?_
      refine sm_sld hx hb hX hbl hbA hS ((6 * t) + 1) (nI_add (6 * t) 1) (by omega) hL31 dL_law_198 ?_
      refine sm_cV (wr := [(h0, .inr (0, [.ref a1, .ref a2, .ref a3])), (a1, .inl (dB, 32, .inl f)), (a2, .inl (dB, 16, .inl g)), (a3, .inl (dB, 16, .inl (sm_out f g h (1 : Int32))))]) (C := RX1) (As := [.int (xs ((6 * t) + 1))]) (rest := []) hF (met_ml l D dB dN m0 c1 c2 c3 b1 b2 b3 f g h rd wd (xs ((6 * t) + 1))) (lw_V q353 q354 q355 q18 q356) hdV_X1_lock ⟨Nat.le_of_ble_eq_true rfl, Nat.le_of_ble_eq_true rfl⟩ (va_recv hK hP (ci := 1) (q0 := 0) rfl rfl) sm_no_ok trivial hK hP hD hS hA [0, 1, 2, 3, 4, 5, 6] [7, 8, 9, 10] rfl rfl rfl (by decide) (by decide) (by decide) hl.1 rfl (Nat.le_of_ble_eq_true rfl) dL_law_199 ⟨(by show 11 + 8 * t + 8 ≤ 600096; omega), (by show 461 + 79 * t + 79 ≤ 7301386; omega)⟩ (fun u H locs _ hP hD hS => ?_)
      have hP : va_P D sCl [(h0, .inr (0, [.ref a1, .ref a2, .ref a3])), (a1, .inl (dB, 32, .inl f)), (a2, .inl (dB, 16, .inl g)), (a3, .inl (dB, 16, .inl (sm_out f g h (1 : Int32)))), (m0, .inr (1, [.ref c1, .ref c2, .ref c3, .ref b1, .ref b2, .ref b3])), (c1, .inl (dB, 32, .inl f)), (c2, .inl (dB, 16, .inl g)), (c3, .inl (dB, 16, .inl (sm_out f g h (1 : Int32)))), (b1, .inl (dN, 256, .inl sm_box)), (b2, .inl (dN, 32, .inl u.1)), (b3, .inl (dN, 36, .inl u.2))] H := hP
      have hD : va_D A [(h0, .inr (0, [.ref a1, .ref a2, .ref a3])), (a1, .inl (dB, 32, .inl f)), (a2, .inl (dB, 16, .inl g)), (a3, .inl (dB, 16, .inl (sm_out f g h (1 : Int32)))), (m0, .inr (1, [.ref c1, .ref c2, .ref c3, .ref b1, .ref b2, .ref b3])), (c1, .inl (dB, 32, .inl f)), (c2, .inl (dB, 16, .inl g)), (c3, .inl (dB, 16, .inl (sm_out f g h (1 : Int32)))), (b1, .inl (dN, 256, .inl sm_box)), (b2, .inl (dN, 32, .inl u.1)), (b3, .inl (dN, 36, .inl u.2))] := hD
      refine lv_goto (tgt := 260) hx hb dL_law_202 (by decide) ?_
      refine lv_iinc (v := (nI (6 * (t + 1)))) (lv' := [(3, .int (nI (6 * (t + 1)))), (0, .ref b), (1, .ref h0), (2, .ref m0)]) hx hb dL_law_260 hl (k := 0) rfl (nI_add (6 * t) 6) (by decide) rfl (fun ls hl => ?_)
      refine lv_goto (tgt := 18) hx hb dL_law_263 (by decide) ?_
      refine W.widen (k := 11 + 8 * (t + 1)) (n := 461 + 79 * (t + 1)) (by first | omega | (dsimp only; omega)) (by first | omega | (dsimp only; omega)) ?_
      exact ih _ _ _ ⟨_, _, _, _, _, hP, hD, hS, lv_sub hl [0, 1, 2, 3] rfl⟩
    · refine lv_tableIn (off := 172) (tgt := 205) hx hb dL_law_33 (by decide) (by decide) (by decide) (by decide) ?_
      refine lv_aload_n hx hb dL_law_205 rfl (lv_at hl 2 rfl) ?_
      refine lv_aload_n hx hb dL_law_206 rfl (lv_at hl 1 rfl) ?_
      refine lv_iload_n hx hb dL_law_207 rfl (lv_at hl 0 rfl) ?_
      refine lv_iconst (v := (1 : Int32)) hx hb dL_law_208 (by decide) ?_
      refine lv_iadd hx hb dL_law_209 ?_
      refine sm_sld hx hb hX hbl hbA hS ((6 * t) + 1) (nI_add (6 * t) 1) (by omega) hL31 dL_law_210 ?_
      refine sm_cV (wr := [(m0, .inr (1, [.ref c1, .ref c2, .ref c3, .ref b1, .ref b2, .ref b3])), (c1, .inl (dB, 32, .inl f)), (c2, .inl (dB, 16, .inl g)), (c3, .inl (dB, 16, .inl h)), (b1, .inl (dN, 256, .inl sm_box)), (b2, .inl (dN, 32, .inl rd)), (b3, .inl (dN, 36, .inl wd))]) (C := RX0) (As := [.int (xs ((6 * t) + 1))]) (rest := []) hF (met_do l D dB dN h0 a1 a2 a3 f g h (xs ((6 * t) + 1))) (lw_V q307 q308 q309 q17 q310) hdV_X0_open ⟨Nat.le_of_ble_eq_true rfl, Nat.le_of_ble_eq_true rfl⟩ (va_recv hK hP (ci := 0) (q0 := 0) rfl rfl) sm_Rx_ok hEx hK hP hD hS hA [0, 1, 2, 3] [4, 5, 6, 7, 8, 9, 10] rfl rfl rfl (by decide) (by decide) (by decide) hl.1 rfl (Nat.le_of_ble_eq_true rfl) dL_law_211 ⟨(by show 11 + 8 * t + 8 ≤ 600096; omega), (by show 461 + 79 * t + 79 ≤ 7301386; omega)⟩ (fun _ H locs _ hP hD hS => ?_)
      have hP : va_P D sCl [(m0, .inr (1, [.ref c1, .ref c2, .ref c3, .ref b1, .ref b2, .ref b3])), (c1, .inl (dB, 32, .inl f)), (c2, .inl (dB, 16, .inl g)), (c3, .inl (dB, 16, .inl h)), (b1, .inl (dN, 256, .inl sm_box)), (b2, .inl (dN, 32, .inl rd)), (b3, .inl (dN, 36, .inl wd)), (h0, .inr (0, [.ref a1, .ref a2, .ref a3])), (a1, .inl (dB, 32, .inl f)), (a2, .inl (dB, 16, .inl g)), (a3, .inl (dB, 16, .inl (sm_out f g h (0 : Int32))))] H := hP
      have hD : va_D A [(m0, .inr (1, [.ref c1, .ref c2, .ref c3, .ref b1, .ref b2, .ref b3])), (c1, .inl (dB, 32, .inl f)), (c2, .inl (dB, 16, .inl g)), (c3, .inl (dB, 16, .inl h)), (b1, .inl (dN, 256, .inl sm_box)), (b2, .inl (dN, 32, .inl rd)), (b3, .inl (dN, 36, .inl wd)), (h0, .inr (0, [.ref a1, .ref a2, .ref a3])), (a1, .inl (dB, 32, .inl f)), (a2, .inl (dB, 16, .inl g)), (a3, .inl (dB, 16, .inl (sm_out f g h (0 : Int32))))] := hD
      refine lv_aload_n hx hb dL_law_214 rfl (lv_at hl 3 rfl) ?_
      refine lv_aload_n hx hb dL_law_215 rfl (lv_at hl 1 rfl) ?_
      refine lv_iload_n hx hb dL_law_216 rfl (lv_at hl 0 rfl) ?_
      refine lv_iconst (v := (1 : Int32)) hx hb dL_law_217 (by decide) ?_
      refine lv_iadd hx hb dL_law_218 ?_
      refine sm_sld hx hb hX hbl hbA hS ((6 * t) + 1) (nI_add (6 * t) 1) (by omega) hL31 dL_law_219 ?_
      refine sm_cV (wr := [(h0, .inr (0, [.ref a1, .ref a2, .ref a3])), (a1, .inl (dB, 32, .inl f)), (a2, .inl (dB, 16, .inl g)), (a3, .inl (dB, 16, .inl (sm_out f g h (0 : Int32))))]) (C := RX1) (As := [.int (xs ((6 * t) + 1))]) (rest := []) hF (met_mo l D dB dN m0 c1 c2 c3 b1 b2 b3 f g h rd wd (xs ((6 * t) + 1))) (lw_V q385 q386 q387 q18 q388) hdV_X1_open ⟨Nat.le_of_ble_eq_true rfl, Nat.le_of_ble_eq_true rfl⟩ (va_recv hK hP (ci := 1) (q0 := 0) rfl rfl) sm_no_ok trivial hK hP hD hS hA [0, 1, 2, 3, 4, 5, 6] [7, 8, 9, 10] rfl rfl rfl (by decide) (by decide) (by decide) hl.1 rfl (Nat.le_of_ble_eq_true rfl) dL_law_220 ⟨(by show 11 + 8 * t + 8 ≤ 600096; omega), (by show 461 + 79 * t + 79 ≤ 7301386; omega)⟩ (fun u H locs _ hP hD hS => ?_)
      have hP : va_P D sCl [(h0, .inr (0, [.ref a1, .ref a2, .ref a3])), (a1, .inl (dB, 32, .inl f)), (a2, .inl (dB, 16, .inl g)), (a3, .inl (dB, 16, .inl (sm_out f g h (0 : Int32)))), (m0, .inr (1, [.ref c1, .ref c2, .ref c3, .ref b1, .ref b2, .ref b3])), (c1, .inl (dB, 32, .inl f)), (c2, .inl (dB, 16, .inl g)), (c3, .inl (dB, 16, .inl (sm_out f g h (0 : Int32)))), (b1, .inl (dN, 256, .inl sm_box)), (b2, .inl (dN, 32, .inl u.1)), (b3, .inl (dN, 36, .inl u.2))] H := hP
      have hD : va_D A [(h0, .inr (0, [.ref a1, .ref a2, .ref a3])), (a1, .inl (dB, 32, .inl f)), (a2, .inl (dB, 16, .inl g)), (a3, .inl (dB, 16, .inl (sm_out f g h (0 : Int32)))), (m0, .inr (1, [.ref c1, .ref c2, .ref c3, .ref b1, .ref b2, .ref b3])), (c1, .inl (dB, 32, .inl f)), (c2, .inl (dB, 16, .inl g)), (c3, .inl (dB, 16, .inl (sm_out f g h (0 : Int32)))), (b1, .inl (dN, 256, .inl sm_box)), (b2, .inl (dN, 32, .inl u.1)), (b3, .inl (dN, 36, .inl u.2))] := hD
      refine lv_goto (tgt := 260) hx hb dL_law_223 (by decide) ?_
      refine lv_iinc (v := (nI (6 * (t + 1)))) (lv' := [(3, .int (nI (6 * (t + 1)))), (0, .ref b), (1, .ref h0), (2, .ref m0)]) hx hb dL_law_260 hl (k := 0) rfl (nI_add (6 * t) 6) (by decide) rfl (fun ls hl => ?_)
      refine lv_goto (tgt := 18) hx hb dL_law_263 (by decide) ?_
      refine W.widen (k := 11 + 8 * (t + 1)) (n := 461 + 79 * (t + 1)) (by first | omega | (dsimp only; omega)) (by first | omega | (dsimp only; omega)) ?_
      exact ih _ _ _ ⟨_, _, _, _, _, hP, hD, hS, lv_sub hl [0, 1, 2, 3] rfl⟩
    · refine lv_tableIn (off := 193) (tgt := 226) hx hb dL_law_33 (by decide) (by decide) (by decide) (by decide) ?_
      refine lv_aload_n hx hb dL_law_226 rfl (lv_at hl 2 rfl) ?_
      refine sm_cV (wr := [(m0, .inr (1, [.ref c1, .ref c2, .ref c3, .ref b1, .ref b2, .ref b3])), (c1, .inl (dB, 32, .inl f)), (c2, .inl (dB, 16, .inl g)), (c3, .inl (dB, 16, .inl h)), (b1, .inl (dN, 256, .inl sm_box)), (b2, .inl (dN, 32, .inl rd)), (b3, .inl (dN, 36, .inl wd))]) (C := RX0) (As := []) (rest := []) hF (met_da l D dB dN h0 a1 a2 a3 f g h) (lw_V q311 q312 q313 q17 q314) hdV_X0_again ⟨Nat.le_of_ble_eq_true rfl, Nat.le_of_ble_eq_true rfl⟩ (va_recv hK hP (ci := 0) (q0 := 0) rfl rfl) sm_no_ok trivial hK hP hD hS hA [0, 1, 2, 3] [4, 5, 6, 7, 8, 9, 10] rfl rfl rfl (by decide) (by decide) (by decide) hl.1 rfl (Nat.le_of_ble_eq_true rfl) dL_law_227 ⟨(by show 11 + 8 * t + 0 ≤ 600096; omega), (by show 461 + 79 * t + 0 ≤ 7301386; omega)⟩ (fun _ H locs _ hP hD hS => ?_)
      have hP : va_P D sCl [(m0, .inr (1, [.ref c1, .ref c2, .ref c3, .ref b1, .ref b2, .ref b3])), (c1, .inl (dB, 32, .inl f)), (c2, .inl (dB, 16, .inl g)), (c3, .inl (dB, 16, .inl h)), (b1, .inl (dN, 256, .inl sm_box)), (b2, .inl (dN, 32, .inl rd)), (b3, .inl (dN, 36, .inl wd)), (h0, .inr (0, [.ref a1, .ref a2, .ref a3])), (a1, .inl (dB, 32, .inl f)), (a2, .inl (dB, 16, .inl (sm_cp h g 16))), (a3, .inl (dB, 16, .inl h))] H := hP
      have hD : va_D A [(m0, .inr (1, [.ref c1, .ref c2, .ref c3, .ref b1, .ref b2, .ref b3])), (c1, .inl (dB, 32, .inl f)), (c2, .inl (dB, 16, .inl g)), (c3, .inl (dB, 16, .inl h)), (b1, .inl (dN, 256, .inl sm_box)), (b2, .inl (dN, 32, .inl rd)), (b3, .inl (dN, 36, .inl wd)), (h0, .inr (0, [.ref a1, .ref a2, .ref a3])), (a1, .inl (dB, 32, .inl f)), (a2, .inl (dB, 16, .inl (sm_cp h g 16))), (a3, .inl (dB, 16, .inl h))] := hD
      refine lv_aload_n hx hb dL_law_230 rfl (lv_at hl 3 rfl) ?_
      refine sm_cV (wr := [(h0, .inr (0, [.ref a1, .ref a2, .ref a3])), (a1, .inl (dB, 32, .inl f)), (a2, .inl (dB, 16, .inl (sm_cp h g 16))), (a3, .inl (dB, 16, .inl h))]) (C := RX1) (As := []) (rest := []) hF (met_ma l D dB dN m0 c1 c2 c3 b1 b2 b3 f g h rd wd) (lw_V q400 q401 q402 q18 q403) hdV_X1_again ⟨Nat.le_of_ble_eq_true rfl, Nat.le_of_ble_eq_true rfl⟩ (va_recv hK hP (ci := 1) (q0 := 0) rfl rfl) sm_no_ok trivial hK hP hD hS hA [0, 1, 2, 3, 4, 5, 6] [7, 8, 9, 10] rfl rfl rfl (by decide) (by decide) (by decide) hl.1 rfl (Nat.le_of_ble_eq_true rfl) dL_law_231 ⟨(by show 11 + 8 * t + 0 ≤ 600096; omega), (by show 461 + 79 * t + 0 ≤ 7301386; omega)⟩ (fun _ H locs _ hP hD hS => ?_)
      have hP : va_P D sCl [(h0, .inr (0, [.ref a1, .ref a2, .ref a3])), (a1, .inl (dB, 32, .inl f)), (a2, .inl (dB, 16, .inl (sm_cp h g 16))), (a3, .inl (dB, 16, .inl h)), (m0, .inr (1, [.ref c1, .ref c2, .ref c3, .ref b1, .ref b2, .ref b3])), (c1, .inl (dB, 32, .inl f)), (c2, .inl (dB, 16, .inl (sm_cp h g 16))), (c3, .inl (dB, 16, .inl h)), (b1, .inl (dN, 256, .inl sm_box)), (b2, .inl (dN, 32, .inl rd)), (b3, .inl (dN, 36, .inl wd))] H := hP
      have hD : va_D A [(h0, .inr (0, [.ref a1, .ref a2, .ref a3])), (a1, .inl (dB, 32, .inl f)), (a2, .inl (dB, 16, .inl (sm_cp h g 16))), (a3, .inl (dB, 16, .inl h)), (m0, .inr (1, [.ref c1, .ref c2, .ref c3, .ref b1, .ref b2, .ref b3])), (c1, .inl (dB, 32, .inl f)), (c2, .inl (dB, 16, .inl (sm_cp h g 16))), (c3, .inl (dB, 16, .inl h)), (b1, .inl (dN, 256, .inl sm_box)), (b2, .inl (dN, 32, .inl rd)), (b3, .inl (dN, 36, .inl wd))] := hD
      refine lv_goto (tgt := 260) hx hb dL_law_234 (by decide) ?_
      refine lv_iinc (v := (nI (6 * (t + 1)))) (lv' := [(3, .int (nI (6 * (t + 1)))), (0, .ref b), (1, .ref h0), (2, .ref m0)]) hx hb dL_law_260 hl (k := 0) rfl (nI_add (6 * t) 6) (by decide) rfl (fun ls hl => ?_)
      refine lv_goto (tgt := 18) hx hb dL_law_263 (by decide) ?_
      refine W.widen (k := 11 + 8 * (t + 1)) (n := 461 + 79 * (t + 1)) (by first | omega | (dsimp only; omega)) (by first | omega | (dsimp only; omega)) ?_
      exact ih _ _ _ ⟨_, _, _, _, _, hP, hD, hS, lv_sub hl [0, 1, 2, 3] rfl⟩
    · refine lv_tableIn (off := 204) (tgt := 237) hx hb dL_law_33 (by decide) (by decide) (by decide) (by decide) ?_
      refine lv_aload_n hx hb dL_law_237 rfl (lv_at hl 2 rfl) ?_
      refine lv_aload_n hx hb dL_law_238 rfl (lv_at hl 1 rfl) ?_
      refine lv_iload_n hx hb dL_law_239 rfl (lv_at hl 0 rfl) ?_
      refine lv_iconst (v := (1 : Int32)) hx hb dL_law_240 (by decide) ?_
      refine lv_iadd hx hb dL_law_241 ?_
      refine sm_sld hx hb hX hbl hbA hS ((6 * t) + 1) (nI_add (6 * t) 1) (by omega) hL31 dL_law_242 ?_
      refine sm_pV (C := RX0) (As := [.int (xs ((6 * t) + 1))]) (rest := []) hF (met_dx l D dB dN h0 a1 a2 a3 f g h (xs ((6 * t) + 1))) (lw_V q315 q316 q317 q17 q318) hdV_X0_out ⟨rfl, rfl, Nat.le_of_ble_eq_true rfl, Nat.le_of_ble_eq_true rfl⟩ (va_recv hK hP (ci := 0) (q0 := 0) rfl rfl) (sm_mvW _ _ _ _) ⟨hP.sub [0, 1, 2, 3] rfl, hK⟩ hl.1 rfl (Nat.le_of_ble_eq_true rfl) dL_law_243 ⟨(by show 11 + 8 * t + 0 ≤ 600096; omega), (by show 461 + 79 * t + 0 ≤ 7301386; omega)⟩ ?_
      refine lv_aload_n hx hb dL_law_246 rfl (lv_at hl 3 rfl) ?_
      refine lv_aload_n hx hb dL_law_247 rfl (lv_at hl 1 rfl) ?_
      refine lv_iload_n hx hb dL_law_248 rfl (lv_at hl 0 rfl) ?_
      refine lv_iconst (v := (1 : Int32)) hx hb dL_law_249 (by decide) ?_
      refine lv_iadd hx hb dL_law_250 ?_
      refine sm_sld hx hb hX hbl hbA hS ((6 * t) + 1) (nI_add (6 * t) 1) (by omega) hL31 dL_law_251 ?_
      refine sm_pV (C := RX1) (As := [.int (xs ((6 * t) + 1))]) (rest := [.int ((h ((xs ((6 * t) + 1)).toBitVec.toNat % 16)) &&& (255 : Int32))]) hF (met_mz l D dB dN m0 c1 c2 c3 b1 b2 b3 f g h rd wd (xs ((6 * t) + 1))) (lw_V q404 q405 q406 q18 q407) hdV_X1_out ⟨rfl, rfl, Nat.le_of_ble_eq_true rfl, Nat.le_of_ble_eq_true rfl⟩ (va_recv hK hP (ci := 1) (q0 := 4) rfl rfl) (sm_mvW _ _ _ _) ⟨hP.sub [4, 5, 6, 7, 8, 9, 10] rfl, hK⟩ hl.1 rfl (Nat.le_of_ble_eq_true rfl) dL_law_252 ⟨(by show 11 + 8 * t + 0 ≤ 600096; omega), (by show 461 + 79 * t + 0 ≤ 7301386; omega)⟩ ?_
      refine lv_icmp_eq (tgt := 260) hx hb dL_law_255 (by decide) (fun _ => ?_) (fun c9 => absurd rfl c9)
      refine lv_iinc (v := (nI (6 * (t + 1)))) (lv' := [(3, .int (nI (6 * (t + 1)))), (0, .ref b), (1, .ref h0), (2, .ref m0)]) hx hb dL_law_260 hl (k := 0) rfl (nI_add (6 * t) 6) (by decide) rfl (fun ls hl => ?_)
      refine lv_goto (tgt := 18) hx hb dL_law_263 (by decide) ?_
      refine W.widen (k := 11 + 8 * (t + 1)) (n := 461 + 79 * (t + 1)) (by first | omega | (dsimp only; omega)) (by first | omega | (dsimp only; omega)) ?_
      exact ih _ _ _ ⟨_, _, _, _, _, hP, hD, hS, lv_sub hl [0, 1, 2, 3] rfl⟩
    · refine lv_tableOut (tgt := 260) hx hb dL_law_33 (Or.inr (by decide)) (by decide) ?_
      refine lv_iinc (v := (nI (6 * (t + 1)))) (lv' := [(3, .int (nI (6 * (t + 1)))), (0, .ref b), (1, .ref h0), (2, .ref m0)]) hx hb dL_law_260 hl (k := 0) rfl (nI_add (6 * t) 6) (by decide) rfl (fun ls hl => ?_)
      refine lv_goto (tgt := 18) hx hb dL_law_263 (by decide) ?_
      refine W.widen (k := 11 + 8 * (t + 1)) (n := 461 + 79 * (t + 1)) (by first | omega | (dsimp only; omega)) (by first | omega | (dsimp only; omega)) ?_
      exact ih _ _ _ ⟨_, _, _, _, _, hP, hD, hS, lv_sub hl [0, 1, 2, 3] rfl⟩
    · refine lv_tableOut (tgt := 260) hx hb dL_law_33 (Or.inr (by decide)) (by decide) ?_
      refine lv_iinc (v := (nI (6 * (t + 1)))) (lv' := [(3, .int (nI (6 * (t + 1)))), (0, .ref b), (1, .ref h0), (2, .ref m0)]) hx hb dL_law_260 hl (k := 0) rfl (nI_add (6 * t) 6) (by decide) rfl (fun ls hl => ?_)
      refine lv_goto (tgt := 18) hx hb dL_law_263 (by decide) ?_
      refine W.widen (k := 11 + 8 * (t + 1)) (n := 461 + 79 * (t + 1)) (by first | omega | (dsimp only; omega)) (by first | omega | (dsimp only; omega)) ?_
      exact ih _ _ _ ⟨_, _, _, _, _, hP, hD, hS, lv_sub hl [0, 1, 2, 3] rfl⟩
  · intro H locs ls ⟨f, g, h, rd, wd, hP, hD, hS, hl⟩
    refine lv_iload_n hx hb dL_law_18 rfl (lv_at hl 0 rfl) ?_
    refine lv_aload_n hx hb dL_law_19 rfl (lv_at hl 1 rfl) ?_
    refine va_slen hx hb hX hbl hbA hS dL_law_20 ?_
    refine sm_top (y := nI L) rfl ?_
    refine lv_bipush (v := (6 : Int32)) hx hb dL_law_21 (by decide) ?_
    refine lv_isub hx hb dL_law_23 ?_
    refine lv_icmp_gt (tgt := 266) hx hb dL_law_24 (by decide) (fun _ => ?_) (fun c9 => absurd (sm_gtY hL) c9)
    refine lv_iconst (v := (1 : Int32)) hx hb dL_law_266 (by decide) ?_
    refine va_forget (fun q hq => by have h9 := hS.2.2 q hq; rw [hAe] at h9; exact h9) ?_
    refine W.widen (k := 600096) (n := 7301386) (by show 11 + 8 * (L / 6) ≤ 600096; omega) (by show 461 + 79 * (L / 6) ≤ 7301386; omega) ?_
    exact lw_ret hx hb hr hlk dL_law_267
set_option maxHeartbeats 4000000 in
theorem lw_walk (l : Launch) (hflags : l.flags = flags0) (b : Addr) (xs : List Int32) : MetFree l x (headSpec (Jvm.Cond.code x code maxLocals ret :: tables_1) room_1) (lw_P b xs) (fun _ _ _ _ _ => True) lw_Q := by
  refine MetFree.of_bodyS (code := code) (maxLocals := maxLocals) (ret := ret) (by decide) ?_ ?_
  · intro args s m h hn
    obtain ⟨meth, c, h1, h2, h3, h4, h5, h6, -, -⟩ := Cond.code_spec hn (atoms_spec (ws := Jvm.Cond.code x code maxLocals ret :: tables_1) h _ List.mem_cons_self)
    exact ⟨meth, c, h1, h2, h3, h4, h5, h6⟩
  · intro p e s m args below meth c s₁ B hml0 hP _
    obtain ⟨rfl, hx, hbd, hgv⟩ := hP
    obtain ⟨scr, harrAt, hlist, hof, hsmall⟩ := hx
    obtain ⟨hcb, hkn, -, -⟩ := State.arrayAt?_spec harrAt
    have hown : s.vm.findClass R_law = some m.cls := findClass_of_methodNamed B.named
    have hts0 : ∀ c ∈ (Jvm.Cond.code x code maxLocals ret :: tables_1), c.before #[Value.ref b] s = true := atoms_spec (ws := Jvm.Cond.code x code maxLocals ret :: tables_1) B.pre
    have hts : ∀ w ∈ lw_tbl, w.before #[Value.ref b] s = true := k2_hts_sels lw_privs (fun w hw => hts0 w (List.mem_cons_of_mem _ hw)) lw_privs_ok
    have hml : c.maxLocals = 4 := B.maxLocals_eq (hts0 _ List.mem_cons_self)
    have X₀ : Stand p l e room_1 s m #[Value.ref b] below meth c s₁ [] 0 0 := Stand.of_body B
    have hh0 : s₁.heap = s.heap := by rw [B.state]; rfl
    have hsz : scr.slots.size = xs.length := by rw [← Array.length_toList, hlist, List.length_map]
    have hval : ∀ j : Nat, j < xs.length → scr.slots[j]? = some (.int (xs.getD j 0)) := fun j hj => by
      rw [← Array.getElem?_toList, hlist]
      simp [hj]
    have hbl : b < s.heap.size := (Array.getElem?_eq_some_iff.mp hcb).1
    have hX : va_X b xs.length (fun j => xs.getD j 0) s s.heap := ⟨scr, hcb, hof, hkn, hsz, hval⟩
    have K : W p l e room_1 s m #[Value.ref b] below meth c s₁.heap [] 0 0 (lw_Z below #[Value.ref b] s) (entryFrame m ([Value.ref b] : List Value).toArray 4) := by
      rw [hh0]
      exact whole_start l hflags hbd ⟨B.exec, B.bytes, B.returns, hml, hown, hts, hX, hbl, B.notSynchronized, hgv⟩
    obtain ⟨t, a1, o, b1, b2, b3⟩ := K s₁ rfl X₀
    exact ⟨t, o, a1, b1, b2, b3⟩
theorem lw_pre_spec {args : Array Value} {s : State} (h : (Jvm.Cond.and given_1 narrow_1).before args s = true) (hr : rest_1_c.before args s = true) : ∃ (b : Addr) (xs : List Int32), lw_P b xs args s := by
  have hs := flat_of_before _ h
  have hq := flat_of_before _ hr
  have hc : (Cond.count 1).before args s = true := hs _ (by decide +kernel)
  have harr : (Cond.arrayOf (.arg 0) .int).before args s = true := hs _ (by decide +kernel)
  have hle : (Cond.le (.length (.arg 0)) (.int 288)).before args s = true := hs _ (by decide +kernel)
  have hlen : (Cond.isInt (.length (.arg 0))).before args s = true := hq _ (by decide +kernel)
  have hall : (Cond.all (.arg 0) (.isInt (.elem (.arg 0) (.index 0)))).before args s = true := hq _ (by decide +kernel)
  obtain ⟨b, xs, hb, hx⟩ := State.ints_of_pre rfl harr hlen hall
  have hsm : xs.length < 2 ^ 31 := hx.choose_spec.2.2.2
  have hev : (Term.length (.arg 0)).eval args s none [] s = some (.int xs.length.toInt32) := hx.length_eval hb
  have hv := Cond.le_ints hev (show (Term.int 288).eval args s none [] s = some (.int 288) from rfl)
  have hd : xs.length.toInt32 ≤ 288 := by
    simpa [Cond.before, Cond.holds, hv] using hle
  have hN : xs.length ≤ 288 := (Int32.ofNat_le_ofNat hsm (by decide)).mp (show Int32.ofNat xs.length ≤ Int32.ofNat 288 from hd)
  exact ⟨b, xs, Cond.one_arg hc (show args[0]? = some (.ref b) from hb), hx, hN, h⟩
theorem lw_comes (l : Launch) (hflags : l.flags = flags0) : Comes l x (Jvm.Cond.code x code maxLocals ret :: tables_1) room_1 (fun tb e args s => Calls_1 tb e args s ∧ rest_1 tb e args s ∧ Pre_1 tb e args s)
    (fun _ _ args s o t => lw_Q args s o t) := by
  intro p e ha hc hk s m args below hf hfit hheap happ hpre
  obtain ⟨b, xs, hP⟩ := lw_pre_spec hpre.2.2 hpre.2.1
  obtain ⟨k, o, h1, h2, h3, hQ⟩ := lw_walk l hflags b xs p e ha hc hk s m args below hf ((Spec.applies_iff_loose hf).mp happ).1 hP trivial
  exact ⟨k, o, h1, h2, h3, hQ⟩
theorem lw_frame {s t : State} {o : Outcome} {args : Array Value} (h : Framed s o t [] 600096 7301386) :
    Framed s o t (fieldLocs frame_1_writes args s ++ arrayLocs frame_1_arrays args s ++ staticLocs frame_1_statics s) 600096 7301386 := h
theorem lw_limb (L : Cond) (hL : ∀ (args : Array Value) (s t : State), L.after args s (.returned (some (.int 1))) t = true) :
    ArmFor flags0 classFile x code maxLocals ret World_1 tables_1 room_1 Calls_1 rest_1 Pre_1
      (fun tb e a s o t => postC L tb e a s o t ∧ Framed s o t (fieldLocs frame_1_writes a s ++ arrayLocs frame_1_arrays a s ++ staticLocs frame_1_statics s) 600096 7301386) := by
  intro l hflags _ _ p e ha hc hk s m args below hf hfit hheap happ hpre
  obtain ⟨k, o, h1, h2, h3, rfl, hF⟩ := lw_comes l hflags p e ha hc hk s m args below hf hfit hheap happ hpre
  exact ⟨k, _, h1, h2, h3, hL args s _, lw_frame hF⟩
theorem i_vc : Claimed_1_1 ∧ Claimed_1_2 := ⟨lw_limb limb_1_1 (fun args s t => by simp [limb_1_1, Cond.after, Cond.holds, Cond.value]), lw_limb limb_1_2 (fun args s t => Cond.after_iff.mpr (by
  first | (rw [show limb_1_2 = Cond.eq .result (.int 1) from rfl, Cond.eq_ints (x := 1) (y := 1) rfl rfl]; simp; done) | (simp [limb_1_2, Cond.value, Term.eval]; done)))⟩
end
