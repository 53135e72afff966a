section
-- ===== PART A: goes FIRST, ahead of the names: the tables' words, and 'selects' of the private methods out of them =====
/-- a private method of a class that the tables say can be made, by its rows of tables_1 -/
def lw_okq (q : MethodName × Nat) : Prop := (q.1.cls ≠ "java/lang/invoke/MethodHandle" ∧ q.1.cls ≠ "java/lang/invoke/VarHandle") ∧ Cond.instantiable q.1.cls q.2 ∈ tables_1 ∧ Cond.privateMethod q.1 ∈ tables_1 ∧ Cond.instanceMethod q.1 ∈ tables_1
set_option maxRecDepth 100000
theorem lw_t1 {w : Cond} (h : w ∈ tables_1_1) : w ∈ tables_1 := List.mem_append_left _ h
theorem lw_t2 {w : Cond} (h : w ∈ tables_1_2) : w ∈ tables_1 := List.mem_append_right _ (List.mem_append_left _ h)
theorem lw_t3 {w : Cond} (h : w ∈ tables_1_3) : w ∈ tables_1 := List.mem_append_right _ (List.mem_append_right _ h)
theorem lw_p0 : lw_okq (⟨"java/lang/NullPointerException", "getExtendedNPEMessage", "()Ljava/lang/String;"⟩, 8) := ⟨⟨by decide +kernel, by decide +kernel⟩, lw_t1 (List.mem_of_getElem? (i := 107) rfl), lw_t1 (List.mem_of_getElem? (i := 134) rfl), lw_t1 (List.mem_of_getElem? (i := 135) rfl)⟩
theorem lw_p1 : lw_okq (⟨"java/lang/Throwable", "fillInStackTrace", "(I)Ljava/lang/Throwable;"⟩, 6) := ⟨⟨by decide +kernel, by decide +kernel⟩, lw_t1 (List.mem_of_getElem? (i := 147) rfl), lw_t1 (List.mem_of_getElem? (i := 145) rfl), lw_t1 (List.mem_of_getElem? (i := 146) rfl)⟩
theorem lw_p2 : lw_okq (⟨"BinaryTreeAddressableHeap", "findParentNode", "(J)LBinaryTreeAddressableHeap$Node;"⟩, 3) := ⟨⟨by decide +kernel, by decide +kernel⟩, lw_t1 (List.mem_of_getElem? (i := 35) rfl), lw_t1 (List.mem_of_getElem? (i := 226) rfl), lw_t1 (List.mem_of_getElem? (i := 227) rfl)⟩
theorem lw_p3 : lw_okq (⟨"java/util/BitSet", "checkInvariants", "()V"⟩, 3) := ⟨⟨by decide +kernel, by decide +kernel⟩, lw_t1 (List.mem_of_getElem? (i := 233) rfl), lw_t2 (List.mem_of_getElem? (i := 15) rfl), lw_t2 (List.mem_of_getElem? (i := 16) rfl)⟩
theorem lw_p4 : lw_okq (⟨"BinaryTreeAddressableHeap", "fixup", "(LBinaryTreeAddressableHeap$Node;)V"⟩, 3) := ⟨⟨by decide +kernel, by decide +kernel⟩, lw_t1 (List.mem_of_getElem? (i := 35) rfl), lw_t2 (List.mem_of_getElem? (i := 50) rfl), lw_t2 (List.mem_of_getElem? (i := 51) rfl)⟩
theorem lw_p5 : lw_okq (⟨"BinaryTreeAddressableHeap", "getParent", "(LBinaryTreeAddressableHeap$Node;)LBinaryTreeAddressableHeap$Node;"⟩, 3) := ⟨⟨by decide +kernel, by decide +kernel⟩, lw_t1 (List.mem_of_getElem? (i := 35) rfl), lw_t2 (List.mem_of_getElem? (i := 54) rfl), lw_t2 (List.mem_of_getElem? (i := 55) rfl)⟩
theorem lw_p6 : lw_okq (⟨"BinaryTreeAddressableHeap", "swap", "(LBinaryTreeAddressableHeap$Node;LBinaryTreeAddressableHeap$Node;LBinaryTreeAddressableHeap$Node;)V"⟩, 3) := ⟨⟨by decide +kernel, by decide +kernel⟩, lw_t1 (List.mem_of_getElem? (i := 35) rfl), lw_t2 (List.mem_of_getElem? (i := 58) rfl), lw_t2 (List.mem_of_getElem? (i := 59) rfl)⟩
theorem lw_p7 : lw_okq (⟨"BinaryTreeAddressableHeap", "swap", "(LBinaryTreeAddressableHeap$Node;LBinaryTreeAddressableHeap$Node;)V"⟩, 3) := ⟨⟨by decide +kernel, by decide +kernel⟩, lw_t1 (List.mem_of_getElem? (i := 35) rfl), lw_t2 (List.mem_of_getElem? (i := 62) rfl), lw_t2 (List.mem_of_getElem? (i := 63) rfl)⟩
theorem lw_p8 : lw_okq (⟨"BinaryTreeAddressableHeap", "fixdown", "(LBinaryTreeAddressableHeap$Node;)V"⟩, 3) := ⟨⟨by decide +kernel, by decide +kernel⟩, lw_t1 (List.mem_of_getElem? (i := 35) rfl), lw_t2 (List.mem_of_getElem? (i := 145) rfl), lw_t2 (List.mem_of_getElem? (i := 146) rfl)⟩
theorem lw_p9 : lw_okq (⟨"BinaryTreeAddressableHeapDesk", "in", "(I)I"⟩, 4) := ⟨⟨by decide +kernel, by decide +kernel⟩, lw_t1 (List.mem_of_getElem? (i := 20) rfl), lw_t2 (List.mem_of_getElem? (i := 153) rfl), lw_t2 (List.mem_of_getElem? (i := 154) rfl)⟩
theorem lw_p10 : lw_okq (⟨"BinaryTreeAddressableHeapDeskModel", "first", "(I)I"⟩, 4) := ⟨⟨by decide +kernel, by decide +kernel⟩, lw_t2 (List.mem_of_getElem? (i := 238) rfl), lw_t3 (List.mem_of_getElem? (i := 26) rfl), lw_t3 (List.mem_of_getElem? (i := 27) rfl)⟩
theorem lw_p11 : lw_okq (⟨"BinaryTreeAddressableHeapDeskModel", "there", "(I)I"⟩, 4) := ⟨⟨by decide +kernel, by decide +kernel⟩, lw_t2 (List.mem_of_getElem? (i := 238) rfl), lw_t3 (List.mem_of_getElem? (i := 42) rfl), lw_t3 (List.mem_of_getElem? (i := 43) rfl)⟩
def lw_privs_1 : List (MethodName × Nat) := [(⟨"java/lang/NullPointerException", "getExtendedNPEMessage", "()Ljava/lang/String;"⟩, 8), (⟨"java/lang/Throwable", "fillInStackTrace", "(I)Ljava/lang/Throwable;"⟩, 6), (⟨"BinaryTreeAddressableHeap", "findParentNode", "(J)LBinaryTreeAddressableHeap$Node;"⟩, 3), (⟨"java/util/BitSet", "checkInvariants", "()V"⟩, 3), (⟨"BinaryTreeAddressableHeap", "fixup", "(LBinaryTreeAddressableHeap$Node;)V"⟩, 3), (⟨"BinaryTreeAddressableHeap", "getParent", "(LBinaryTreeAddressableHeap$Node;)LBinaryTreeAddressableHeap$Node;"⟩, 3), (⟨"BinaryTreeAddressableHeap", "swap", "(LBinaryTreeAddressableHeap$Node;LBinaryTreeAddressableHeap$Node;LBinaryTreeAddressableHeap$Node;)V"⟩, 3), (⟨"BinaryTreeAddressableHeap", "swap", "(LBinaryTreeAddressableHeap$Node;LBinaryTreeAddressableHeap$Node;)V"⟩, 3), (⟨"BinaryTreeAddressableHeap", "fixdown", "(LBinaryTreeAddressableHeap$Node;)V"⟩, 3), (⟨"BinaryTreeAddressableHeapDesk", "in", "(I)I"⟩, 4), (⟨"BinaryTreeAddressableHeapDeskModel", "first", "(I)I"⟩, 4), (⟨"BinaryTreeAddressableHeapDeskModel", "there", "(I)I"⟩, 4)]
theorem lw_r1 : ∀ q ∈ lw_privs_1, lw_okq q := List.forall_mem_cons.mpr ⟨lw_p0, List.forall_mem_cons.mpr ⟨lw_p1, List.forall_mem_cons.mpr ⟨lw_p2, List.forall_mem_cons.mpr ⟨lw_p3, List.forall_mem_cons.mpr ⟨lw_p4, List.forall_mem_cons.mpr ⟨lw_p5, List.forall_mem_cons.mpr ⟨lw_p6, List.forall_mem_cons.mpr ⟨lw_p7, List.forall_mem_cons.mpr ⟨lw_p8, List.forall_mem_cons.mpr ⟨lw_p9, List.forall_mem_cons.mpr ⟨lw_p10, List.forall_mem_cons.mpr ⟨lw_p11, fun _ h => absurd h List.not_mem_nil⟩⟩⟩⟩⟩⟩⟩⟩⟩⟩⟩⟩
def lw_privs : List (MethodName × Nat) := lw_privs_1
def lw_tbl : List Cond := k2_sels lw_privs ++ tables_1
theorem lw_privs_ok : ∀ q ∈ lw_privs, lw_okq q := lw_r1
-- ===== ONE list of words for every method: the tables' words that hold all through a run =====
def lw_all : List Cond := lw_tbl.filter goodWord
/-- a word of the tables by its place: claim/WORDS.tsv -/
theorem lw_w {w : Cond} (i : Nat) (h : lw_tbl[i]? = some w) (g : goodWord w = true) : w ∈ lw_all := List.mem_filter.mpr ⟨List.mem_of_getElem? h, g⟩
theorem lw_all_tbl {w : Cond} (h : w ∈ lw_all) : w ∈ lw_tbl := (List.mem_filter.mp h).1
theorem lw_self : GoodIn lw_all lw_all := fun w h => ⟨h, good_of_word (List.mem_filter.mp h).2⟩
/-- a class's field words, by their places -/
theorem lw_in (ws : List Cond) (ps : List Nat) (hp : ws = ps.filterMap (fun i => lw_tbl[i]?)) (hg : ws.all goodWord = true) : ∀ w ∈ ws, w ∈ lw_all := by
  intro w h
  have h1 := List.all_eq_true.mp hg w h
  rw [hp] at h
  obtain ⟨i, -, hi⟩ := List.mem_filterMap.mp h
  exact lw_w i hi h1
/-- the words of a contract for the method y with code b, L locals, answer r -/
abbrev ws_ (y : MethodName) (b : ByteArray) (L : Nat) (r : Option FieldType) : List Cond := Cond.code y b L r :: lw_all
theorem lw_meth {y : MethodName} {b : ByteArray} {L : Nat} {r : Option FieldType} (h : Cond.code y b L r ∈ lw_all) : GoodIn lw_all (ws_ y b L r) := by
  intro w hw
  rcases List.mem_cons.mp hw with e | e
  · rw [e]
    exact lw_self _ h
  · exact lw_self _ e
theorem lw_app {a c : List Cond} (ha : ∀ w ∈ a, w ∈ lw_all) (hc : GoodIn lw_all c) : GoodIn lw_all (a ++ c) := by
  intro w hw
  rcases List.mem_append.mp hw with e | e
  · exact lw_self w (ha w e)
  · exact hc w e
/-- what a call through an object asks: cwV n hts (lw_V ..) -/
theorem lw_V {own : String} {idx : Nat} {C : String} {y : MethodName} {b : ByteArray} {L : Nat} {r : Option FieldType} (h1 : Cond.methodLink own idx y ∈ lw_all) (h2 : Cond.instanceMethod y ∈ lw_all) (h3 : Cond.selects C y y ∈ lw_all) (h4 : Cond.initialized C ∈ lw_all) (h5 : Cond.code y b L r ∈ lw_all) : GoodIn lw_all (wsV own idx C y (ws_ y b L r)) := by
  refine lw_app ?_ (lw_meth h5)
  intro w hw
  simp only [List.mem_cons, List.not_mem_nil, or_false] at hw
  rcases hw with e | e | e | e
  · rw [e]; exact h1
  · rw [e]; exact h2
  · rw [e]; exact h3
  · rw [e]; exact h4
/-- what a static call asks: va_cwS n hts (lw_S ..) -/
theorem lw_S {own : String} {idx : Nat} {y : MethodName} {b : ByteArray} {L : Nat} {r : Option FieldType} (h1 : Cond.methodLink own idx y ∈ lw_all) (h2 : Cond.static y ∈ lw_all) (h3 : Cond.initialized y.cls ∈ lw_all) (h4 : Cond.code y b L r ∈ lw_all) : GoodIn lw_all (va_wsS own idx y (ws_ y b L r)) := by
  refine lw_app ?_ (lw_meth h4)
  intro w hw
  simp only [List.mem_cons, List.not_mem_nil, or_false] at hw
  rcases hw with e | e | e
  · rw [e]; exact h1
  · rw [e]; exact h2
  · rw [e]; exact h3
/-- the words of a contract for a method WITH HANDLERS (hh: its table) -/
abbrev wsW_ (y : MethodName) (b : ByteArray) (L : Nat) (r : Option FieldType) (hh : List (Nat × Nat × Nat × Nat)) : List Cond := Cond.codeWith y b L r hh :: lw_all
theorem lw_methW {y : MethodName} {b : ByteArray} {L : Nat} {r : Option FieldType} {hh : List (Nat × Nat × Nat × Nat)} (h : Cond.codeWith y b L r hh ∈ lw_all) : GoodIn lw_all (wsW_ y b L r hh) := by
  intro w hw
  rcases List.mem_cons.mp hw with e | e
  · rw [e]
    exact lw_self _ h
  · exact lw_self _ e
/-- any list of words by their places (lw_in), good -/
theorem lw_good {ws : List Cond} (h : ∀ w ∈ ws, w ∈ lw_all) : GoodIn lw_all ws := fun w hw => lw_self w (h w hw)
/-- what a call of a method with handlers asks: vx_cwVW n hts (lw_VW ..), vx_cwSW n hts (lw_SW ..) -/
theorem lw_VW {own : String} {idx : Nat} {C : String} {y : MethodName} {b : ByteArray} {L : Nat} {r : Option FieldType} {hh : List (Nat × Nat × Nat × Nat)} (h1 : Cond.methodLink own idx y ∈ lw_all) (h2 : Cond.instanceMethod y ∈ lw_all) (h3 : Cond.selects C y y ∈ lw_all) (h4 : Cond.initialized C ∈ lw_all) (h5 : Cond.codeWith y b L r hh ∈ lw_all) : GoodIn lw_all (wsV own idx C y (wsW_ y b L r hh)) := by
  refine lw_app ?_ (lw_methW h5)
  intro w hw
  simp only [List.mem_cons, List.not_mem_nil, or_false] at hw
  rcases hw with e | e | e | e
  · rw [e]; exact h1
  · rw [e]; exact h2
  · rw [e]; exact h3
  · rw [e]; exact h4
theorem lw_SW {own : String} {idx : Nat} {y : MethodName} {b : ByteArray} {L : Nat} {r : Option FieldType} {hh : List (Nat × Nat × Nat × Nat)} (h1 : Cond.methodLink own idx y ∈ lw_all) (h2 : Cond.static y ∈ lw_all) (h3 : Cond.initialized y.cls ∈ lw_all) (h4 : Cond.codeWith y b L r hh ∈ lw_all) : GoodIn lw_all (va_wsS own idx y (wsW_ y b L r hh)) := by
  refine lw_app ?_ (lw_methW h4)
  intro w hw
  simp only [List.mem_cons, List.not_mem_nil, or_false] at hw
  rcases hw with e | e | e
  · rw [e]; exact h1
  · rw [e]; exact h2
  · rw [e]; exact h3
/-- a word by its place in its run of the tables -/
theorem lw_at {r : List Cond} (hr : ∀ w ∈ r, w ∈ lw_tbl) {w : Cond} (i : Nat) (h : r[i]? = some w) : w ∈ lw_tbl := hr w (List.mem_of_getElem? h)
theorem lw_g {w : Cond} (h : w ∈ lw_tbl) (g : goodWord w = true) : w ∈ lw_all := List.mem_filter.mpr ⟨h, g⟩
theorem lw_ms : ∀ w ∈ k2_sels lw_privs, w ∈ lw_tbl := fun w h => show w ∈ k2_sels lw_privs ++ tables_1 from List.mem_append_left _ h
theorem lw_m1 : ∀ w ∈ tables_1_1, w ∈ lw_tbl := fun w h => show w ∈ k2_sels lw_privs ++ tables_1 from List.mem_append_right (k2_sels lw_privs) (show w ∈ tables_1 from List.mem_append_left _ h)
theorem lw_m2 : ∀ w ∈ tables_1_2, w ∈ lw_tbl := fun w h => show w ∈ k2_sels lw_privs ++ tables_1 from List.mem_append_right (k2_sels lw_privs) (show w ∈ tables_1 from List.mem_append_right _ (List.mem_append_left _ h))
theorem lw_m3 : ∀ w ∈ tables_1_3, w ∈ lw_tbl := fun w h => show w ∈ k2_sels lw_privs ++ tables_1 from List.mem_append_right (k2_sels lw_privs) (show w ∈ tables_1 from List.mem_append_right _ (List.mem_append_right _ h))
theorem qs0 : (Cond.selects "java/lang/NullPointerException" ⟨"java/lang/NullPointerException", "getExtendedNPEMessage", "()Ljava/lang/String;"⟩ ⟨"java/lang/NullPointerException", "getExtendedNPEMessage", "()Ljava/lang/String;"⟩) ∈ lw_all := lw_g (lw_at lw_ms 0 rfl) rfl
theorem qs1 : (Cond.selects "java/lang/Throwable" ⟨"java/lang/Throwable", "fillInStackTrace", "(I)Ljava/lang/Throwable;"⟩ ⟨"java/lang/Throwable", "fillInStackTrace", "(I)Ljava/lang/Throwable;"⟩) ∈ lw_all := lw_g (lw_at lw_ms 1 rfl) rfl
theorem qs2 : (Cond.selects "BinaryTreeAddressableHeap" ⟨"BinaryTreeAddressableHeap", "findParentNode", "(J)LBinaryTreeAddressableHeap$Node;"⟩ ⟨"BinaryTreeAddressableHeap", "findParentNode", "(J)LBinaryTreeAddressableHeap$Node;"⟩) ∈ lw_all := lw_g (lw_at lw_ms 2 rfl) rfl
theorem qs3 : (Cond.selects "java/util/BitSet" ⟨"java/util/BitSet", "checkInvariants", "()V"⟩ ⟨"java/util/BitSet", "checkInvariants", "()V"⟩) ∈ lw_all := lw_g (lw_at lw_ms 3 rfl) rfl
theorem qs4 : (Cond.selects "BinaryTreeAddressableHeap" ⟨"BinaryTreeAddressableHeap", "fixup", "(LBinaryTreeAddressableHeap$Node;)V"⟩ ⟨"BinaryTreeAddressableHeap", "fixup", "(LBinaryTreeAddressableHeap$Node;)V"⟩) ∈ lw_all := lw_g (lw_at lw_ms 4 rfl) rfl
theorem qs5 : (Cond.selects "BinaryTreeAddressableHeap" ⟨"BinaryTreeAddressableHeap", "getParent", "(LBinaryTreeAddressableHeap$Node;)LBinaryTreeAddressableHeap$Node;"⟩ ⟨"BinaryTreeAddressableHeap", "getParent", "(LBinaryTreeAddressableHeap$Node;)LBinaryTreeAddressableHeap$Node;"⟩) ∈ lw_all := lw_g (lw_at lw_ms 5 rfl) rfl
theorem qs6 : (Cond.selects "BinaryTreeAddressableHeap" ⟨"BinaryTreeAddressableHeap", "swap", "(LBinaryTreeAddressableHeap$Node;LBinaryTreeAddressableHeap$Node;LBinaryTreeAddressableHeap$Node;)V"⟩ ⟨"BinaryTreeAddressableHeap", "swap", "(LBinaryTreeAddressableHeap$Node;LBinaryTreeAddressableHeap$Node;LBinaryTreeAddressableHeap$Node;)V"⟩) ∈ lw_all := lw_g (lw_at lw_ms 6 rfl) rfl
theorem qs7 : (Cond.selects "BinaryTreeAddressableHeap" ⟨"BinaryTreeAddressableHeap", "swap", "(LBinaryTreeAddressableHeap$Node;LBinaryTreeAddressableHeap$Node;)V"⟩ ⟨"BinaryTreeAddressableHeap", "swap", "(LBinaryTreeAddressableHeap$Node;LBinaryTreeAddressableHeap$Node;)V"⟩) ∈ lw_all := lw_g (lw_at lw_ms 7 rfl) rfl
theorem qs8 : (Cond.selects "BinaryTreeAddressableHeap" ⟨"BinaryTreeAddressableHeap", "fixdown", "(LBinaryTreeAddressableHeap$Node;)V"⟩ ⟨"BinaryTreeAddressableHeap", "fixdown", "(LBinaryTreeAddressableHeap$Node;)V"⟩) ∈ lw_all := lw_g (lw_at lw_ms 8 rfl) rfl
theorem qs9 : (Cond.selects "BinaryTreeAddressableHeapDesk" ⟨"BinaryTreeAddressableHeapDesk", "in", "(I)I"⟩ ⟨"BinaryTreeAddressableHeapDesk", "in", "(I)I"⟩) ∈ lw_all := lw_g (lw_at lw_ms 9 rfl) rfl
theorem qs10 : (Cond.selects "BinaryTreeAddressableHeapDeskModel" ⟨"BinaryTreeAddressableHeapDeskModel", "first", "(I)I"⟩ ⟨"BinaryTreeAddressableHeapDeskModel", "first", "(I)I"⟩) ∈ lw_all := lw_g (lw_at lw_ms 10 rfl) rfl
theorem qs11 : (Cond.selects "BinaryTreeAddressableHeapDeskModel" ⟨"BinaryTreeAddressableHeapDeskModel", "there", "(I)I"⟩ ⟨"BinaryTreeAddressableHeapDeskModel", "there", "(I)I"⟩) ∈ lw_all := lw_g (lw_at lw_ms 11 rfl) rfl
end
section
/-! DECODE ROWS BY BYTES: one lemma an opcode; a method's code is cut into short pieces once, and a row reads its own piece alone. -/
set_option maxRecDepth 100000
/-- the code has just these bytes from pc on -/
def DkAt (code : ByteArray) (pc : Nat) (bs : List UInt8) : Prop := ∀ (j : Nat) (b : UInt8), bs[j]? = some b → code.data.toList[pc + j]? = some b
/-- the piece W has the bytes bs from its place j on -/
def dkIn (W : List UInt8) (j : Nat) (bs : List UInt8) : Bool := decide ((W.drop j).take bs.length = bs)
theorem dk_seg {l W T : List UInt8} {o o2 : Nat} (h : l.drop o = W ++ T) (n : Nat) (hn : W.length = n) (ho : o + n = o2) : l.drop o2 = T := by
  subst ho
  rw [← List.drop_drop, h, List.drop_left' hn]
theorem dk_at {code : ByteArray} {W T bs : List UInt8} {o pc : Nat} (h : code.data.toList.drop o = W ++ T) (j : Nat) (hp : o + j = pc) (hw : dkIn W j bs = true) : DkAt code pc bs := by
  subst hp
  intro i b e
  have h1 := of_decide_eq_true hw
  have h2 : i < bs.length := (List.getElem?_eq_some_iff.mp e).1
  have h3 : W[j + i]? = some b := by
    rw [← h1, List.getElem?_take, if_pos h2, List.getElem?_drop] at e
    exact e
  have h4 : j + i < W.length := (List.getElem?_eq_some_iff.mp h3).1
  have h5 : (code.data.toList.drop o)[j + i]? = some b := by
    rw [h, List.getElem?_append_left h4]
    exact h3
  rw [List.getElem?_drop, ← Nat.add_assoc] at h5
  exact h5
theorem dk_u1 {A : ByteArray} {p : Nat} {b : UInt8} (h : A.data.toList[p]? = some b) : (Reader.u1 : Reader DecodeError Nat) A p = .ok (b.toNat, p + 1) := by
  obtain ⟨h1, h2⟩ := List.getElem?_eq_some_iff.mp h
  have h3 : p < A.size := by simpa using h1
  have h4 : A[p]'h3 = b := h2
  have e : (Reader.u1 : Reader DecodeError Nat) A p = (if h : p < A.size then .ok (A[p].toNat, p + 1) else .error (HasTruncated.truncated p)) := by
    show (do if h : p < A.size then do set (p + 1); Pure.pure A[p].toNat else MonadExcept.throw (HasTruncated.truncated p) : Reader DecodeError Nat) A p = _
    by_cases hi : p < A.size
    · rw [dif_pos hi, dif_pos hi]; rfl
    · rw [dif_neg hi, dif_neg hi]; rfl
  rw [e, dif_pos h3, h4]
theorem dk_bind {α β : Type} {r : Reader DecodeError α} {f : α → Reader DecodeError β} {A : ByteArray} {p s : Nat} {a : α} (h : r A p = .ok (a, s)) : (r >>= f) A p = f a A s := by
  show (do let (a, s) ← r A p; f a A s : Except DecodeError (β × Nat)) = _
  rw [h]
  rfl
theorem dk_map {α β : Type} {r : Reader DecodeError α} {g : α → β} {A : ByteArray} {p s : Nat} {a : α} (h : r A p = .ok (a, s)) : (g <$> r) A p = .ok (g a, s) := by
  show (do let (a, s) ← r A p; .ok (g a, s) : Except DecodeError (β × Nat)) = _
  rw [h]
  rfl
theorem dk_u2 {A : ByteArray} {p : Nat} {a b : UInt8} (h : A.data.toList[p]? = some a) (h2 : A.data.toList[p + 1]? = some b) : (Reader.u2 : Reader DecodeError Nat) A p = .ok (a.toNat * 256 + b.toNat, p + 2) := by
  show (Reader.u1 >>= fun hi => Reader.u1 >>= fun lo => Pure.pure (hi * 256 + lo) : Reader DecodeError Nat) A p = _
  rw [dk_bind (dk_u1 h), dk_bind (dk_u1 h2)]
  rfl
theorem dk_of {code : ByteArray} {pc n : Nat} {i : Instr} (h : Decoder.instr pc code pc = .ok (i, pc + n)) : decode code pc = .ok (i, n) := by
  have e : decode code pc = (match Decoder.instr pc code pc with | .error x => .error x | .ok (j, s) => .ok (j, s - pc)) := by
    show (do let (j, s) ← Decoder.instr pc code pc; Pure.pure (j, s - pc) : Except DecodeError (Instr × Nat)) = _
    cases Decoder.instr pc code pc <;> rfl
  rw [e, h]
  show Except.ok (i, pc + n - pc) = _
  rw [Nat.add_sub_cancel_left]
theorem dk_1 {code : ByteArray} {pc : Nat} (h : DkAt code pc [1]) : decode code pc = .ok (.aconst_null, 1) := dk_of ((dk_bind (dk_u1 (h 0 _ rfl))).trans rfl)
theorem dk_2 {code : ByteArray} {pc : Nat} (h : DkAt code pc [2]) : decode code pc = .ok (.iconst (-1), 1) := dk_of ((dk_bind (dk_u1 (h 0 _ rfl))).trans rfl)
theorem dk_3 {code : ByteArray} {pc : Nat} (h : DkAt code pc [3]) : decode code pc = .ok (.iconst 0, 1) := dk_of ((dk_bind (dk_u1 (h 0 _ rfl))).trans rfl)
theorem dk_4 {code : ByteArray} {pc : Nat} (h : DkAt code pc [4]) : decode code pc = .ok (.iconst 1, 1) := dk_of ((dk_bind (dk_u1 (h 0 _ rfl))).trans rfl)
theorem dk_5 {code : ByteArray} {pc : Nat} (h : DkAt code pc [5]) : decode code pc = .ok (.iconst 2, 1) := dk_of ((dk_bind (dk_u1 (h 0 _ rfl))).trans rfl)
theorem dk_6 {code : ByteArray} {pc : Nat} (h : DkAt code pc [6]) : decode code pc = .ok (.iconst 3, 1) := dk_of ((dk_bind (dk_u1 (h 0 _ rfl))).trans rfl)
theorem dk_7 {code : ByteArray} {pc : Nat} (h : DkAt code pc [7]) : decode code pc = .ok (.iconst 4, 1) := dk_of ((dk_bind (dk_u1 (h 0 _ rfl))).trans rfl)
theorem dk_9 {code : ByteArray} {pc : Nat} (h : DkAt code pc [9]) : decode code pc = .ok (.lconst 0, 1) := dk_of ((dk_bind (dk_u1 (h 0 _ rfl))).trans rfl)
theorem dk_10 {code : ByteArray} {pc : Nat} (h : DkAt code pc [10]) : decode code pc = .ok (.lconst 1, 1) := dk_of ((dk_bind (dk_u1 (h 0 _ rfl))).trans rfl)
theorem dk_16 {code : ByteArray} {pc : Nat} (a : UInt8) (h : DkAt code pc [16, a]) : decode code pc = .ok (.bipush (Reader.signed 8 a.toNat), 2) := dk_of ((dk_bind (dk_u1 (h 0 _ rfl))).trans ((dk_bind (dk_map (dk_u1 (h 1 _ rfl)))).trans rfl))
theorem dk_17 {code : ByteArray} {pc : Nat} (a b : UInt8) (h : DkAt code pc [17, a, b]) : decode code pc = .ok (.sipush (Reader.signed 16 (a.toNat * 256 + b.toNat)), 3) := dk_of ((dk_bind (dk_u1 (h 0 _ rfl))).trans ((dk_bind (dk_map (dk_u2 (h 1 _ rfl) (h 2 _ rfl)))).trans rfl))
theorem dk_18 {code : ByteArray} {pc : Nat} (a : UInt8) (h : DkAt code pc [18, a]) : decode code pc = .ok (.ldc a.toNat, 2) := dk_of ((dk_bind (dk_u1 (h 0 _ rfl))).trans ((dk_bind (dk_u1 (h 1 _ rfl))).trans rfl))
theorem dk_19 {code : ByteArray} {pc : Nat} (a b : UInt8) (h : DkAt code pc [19, a, b]) : decode code pc = .ok (.ldc_w (a.toNat * 256 + b.toNat), 3) := dk_of ((dk_bind (dk_u1 (h 0 _ rfl))).trans ((dk_bind (dk_u2 (h 1 _ rfl) (h 2 _ rfl))).trans rfl))
theorem dk_20 {code : ByteArray} {pc : Nat} (a b : UInt8) (h : DkAt code pc [20, a, b]) : decode code pc = .ok (.ldc2_w (a.toNat * 256 + b.toNat), 3) := dk_of ((dk_bind (dk_u1 (h 0 _ rfl))).trans ((dk_bind (dk_u2 (h 1 _ rfl) (h 2 _ rfl))).trans rfl))
theorem dk_21 {code : ByteArray} {pc : Nat} (a : UInt8) (h : DkAt code pc [21, a]) : decode code pc = .ok (.iload a.toNat, 2) := dk_of ((dk_bind (dk_u1 (h 0 _ rfl))).trans ((dk_bind (dk_u1 (h 1 _ rfl))).trans rfl))
theorem dk_25 {code : ByteArray} {pc : Nat} (a : UInt8) (h : DkAt code pc [25, a]) : decode code pc = .ok (.aload a.toNat, 2) := dk_of ((dk_bind (dk_u1 (h 0 _ rfl))).trans ((dk_bind (dk_u1 (h 1 _ rfl))).trans rfl))
theorem dk_26 {code : ByteArray} {pc : Nat} (h : DkAt code pc [26]) : decode code pc = .ok (.iload_n 0, 1) := dk_of ((dk_bind (dk_u1 (h 0 _ rfl))).trans rfl)
theorem dk_27 {code : ByteArray} {pc : Nat} (h : DkAt code pc [27]) : decode code pc = .ok (.iload_n 1, 1) := dk_of ((dk_bind (dk_u1 (h 0 _ rfl))).trans rfl)
theorem dk_28 {code : ByteArray} {pc : Nat} (h : DkAt code pc [28]) : decode code pc = .ok (.iload_n 2, 1) := dk_of ((dk_bind (dk_u1 (h 0 _ rfl))).trans rfl)
theorem dk_29 {code : ByteArray} {pc : Nat} (h : DkAt code pc [29]) : decode code pc = .ok (.iload_n 3, 1) := dk_of ((dk_bind (dk_u1 (h 0 _ rfl))).trans rfl)
theorem dk_30 {code : ByteArray} {pc : Nat} (h : DkAt code pc [30]) : decode code pc = .ok (.lload_n 0, 1) := dk_of ((dk_bind (dk_u1 (h 0 _ rfl))).trans rfl)
theorem dk_31 {code : ByteArray} {pc : Nat} (h : DkAt code pc [31]) : decode code pc = .ok (.lload_n 1, 1) := dk_of ((dk_bind (dk_u1 (h 0 _ rfl))).trans rfl)
theorem dk_42 {code : ByteArray} {pc : Nat} (h : DkAt code pc [42]) : decode code pc = .ok (.aload_n 0, 1) := dk_of ((dk_bind (dk_u1 (h 0 _ rfl))).trans rfl)
theorem dk_43 {code : ByteArray} {pc : Nat} (h : DkAt code pc [43]) : decode code pc = .ok (.aload_n 1, 1) := dk_of ((dk_bind (dk_u1 (h 0 _ rfl))).trans rfl)
theorem dk_44 {code : ByteArray} {pc : Nat} (h : DkAt code pc [44]) : decode code pc = .ok (.aload_n 2, 1) := dk_of ((dk_bind (dk_u1 (h 0 _ rfl))).trans rfl)
theorem dk_45 {code : ByteArray} {pc : Nat} (h : DkAt code pc [45]) : decode code pc = .ok (.aload_n 3, 1) := dk_of ((dk_bind (dk_u1 (h 0 _ rfl))).trans rfl)
theorem dk_46 {code : ByteArray} {pc : Nat} (h : DkAt code pc [46]) : decode code pc = .ok (.iaload, 1) := dk_of ((dk_bind (dk_u1 (h 0 _ rfl))).trans rfl)
theorem dk_47 {code : ByteArray} {pc : Nat} (h : DkAt code pc [47]) : decode code pc = .ok (.laload, 1) := dk_of ((dk_bind (dk_u1 (h 0 _ rfl))).trans rfl)
theorem dk_50 {code : ByteArray} {pc : Nat} (h : DkAt code pc [50]) : decode code pc = .ok (.aaload, 1) := dk_of ((dk_bind (dk_u1 (h 0 _ rfl))).trans rfl)
theorem dk_54 {code : ByteArray} {pc : Nat} (a : UInt8) (h : DkAt code pc [54, a]) : decode code pc = .ok (.istore a.toNat, 2) := dk_of ((dk_bind (dk_u1 (h 0 _ rfl))).trans ((dk_bind (dk_u1 (h 1 _ rfl))).trans rfl))
theorem dk_58 {code : ByteArray} {pc : Nat} (a : UInt8) (h : DkAt code pc [58, a]) : decode code pc = .ok (.astore a.toNat, 2) := dk_of ((dk_bind (dk_u1 (h 0 _ rfl))).trans ((dk_bind (dk_u1 (h 1 _ rfl))).trans rfl))
theorem dk_59 {code : ByteArray} {pc : Nat} (h : DkAt code pc [59]) : decode code pc = .ok (.istore_n 0, 1) := dk_of ((dk_bind (dk_u1 (h 0 _ rfl))).trans rfl)
theorem dk_60 {code : ByteArray} {pc : Nat} (h : DkAt code pc [60]) : decode code pc = .ok (.istore_n 1, 1) := dk_of ((dk_bind (dk_u1 (h 0 _ rfl))).trans rfl)
theorem dk_61 {code : ByteArray} {pc : Nat} (h : DkAt code pc [61]) : decode code pc = .ok (.istore_n 2, 1) := dk_of ((dk_bind (dk_u1 (h 0 _ rfl))).trans rfl)
theorem dk_62 {code : ByteArray} {pc : Nat} (h : DkAt code pc [62]) : decode code pc = .ok (.istore_n 3, 1) := dk_of ((dk_bind (dk_u1 (h 0 _ rfl))).trans rfl)
theorem dk_75 {code : ByteArray} {pc : Nat} (h : DkAt code pc [75]) : decode code pc = .ok (.astore_n 0, 1) := dk_of ((dk_bind (dk_u1 (h 0 _ rfl))).trans rfl)
theorem dk_76 {code : ByteArray} {pc : Nat} (h : DkAt code pc [76]) : decode code pc = .ok (.astore_n 1, 1) := dk_of ((dk_bind (dk_u1 (h 0 _ rfl))).trans rfl)
theorem dk_77 {code : ByteArray} {pc : Nat} (h : DkAt code pc [77]) : decode code pc = .ok (.astore_n 2, 1) := dk_of ((dk_bind (dk_u1 (h 0 _ rfl))).trans rfl)
theorem dk_78 {code : ByteArray} {pc : Nat} (h : DkAt code pc [78]) : decode code pc = .ok (.astore_n 3, 1) := dk_of ((dk_bind (dk_u1 (h 0 _ rfl))).trans rfl)
theorem dk_79 {code : ByteArray} {pc : Nat} (h : DkAt code pc [79]) : decode code pc = .ok (.iastore, 1) := dk_of ((dk_bind (dk_u1 (h 0 _ rfl))).trans rfl)
theorem dk_80 {code : ByteArray} {pc : Nat} (h : DkAt code pc [80]) : decode code pc = .ok (.lastore, 1) := dk_of ((dk_bind (dk_u1 (h 0 _ rfl))).trans rfl)
theorem dk_83 {code : ByteArray} {pc : Nat} (h : DkAt code pc [83]) : decode code pc = .ok (.aastore, 1) := dk_of ((dk_bind (dk_u1 (h 0 _ rfl))).trans rfl)
theorem dk_87 {code : ByteArray} {pc : Nat} (h : DkAt code pc [87]) : decode code pc = .ok (.pop, 1) := dk_of ((dk_bind (dk_u1 (h 0 _ rfl))).trans rfl)
theorem dk_89 {code : ByteArray} {pc : Nat} (h : DkAt code pc [89]) : decode code pc = .ok (.dup, 1) := dk_of ((dk_bind (dk_u1 (h 0 _ rfl))).trans rfl)
theorem dk_96 {code : ByteArray} {pc : Nat} (h : DkAt code pc [96]) : decode code pc = .ok (.iadd, 1) := dk_of ((dk_bind (dk_u1 (h 0 _ rfl))).trans rfl)
theorem dk_97 {code : ByteArray} {pc : Nat} (h : DkAt code pc [97]) : decode code pc = .ok (.ladd, 1) := dk_of ((dk_bind (dk_u1 (h 0 _ rfl))).trans rfl)
theorem dk_100 {code : ByteArray} {pc : Nat} (h : DkAt code pc [100]) : decode code pc = .ok (.isub, 1) := dk_of ((dk_bind (dk_u1 (h 0 _ rfl))).trans rfl)
theorem dk_101 {code : ByteArray} {pc : Nat} (h : DkAt code pc [101]) : decode code pc = .ok (.lsub, 1) := dk_of ((dk_bind (dk_u1 (h 0 _ rfl))).trans rfl)
theorem dk_104 {code : ByteArray} {pc : Nat} (h : DkAt code pc [104]) : decode code pc = .ok (.imul, 1) := dk_of ((dk_bind (dk_u1 (h 0 _ rfl))).trans rfl)
theorem dk_112 {code : ByteArray} {pc : Nat} (h : DkAt code pc [112]) : decode code pc = .ok (.irem, 1) := dk_of ((dk_bind (dk_u1 (h 0 _ rfl))).trans rfl)
theorem dk_121 {code : ByteArray} {pc : Nat} (h : DkAt code pc [121]) : decode code pc = .ok (.lshl, 1) := dk_of ((dk_bind (dk_u1 (h 0 _ rfl))).trans rfl)
theorem dk_122 {code : ByteArray} {pc : Nat} (h : DkAt code pc [122]) : decode code pc = .ok (.ishr, 1) := dk_of ((dk_bind (dk_u1 (h 0 _ rfl))).trans rfl)
theorem dk_124 {code : ByteArray} {pc : Nat} (h : DkAt code pc [124]) : decode code pc = .ok (.iushr, 1) := dk_of ((dk_bind (dk_u1 (h 0 _ rfl))).trans rfl)
theorem dk_125 {code : ByteArray} {pc : Nat} (h : DkAt code pc [125]) : decode code pc = .ok (.lushr, 1) := dk_of ((dk_bind (dk_u1 (h 0 _ rfl))).trans rfl)
theorem dk_126 {code : ByteArray} {pc : Nat} (h : DkAt code pc [126]) : decode code pc = .ok (.iand, 1) := dk_of ((dk_bind (dk_u1 (h 0 _ rfl))).trans rfl)
theorem dk_127 {code : ByteArray} {pc : Nat} (h : DkAt code pc [127]) : decode code pc = .ok (.land, 1) := dk_of ((dk_bind (dk_u1 (h 0 _ rfl))).trans rfl)
theorem dk_132 {code : ByteArray} {pc : Nat} (a b : UInt8) (h : DkAt code pc [132, a, b]) : decode code pc = .ok (.iinc a.toNat (Reader.signed 8 b.toNat), 3) := dk_of ((dk_bind (dk_u1 (h 0 _ rfl))).trans ((dk_bind (dk_u1 (h 1 _ rfl))).trans ((dk_bind (dk_map (dk_u1 (h 2 _ rfl)))).trans rfl)))
theorem dk_136 {code : ByteArray} {pc : Nat} (h : DkAt code pc [136]) : decode code pc = .ok (.l2i, 1) := dk_of ((dk_bind (dk_u1 (h 0 _ rfl))).trans rfl)
theorem dk_148 {code : ByteArray} {pc : Nat} (h : DkAt code pc [148]) : decode code pc = .ok (.lcmp, 1) := dk_of ((dk_bind (dk_u1 (h 0 _ rfl))).trans rfl)
theorem dk_153 {code : ByteArray} {pc : Nat} (a b : UInt8) (h : DkAt code pc [153, a, b]) : decode code pc = .ok (.ifCond .eq (Reader.signed 16 (a.toNat * 256 + b.toNat)), 3) := dk_of ((dk_bind (dk_u1 (h 0 _ rfl))).trans ((dk_bind (dk_map (dk_u2 (h 1 _ rfl) (h 2 _ rfl)))).trans rfl))
theorem dk_154 {code : ByteArray} {pc : Nat} (a b : UInt8) (h : DkAt code pc [154, a, b]) : decode code pc = .ok (.ifCond .ne (Reader.signed 16 (a.toNat * 256 + b.toNat)), 3) := dk_of ((dk_bind (dk_u1 (h 0 _ rfl))).trans ((dk_bind (dk_map (dk_u2 (h 1 _ rfl) (h 2 _ rfl)))).trans rfl))
theorem dk_155 {code : ByteArray} {pc : Nat} (a b : UInt8) (h : DkAt code pc [155, a, b]) : decode code pc = .ok (.ifCond .lt (Reader.signed 16 (a.toNat * 256 + b.toNat)), 3) := dk_of ((dk_bind (dk_u1 (h 0 _ rfl))).trans ((dk_bind (dk_map (dk_u2 (h 1 _ rfl) (h 2 _ rfl)))).trans rfl))
theorem dk_156 {code : ByteArray} {pc : Nat} (a b : UInt8) (h : DkAt code pc [156, a, b]) : decode code pc = .ok (.ifCond .ge (Reader.signed 16 (a.toNat * 256 + b.toNat)), 3) := dk_of ((dk_bind (dk_u1 (h 0 _ rfl))).trans ((dk_bind (dk_map (dk_u2 (h 1 _ rfl) (h 2 _ rfl)))).trans rfl))
theorem dk_157 {code : ByteArray} {pc : Nat} (a b : UInt8) (h : DkAt code pc [157, a, b]) : decode code pc = .ok (.ifCond .gt (Reader.signed 16 (a.toNat * 256 + b.toNat)), 3) := dk_of ((dk_bind (dk_u1 (h 0 _ rfl))).trans ((dk_bind (dk_map (dk_u2 (h 1 _ rfl) (h 2 _ rfl)))).trans rfl))
theorem dk_158 {code : ByteArray} {pc : Nat} (a b : UInt8) (h : DkAt code pc [158, a, b]) : decode code pc = .ok (.ifCond .le (Reader.signed 16 (a.toNat * 256 + b.toNat)), 3) := dk_of ((dk_bind (dk_u1 (h 0 _ rfl))).trans ((dk_bind (dk_map (dk_u2 (h 1 _ rfl) (h 2 _ rfl)))).trans rfl))
theorem dk_159 {code : ByteArray} {pc : Nat} (a b : UInt8) (h : DkAt code pc [159, a, b]) : decode code pc = .ok (.if_icmp .eq (Reader.signed 16 (a.toNat * 256 + b.toNat)), 3) := dk_of ((dk_bind (dk_u1 (h 0 _ rfl))).trans ((dk_bind (dk_map (dk_u2 (h 1 _ rfl) (h 2 _ rfl)))).trans rfl))
theorem dk_160 {code : ByteArray} {pc : Nat} (a b : UInt8) (h : DkAt code pc [160, a, b]) : decode code pc = .ok (.if_icmp .ne (Reader.signed 16 (a.toNat * 256 + b.toNat)), 3) := dk_of ((dk_bind (dk_u1 (h 0 _ rfl))).trans ((dk_bind (dk_map (dk_u2 (h 1 _ rfl) (h 2 _ rfl)))).trans rfl))
theorem dk_161 {code : ByteArray} {pc : Nat} (a b : UInt8) (h : DkAt code pc [161, a, b]) : decode code pc = .ok (.if_icmp .lt (Reader.signed 16 (a.toNat * 256 + b.toNat)), 3) := dk_of ((dk_bind (dk_u1 (h 0 _ rfl))).trans ((dk_bind (dk_map (dk_u2 (h 1 _ rfl) (h 2 _ rfl)))).trans rfl))
theorem dk_162 {code : ByteArray} {pc : Nat} (a b : UInt8) (h : DkAt code pc [162, a, b]) : decode code pc = .ok (.if_icmp .ge (Reader.signed 16 (a.toNat * 256 + b.toNat)), 3) := dk_of ((dk_bind (dk_u1 (h 0 _ rfl))).trans ((dk_bind (dk_map (dk_u2 (h 1 _ rfl) (h 2 _ rfl)))).trans rfl))
theorem dk_163 {code : ByteArray} {pc : Nat} (a b : UInt8) (h : DkAt code pc [163, a, b]) : decode code pc = .ok (.if_icmp .gt (Reader.signed 16 (a.toNat * 256 + b.toNat)), 3) := dk_of ((dk_bind (dk_u1 (h 0 _ rfl))).trans ((dk_bind (dk_map (dk_u2 (h 1 _ rfl) (h 2 _ rfl)))).trans rfl))
theorem dk_164 {code : ByteArray} {pc : Nat} (a b : UInt8) (h : DkAt code pc [164, a, b]) : decode code pc = .ok (.if_icmp .le (Reader.signed 16 (a.toNat * 256 + b.toNat)), 3) := dk_of ((dk_bind (dk_u1 (h 0 _ rfl))).trans ((dk_bind (dk_map (dk_u2 (h 1 _ rfl) (h 2 _ rfl)))).trans rfl))
theorem dk_165 {code : ByteArray} {pc : Nat} (a b : UInt8) (h : DkAt code pc [165, a, b]) : decode code pc = .ok (.if_acmp .eq (Reader.signed 16 (a.toNat * 256 + b.toNat)), 3) := dk_of ((dk_bind (dk_u1 (h 0 _ rfl))).trans ((dk_bind (dk_map (dk_u2 (h 1 _ rfl) (h 2 _ rfl)))).trans rfl))
theorem dk_166 {code : ByteArray} {pc : Nat} (a b : UInt8) (h : DkAt code pc [166, a, b]) : decode code pc = .ok (.if_acmp .ne (Reader.signed 16 (a.toNat * 256 + b.toNat)), 3) := dk_of ((dk_bind (dk_u1 (h 0 _ rfl))).trans ((dk_bind (dk_map (dk_u2 (h 1 _ rfl) (h 2 _ rfl)))).trans rfl))
theorem dk_167 {code : ByteArray} {pc : Nat} (a b : UInt8) (h : DkAt code pc [167, a, b]) : decode code pc = .ok (.goto (Reader.signed 16 (a.toNat * 256 + b.toNat)), 3) := dk_of ((dk_bind (dk_u1 (h 0 _ rfl))).trans ((dk_bind (dk_map (dk_u2 (h 1 _ rfl) (h 2 _ rfl)))).trans rfl))
theorem dk_172 {code : ByteArray} {pc : Nat} (h : DkAt code pc [172]) : decode code pc = .ok (.ireturn, 1) := dk_of ((dk_bind (dk_u1 (h 0 _ rfl))).trans rfl)
theorem dk_176 {code : ByteArray} {pc : Nat} (h : DkAt code pc [176]) : decode code pc = .ok (.areturn, 1) := dk_of ((dk_bind (dk_u1 (h 0 _ rfl))).trans rfl)
theorem dk_177 {code : ByteArray} {pc : Nat} (h : DkAt code pc [177]) : decode code pc = .ok (.return_, 1) := dk_of ((dk_bind (dk_u1 (h 0 _ rfl))).trans rfl)
theorem dk_178 {code : ByteArray} {pc : Nat} (a b : UInt8) (h : DkAt code pc [178, a, b]) : decode code pc = .ok (.getstatic (a.toNat * 256 + b.toNat), 3) := dk_of ((dk_bind (dk_u1 (h 0 _ rfl))).trans ((dk_bind (dk_u2 (h 1 _ rfl) (h 2 _ rfl))).trans rfl))
theorem dk_180 {code : ByteArray} {pc : Nat} (a b : UInt8) (h : DkAt code pc [180, a, b]) : decode code pc = .ok (.getfield (a.toNat * 256 + b.toNat), 3) := dk_of ((dk_bind (dk_u1 (h 0 _ rfl))).trans ((dk_bind (dk_u2 (h 1 _ rfl) (h 2 _ rfl))).trans rfl))
theorem dk_181 {code : ByteArray} {pc : Nat} (a b : UInt8) (h : DkAt code pc [181, a, b]) : decode code pc = .ok (.putfield (a.toNat * 256 + b.toNat), 3) := dk_of ((dk_bind (dk_u1 (h 0 _ rfl))).trans ((dk_bind (dk_u2 (h 1 _ rfl) (h 2 _ rfl))).trans rfl))
theorem dk_182 {code : ByteArray} {pc : Nat} (a b : UInt8) (h : DkAt code pc [182, a, b]) : decode code pc = .ok (.invokevirtual (a.toNat * 256 + b.toNat), 3) := dk_of ((dk_bind (dk_u1 (h 0 _ rfl))).trans ((dk_bind (dk_u2 (h 1 _ rfl) (h 2 _ rfl))).trans rfl))
theorem dk_183 {code : ByteArray} {pc : Nat} (a b : UInt8) (h : DkAt code pc [183, a, b]) : decode code pc = .ok (.invokespecial (a.toNat * 256 + b.toNat), 3) := dk_of ((dk_bind (dk_u1 (h 0 _ rfl))).trans ((dk_bind (dk_u2 (h 1 _ rfl) (h 2 _ rfl))).trans rfl))
theorem dk_184 {code : ByteArray} {pc : Nat} (a b : UInt8) (h : DkAt code pc [184, a, b]) : decode code pc = .ok (.invokestatic (a.toNat * 256 + b.toNat), 3) := dk_of ((dk_bind (dk_u1 (h 0 _ rfl))).trans ((dk_bind (dk_u2 (h 1 _ rfl) (h 2 _ rfl))).trans rfl))
theorem dk_187 {code : ByteArray} {pc : Nat} (a b : UInt8) (h : DkAt code pc [187, a, b]) : decode code pc = .ok (.new (a.toNat * 256 + b.toNat), 3) := dk_of ((dk_bind (dk_u1 (h 0 _ rfl))).trans ((dk_bind (dk_u2 (h 1 _ rfl) (h 2 _ rfl))).trans rfl))
theorem dk_188_10 {code : ByteArray} {pc : Nat} (h : DkAt code pc [188, 10]) : decode code pc = .ok (.newarray .int, 2) := dk_of ((dk_bind (dk_u1 (h 0 _ rfl))).trans ((dk_bind (dk_u1 (h 1 _ rfl))).trans rfl))
theorem dk_188_11 {code : ByteArray} {pc : Nat} (h : DkAt code pc [188, 11]) : decode code pc = .ok (.newarray .long, 2) := dk_of ((dk_bind (dk_u1 (h 0 _ rfl))).trans ((dk_bind (dk_u1 (h 1 _ rfl))).trans rfl))
theorem dk_189 {code : ByteArray} {pc : Nat} (a b : UInt8) (h : DkAt code pc [189, a, b]) : decode code pc = .ok (.anewarray (a.toNat * 256 + b.toNat), 3) := dk_of ((dk_bind (dk_u1 (h 0 _ rfl))).trans ((dk_bind (dk_u2 (h 1 _ rfl) (h 2 _ rfl))).trans rfl))
theorem dk_190 {code : ByteArray} {pc : Nat} (h : DkAt code pc [190]) : decode code pc = .ok (.arraylength, 1) := dk_of ((dk_bind (dk_u1 (h 0 _ rfl))).trans rfl)
theorem dk_191 {code : ByteArray} {pc : Nat} (h : DkAt code pc [191]) : decode code pc = .ok (.athrow, 1) := dk_of ((dk_bind (dk_u1 (h 0 _ rfl))).trans rfl)
theorem dk_192 {code : ByteArray} {pc : Nat} (a b : UInt8) (h : DkAt code pc [192, a, b]) : decode code pc = .ok (.checkcast (a.toNat * 256 + b.toNat), 3) := dk_of ((dk_bind (dk_u1 (h 0 _ rfl))).trans ((dk_bind (dk_u2 (h 1 _ rfl) (h 2 _ rfl))).trans rfl))
theorem dk_198 {code : ByteArray} {pc : Nat} (a b : UInt8) (h : DkAt code pc [198, a, b]) : decode code pc = .ok (.ifnull (Reader.signed 16 (a.toNat * 256 + b.toNat)), 3) := dk_of ((dk_bind (dk_u1 (h 0 _ rfl))).trans ((dk_bind (dk_map (dk_u2 (h 1 _ rfl) (h 2 _ rfl)))).trans rfl))
theorem dk_199 {code : ByteArray} {pc : Nat} (a b : UInt8) (h : DkAt code pc [199, a, b]) : decode code pc = .ok (.ifnonnull (Reader.signed 16 (a.toNat * 256 + b.toNat)), 3) := dk_of ((dk_bind (dk_u1 (h 0 _ rfl))).trans ((dk_bind (dk_map (dk_u2 (h 1 _ rfl) (h 2 _ rfl)))).trans rfl))
end
section
/-! BinaryTreeAddressableHeapDesk -/
set_option maxRecDepth 100000
def RX0 : String := "BinaryTreeAddressableHeapDesk"
def TX0 : u_T := fun k => match k with
  | 0 => ("BinaryTreeAddressableHeapDesk", "file", "[LBinaryTreeAddressableHeap;", true)
  | 1 => ("BinaryTreeAddressableHeapDesk", "ways", "[LAddressableHeap$Handle;", true)
  | 2 => ("BinaryTreeAddressableHeapDesk", "home", "[I", true)
  | _ => ("BinaryTreeAddressableHeapDesk", "next", "I", false)
def tyX0 : Nat → FieldType := fun k => match k with
  | 0 => .array (.object "BinaryTreeAddressableHeap")
  | 1 => .array (.object "AddressableHeap$Handle")
  | 2 => .array .int
  | _ => .int
abbrev wsX00 : List Cond := u_ws RX0 TX0 4
theorem nmX0 : ∀ a, a < 4 → ∀ b, b < 4 → a ≠ b → (TX0 a).2.1 ≠ (TX0 b).2.1 := by decide +kernel
theorem tyX0_ok : ∀ k, k < 4 → parseFieldDescriptor (TX0 k).2.2.1 = some (tyX0 k) := by decide +kernel
abbrev cX0_init : ByteArray := prog_5_method_1_code
def yX0_init : MethodName := ⟨RX0, "<init>", "()V"⟩
def dkwX0_init_1 : List UInt8 := [181, 0, 25, 177]
abbrev dktX0_init_1 : List UInt8 := dkwX0_init_1 ++ []
def dkwX0_init_0 : List UInt8 := [42, 183, 0, 1, 42, 184, 0, 7, 181, 0, 13, 42, 184, 0, 17, 181, 0, 21, 42, 16, 64, 188, 10]
abbrev dktX0_init_0 : List UInt8 := dkwX0_init_0 ++ dktX0_init_1
theorem dksX0_init_0 : cX0_init.data.toList.drop 0 = dktX0_init_0 := by decide +kernel
theorem dksX0_init_1 : cX0_init.data.toList.drop 23 = dktX0_init_1 := dk_seg dksX0_init_0 23 rfl rfl
theorem dX0_init_0 : decode cX0_init 0 = .ok (.aload_n 0, 1) := dk_42 (dk_at dksX0_init_0 0 rfl rfl)
theorem dX0_init_1 : decode cX0_init 1 = .ok (.invokespecial 1, 3) := dk_183 0 1 (dk_at dksX0_init_0 1 rfl rfl)
theorem dX0_init_4 : decode cX0_init 4 = .ok (.aload_n 0, 1) := dk_42 (dk_at dksX0_init_0 4 rfl rfl)
theorem dX0_init_5 : decode cX0_init 5 = .ok (.invokestatic 7, 3) := dk_184 0 7 (dk_at dksX0_init_0 5 rfl rfl)
theorem dX0_init_8 : decode cX0_init 8 = .ok (.putfield 13, 3) := dk_181 0 13 (dk_at dksX0_init_0 8 rfl rfl)
theorem dX0_init_11 : decode cX0_init 11 = .ok (.aload_n 0, 1) := dk_42 (dk_at dksX0_init_0 11 rfl rfl)
theorem dX0_init_12 : decode cX0_init 12 = .ok (.invokestatic 17, 3) := dk_184 0 17 (dk_at dksX0_init_0 12 rfl rfl)
theorem dX0_init_15 : decode cX0_init 15 = .ok (.putfield 21, 3) := dk_181 0 21 (dk_at dksX0_init_0 15 rfl rfl)
theorem dX0_init_18 : decode cX0_init 18 = .ok (.aload_n 0, 1) := dk_42 (dk_at dksX0_init_0 18 rfl rfl)
theorem dX0_init_19 : decode cX0_init 19 = .ok (.bipush 64, 2) := dk_16 64 (dk_at dksX0_init_0 19 rfl rfl)
theorem dX0_init_21 : decode cX0_init 21 = .ok (.newarray .int, 2) := dk_188_10 (dk_at dksX0_init_0 21 rfl rfl)
theorem dX0_init_23 : decode cX0_init 23 = .ok (.putfield 25, 3) := dk_181 0 25 (dk_at dksX0_init_1 0 rfl rfl)
theorem dX0_init_26 : decode cX0_init 26 = .ok (.return_, 1) := dk_177 (dk_at dksX0_init_1 3 rfl rfl)
abbrev cX0_make : ByteArray := prog_5_method_3_code
def yX0_make : MethodName := ⟨RX0, "make", "()[LBinaryTreeAddressableHeap;"⟩
def dkwX0_make_1 : List UInt8 := [167, 255, 241, 42, 176]
abbrev dktX0_make_1 : List UInt8 := dkwX0_make_1 ++ []
def dkwX0_make_0 : List UInt8 := [7, 189, 0, 35, 75, 3, 60, 27, 7, 162, 0, 16, 42, 27, 27, 184, 0, 37, 83, 132, 1, 1]
abbrev dktX0_make_0 : List UInt8 := dkwX0_make_0 ++ dktX0_make_1
theorem dksX0_make_0 : cX0_make.data.toList.drop 0 = dktX0_make_0 := by decide +kernel
theorem dksX0_make_1 : cX0_make.data.toList.drop 22 = dktX0_make_1 := dk_seg dksX0_make_0 22 rfl rfl
theorem dX0_make_0 : decode cX0_make 0 = .ok (.iconst 4, 1) := dk_7 (dk_at dksX0_make_0 0 rfl rfl)
theorem dX0_make_1 : decode cX0_make 1 = .ok (.anewarray 35, 3) := dk_189 0 35 (dk_at dksX0_make_0 1 rfl rfl)
theorem dX0_make_4 : decode cX0_make 4 = .ok (.astore_n 0, 1) := dk_75 (dk_at dksX0_make_0 4 rfl rfl)
theorem dX0_make_5 : decode cX0_make 5 = .ok (.iconst 0, 1) := dk_3 (dk_at dksX0_make_0 5 rfl rfl)
theorem dX0_make_6 : decode cX0_make 6 = .ok (.istore_n 1, 1) := dk_60 (dk_at dksX0_make_0 6 rfl rfl)
theorem dX0_make_7 : decode cX0_make 7 = .ok (.iload_n 1, 1) := dk_27 (dk_at dksX0_make_0 7 rfl rfl)
theorem dX0_make_8 : decode cX0_make 8 = .ok (.iconst 4, 1) := dk_7 (dk_at dksX0_make_0 8 rfl rfl)
theorem dX0_make_9 : decode cX0_make 9 = .ok (.if_icmp .ge 16, 3) := dk_162 0 16 (dk_at dksX0_make_0 9 rfl rfl)
theorem dX0_make_12 : decode cX0_make 12 = .ok (.aload_n 0, 1) := dk_42 (dk_at dksX0_make_0 12 rfl rfl)
theorem dX0_make_13 : decode cX0_make 13 = .ok (.iload_n 1, 1) := dk_27 (dk_at dksX0_make_0 13 rfl rfl)
theorem dX0_make_14 : decode cX0_make 14 = .ok (.iload_n 1, 1) := dk_27 (dk_at dksX0_make_0 14 rfl rfl)
theorem dX0_make_15 : decode cX0_make 15 = .ok (.invokestatic 37, 3) := dk_184 0 37 (dk_at dksX0_make_0 15 rfl rfl)
theorem dX0_make_18 : decode cX0_make 18 = .ok (.aastore, 1) := dk_83 (dk_at dksX0_make_0 18 rfl rfl)
theorem dX0_make_19 : decode cX0_make 19 = .ok (.iinc 1 1, 3) := dk_132 1 1 (dk_at dksX0_make_0 19 rfl rfl)
theorem dX0_make_22 : decode cX0_make 22 = .ok (.goto (-15), 3) := dk_167 255 241 (dk_at dksX0_make_1 0 rfl rfl)
theorem dX0_make_25 : decode cX0_make 25 = .ok (.aload_n 0, 1) := dk_42 (dk_at dksX0_make_1 3 rfl rfl)
theorem dX0_make_26 : decode cX0_make 26 = .ok (.areturn, 1) := dk_176 (dk_at dksX0_make_1 4 rfl rfl)
abbrev cX0_fresh : ByteArray := prog_5_method_4_code
def yX0_fresh : MethodName := ⟨RX0, "fresh", "(I)LBinaryTreeAddressableHeap;"⟩
def dkwX0_fresh_1 : List UInt8 := [183, 0, 46, 176]
abbrev dktX0_fresh_1 : List UInt8 := dkwX0_fresh_1 ++ []
def dkwX0_fresh_0 : List UInt8 := [26, 5, 162, 0, 13, 187, 0, 35, 89, 183, 0, 41, 167, 0, 13, 187, 0, 35, 89, 178, 0, 42]
abbrev dktX0_fresh_0 : List UInt8 := dkwX0_fresh_0 ++ dktX0_fresh_1
theorem dksX0_fresh_0 : cX0_fresh.data.toList.drop 0 = dktX0_fresh_0 := by decide +kernel
theorem dksX0_fresh_1 : cX0_fresh.data.toList.drop 22 = dktX0_fresh_1 := dk_seg dksX0_fresh_0 22 rfl rfl
theorem dX0_fresh_0 : decode cX0_fresh 0 = .ok (.iload_n 0, 1) := dk_26 (dk_at dksX0_fresh_0 0 rfl rfl)
theorem dX0_fresh_1 : decode cX0_fresh 1 = .ok (.iconst 2, 1) := dk_5 (dk_at dksX0_fresh_0 1 rfl rfl)
theorem dX0_fresh_2 : decode cX0_fresh 2 = .ok (.if_icmp .ge 13, 3) := dk_162 0 13 (dk_at dksX0_fresh_0 2 rfl rfl)
theorem dX0_fresh_5 : decode cX0_fresh 5 = .ok (.new 35, 3) := dk_187 0 35 (dk_at dksX0_fresh_0 5 rfl rfl)
theorem dX0_fresh_8 : decode cX0_fresh 8 = .ok (.dup, 1) := dk_89 (dk_at dksX0_fresh_0 8 rfl rfl)
theorem dX0_fresh_9 : decode cX0_fresh 9 = .ok (.invokespecial 41, 3) := dk_183 0 41 (dk_at dksX0_fresh_0 9 rfl rfl)
theorem dX0_fresh_12 : decode cX0_fresh 12 = .ok (.goto 13, 3) := dk_167 0 13 (dk_at dksX0_fresh_0 12 rfl rfl)
theorem dX0_fresh_15 : decode cX0_fresh 15 = .ok (.new 35, 3) := dk_187 0 35 (dk_at dksX0_fresh_0 15 rfl rfl)
theorem dX0_fresh_18 : decode cX0_fresh 18 = .ok (.dup, 1) := dk_89 (dk_at dksX0_fresh_0 18 rfl rfl)
theorem dX0_fresh_19 : decode cX0_fresh 19 = .ok (.getstatic 42, 3) := dk_178 0 42 (dk_at dksX0_fresh_0 19 rfl rfl)
theorem dX0_fresh_22 : decode cX0_fresh 22 = .ok (.invokespecial 46, 3) := dk_183 0 46 (dk_at dksX0_fresh_1 0 rfl rfl)
theorem dX0_fresh_25 : decode cX0_fresh 25 = .ok (.areturn, 1) := dk_176 (dk_at dksX0_fresh_1 3 rfl rfl)
abbrev cX0_rows : ByteArray := prog_5_method_5_code
def yX0_rows : MethodName := ⟨RX0, "rows", "()[LAddressableHeap$Handle;"⟩
theorem dX0_rows_0 : decode cX0_rows 0 = .ok (.bipush 64, 2) := by decide +kernel
theorem dX0_rows_2 : decode cX0_rows 2 = .ok (.anewarray 49, 3) := by decide +kernel
theorem dX0_rows_5 : decode cX0_rows 5 = .ok (.areturn, 1) := by decide +kernel
abbrev cX0_put : ByteArray := prog_5_method_6_code
def yX0_put : MethodName := ⟨RX0, "put", "(III)I"⟩
def dkwX0_put_3 : List UInt8 := [96, 181, 0, 51, 42, 180, 0, 51, 4, 100, 172]
abbrev dktX0_put_3 : List UInt8 := dkwX0_put_3 ++ []
def dkwX0_put_2 : List UInt8 := [182, 0, 60, 83, 42, 180, 0, 25, 42, 180, 0, 51, 4, 27, 6, 126, 96, 79, 42, 89, 180, 0, 51, 4]
abbrev dktX0_put_2 : List UInt8 := dkwX0_put_2 ++ dktX0_put_3
def dkwX0_put_1 : List UInt8 := [6, 126, 50, 28, 18, 55, 126, 16, 64, 104, 42, 180, 0, 51, 96, 184, 0, 56, 29, 184, 0, 56]
abbrev dktX0_put_1 : List UInt8 := dkwX0_put_1 ++ dktX0_put_2
def dkwX0_put_0 : List UInt8 := [42, 180, 0, 51, 16, 64, 161, 0, 5, 2, 172, 42, 180, 0, 21, 42, 180, 0, 51, 42, 180, 0, 13, 27]
abbrev dktX0_put_0 : List UInt8 := dkwX0_put_0 ++ dktX0_put_1
theorem dksX0_put_0 : cX0_put.data.toList.drop 0 = dktX0_put_0 := by decide +kernel
theorem dksX0_put_1 : cX0_put.data.toList.drop 24 = dktX0_put_1 := dk_seg dksX0_put_0 24 rfl rfl
theorem dksX0_put_2 : cX0_put.data.toList.drop 46 = dktX0_put_2 := dk_seg dksX0_put_1 22 rfl rfl
theorem dksX0_put_3 : cX0_put.data.toList.drop 70 = dktX0_put_3 := dk_seg dksX0_put_2 24 rfl rfl
theorem dX0_put_0 : decode cX0_put 0 = .ok (.aload_n 0, 1) := dk_42 (dk_at dksX0_put_0 0 rfl rfl)
theorem dX0_put_1 : decode cX0_put 1 = .ok (.getfield 51, 3) := dk_180 0 51 (dk_at dksX0_put_0 1 rfl rfl)
theorem dX0_put_4 : decode cX0_put 4 = .ok (.bipush 64, 2) := dk_16 64 (dk_at dksX0_put_0 4 rfl rfl)
theorem dX0_put_6 : decode cX0_put 6 = .ok (.if_icmp .lt 5, 3) := dk_161 0 5 (dk_at dksX0_put_0 6 rfl rfl)
theorem dX0_put_9 : decode cX0_put 9 = .ok (.iconst (-1), 1) := dk_2 (dk_at dksX0_put_0 9 rfl rfl)
theorem dX0_put_10 : decode cX0_put 10 = .ok (.ireturn, 1) := dk_172 (dk_at dksX0_put_0 10 rfl rfl)
theorem dX0_put_11 : decode cX0_put 11 = .ok (.aload_n 0, 1) := dk_42 (dk_at dksX0_put_0 11 rfl rfl)
theorem dX0_put_12 : decode cX0_put 12 = .ok (.getfield 21, 3) := dk_180 0 21 (dk_at dksX0_put_0 12 rfl rfl)
theorem dX0_put_15 : decode cX0_put 15 = .ok (.aload_n 0, 1) := dk_42 (dk_at dksX0_put_0 15 rfl rfl)
theorem dX0_put_16 : decode cX0_put 16 = .ok (.getfield 51, 3) := dk_180 0 51 (dk_at dksX0_put_0 16 rfl rfl)
theorem dX0_put_19 : decode cX0_put 19 = .ok (.aload_n 0, 1) := dk_42 (dk_at dksX0_put_0 19 rfl rfl)
theorem dX0_put_20 : decode cX0_put 20 = .ok (.getfield 13, 3) := dk_180 0 13 (dk_at dksX0_put_0 20 rfl rfl)
theorem dX0_put_23 : decode cX0_put 23 = .ok (.iload_n 1, 1) := dk_27 (dk_at dksX0_put_0 23 rfl rfl)
theorem dX0_put_24 : decode cX0_put 24 = .ok (.iconst 3, 1) := dk_6 (dk_at dksX0_put_1 0 rfl rfl)
theorem dX0_put_25 : decode cX0_put 25 = .ok (.iand, 1) := dk_126 (dk_at dksX0_put_1 1 rfl rfl)
theorem dX0_put_26 : decode cX0_put 26 = .ok (.aaload, 1) := dk_50 (dk_at dksX0_put_1 2 rfl rfl)
theorem dX0_put_27 : decode cX0_put 27 = .ok (.iload_n 2, 1) := dk_28 (dk_at dksX0_put_1 3 rfl rfl)
theorem dX0_put_28 : decode cX0_put 28 = .ok (.ldc 55, 2) := dk_18 55 (dk_at dksX0_put_1 4 rfl rfl)
theorem dX0_put_30 : decode cX0_put 30 = .ok (.iand, 1) := dk_126 (dk_at dksX0_put_1 6 rfl rfl)
theorem dX0_put_31 : decode cX0_put 31 = .ok (.bipush 64, 2) := dk_16 64 (dk_at dksX0_put_1 7 rfl rfl)
theorem dX0_put_33 : decode cX0_put 33 = .ok (.imul, 1) := dk_104 (dk_at dksX0_put_1 9 rfl rfl)
theorem dX0_put_34 : decode cX0_put 34 = .ok (.aload_n 0, 1) := dk_42 (dk_at dksX0_put_1 10 rfl rfl)
theorem dX0_put_35 : decode cX0_put 35 = .ok (.getfield 51, 3) := dk_180 0 51 (dk_at dksX0_put_1 11 rfl rfl)
theorem dX0_put_38 : decode cX0_put 38 = .ok (.iadd, 1) := dk_96 (dk_at dksX0_put_1 14 rfl rfl)
theorem dX0_put_39 : decode cX0_put 39 = .ok (.invokestatic 56, 3) := dk_184 0 56 (dk_at dksX0_put_1 15 rfl rfl)
theorem dX0_put_42 : decode cX0_put 42 = .ok (.iload_n 3, 1) := dk_29 (dk_at dksX0_put_1 18 rfl rfl)
theorem dX0_put_43 : decode cX0_put 43 = .ok (.invokestatic 56, 3) := dk_184 0 56 (dk_at dksX0_put_1 19 rfl rfl)
theorem dX0_put_46 : decode cX0_put 46 = .ok (.invokevirtual 60, 3) := dk_182 0 60 (dk_at dksX0_put_2 0 rfl rfl)
theorem dX0_put_49 : decode cX0_put 49 = .ok (.aastore, 1) := dk_83 (dk_at dksX0_put_2 3 rfl rfl)
theorem dX0_put_50 : decode cX0_put 50 = .ok (.aload_n 0, 1) := dk_42 (dk_at dksX0_put_2 4 rfl rfl)
theorem dX0_put_51 : decode cX0_put 51 = .ok (.getfield 25, 3) := dk_180 0 25 (dk_at dksX0_put_2 5 rfl rfl)
theorem dX0_put_54 : decode cX0_put 54 = .ok (.aload_n 0, 1) := dk_42 (dk_at dksX0_put_2 8 rfl rfl)
theorem dX0_put_55 : decode cX0_put 55 = .ok (.getfield 51, 3) := dk_180 0 51 (dk_at dksX0_put_2 9 rfl rfl)
theorem dX0_put_58 : decode cX0_put 58 = .ok (.iconst 1, 1) := dk_4 (dk_at dksX0_put_2 12 rfl rfl)
theorem dX0_put_59 : decode cX0_put 59 = .ok (.iload_n 1, 1) := dk_27 (dk_at dksX0_put_2 13 rfl rfl)
theorem dX0_put_60 : decode cX0_put 60 = .ok (.iconst 3, 1) := dk_6 (dk_at dksX0_put_2 14 rfl rfl)
theorem dX0_put_61 : decode cX0_put 61 = .ok (.iand, 1) := dk_126 (dk_at dksX0_put_2 15 rfl rfl)
theorem dX0_put_62 : decode cX0_put 62 = .ok (.iadd, 1) := dk_96 (dk_at dksX0_put_2 16 rfl rfl)
theorem dX0_put_63 : decode cX0_put 63 = .ok (.iastore, 1) := dk_79 (dk_at dksX0_put_2 17 rfl rfl)
theorem dX0_put_64 : decode cX0_put 64 = .ok (.aload_n 0, 1) := dk_42 (dk_at dksX0_put_2 18 rfl rfl)
theorem dX0_put_65 : decode cX0_put 65 = .ok (.dup, 1) := dk_89 (dk_at dksX0_put_2 19 rfl rfl)
theorem dX0_put_66 : decode cX0_put 66 = .ok (.getfield 51, 3) := dk_180 0 51 (dk_at dksX0_put_2 20 rfl rfl)
theorem dX0_put_69 : decode cX0_put 69 = .ok (.iconst 1, 1) := dk_4 (dk_at dksX0_put_2 23 rfl rfl)
theorem dX0_put_70 : decode cX0_put 70 = .ok (.iadd, 1) := dk_96 (dk_at dksX0_put_3 0 rfl rfl)
theorem dX0_put_71 : decode cX0_put 71 = .ok (.putfield 51, 3) := dk_181 0 51 (dk_at dksX0_put_3 1 rfl rfl)
theorem dX0_put_74 : decode cX0_put 74 = .ok (.aload_n 0, 1) := dk_42 (dk_at dksX0_put_3 4 rfl rfl)
theorem dX0_put_75 : decode cX0_put 75 = .ok (.getfield 51, 3) := dk_180 0 51 (dk_at dksX0_put_3 5 rfl rfl)
theorem dX0_put_78 : decode cX0_put 78 = .ok (.iconst 1, 1) := dk_4 (dk_at dksX0_put_3 8 rfl rfl)
theorem dX0_put_79 : decode cX0_put 79 = .ok (.isub, 1) := dk_100 (dk_at dksX0_put_3 9 rfl rfl)
theorem dX0_put_80 : decode cX0_put 80 = .ok (.ireturn, 1) := dk_172 (dk_at dksX0_put_3 10 rfl rfl)
abbrev cX0_order : ByteArray := prog_5_method_2_code
def yX0_order : MethodName := ⟨RX0, "order", "(Ljava/lang/Object;Ljava/lang/Object;)I"⟩
def dkwX0_order_1 : List UInt8 := [167, 0, 13, 28, 29, 164, 0, 7, 4, 167, 0, 4, 3, 172]
abbrev dktX0_order_1 : List UInt8 := dkwX0_order_1 ++ []
def dkwX0_order_0 : List UInt8 := [42, 192, 0, 29, 182, 0, 31, 61, 43, 192, 0, 29, 182, 0, 31, 62, 28, 29, 162, 0, 7, 2]
abbrev dktX0_order_0 : List UInt8 := dkwX0_order_0 ++ dktX0_order_1
theorem dksX0_order_0 : cX0_order.data.toList.drop 0 = dktX0_order_0 := by decide +kernel
theorem dksX0_order_1 : cX0_order.data.toList.drop 22 = dktX0_order_1 := dk_seg dksX0_order_0 22 rfl rfl
theorem dX0_order_0 : decode cX0_order 0 = .ok (.aload_n 0, 1) := dk_42 (dk_at dksX0_order_0 0 rfl rfl)
theorem dX0_order_1 : decode cX0_order 1 = .ok (.checkcast 29, 3) := dk_192 0 29 (dk_at dksX0_order_0 1 rfl rfl)
theorem dX0_order_4 : decode cX0_order 4 = .ok (.invokevirtual 31, 3) := dk_182 0 31 (dk_at dksX0_order_0 4 rfl rfl)
theorem dX0_order_7 : decode cX0_order 7 = .ok (.istore_n 2, 1) := dk_61 (dk_at dksX0_order_0 7 rfl rfl)
theorem dX0_order_8 : decode cX0_order 8 = .ok (.aload_n 1, 1) := dk_43 (dk_at dksX0_order_0 8 rfl rfl)
theorem dX0_order_9 : decode cX0_order 9 = .ok (.checkcast 29, 3) := dk_192 0 29 (dk_at dksX0_order_0 9 rfl rfl)
theorem dX0_order_12 : decode cX0_order 12 = .ok (.invokevirtual 31, 3) := dk_182 0 31 (dk_at dksX0_order_0 12 rfl rfl)
theorem dX0_order_15 : decode cX0_order 15 = .ok (.istore_n 3, 1) := dk_62 (dk_at dksX0_order_0 15 rfl rfl)
theorem dX0_order_16 : decode cX0_order 16 = .ok (.iload_n 2, 1) := dk_28 (dk_at dksX0_order_0 16 rfl rfl)
theorem dX0_order_17 : decode cX0_order 17 = .ok (.iload_n 3, 1) := dk_29 (dk_at dksX0_order_0 17 rfl rfl)
theorem dX0_order_18 : decode cX0_order 18 = .ok (.if_icmp .ge 7, 3) := dk_162 0 7 (dk_at dksX0_order_0 18 rfl rfl)
theorem dX0_order_21 : decode cX0_order 21 = .ok (.iconst (-1), 1) := dk_2 (dk_at dksX0_order_0 21 rfl rfl)
theorem dX0_order_22 : decode cX0_order 22 = .ok (.goto 13, 3) := dk_167 0 13 (dk_at dksX0_order_1 0 rfl rfl)
theorem dX0_order_25 : decode cX0_order 25 = .ok (.iload_n 2, 1) := dk_28 (dk_at dksX0_order_1 3 rfl rfl)
theorem dX0_order_26 : decode cX0_order 26 = .ok (.iload_n 3, 1) := dk_29 (dk_at dksX0_order_1 4 rfl rfl)
theorem dX0_order_27 : decode cX0_order 27 = .ok (.if_icmp .le 7, 3) := dk_164 0 7 (dk_at dksX0_order_1 5 rfl rfl)
theorem dX0_order_30 : decode cX0_order 30 = .ok (.iconst 1, 1) := dk_4 (dk_at dksX0_order_1 8 rfl rfl)
theorem dX0_order_31 : decode cX0_order 31 = .ok (.goto 4, 3) := dk_167 0 4 (dk_at dksX0_order_1 9 rfl rfl)
theorem dX0_order_34 : decode cX0_order 34 = .ok (.iconst 0, 1) := dk_3 (dk_at dksX0_order_1 12 rfl rfl)
theorem dX0_order_35 : decode cX0_order 35 = .ok (.ireturn, 1) := dk_172 (dk_at dksX0_order_1 13 rfl rfl)
abbrev cX0_least : ByteArray := prog_5_method_7_code
def yX0_least : MethodName := ⟨RX0, "least", "(I)I"⟩
def dkwX0_least_1 : List UInt8 := [185, 0, 72, 1, 0, 192, 0, 29, 182, 0, 31, 172]
abbrev dktX0_least_1 : List UInt8 := dkwX0_least_1 ++ []
def dkwX0_least_0 : List UInt8 := [42, 180, 0, 13, 27, 6, 126, 50, 77, 44, 182, 0, 64, 153, 0, 7, 2, 167, 0, 18, 44, 182, 0, 68]
abbrev dktX0_least_0 : List UInt8 := dkwX0_least_0 ++ dktX0_least_1
theorem dksX0_least_0 : cX0_least.data.toList.drop 0 = dktX0_least_0 := by decide +kernel
theorem dksX0_least_1 : cX0_least.data.toList.drop 24 = dktX0_least_1 := dk_seg dksX0_least_0 24 rfl rfl
theorem dX0_least_0 : decode cX0_least 0 = .ok (.aload_n 0, 1) := dk_42 (dk_at dksX0_least_0 0 rfl rfl)
theorem dX0_least_1 : decode cX0_least 1 = .ok (.getfield 13, 3) := dk_180 0 13 (dk_at dksX0_least_0 1 rfl rfl)
theorem dX0_least_4 : decode cX0_least 4 = .ok (.iload_n 1, 1) := dk_27 (dk_at dksX0_least_0 4 rfl rfl)
theorem dX0_least_5 : decode cX0_least 5 = .ok (.iconst 3, 1) := dk_6 (dk_at dksX0_least_0 5 rfl rfl)
theorem dX0_least_6 : decode cX0_least 6 = .ok (.iand, 1) := dk_126 (dk_at dksX0_least_0 6 rfl rfl)
theorem dX0_least_7 : decode cX0_least 7 = .ok (.aaload, 1) := dk_50 (dk_at dksX0_least_0 7 rfl rfl)
theorem dX0_least_8 : decode cX0_least 8 = .ok (.astore_n 2, 1) := dk_77 (dk_at dksX0_least_0 8 rfl rfl)
theorem dX0_least_9 : decode cX0_least 9 = .ok (.aload_n 2, 1) := dk_44 (dk_at dksX0_least_0 9 rfl rfl)
theorem dX0_least_10 : decode cX0_least 10 = .ok (.invokevirtual 64, 3) := dk_182 0 64 (dk_at dksX0_least_0 10 rfl rfl)
theorem dX0_least_13 : decode cX0_least 13 = .ok (.ifCond .eq 7, 3) := dk_153 0 7 (dk_at dksX0_least_0 13 rfl rfl)
theorem dX0_least_16 : decode cX0_least 16 = .ok (.iconst (-1), 1) := dk_2 (dk_at dksX0_least_0 16 rfl rfl)
theorem dX0_least_17 : decode cX0_least 17 = .ok (.goto 18, 3) := dk_167 0 18 (dk_at dksX0_least_0 17 rfl rfl)
theorem dX0_least_20 : decode cX0_least 20 = .ok (.aload_n 2, 1) := dk_44 (dk_at dksX0_least_0 20 rfl rfl)
theorem dX0_least_21 : decode cX0_least 21 = .ok (.invokevirtual 68, 3) := dk_182 0 68 (dk_at dksX0_least_0 21 rfl rfl)
theorem dX0_least_24 : decode cX0_least 24 = .ok (.invokeinterface 72 1, 5) := by decide +kernel
theorem dX0_least_29 : decode cX0_least 29 = .ok (.checkcast 29, 3) := dk_192 0 29 (dk_at dksX0_least_1 5 rfl rfl)
theorem dX0_least_32 : decode cX0_least 32 = .ok (.invokevirtual 31, 3) := dk_182 0 31 (dk_at dksX0_least_1 8 rfl rfl)
theorem dX0_least_35 : decode cX0_least 35 = .ok (.ireturn, 1) := dk_172 (dk_at dksX0_least_1 11 rfl rfl)
abbrev cX0_valueOfLeast : ByteArray := prog_5_method_8_code
def yX0_valueOfLeast : MethodName := ⟨RX0, "valueOfLeast", "(I)I"⟩
def dkwX0_valueOfLeast_1 : List UInt8 := [185, 0, 76, 1, 0, 192, 0, 29, 182, 0, 31, 172]
abbrev dktX0_valueOfLeast_1 : List UInt8 := dkwX0_valueOfLeast_1 ++ []
def dkwX0_valueOfLeast_0 : List UInt8 := [42, 180, 0, 13, 27, 6, 126, 50, 77, 44, 182, 0, 64, 153, 0, 7, 2, 167, 0, 18, 44, 182, 0, 68]
abbrev dktX0_valueOfLeast_0 : List UInt8 := dkwX0_valueOfLeast_0 ++ dktX0_valueOfLeast_1
theorem dksX0_valueOfLeast_0 : cX0_valueOfLeast.data.toList.drop 0 = dktX0_valueOfLeast_0 := by decide +kernel
theorem dksX0_valueOfLeast_1 : cX0_valueOfLeast.data.toList.drop 24 = dktX0_valueOfLeast_1 := dk_seg dksX0_valueOfLeast_0 24 rfl rfl
theorem dX0_valueOfLeast_0 : decode cX0_valueOfLeast 0 = .ok (.aload_n 0, 1) := dk_42 (dk_at dksX0_valueOfLeast_0 0 rfl rfl)
theorem dX0_valueOfLeast_1 : decode cX0_valueOfLeast 1 = .ok (.getfield 13, 3) := dk_180 0 13 (dk_at dksX0_valueOfLeast_0 1 rfl rfl)
theorem dX0_valueOfLeast_4 : decode cX0_valueOfLeast 4 = .ok (.iload_n 1, 1) := dk_27 (dk_at dksX0_valueOfLeast_0 4 rfl rfl)
theorem dX0_valueOfLeast_5 : decode cX0_valueOfLeast 5 = .ok (.iconst 3, 1) := dk_6 (dk_at dksX0_valueOfLeast_0 5 rfl rfl)
theorem dX0_valueOfLeast_6 : decode cX0_valueOfLeast 6 = .ok (.iand, 1) := dk_126 (dk_at dksX0_valueOfLeast_0 6 rfl rfl)
theorem dX0_valueOfLeast_7 : decode cX0_valueOfLeast 7 = .ok (.aaload, 1) := dk_50 (dk_at dksX0_valueOfLeast_0 7 rfl rfl)
theorem dX0_valueOfLeast_8 : decode cX0_valueOfLeast 8 = .ok (.astore_n 2, 1) := dk_77 (dk_at dksX0_valueOfLeast_0 8 rfl rfl)
theorem dX0_valueOfLeast_9 : decode cX0_valueOfLeast 9 = .ok (.aload_n 2, 1) := dk_44 (dk_at dksX0_valueOfLeast_0 9 rfl rfl)
theorem dX0_valueOfLeast_10 : decode cX0_valueOfLeast 10 = .ok (.invokevirtual 64, 3) := dk_182 0 64 (dk_at dksX0_valueOfLeast_0 10 rfl rfl)
theorem dX0_valueOfLeast_13 : decode cX0_valueOfLeast 13 = .ok (.ifCond .eq 7, 3) := dk_153 0 7 (dk_at dksX0_valueOfLeast_0 13 rfl rfl)
theorem dX0_valueOfLeast_16 : decode cX0_valueOfLeast 16 = .ok (.iconst (-1), 1) := dk_2 (dk_at dksX0_valueOfLeast_0 16 rfl rfl)
theorem dX0_valueOfLeast_17 : decode cX0_valueOfLeast 17 = .ok (.goto 18, 3) := dk_167 0 18 (dk_at dksX0_valueOfLeast_0 17 rfl rfl)
theorem dX0_valueOfLeast_20 : decode cX0_valueOfLeast 20 = .ok (.aload_n 2, 1) := dk_44 (dk_at dksX0_valueOfLeast_0 20 rfl rfl)
theorem dX0_valueOfLeast_21 : decode cX0_valueOfLeast 21 = .ok (.invokevirtual 68, 3) := dk_182 0 68 (dk_at dksX0_valueOfLeast_0 21 rfl rfl)
theorem dX0_valueOfLeast_24 : decode cX0_valueOfLeast 24 = .ok (.invokeinterface 76 1, 5) := by decide +kernel
theorem dX0_valueOfLeast_29 : decode cX0_valueOfLeast 29 = .ok (.checkcast 29, 3) := dk_192 0 29 (dk_at dksX0_valueOfLeast_1 5 rfl rfl)
theorem dX0_valueOfLeast_32 : decode cX0_valueOfLeast 32 = .ok (.invokevirtual 31, 3) := dk_182 0 31 (dk_at dksX0_valueOfLeast_1 8 rfl rfl)
theorem dX0_valueOfLeast_35 : decode cX0_valueOfLeast 35 = .ok (.ireturn, 1) := dk_172 (dk_at dksX0_valueOfLeast_1 11 rfl rfl)
abbrev cX0_takeLeast : ByteArray := prog_5_method_9_code
def yX0_takeLeast : MethodName := ⟨RX0, "takeLeast", "(I)I"⟩
def dkwX0_takeLeast_1 : List UInt8 := [185, 0, 72, 1, 0, 192, 0, 29, 182, 0, 31, 62, 42, 180, 0, 25, 29, 16, 63, 126, 3, 79, 29, 172]
abbrev dktX0_takeLeast_1 : List UInt8 := dkwX0_takeLeast_1 ++ []
def dkwX0_takeLeast_0 : List UInt8 := [42, 180, 0, 13, 27, 6, 126, 50, 77, 44, 182, 0, 64, 153, 0, 5, 2, 172, 44, 182, 0, 79]
abbrev dktX0_takeLeast_0 : List UInt8 := dkwX0_takeLeast_0 ++ dktX0_takeLeast_1
theorem dksX0_takeLeast_0 : cX0_takeLeast.data.toList.drop 0 = dktX0_takeLeast_0 := by decide +kernel
theorem dksX0_takeLeast_1 : cX0_takeLeast.data.toList.drop 22 = dktX0_takeLeast_1 := dk_seg dksX0_takeLeast_0 22 rfl rfl
theorem dX0_takeLeast_0 : decode cX0_takeLeast 0 = .ok (.aload_n 0, 1) := dk_42 (dk_at dksX0_takeLeast_0 0 rfl rfl)
theorem dX0_takeLeast_1 : decode cX0_takeLeast 1 = .ok (.getfield 13, 3) := dk_180 0 13 (dk_at dksX0_takeLeast_0 1 rfl rfl)
theorem dX0_takeLeast_4 : decode cX0_takeLeast 4 = .ok (.iload_n 1, 1) := dk_27 (dk_at dksX0_takeLeast_0 4 rfl rfl)
theorem dX0_takeLeast_5 : decode cX0_takeLeast 5 = .ok (.iconst 3, 1) := dk_6 (dk_at dksX0_takeLeast_0 5 rfl rfl)
theorem dX0_takeLeast_6 : decode cX0_takeLeast 6 = .ok (.iand, 1) := dk_126 (dk_at dksX0_takeLeast_0 6 rfl rfl)
theorem dX0_takeLeast_7 : decode cX0_takeLeast 7 = .ok (.aaload, 1) := dk_50 (dk_at dksX0_takeLeast_0 7 rfl rfl)
theorem dX0_takeLeast_8 : decode cX0_takeLeast 8 = .ok (.astore_n 2, 1) := dk_77 (dk_at dksX0_takeLeast_0 8 rfl rfl)
theorem dX0_takeLeast_9 : decode cX0_takeLeast 9 = .ok (.aload_n 2, 1) := dk_44 (dk_at dksX0_takeLeast_0 9 rfl rfl)
theorem dX0_takeLeast_10 : decode cX0_takeLeast 10 = .ok (.invokevirtual 64, 3) := dk_182 0 64 (dk_at dksX0_takeLeast_0 10 rfl rfl)
theorem dX0_takeLeast_13 : decode cX0_takeLeast 13 = .ok (.ifCond .eq 5, 3) := dk_153 0 5 (dk_at dksX0_takeLeast_0 13 rfl rfl)
theorem dX0_takeLeast_16 : decode cX0_takeLeast 16 = .ok (.iconst (-1), 1) := dk_2 (dk_at dksX0_takeLeast_0 16 rfl rfl)
theorem dX0_takeLeast_17 : decode cX0_takeLeast 17 = .ok (.ireturn, 1) := dk_172 (dk_at dksX0_takeLeast_0 17 rfl rfl)
theorem dX0_takeLeast_18 : decode cX0_takeLeast 18 = .ok (.aload_n 2, 1) := dk_44 (dk_at dksX0_takeLeast_0 18 rfl rfl)
theorem dX0_takeLeast_19 : decode cX0_takeLeast 19 = .ok (.invokevirtual 79, 3) := dk_182 0 79 (dk_at dksX0_takeLeast_0 19 rfl rfl)
theorem dX0_takeLeast_22 : decode cX0_takeLeast 22 = .ok (.invokeinterface 72 1, 5) := by decide +kernel
theorem dX0_takeLeast_27 : decode cX0_takeLeast 27 = .ok (.checkcast 29, 3) := dk_192 0 29 (dk_at dksX0_takeLeast_1 5 rfl rfl)
theorem dX0_takeLeast_30 : decode cX0_takeLeast 30 = .ok (.invokevirtual 31, 3) := dk_182 0 31 (dk_at dksX0_takeLeast_1 8 rfl rfl)
theorem dX0_takeLeast_33 : decode cX0_takeLeast 33 = .ok (.istore_n 3, 1) := dk_62 (dk_at dksX0_takeLeast_1 11 rfl rfl)
theorem dX0_takeLeast_34 : decode cX0_takeLeast 34 = .ok (.aload_n 0, 1) := dk_42 (dk_at dksX0_takeLeast_1 12 rfl rfl)
theorem dX0_takeLeast_35 : decode cX0_takeLeast 35 = .ok (.getfield 25, 3) := dk_180 0 25 (dk_at dksX0_takeLeast_1 13 rfl rfl)
theorem dX0_takeLeast_38 : decode cX0_takeLeast 38 = .ok (.iload_n 3, 1) := dk_29 (dk_at dksX0_takeLeast_1 16 rfl rfl)
theorem dX0_takeLeast_39 : decode cX0_takeLeast 39 = .ok (.bipush 63, 2) := dk_16 63 (dk_at dksX0_takeLeast_1 17 rfl rfl)
theorem dX0_takeLeast_41 : decode cX0_takeLeast 41 = .ok (.iand, 1) := dk_126 (dk_at dksX0_takeLeast_1 19 rfl rfl)
theorem dX0_takeLeast_42 : decode cX0_takeLeast 42 = .ok (.iconst 0, 1) := dk_3 (dk_at dksX0_takeLeast_1 20 rfl rfl)
theorem dX0_takeLeast_43 : decode cX0_takeLeast 43 = .ok (.iastore, 1) := dk_79 (dk_at dksX0_takeLeast_1 21 rfl rfl)
theorem dX0_takeLeast_44 : decode cX0_takeLeast 44 = .ok (.iload_n 3, 1) := dk_29 (dk_at dksX0_takeLeast_1 22 rfl rfl)
theorem dX0_takeLeast_45 : decode cX0_takeLeast 45 = .ok (.ireturn, 1) := dk_172 (dk_at dksX0_takeLeast_1 23 rfl rfl)
abbrev cX0_lower : ByteArray := prog_5_method_11_code
def yX0_lower : MethodName := ⟨RX0, "lower", "(II)Z"⟩
def dkwX0_lower_4 : List UInt8 := [180, 0, 21, 29, 50, 21, 4, 184, 0, 56, 185, 0, 87, 2, 0, 4, 172]
abbrev dktX0_lower_4 : List UInt8 := dkwX0_lower_4 ++ []
def dkwX0_lower_3 : List UInt8 := [180, 0, 21, 29, 50, 185, 0, 72, 1, 0, 192, 0, 29, 182, 0, 31, 162, 0, 5, 3, 172, 42]
abbrev dktX0_lower_3 : List UInt8 := dkwX0_lower_3 ++ dktX0_lower_4
def dkwX0_lower_2 : List UInt8 := [29, 50, 185, 0, 72, 1, 0, 192, 0, 29, 182, 0, 31, 164, 0, 30, 167, 0, 25, 21, 4, 42]
abbrev dktX0_lower_2 : List UInt8 := dkwX0_lower_2 ++ dktX0_lower_3
def dkwX0_lower_1 : List UInt8 := [126, 16, 64, 104, 29, 96, 54, 4, 42, 180, 0, 25, 29, 46, 6, 162, 0, 28, 21, 4, 42, 180, 0, 21]
abbrev dktX0_lower_1 : List UInt8 := dkwX0_lower_1 ++ dktX0_lower_2
def dkwX0_lower_0 : List UInt8 := [42, 27, 182, 0, 83, 62, 29, 155, 0, 12, 42, 180, 0, 25, 29, 46, 154, 0, 5, 3, 172, 28, 18, 55]
abbrev dktX0_lower_0 : List UInt8 := dkwX0_lower_0 ++ dktX0_lower_1
theorem dksX0_lower_0 : cX0_lower.data.toList.drop 0 = dktX0_lower_0 := by decide +kernel
theorem dksX0_lower_1 : cX0_lower.data.toList.drop 24 = dktX0_lower_1 := dk_seg dksX0_lower_0 24 rfl rfl
theorem dksX0_lower_2 : cX0_lower.data.toList.drop 48 = dktX0_lower_2 := dk_seg dksX0_lower_1 24 rfl rfl
theorem dksX0_lower_3 : cX0_lower.data.toList.drop 70 = dktX0_lower_3 := dk_seg dksX0_lower_2 22 rfl rfl
theorem dksX0_lower_4 : cX0_lower.data.toList.drop 92 = dktX0_lower_4 := dk_seg dksX0_lower_3 22 rfl rfl
theorem dX0_lower_0 : decode cX0_lower 0 = .ok (.aload_n 0, 1) := dk_42 (dk_at dksX0_lower_0 0 rfl rfl)
theorem dX0_lower_1 : decode cX0_lower 1 = .ok (.iload_n 1, 1) := dk_27 (dk_at dksX0_lower_0 1 rfl rfl)
theorem dX0_lower_2 : decode cX0_lower 2 = .ok (.invokevirtual 83, 3) := dk_182 0 83 (dk_at dksX0_lower_0 2 rfl rfl)
theorem dX0_lower_5 : decode cX0_lower 5 = .ok (.istore_n 3, 1) := dk_62 (dk_at dksX0_lower_0 5 rfl rfl)
theorem dX0_lower_6 : decode cX0_lower 6 = .ok (.iload_n 3, 1) := dk_29 (dk_at dksX0_lower_0 6 rfl rfl)
theorem dX0_lower_7 : decode cX0_lower 7 = .ok (.ifCond .lt 12, 3) := dk_155 0 12 (dk_at dksX0_lower_0 7 rfl rfl)
theorem dX0_lower_10 : decode cX0_lower 10 = .ok (.aload_n 0, 1) := dk_42 (dk_at dksX0_lower_0 10 rfl rfl)
theorem dX0_lower_11 : decode cX0_lower 11 = .ok (.getfield 25, 3) := dk_180 0 25 (dk_at dksX0_lower_0 11 rfl rfl)
theorem dX0_lower_14 : decode cX0_lower 14 = .ok (.iload_n 3, 1) := dk_29 (dk_at dksX0_lower_0 14 rfl rfl)
theorem dX0_lower_15 : decode cX0_lower 15 = .ok (.iaload, 1) := dk_46 (dk_at dksX0_lower_0 15 rfl rfl)
theorem dX0_lower_16 : decode cX0_lower 16 = .ok (.ifCond .ne 5, 3) := dk_154 0 5 (dk_at dksX0_lower_0 16 rfl rfl)
theorem dX0_lower_19 : decode cX0_lower 19 = .ok (.iconst 0, 1) := dk_3 (dk_at dksX0_lower_0 19 rfl rfl)
theorem dX0_lower_20 : decode cX0_lower 20 = .ok (.ireturn, 1) := dk_172 (dk_at dksX0_lower_0 20 rfl rfl)
theorem dX0_lower_21 : decode cX0_lower 21 = .ok (.iload_n 2, 1) := dk_28 (dk_at dksX0_lower_0 21 rfl rfl)
theorem dX0_lower_22 : decode cX0_lower 22 = .ok (.ldc 55, 2) := dk_18 55 (dk_at dksX0_lower_0 22 rfl rfl)
theorem dX0_lower_24 : decode cX0_lower 24 = .ok (.iand, 1) := dk_126 (dk_at dksX0_lower_1 0 rfl rfl)
theorem dX0_lower_25 : decode cX0_lower 25 = .ok (.bipush 64, 2) := dk_16 64 (dk_at dksX0_lower_1 1 rfl rfl)
theorem dX0_lower_27 : decode cX0_lower 27 = .ok (.imul, 1) := dk_104 (dk_at dksX0_lower_1 3 rfl rfl)
theorem dX0_lower_28 : decode cX0_lower 28 = .ok (.iload_n 3, 1) := dk_29 (dk_at dksX0_lower_1 4 rfl rfl)
theorem dX0_lower_29 : decode cX0_lower 29 = .ok (.iadd, 1) := dk_96 (dk_at dksX0_lower_1 5 rfl rfl)
theorem dX0_lower_30 : decode cX0_lower 30 = .ok (.istore 4, 2) := dk_54 4 (dk_at dksX0_lower_1 6 rfl rfl)
theorem dX0_lower_32 : decode cX0_lower 32 = .ok (.aload_n 0, 1) := dk_42 (dk_at dksX0_lower_1 8 rfl rfl)
theorem dX0_lower_33 : decode cX0_lower 33 = .ok (.getfield 25, 3) := dk_180 0 25 (dk_at dksX0_lower_1 9 rfl rfl)
theorem dX0_lower_36 : decode cX0_lower 36 = .ok (.iload_n 3, 1) := dk_29 (dk_at dksX0_lower_1 12 rfl rfl)
theorem dX0_lower_37 : decode cX0_lower 37 = .ok (.iaload, 1) := dk_46 (dk_at dksX0_lower_1 13 rfl rfl)
theorem dX0_lower_38 : decode cX0_lower 38 = .ok (.iconst 3, 1) := dk_6 (dk_at dksX0_lower_1 14 rfl rfl)
theorem dX0_lower_39 : decode cX0_lower 39 = .ok (.if_icmp .ge 28, 3) := dk_162 0 28 (dk_at dksX0_lower_1 15 rfl rfl)
theorem dX0_lower_42 : decode cX0_lower 42 = .ok (.iload 4, 2) := dk_21 4 (dk_at dksX0_lower_1 18 rfl rfl)
theorem dX0_lower_44 : decode cX0_lower 44 = .ok (.aload_n 0, 1) := dk_42 (dk_at dksX0_lower_1 20 rfl rfl)
theorem dX0_lower_45 : decode cX0_lower 45 = .ok (.getfield 21, 3) := dk_180 0 21 (dk_at dksX0_lower_1 21 rfl rfl)
theorem dX0_lower_48 : decode cX0_lower 48 = .ok (.iload_n 3, 1) := dk_29 (dk_at dksX0_lower_2 0 rfl rfl)
theorem dX0_lower_49 : decode cX0_lower 49 = .ok (.aaload, 1) := dk_50 (dk_at dksX0_lower_2 1 rfl rfl)
theorem dX0_lower_50 : decode cX0_lower 50 = .ok (.invokeinterface 72 1, 5) := by decide +kernel
theorem dX0_lower_55 : decode cX0_lower 55 = .ok (.checkcast 29, 3) := dk_192 0 29 (dk_at dksX0_lower_2 7 rfl rfl)
theorem dX0_lower_58 : decode cX0_lower 58 = .ok (.invokevirtual 31, 3) := dk_182 0 31 (dk_at dksX0_lower_2 10 rfl rfl)
theorem dX0_lower_61 : decode cX0_lower 61 = .ok (.if_icmp .le 30, 3) := dk_164 0 30 (dk_at dksX0_lower_2 13 rfl rfl)
theorem dX0_lower_64 : decode cX0_lower 64 = .ok (.goto 25, 3) := dk_167 0 25 (dk_at dksX0_lower_2 16 rfl rfl)
theorem dX0_lower_67 : decode cX0_lower 67 = .ok (.iload 4, 2) := dk_21 4 (dk_at dksX0_lower_2 19 rfl rfl)
theorem dX0_lower_69 : decode cX0_lower 69 = .ok (.aload_n 0, 1) := dk_42 (dk_at dksX0_lower_2 21 rfl rfl)
theorem dX0_lower_70 : decode cX0_lower 70 = .ok (.getfield 21, 3) := dk_180 0 21 (dk_at dksX0_lower_3 0 rfl rfl)
theorem dX0_lower_73 : decode cX0_lower 73 = .ok (.iload_n 3, 1) := dk_29 (dk_at dksX0_lower_3 3 rfl rfl)
theorem dX0_lower_74 : decode cX0_lower 74 = .ok (.aaload, 1) := dk_50 (dk_at dksX0_lower_3 4 rfl rfl)
theorem dX0_lower_75 : decode cX0_lower 75 = .ok (.invokeinterface 72 1, 5) := by decide +kernel
theorem dX0_lower_80 : decode cX0_lower 80 = .ok (.checkcast 29, 3) := dk_192 0 29 (dk_at dksX0_lower_3 10 rfl rfl)
theorem dX0_lower_83 : decode cX0_lower 83 = .ok (.invokevirtual 31, 3) := dk_182 0 31 (dk_at dksX0_lower_3 13 rfl rfl)
theorem dX0_lower_86 : decode cX0_lower 86 = .ok (.if_icmp .ge 5, 3) := dk_162 0 5 (dk_at dksX0_lower_3 16 rfl rfl)
theorem dX0_lower_89 : decode cX0_lower 89 = .ok (.iconst 0, 1) := dk_3 (dk_at dksX0_lower_3 19 rfl rfl)
theorem dX0_lower_90 : decode cX0_lower 90 = .ok (.ireturn, 1) := dk_172 (dk_at dksX0_lower_3 20 rfl rfl)
theorem dX0_lower_91 : decode cX0_lower 91 = .ok (.aload_n 0, 1) := dk_42 (dk_at dksX0_lower_3 21 rfl rfl)
theorem dX0_lower_92 : decode cX0_lower 92 = .ok (.getfield 21, 3) := dk_180 0 21 (dk_at dksX0_lower_4 0 rfl rfl)
theorem dX0_lower_95 : decode cX0_lower 95 = .ok (.iload_n 3, 1) := dk_29 (dk_at dksX0_lower_4 3 rfl rfl)
theorem dX0_lower_96 : decode cX0_lower 96 = .ok (.aaload, 1) := dk_50 (dk_at dksX0_lower_4 4 rfl rfl)
theorem dX0_lower_97 : decode cX0_lower 97 = .ok (.iload 4, 2) := dk_21 4 (dk_at dksX0_lower_4 5 rfl rfl)
theorem dX0_lower_99 : decode cX0_lower 99 = .ok (.invokestatic 56, 3) := dk_184 0 56 (dk_at dksX0_lower_4 7 rfl rfl)
theorem dX0_lower_102 : decode cX0_lower 102 = .ok (.invokeinterface 87 2, 5) := by decide +kernel
theorem dX0_lower_107 : decode cX0_lower 107 = .ok (.iconst 1, 1) := dk_4 (dk_at dksX0_lower_4 15 rfl rfl)
theorem dX0_lower_108 : decode cX0_lower 108 = .ok (.ireturn, 1) := dk_172 (dk_at dksX0_lower_4 16 rfl rfl)
abbrev cX0_in : ByteArray := prog_5_method_10_code
def yX0_in : MethodName := ⟨RX0, "in", "(I)I"⟩
def dkwX0_in_0 : List UInt8 := [42, 180, 0, 51, 154, 0, 7, 2, 167, 0, 12, 27, 18, 82, 126, 42, 180, 0, 51, 112, 172]
abbrev dktX0_in_0 : List UInt8 := dkwX0_in_0 ++ []
theorem dksX0_in_0 : cX0_in.data.toList.drop 0 = dktX0_in_0 := by decide +kernel
theorem dX0_in_0 : decode cX0_in 0 = .ok (.aload_n 0, 1) := dk_42 (dk_at dksX0_in_0 0 rfl rfl)
theorem dX0_in_1 : decode cX0_in 1 = .ok (.getfield 51, 3) := dk_180 0 51 (dk_at dksX0_in_0 1 rfl rfl)
theorem dX0_in_4 : decode cX0_in 4 = .ok (.ifCond .ne 7, 3) := dk_154 0 7 (dk_at dksX0_in_0 4 rfl rfl)
theorem dX0_in_7 : decode cX0_in 7 = .ok (.iconst (-1), 1) := dk_2 (dk_at dksX0_in_0 7 rfl rfl)
theorem dX0_in_8 : decode cX0_in 8 = .ok (.goto 12, 3) := dk_167 0 12 (dk_at dksX0_in_0 8 rfl rfl)
theorem dX0_in_11 : decode cX0_in 11 = .ok (.iload_n 1, 1) := dk_27 (dk_at dksX0_in_0 11 rfl rfl)
theorem dX0_in_12 : decode cX0_in 12 = .ok (.ldc 82, 2) := dk_18 82 (dk_at dksX0_in_0 12 rfl rfl)
theorem dX0_in_14 : decode cX0_in 14 = .ok (.iand, 1) := dk_126 (dk_at dksX0_in_0 14 rfl rfl)
theorem dX0_in_15 : decode cX0_in 15 = .ok (.aload_n 0, 1) := dk_42 (dk_at dksX0_in_0 15 rfl rfl)
theorem dX0_in_16 : decode cX0_in 16 = .ok (.getfield 51, 3) := dk_180 0 51 (dk_at dksX0_in_0 16 rfl rfl)
theorem dX0_in_19 : decode cX0_in 19 = .ok (.irem, 1) := dk_112 (dk_at dksX0_in_0 19 rfl rfl)
theorem dX0_in_20 : decode cX0_in 20 = .ok (.ireturn, 1) := dk_172 (dk_at dksX0_in_0 20 rfl rfl)
abbrev cX0_drop : ByteArray := prog_5_method_12_code
def yX0_drop : MethodName := ⟨RX0, "drop", "(I)Z"⟩
def dkwX0_drop_1 : List UInt8 := [180, 0, 21, 28, 50, 185, 0, 91, 1, 0, 42, 180, 0, 25, 28, 3, 79, 4, 172]
abbrev dktX0_drop_1 : List UInt8 := dkwX0_drop_1 ++ []
def dkwX0_drop_0 : List UInt8 := [42, 27, 182, 0, 83, 61, 28, 155, 0, 12, 42, 180, 0, 25, 28, 46, 154, 0, 5, 3, 172, 42]
abbrev dktX0_drop_0 : List UInt8 := dkwX0_drop_0 ++ dktX0_drop_1
theorem dksX0_drop_0 : cX0_drop.data.toList.drop 0 = dktX0_drop_0 := by decide +kernel
theorem dksX0_drop_1 : cX0_drop.data.toList.drop 22 = dktX0_drop_1 := dk_seg dksX0_drop_0 22 rfl rfl
theorem dX0_drop_0 : decode cX0_drop 0 = .ok (.aload_n 0, 1) := dk_42 (dk_at dksX0_drop_0 0 rfl rfl)
theorem dX0_drop_1 : decode cX0_drop 1 = .ok (.iload_n 1, 1) := dk_27 (dk_at dksX0_drop_0 1 rfl rfl)
theorem dX0_drop_2 : decode cX0_drop 2 = .ok (.invokevirtual 83, 3) := dk_182 0 83 (dk_at dksX0_drop_0 2 rfl rfl)
theorem dX0_drop_5 : decode cX0_drop 5 = .ok (.istore_n 2, 1) := dk_61 (dk_at dksX0_drop_0 5 rfl rfl)
theorem dX0_drop_6 : decode cX0_drop 6 = .ok (.iload_n 2, 1) := dk_28 (dk_at dksX0_drop_0 6 rfl rfl)
theorem dX0_drop_7 : decode cX0_drop 7 = .ok (.ifCond .lt 12, 3) := dk_155 0 12 (dk_at dksX0_drop_0 7 rfl rfl)
theorem dX0_drop_10 : decode cX0_drop 10 = .ok (.aload_n 0, 1) := dk_42 (dk_at dksX0_drop_0 10 rfl rfl)
theorem dX0_drop_11 : decode cX0_drop 11 = .ok (.getfield 25, 3) := dk_180 0 25 (dk_at dksX0_drop_0 11 rfl rfl)
theorem dX0_drop_14 : decode cX0_drop 14 = .ok (.iload_n 2, 1) := dk_28 (dk_at dksX0_drop_0 14 rfl rfl)
theorem dX0_drop_15 : decode cX0_drop 15 = .ok (.iaload, 1) := dk_46 (dk_at dksX0_drop_0 15 rfl rfl)
theorem dX0_drop_16 : decode cX0_drop 16 = .ok (.ifCond .ne 5, 3) := dk_154 0 5 (dk_at dksX0_drop_0 16 rfl rfl)
theorem dX0_drop_19 : decode cX0_drop 19 = .ok (.iconst 0, 1) := dk_3 (dk_at dksX0_drop_0 19 rfl rfl)
theorem dX0_drop_20 : decode cX0_drop 20 = .ok (.ireturn, 1) := dk_172 (dk_at dksX0_drop_0 20 rfl rfl)
theorem dX0_drop_21 : decode cX0_drop 21 = .ok (.aload_n 0, 1) := dk_42 (dk_at dksX0_drop_0 21 rfl rfl)
theorem dX0_drop_22 : decode cX0_drop 22 = .ok (.getfield 21, 3) := dk_180 0 21 (dk_at dksX0_drop_1 0 rfl rfl)
theorem dX0_drop_25 : decode cX0_drop 25 = .ok (.iload_n 2, 1) := dk_28 (dk_at dksX0_drop_1 3 rfl rfl)
theorem dX0_drop_26 : decode cX0_drop 26 = .ok (.aaload, 1) := dk_50 (dk_at dksX0_drop_1 4 rfl rfl)
theorem dX0_drop_27 : decode cX0_drop 27 = .ok (.invokeinterface 91 1, 5) := by decide +kernel
theorem dX0_drop_32 : decode cX0_drop 32 = .ok (.aload_n 0, 1) := dk_42 (dk_at dksX0_drop_1 10 rfl rfl)
theorem dX0_drop_33 : decode cX0_drop 33 = .ok (.getfield 25, 3) := dk_180 0 25 (dk_at dksX0_drop_1 11 rfl rfl)
theorem dX0_drop_36 : decode cX0_drop 36 = .ok (.iload_n 2, 1) := dk_28 (dk_at dksX0_drop_1 14 rfl rfl)
theorem dX0_drop_37 : decode cX0_drop 37 = .ok (.iconst 0, 1) := dk_3 (dk_at dksX0_drop_1 15 rfl rfl)
theorem dX0_drop_38 : decode cX0_drop 38 = .ok (.iastore, 1) := dk_79 (dk_at dksX0_drop_1 16 rfl rfl)
theorem dX0_drop_39 : decode cX0_drop 39 = .ok (.iconst 1, 1) := dk_4 (dk_at dksX0_drop_1 17 rfl rfl)
theorem dX0_drop_40 : decode cX0_drop 40 = .ok (.ireturn, 1) := dk_172 (dk_at dksX0_drop_1 18 rfl rfl)
abbrev cX0_change : ByteArray := prog_5_method_13_code
def yX0_change : MethodName := ⟨RX0, "change", "(II)Z"⟩
def dkwX0_change_1 : List UInt8 := [180, 0, 21, 29, 50, 28, 184, 0, 56, 185, 0, 94, 2, 0, 4, 172]
abbrev dktX0_change_1 : List UInt8 := dkwX0_change_1 ++ []
def dkwX0_change_0 : List UInt8 := [42, 27, 182, 0, 83, 62, 29, 155, 0, 12, 42, 180, 0, 25, 29, 46, 154, 0, 5, 3, 172, 42]
abbrev dktX0_change_0 : List UInt8 := dkwX0_change_0 ++ dktX0_change_1
theorem dksX0_change_0 : cX0_change.data.toList.drop 0 = dktX0_change_0 := by decide +kernel
theorem dksX0_change_1 : cX0_change.data.toList.drop 22 = dktX0_change_1 := dk_seg dksX0_change_0 22 rfl rfl
theorem dX0_change_0 : decode cX0_change 0 = .ok (.aload_n 0, 1) := dk_42 (dk_at dksX0_change_0 0 rfl rfl)
theorem dX0_change_1 : decode cX0_change 1 = .ok (.iload_n 1, 1) := dk_27 (dk_at dksX0_change_0 1 rfl rfl)
theorem dX0_change_2 : decode cX0_change 2 = .ok (.invokevirtual 83, 3) := dk_182 0 83 (dk_at dksX0_change_0 2 rfl rfl)
theorem dX0_change_5 : decode cX0_change 5 = .ok (.istore_n 3, 1) := dk_62 (dk_at dksX0_change_0 5 rfl rfl)
theorem dX0_change_6 : decode cX0_change 6 = .ok (.iload_n 3, 1) := dk_29 (dk_at dksX0_change_0 6 rfl rfl)
theorem dX0_change_7 : decode cX0_change 7 = .ok (.ifCond .lt 12, 3) := dk_155 0 12 (dk_at dksX0_change_0 7 rfl rfl)
theorem dX0_change_10 : decode cX0_change 10 = .ok (.aload_n 0, 1) := dk_42 (dk_at dksX0_change_0 10 rfl rfl)
theorem dX0_change_11 : decode cX0_change 11 = .ok (.getfield 25, 3) := dk_180 0 25 (dk_at dksX0_change_0 11 rfl rfl)
theorem dX0_change_14 : decode cX0_change 14 = .ok (.iload_n 3, 1) := dk_29 (dk_at dksX0_change_0 14 rfl rfl)
theorem dX0_change_15 : decode cX0_change 15 = .ok (.iaload, 1) := dk_46 (dk_at dksX0_change_0 15 rfl rfl)
theorem dX0_change_16 : decode cX0_change 16 = .ok (.ifCond .ne 5, 3) := dk_154 0 5 (dk_at dksX0_change_0 16 rfl rfl)
theorem dX0_change_19 : decode cX0_change 19 = .ok (.iconst 0, 1) := dk_3 (dk_at dksX0_change_0 19 rfl rfl)
theorem dX0_change_20 : decode cX0_change 20 = .ok (.ireturn, 1) := dk_172 (dk_at dksX0_change_0 20 rfl rfl)
theorem dX0_change_21 : decode cX0_change 21 = .ok (.aload_n 0, 1) := dk_42 (dk_at dksX0_change_0 21 rfl rfl)
theorem dX0_change_22 : decode cX0_change 22 = .ok (.getfield 21, 3) := dk_180 0 21 (dk_at dksX0_change_1 0 rfl rfl)
theorem dX0_change_25 : decode cX0_change 25 = .ok (.iload_n 3, 1) := dk_29 (dk_at dksX0_change_1 3 rfl rfl)
theorem dX0_change_26 : decode cX0_change 26 = .ok (.aaload, 1) := dk_50 (dk_at dksX0_change_1 4 rfl rfl)
theorem dX0_change_27 : decode cX0_change 27 = .ok (.iload_n 2, 1) := dk_28 (dk_at dksX0_change_1 5 rfl rfl)
theorem dX0_change_28 : decode cX0_change 28 = .ok (.invokestatic 56, 3) := dk_184 0 56 (dk_at dksX0_change_1 6 rfl rfl)
theorem dX0_change_31 : decode cX0_change 31 = .ok (.invokeinterface 94 2, 5) := by decide +kernel
theorem dX0_change_36 : decode cX0_change 36 = .ok (.iconst 1, 1) := dk_4 (dk_at dksX0_change_1 14 rfl rfl)
theorem dX0_change_37 : decode cX0_change 37 = .ok (.ireturn, 1) := dk_172 (dk_at dksX0_change_1 15 rfl rfl)
abbrev cX0_key : ByteArray := prog_5_method_14_code
def yX0_key : MethodName := ⟨RX0, "key", "(I)I"⟩
def dkwX0_key_1 : List UInt8 := [180, 0, 21, 28, 50, 185, 0, 72, 1, 0, 192, 0, 29, 182, 0, 31, 172]
abbrev dktX0_key_1 : List UInt8 := dkwX0_key_1 ++ []
def dkwX0_key_0 : List UInt8 := [42, 27, 182, 0, 83, 61, 28, 155, 0, 12, 42, 180, 0, 25, 28, 46, 154, 0, 7, 2, 167, 0, 20, 42]
abbrev dktX0_key_0 : List UInt8 := dkwX0_key_0 ++ dktX0_key_1
theorem dksX0_key_0 : cX0_key.data.toList.drop 0 = dktX0_key_0 := by decide +kernel
theorem dksX0_key_1 : cX0_key.data.toList.drop 24 = dktX0_key_1 := dk_seg dksX0_key_0 24 rfl rfl
theorem dX0_key_0 : decode cX0_key 0 = .ok (.aload_n 0, 1) := dk_42 (dk_at dksX0_key_0 0 rfl rfl)
theorem dX0_key_1 : decode cX0_key 1 = .ok (.iload_n 1, 1) := dk_27 (dk_at dksX0_key_0 1 rfl rfl)
theorem dX0_key_2 : decode cX0_key 2 = .ok (.invokevirtual 83, 3) := dk_182 0 83 (dk_at dksX0_key_0 2 rfl rfl)
theorem dX0_key_5 : decode cX0_key 5 = .ok (.istore_n 2, 1) := dk_61 (dk_at dksX0_key_0 5 rfl rfl)
theorem dX0_key_6 : decode cX0_key 6 = .ok (.iload_n 2, 1) := dk_28 (dk_at dksX0_key_0 6 rfl rfl)
theorem dX0_key_7 : decode cX0_key 7 = .ok (.ifCond .lt 12, 3) := dk_155 0 12 (dk_at dksX0_key_0 7 rfl rfl)
theorem dX0_key_10 : decode cX0_key 10 = .ok (.aload_n 0, 1) := dk_42 (dk_at dksX0_key_0 10 rfl rfl)
theorem dX0_key_11 : decode cX0_key 11 = .ok (.getfield 25, 3) := dk_180 0 25 (dk_at dksX0_key_0 11 rfl rfl)
theorem dX0_key_14 : decode cX0_key 14 = .ok (.iload_n 2, 1) := dk_28 (dk_at dksX0_key_0 14 rfl rfl)
theorem dX0_key_15 : decode cX0_key 15 = .ok (.iaload, 1) := dk_46 (dk_at dksX0_key_0 15 rfl rfl)
theorem dX0_key_16 : decode cX0_key 16 = .ok (.ifCond .ne 7, 3) := dk_154 0 7 (dk_at dksX0_key_0 16 rfl rfl)
theorem dX0_key_19 : decode cX0_key 19 = .ok (.iconst (-1), 1) := dk_2 (dk_at dksX0_key_0 19 rfl rfl)
theorem dX0_key_20 : decode cX0_key 20 = .ok (.goto 20, 3) := dk_167 0 20 (dk_at dksX0_key_0 20 rfl rfl)
theorem dX0_key_23 : decode cX0_key 23 = .ok (.aload_n 0, 1) := dk_42 (dk_at dksX0_key_0 23 rfl rfl)
theorem dX0_key_24 : decode cX0_key 24 = .ok (.getfield 21, 3) := dk_180 0 21 (dk_at dksX0_key_1 0 rfl rfl)
theorem dX0_key_27 : decode cX0_key 27 = .ok (.iload_n 2, 1) := dk_28 (dk_at dksX0_key_1 3 rfl rfl)
theorem dX0_key_28 : decode cX0_key 28 = .ok (.aaload, 1) := dk_50 (dk_at dksX0_key_1 4 rfl rfl)
theorem dX0_key_29 : decode cX0_key 29 = .ok (.invokeinterface 72 1, 5) := by decide +kernel
theorem dX0_key_34 : decode cX0_key 34 = .ok (.checkcast 29, 3) := dk_192 0 29 (dk_at dksX0_key_1 10 rfl rfl)
theorem dX0_key_37 : decode cX0_key 37 = .ok (.invokevirtual 31, 3) := dk_182 0 31 (dk_at dksX0_key_1 13 rfl rfl)
theorem dX0_key_40 : decode cX0_key 40 = .ok (.ireturn, 1) := dk_172 (dk_at dksX0_key_1 16 rfl rfl)
abbrev cX0_size : ByteArray := prog_5_method_15_code
def yX0_size : MethodName := ⟨RX0, "size", "(I)I"⟩
def dkwX0_size_0 : List UInt8 := [42, 180, 0, 13, 27, 6, 126, 50, 182, 0, 97, 136, 172]
abbrev dktX0_size_0 : List UInt8 := dkwX0_size_0 ++ []
theorem dksX0_size_0 : cX0_size.data.toList.drop 0 = dktX0_size_0 := by decide +kernel
theorem dX0_size_0 : decode cX0_size 0 = .ok (.aload_n 0, 1) := dk_42 (dk_at dksX0_size_0 0 rfl rfl)
theorem dX0_size_1 : decode cX0_size 1 = .ok (.getfield 13, 3) := dk_180 0 13 (dk_at dksX0_size_0 1 rfl rfl)
theorem dX0_size_4 : decode cX0_size 4 = .ok (.iload_n 1, 1) := dk_27 (dk_at dksX0_size_0 4 rfl rfl)
theorem dX0_size_5 : decode cX0_size 5 = .ok (.iconst 3, 1) := dk_6 (dk_at dksX0_size_0 5 rfl rfl)
theorem dX0_size_6 : decode cX0_size 6 = .ok (.iand, 1) := dk_126 (dk_at dksX0_size_0 6 rfl rfl)
theorem dX0_size_7 : decode cX0_size 7 = .ok (.aaload, 1) := dk_50 (dk_at dksX0_size_0 7 rfl rfl)
theorem dX0_size_8 : decode cX0_size 8 = .ok (.invokevirtual 97, 3) := dk_182 0 97 (dk_at dksX0_size_0 8 rfl rfl)
theorem dX0_size_11 : decode cX0_size 11 = .ok (.l2i, 1) := dk_136 (dk_at dksX0_size_0 11 rfl rfl)
theorem dX0_size_12 : decode cX0_size 12 = .ok (.ireturn, 1) := dk_172 (dk_at dksX0_size_0 12 rfl rfl)
abbrev cX0_clear : ByteArray := prog_5_method_16_code
def yX0_clear : MethodName := ⟨RX0, "clear", "(I)V"⟩
def dkwX0_clear_2 : List UInt8 := [177]
abbrev dktX0_clear_2 : List UInt8 := dkwX0_clear_2 ++ []
def dkwX0_clear_1 : List UInt8 := [42, 180, 0, 25, 28, 3, 79, 132, 2, 1, 167, 255, 224, 42, 180, 0, 13, 27, 6, 126, 50, 182, 0, 101]
abbrev dktX0_clear_1 : List UInt8 := dkwX0_clear_1 ++ dktX0_clear_2
def dkwX0_clear_0 : List UInt8 := [3, 61, 28, 42, 180, 0, 51, 162, 0, 30, 42, 180, 0, 25, 28, 46, 4, 27, 6, 126, 96, 160, 0, 10]
abbrev dktX0_clear_0 : List UInt8 := dkwX0_clear_0 ++ dktX0_clear_1
theorem dksX0_clear_0 : cX0_clear.data.toList.drop 0 = dktX0_clear_0 := by decide +kernel
theorem dksX0_clear_1 : cX0_clear.data.toList.drop 24 = dktX0_clear_1 := dk_seg dksX0_clear_0 24 rfl rfl
theorem dksX0_clear_2 : cX0_clear.data.toList.drop 48 = dktX0_clear_2 := dk_seg dksX0_clear_1 24 rfl rfl
theorem dX0_clear_0 : decode cX0_clear 0 = .ok (.iconst 0, 1) := dk_3 (dk_at dksX0_clear_0 0 rfl rfl)
theorem dX0_clear_1 : decode cX0_clear 1 = .ok (.istore_n 2, 1) := dk_61 (dk_at dksX0_clear_0 1 rfl rfl)
theorem dX0_clear_2 : decode cX0_clear 2 = .ok (.iload_n 2, 1) := dk_28 (dk_at dksX0_clear_0 2 rfl rfl)
theorem dX0_clear_3 : decode cX0_clear 3 = .ok (.aload_n 0, 1) := dk_42 (dk_at dksX0_clear_0 3 rfl rfl)
theorem dX0_clear_4 : decode cX0_clear 4 = .ok (.getfield 51, 3) := dk_180 0 51 (dk_at dksX0_clear_0 4 rfl rfl)
theorem dX0_clear_7 : decode cX0_clear 7 = .ok (.if_icmp .ge 30, 3) := dk_162 0 30 (dk_at dksX0_clear_0 7 rfl rfl)
theorem dX0_clear_10 : decode cX0_clear 10 = .ok (.aload_n 0, 1) := dk_42 (dk_at dksX0_clear_0 10 rfl rfl)
theorem dX0_clear_11 : decode cX0_clear 11 = .ok (.getfield 25, 3) := dk_180 0 25 (dk_at dksX0_clear_0 11 rfl rfl)
theorem dX0_clear_14 : decode cX0_clear 14 = .ok (.iload_n 2, 1) := dk_28 (dk_at dksX0_clear_0 14 rfl rfl)
theorem dX0_clear_15 : decode cX0_clear 15 = .ok (.iaload, 1) := dk_46 (dk_at dksX0_clear_0 15 rfl rfl)
theorem dX0_clear_16 : decode cX0_clear 16 = .ok (.iconst 1, 1) := dk_4 (dk_at dksX0_clear_0 16 rfl rfl)
theorem dX0_clear_17 : decode cX0_clear 17 = .ok (.iload_n 1, 1) := dk_27 (dk_at dksX0_clear_0 17 rfl rfl)
theorem dX0_clear_18 : decode cX0_clear 18 = .ok (.iconst 3, 1) := dk_6 (dk_at dksX0_clear_0 18 rfl rfl)
theorem dX0_clear_19 : decode cX0_clear 19 = .ok (.iand, 1) := dk_126 (dk_at dksX0_clear_0 19 rfl rfl)
theorem dX0_clear_20 : decode cX0_clear 20 = .ok (.iadd, 1) := dk_96 (dk_at dksX0_clear_0 20 rfl rfl)
theorem dX0_clear_21 : decode cX0_clear 21 = .ok (.if_icmp .ne 10, 3) := dk_160 0 10 (dk_at dksX0_clear_0 21 rfl rfl)
theorem dX0_clear_24 : decode cX0_clear 24 = .ok (.aload_n 0, 1) := dk_42 (dk_at dksX0_clear_1 0 rfl rfl)
theorem dX0_clear_25 : decode cX0_clear 25 = .ok (.getfield 25, 3) := dk_180 0 25 (dk_at dksX0_clear_1 1 rfl rfl)
theorem dX0_clear_28 : decode cX0_clear 28 = .ok (.iload_n 2, 1) := dk_28 (dk_at dksX0_clear_1 4 rfl rfl)
theorem dX0_clear_29 : decode cX0_clear 29 = .ok (.iconst 0, 1) := dk_3 (dk_at dksX0_clear_1 5 rfl rfl)
theorem dX0_clear_30 : decode cX0_clear 30 = .ok (.iastore, 1) := dk_79 (dk_at dksX0_clear_1 6 rfl rfl)
theorem dX0_clear_31 : decode cX0_clear 31 = .ok (.iinc 2 1, 3) := dk_132 2 1 (dk_at dksX0_clear_1 7 rfl rfl)
theorem dX0_clear_34 : decode cX0_clear 34 = .ok (.goto (-32), 3) := dk_167 255 224 (dk_at dksX0_clear_1 10 rfl rfl)
theorem dX0_clear_37 : decode cX0_clear 37 = .ok (.aload_n 0, 1) := dk_42 (dk_at dksX0_clear_1 13 rfl rfl)
theorem dX0_clear_38 : decode cX0_clear 38 = .ok (.getfield 13, 3) := dk_180 0 13 (dk_at dksX0_clear_1 14 rfl rfl)
theorem dX0_clear_41 : decode cX0_clear 41 = .ok (.iload_n 1, 1) := dk_27 (dk_at dksX0_clear_1 17 rfl rfl)
theorem dX0_clear_42 : decode cX0_clear 42 = .ok (.iconst 3, 1) := dk_6 (dk_at dksX0_clear_1 18 rfl rfl)
theorem dX0_clear_43 : decode cX0_clear 43 = .ok (.iand, 1) := dk_126 (dk_at dksX0_clear_1 19 rfl rfl)
theorem dX0_clear_44 : decode cX0_clear 44 = .ok (.aaload, 1) := dk_50 (dk_at dksX0_clear_1 20 rfl rfl)
theorem dX0_clear_45 : decode cX0_clear 45 = .ok (.invokevirtual 101, 3) := dk_182 0 101 (dk_at dksX0_clear_1 21 rfl rfl)
theorem dX0_clear_48 : decode cX0_clear 48 = .ok (.return_, 1) := dk_177 (dk_at dksX0_clear_2 0 rfl rfl)
theorem q13 : (Jvm.Cond.initialized "BinaryTreeAddressableHeapDesk") ∈ lw_all := lw_g (lw_at lw_m1 1 rfl) rfl
theorem q32 : (Jvm.Cond.instantiable "BinaryTreeAddressableHeapDesk" (4 : Nat)) ∈ lw_all := lw_g (lw_at lw_m1 20 rfl) rfl
theorem q34 : (Jvm.Cond.instanceMethod ({ cls := "BinaryTreeAddressableHeapDesk", name := "<init>", desc := "()V" } : Jvm.MethodName)) ∈ lw_all := lw_g (lw_at lw_m1 22 rfl) rfl
theorem q35 : (Jvm.Cond.code ({ cls := "BinaryTreeAddressableHeapDesk", name := "<init>", desc := "()V" } : Jvm.MethodName) prog_5_method_1_code (1 : Nat) (Option.none : Option Jvm.ClassFile.FieldType)) ∈ lw_all := lw_g (lw_at lw_m1 23 rfl) rfl
theorem q36 : (Jvm.Cond.methodLink "BinaryTreeAddressableHeapDesk" (1 : Nat) ({ cls := "java/lang/Object", name := "<init>", desc := "()V" } : Jvm.MethodName)) ∈ lw_all := lw_g (lw_at lw_m1 24 rfl) rfl
theorem q39 : (Jvm.Cond.methodLink "BinaryTreeAddressableHeapDesk" (7 : Nat) ({ cls := "BinaryTreeAddressableHeapDesk", name := "make", desc := "()[LBinaryTreeAddressableHeap;" } : Jvm.MethodName)) ∈ lw_all := lw_g (lw_at lw_m1 27 rfl) rfl
theorem q40 : (Jvm.Cond.static ({ cls := "BinaryTreeAddressableHeapDesk", name := "make", desc := "()[LBinaryTreeAddressableHeap;" } : Jvm.MethodName)) ∈ lw_all := lw_g (lw_at lw_m1 28 rfl) rfl
theorem q41 : (Jvm.Cond.code ({ cls := "BinaryTreeAddressableHeapDesk", name := "make", desc := "()[LBinaryTreeAddressableHeap;" } : Jvm.MethodName) prog_5_method_3_code (2 : Nat) (Option.some (Jvm.ClassFile.FieldType.array (Jvm.ClassFile.FieldType.object "BinaryTreeAddressableHeap")))) ∈ lw_all := lw_g (lw_at lw_m1 29 rfl) rfl
theorem q42 : (Jvm.Cond.classLink "BinaryTreeAddressableHeapDesk" (35 : Nat) "BinaryTreeAddressableHeap") ∈ lw_all := lw_g (lw_at lw_m1 30 rfl) rfl
theorem q44 : (Jvm.Cond.methodLink "BinaryTreeAddressableHeapDesk" (37 : Nat) ({ cls := "BinaryTreeAddressableHeapDesk", name := "fresh", desc := "(I)LBinaryTreeAddressableHeap;" } : Jvm.MethodName)) ∈ lw_all := lw_g (lw_at lw_m1 32 rfl) rfl
theorem q45 : (Jvm.Cond.static ({ cls := "BinaryTreeAddressableHeapDesk", name := "fresh", desc := "(I)LBinaryTreeAddressableHeap;" } : Jvm.MethodName)) ∈ lw_all := lw_g (lw_at lw_m1 33 rfl) rfl
theorem q46 : (Jvm.Cond.code ({ cls := "BinaryTreeAddressableHeapDesk", name := "fresh", desc := "(I)LBinaryTreeAddressableHeap;" } : Jvm.MethodName) prog_5_method_4_code (1 : Nat) (Option.some (Jvm.ClassFile.FieldType.object "BinaryTreeAddressableHeap"))) ∈ lw_all := lw_g (lw_at lw_m1 34 rfl) rfl
theorem q48 : (Jvm.Cond.methodLink "BinaryTreeAddressableHeapDesk" (41 : Nat) ({ cls := "BinaryTreeAddressableHeap", name := "<init>", desc := "()V" } : Jvm.MethodName)) ∈ lw_all := lw_g (lw_at lw_m1 36 rfl) rfl
theorem q67 : (Jvm.Cond.fieldLink "BinaryTreeAddressableHeapDesk" (42 : Nat) "BinaryTreeAddressableHeapDesk" "DOWN" "LBinaryTreeAddressableHeapDesk$Down;") ∈ lw_all := lw_g (lw_at lw_m1 55 rfl) rfl
theorem q68 : (Jvm.Cond.laysStatic "BinaryTreeAddressableHeapDesk" "DOWN" "LBinaryTreeAddressableHeapDesk$Down;") ∈ lw_tbl := lw_at lw_m1 56 rfl
theorem q69 : (Jvm.Cond.methodLink "BinaryTreeAddressableHeapDesk" (46 : Nat) ({ cls := "BinaryTreeAddressableHeap", name := "<init>", desc := "(Ljava/util/Comparator;)V" } : Jvm.MethodName)) ∈ lw_all := lw_g (lw_at lw_m1 57 rfl) rfl
theorem q70 : (Jvm.Cond.methodLink "BinaryTreeAddressableHeapDesk" (17 : Nat) ({ cls := "BinaryTreeAddressableHeapDesk", name := "rows", desc := "()[LAddressableHeap$Handle;" } : Jvm.MethodName)) ∈ lw_all := lw_g (lw_at lw_m1 58 rfl) rfl
theorem q71 : (Jvm.Cond.static ({ cls := "BinaryTreeAddressableHeapDesk", name := "rows", desc := "()[LAddressableHeap$Handle;" } : Jvm.MethodName)) ∈ lw_all := lw_g (lw_at lw_m1 59 rfl) rfl
theorem q72 : (Jvm.Cond.code ({ cls := "BinaryTreeAddressableHeapDesk", name := "rows", desc := "()[LAddressableHeap$Handle;" } : Jvm.MethodName) prog_5_method_5_code (0 : Nat) (Option.some (Jvm.ClassFile.FieldType.array (Jvm.ClassFile.FieldType.object "AddressableHeap$Handle")))) ∈ lw_all := lw_g (lw_at lw_m1 60 rfl) rfl
theorem q73 : (Jvm.Cond.classLink "BinaryTreeAddressableHeapDesk" (49 : Nat) "AddressableHeap$Handle") ∈ lw_all := lw_g (lw_at lw_m1 61 rfl) rfl
theorem q75 : (Jvm.Cond.fieldLink "BinaryTreeAddressableHeapDesk" (13 : Nat) "BinaryTreeAddressableHeapDesk" "file" "[LBinaryTreeAddressableHeap;") ∈ lw_all := lw_g (lw_at lw_m1 63 rfl) rfl
theorem q76 : (Jvm.Cond.fieldLink "BinaryTreeAddressableHeapDesk" (21 : Nat) "BinaryTreeAddressableHeapDesk" "ways" "[LAddressableHeap$Handle;") ∈ lw_all := lw_g (lw_at lw_m1 64 rfl) rfl
theorem q77 : (Jvm.Cond.fieldLink "BinaryTreeAddressableHeapDesk" (25 : Nat) "BinaryTreeAddressableHeapDesk" "home" "[I") ∈ lw_all := lw_g (lw_at lw_m1 65 rfl) rfl
theorem q78 : (Jvm.Cond.fieldLink "BinaryTreeAddressableHeapDesk" (51 : Nat) "BinaryTreeAddressableHeapDesk" "next" "I") ∈ lw_all := lw_g (lw_at lw_m1 66 rfl) rfl
theorem q79 : (Jvm.Cond.laysFinal "BinaryTreeAddressableHeapDesk" "BinaryTreeAddressableHeapDesk" "file" "[LBinaryTreeAddressableHeap;") ∈ lw_all := lw_g (lw_at lw_m1 67 rfl) rfl
theorem q80 : (Jvm.Cond.soleField "BinaryTreeAddressableHeapDesk" "file") ∈ lw_all := lw_g (lw_at lw_m1 68 rfl) rfl
theorem q81 : (Jvm.Cond.laysFinal "BinaryTreeAddressableHeapDesk" "BinaryTreeAddressableHeapDesk" "ways" "[LAddressableHeap$Handle;") ∈ lw_all := lw_g (lw_at lw_m1 69 rfl) rfl
theorem q82 : (Jvm.Cond.soleField "BinaryTreeAddressableHeapDesk" "ways") ∈ lw_all := lw_g (lw_at lw_m1 70 rfl) rfl
theorem q83 : (Jvm.Cond.laysFinal "BinaryTreeAddressableHeapDesk" "BinaryTreeAddressableHeapDesk" "home" "[I") ∈ lw_all := lw_g (lw_at lw_m1 71 rfl) rfl
theorem q84 : (Jvm.Cond.soleField "BinaryTreeAddressableHeapDesk" "home") ∈ lw_all := lw_g (lw_at lw_m1 72 rfl) rfl
theorem q85 : (Jvm.Cond.lays "BinaryTreeAddressableHeapDesk" "BinaryTreeAddressableHeapDesk" "next" "I") ∈ lw_all := lw_g (lw_at lw_m1 73 rfl) rfl
theorem q86 : (Jvm.Cond.soleField "BinaryTreeAddressableHeapDesk" "next") ∈ lw_all := lw_g (lw_at lw_m1 74 rfl) rfl
theorem q87 : (Jvm.Cond.superclass "BinaryTreeAddressableHeapDesk" "java/lang/Object") ∈ lw_all := lw_g (lw_at lw_m1 75 rfl) rfl
theorem q90 : (Jvm.Cond.instanceMethod ({ cls := "BinaryTreeAddressableHeapDesk", name := "put", desc := "(III)I" } : Jvm.MethodName)) ∈ lw_all := lw_g (lw_at lw_m1 78 rfl) rfl
theorem q91 : (Jvm.Cond.selects "BinaryTreeAddressableHeapDesk" ({ cls := "BinaryTreeAddressableHeapDesk", name := "put", desc := "(III)I" } : Jvm.MethodName) ({ cls := "BinaryTreeAddressableHeapDesk", name := "put", desc := "(III)I" } : Jvm.MethodName)) ∈ lw_all := lw_g (lw_at lw_m1 79 rfl) rfl
theorem q92 : (Jvm.Cond.code ({ cls := "BinaryTreeAddressableHeapDesk", name := "put", desc := "(III)I" } : Jvm.MethodName) prog_5_method_6_code (4 : Nat) (Option.some Jvm.ClassFile.FieldType.int)) ∈ lw_all := lw_g (lw_at lw_m1 80 rfl) rfl
theorem q93 : (Jvm.Cond.constant "BinaryTreeAddressableHeapDesk" (55 : Nat) (65535 : Int32)) ∈ lw_all := lw_g (lw_at lw_m1 81 rfl) rfl
theorem q94 : (Jvm.Cond.methodLink "BinaryTreeAddressableHeapDesk" (56 : Nat) ({ cls := "java/lang/Integer", name := "valueOf", desc := "(I)Ljava/lang/Integer;" } : Jvm.MethodName)) ∈ lw_all := lw_g (lw_at lw_m1 82 rfl) rfl
theorem q114 : (Jvm.Cond.methodLink "BinaryTreeAddressableHeapDesk" (60 : Nat) ({ cls := "BinaryTreeAddressableHeap", name := "insert", desc := "(Ljava/lang/Object;Ljava/lang/Object;)LAddressableHeap$Handle;" } : Jvm.MethodName)) ∈ lw_all := lw_g (lw_at lw_m1 102 rfl) rfl
theorem q213 : (Jvm.Cond.static ({ cls := "BinaryTreeAddressableHeapDesk", name := "order", desc := "(Ljava/lang/Object;Ljava/lang/Object;)I" } : Jvm.MethodName)) ∈ lw_all := lw_g (lw_at lw_m1 201 rfl) rfl
theorem q214 : (Jvm.Cond.code ({ cls := "BinaryTreeAddressableHeapDesk", name := "order", desc := "(Ljava/lang/Object;Ljava/lang/Object;)I" } : Jvm.MethodName) prog_5_method_2_code (4 : Nat) (Option.some Jvm.ClassFile.FieldType.int)) ∈ lw_all := lw_g (lw_at lw_m1 202 rfl) rfl
theorem q215 : (Jvm.Cond.classLink "BinaryTreeAddressableHeapDesk" (29 : Nat) "java/lang/Integer") ∈ lw_all := lw_g (lw_at lw_m1 203 rfl) rfl
theorem q216 : (Jvm.Cond.methodLink "BinaryTreeAddressableHeapDesk" (31 : Nat) ({ cls := "java/lang/Integer", name := "intValue", desc := "()I" } : Jvm.MethodName)) ∈ lw_all := lw_g (lw_at lw_m1 204 rfl) rfl
theorem q318 : (Jvm.Cond.instanceMethod ({ cls := "BinaryTreeAddressableHeapDesk", name := "least", desc := "(I)I" } : Jvm.MethodName)) ∈ lw_all := lw_g (lw_at lw_m2 66 rfl) rfl
theorem q319 : (Jvm.Cond.selects "BinaryTreeAddressableHeapDesk" ({ cls := "BinaryTreeAddressableHeapDesk", name := "least", desc := "(I)I" } : Jvm.MethodName) ({ cls := "BinaryTreeAddressableHeapDesk", name := "least", desc := "(I)I" } : Jvm.MethodName)) ∈ lw_all := lw_g (lw_at lw_m2 67 rfl) rfl
theorem q320 : (Jvm.Cond.code ({ cls := "BinaryTreeAddressableHeapDesk", name := "least", desc := "(I)I" } : Jvm.MethodName) prog_5_method_7_code (3 : Nat) (Option.some Jvm.ClassFile.FieldType.int)) ∈ lw_all := lw_g (lw_at lw_m2 68 rfl) rfl
theorem q321 : (Jvm.Cond.methodLink "BinaryTreeAddressableHeapDesk" (64 : Nat) ({ cls := "BinaryTreeAddressableHeap", name := "isEmpty", desc := "()Z" } : Jvm.MethodName)) ∈ lw_all := lw_g (lw_at lw_m2 69 rfl) rfl
theorem q325 : (Jvm.Cond.methodLink "BinaryTreeAddressableHeapDesk" (68 : Nat) ({ cls := "BinaryTreeAddressableHeap", name := "findMin", desc := "()LAddressableHeap$Handle;" } : Jvm.MethodName)) ∈ lw_all := lw_g (lw_at lw_m2 73 rfl) rfl
theorem q365 : (Jvm.Cond.interfaceEntry "BinaryTreeAddressableHeapDesk" (72 : Nat)) ∈ lw_tbl := lw_at lw_m2 113 rfl
theorem q366 : (Jvm.Cond.methodLink "BinaryTreeAddressableHeapDesk" (72 : Nat) ({ cls := "AddressableHeap$Handle", name := "getKey", desc := "()Ljava/lang/Object;" } : Jvm.MethodName)) ∈ lw_all := lw_g (lw_at lw_m2 114 rfl) rfl
theorem q376 : (Jvm.Cond.instanceMethod ({ cls := "BinaryTreeAddressableHeapDesk", name := "valueOfLeast", desc := "(I)I" } : Jvm.MethodName)) ∈ lw_all := lw_g (lw_at lw_m2 124 rfl) rfl
theorem q377 : (Jvm.Cond.selects "BinaryTreeAddressableHeapDesk" ({ cls := "BinaryTreeAddressableHeapDesk", name := "valueOfLeast", desc := "(I)I" } : Jvm.MethodName) ({ cls := "BinaryTreeAddressableHeapDesk", name := "valueOfLeast", desc := "(I)I" } : Jvm.MethodName)) ∈ lw_all := lw_g (lw_at lw_m2 125 rfl) rfl
theorem q378 : (Jvm.Cond.code ({ cls := "BinaryTreeAddressableHeapDesk", name := "valueOfLeast", desc := "(I)I" } : Jvm.MethodName) prog_5_method_8_code (3 : Nat) (Option.some Jvm.ClassFile.FieldType.int)) ∈ lw_all := lw_g (lw_at lw_m2 126 rfl) rfl
theorem q379 : (Jvm.Cond.interfaceEntry "BinaryTreeAddressableHeapDesk" (76 : Nat)) ∈ lw_tbl := lw_at lw_m2 127 rfl
theorem q380 : (Jvm.Cond.methodLink "BinaryTreeAddressableHeapDesk" (76 : Nat) ({ cls := "AddressableHeap$Handle", name := "getValue", desc := "()Ljava/lang/Object;" } : Jvm.MethodName)) ∈ lw_all := lw_g (lw_at lw_m2 128 rfl) rfl
theorem q389 : (Jvm.Cond.instanceMethod ({ cls := "BinaryTreeAddressableHeapDesk", name := "takeLeast", desc := "(I)I" } : Jvm.MethodName)) ∈ lw_all := lw_g (lw_at lw_m2 137 rfl) rfl
theorem q390 : (Jvm.Cond.selects "BinaryTreeAddressableHeapDesk" ({ cls := "BinaryTreeAddressableHeapDesk", name := "takeLeast", desc := "(I)I" } : Jvm.MethodName) ({ cls := "BinaryTreeAddressableHeapDesk", name := "takeLeast", desc := "(I)I" } : Jvm.MethodName)) ∈ lw_all := lw_g (lw_at lw_m2 138 rfl) rfl
theorem q391 : (Jvm.Cond.code ({ cls := "BinaryTreeAddressableHeapDesk", name := "takeLeast", desc := "(I)I" } : Jvm.MethodName) prog_5_method_9_code (4 : Nat) (Option.some Jvm.ClassFile.FieldType.int)) ∈ lw_all := lw_g (lw_at lw_m2 139 rfl) rfl
theorem q392 : (Jvm.Cond.methodLink "BinaryTreeAddressableHeapDesk" (79 : Nat) ({ cls := "BinaryTreeAddressableHeap", name := "deleteMin", desc := "()LAddressableHeap$Handle;" } : Jvm.MethodName)) ∈ lw_all := lw_g (lw_at lw_m2 140 rfl) rfl
theorem q401 : (Jvm.Cond.instanceMethod ({ cls := "BinaryTreeAddressableHeapDesk", name := "lower", desc := "(II)Z" } : Jvm.MethodName)) ∈ lw_all := lw_g (lw_at lw_m2 149 rfl) rfl
theorem q402 : (Jvm.Cond.selects "BinaryTreeAddressableHeapDesk" ({ cls := "BinaryTreeAddressableHeapDesk", name := "lower", desc := "(II)Z" } : Jvm.MethodName) ({ cls := "BinaryTreeAddressableHeapDesk", name := "lower", desc := "(II)Z" } : Jvm.MethodName)) ∈ lw_all := lw_g (lw_at lw_m2 150 rfl) rfl
theorem q403 : (Jvm.Cond.code ({ cls := "BinaryTreeAddressableHeapDesk", name := "lower", desc := "(II)Z" } : Jvm.MethodName) prog_5_method_11_code (5 : Nat) (Option.some Jvm.ClassFile.FieldType.boolean)) ∈ lw_all := lw_g (lw_at lw_m2 151 rfl) rfl
theorem q404 : (Jvm.Cond.methodLink "BinaryTreeAddressableHeapDesk" (83 : Nat) ({ cls := "BinaryTreeAddressableHeapDesk", name := "in", desc := "(I)I" } : Jvm.MethodName)) ∈ lw_all := lw_g (lw_at lw_m2 152 rfl) rfl
theorem q405 : (Jvm.Cond.privateMethod ({ cls := "BinaryTreeAddressableHeapDesk", name := "in", desc := "(I)I" } : Jvm.MethodName)) ∈ lw_tbl := lw_at lw_m2 153 rfl
theorem q406 : (Jvm.Cond.instanceMethod ({ cls := "BinaryTreeAddressableHeapDesk", name := "in", desc := "(I)I" } : Jvm.MethodName)) ∈ lw_all := lw_g (lw_at lw_m2 154 rfl) rfl
theorem q407 : (Jvm.Cond.code ({ cls := "BinaryTreeAddressableHeapDesk", name := "in", desc := "(I)I" } : Jvm.MethodName) prog_5_method_10_code (2 : Nat) (Option.some Jvm.ClassFile.FieldType.int)) ∈ lw_all := lw_g (lw_at lw_m2 155 rfl) rfl
theorem q408 : (Jvm.Cond.constant "BinaryTreeAddressableHeapDesk" (82 : Nat) (2147483647 : Int32)) ∈ lw_all := lw_g (lw_at lw_m2 156 rfl) rfl
theorem q409 : (Jvm.Cond.interfaceEntry "BinaryTreeAddressableHeapDesk" (87 : Nat)) ∈ lw_tbl := lw_at lw_m2 157 rfl
theorem q410 : (Jvm.Cond.methodLink "BinaryTreeAddressableHeapDesk" (87 : Nat) ({ cls := "AddressableHeap$Handle", name := "decreaseKey", desc := "(Ljava/lang/Object;)V" } : Jvm.MethodName)) ∈ lw_all := lw_g (lw_at lw_m2 158 rfl) rfl
theorem q441 : (Jvm.Cond.instanceMethod ({ cls := "BinaryTreeAddressableHeapDesk", name := "drop", desc := "(I)Z" } : Jvm.MethodName)) ∈ lw_all := lw_g (lw_at lw_m2 189 rfl) rfl
theorem q442 : (Jvm.Cond.selects "BinaryTreeAddressableHeapDesk" ({ cls := "BinaryTreeAddressableHeapDesk", name := "drop", desc := "(I)Z" } : Jvm.MethodName) ({ cls := "BinaryTreeAddressableHeapDesk", name := "drop", desc := "(I)Z" } : Jvm.MethodName)) ∈ lw_all := lw_g (lw_at lw_m2 190 rfl) rfl
theorem q443 : (Jvm.Cond.code ({ cls := "BinaryTreeAddressableHeapDesk", name := "drop", desc := "(I)Z" } : Jvm.MethodName) prog_5_method_12_code (3 : Nat) (Option.some Jvm.ClassFile.FieldType.boolean)) ∈ lw_all := lw_g (lw_at lw_m2 191 rfl) rfl
theorem q444 : (Jvm.Cond.interfaceEntry "BinaryTreeAddressableHeapDesk" (91 : Nat)) ∈ lw_tbl := lw_at lw_m2 192 rfl
theorem q445 : (Jvm.Cond.methodLink "BinaryTreeAddressableHeapDesk" (91 : Nat) ({ cls := "AddressableHeap$Handle", name := "delete", desc := "()V" } : Jvm.MethodName)) ∈ lw_all := lw_g (lw_at lw_m2 193 rfl) rfl
theorem q457 : (Jvm.Cond.instanceMethod ({ cls := "BinaryTreeAddressableHeapDesk", name := "change", desc := "(II)Z" } : Jvm.MethodName)) ∈ lw_all := lw_g (lw_at lw_m2 205 rfl) rfl
theorem q458 : (Jvm.Cond.selects "BinaryTreeAddressableHeapDesk" ({ cls := "BinaryTreeAddressableHeapDesk", name := "change", desc := "(II)Z" } : Jvm.MethodName) ({ cls := "BinaryTreeAddressableHeapDesk", name := "change", desc := "(II)Z" } : Jvm.MethodName)) ∈ lw_all := lw_g (lw_at lw_m2 206 rfl) rfl
theorem q459 : (Jvm.Cond.code ({ cls := "BinaryTreeAddressableHeapDesk", name := "change", desc := "(II)Z" } : Jvm.MethodName) prog_5_method_13_code (4 : Nat) (Option.some Jvm.ClassFile.FieldType.boolean)) ∈ lw_all := lw_g (lw_at lw_m2 207 rfl) rfl
theorem q460 : (Jvm.Cond.interfaceEntry "BinaryTreeAddressableHeapDesk" (94 : Nat)) ∈ lw_tbl := lw_at lw_m2 208 rfl
theorem q461 : (Jvm.Cond.methodLink "BinaryTreeAddressableHeapDesk" (94 : Nat) ({ cls := "AddressableHeap$Handle", name := "setValue", desc := "(Ljava/lang/Object;)V" } : Jvm.MethodName)) ∈ lw_all := lw_g (lw_at lw_m2 209 rfl) rfl
theorem q470 : (Jvm.Cond.instanceMethod ({ cls := "BinaryTreeAddressableHeapDesk", name := "key", desc := "(I)I" } : Jvm.MethodName)) ∈ lw_all := lw_g (lw_at lw_m2 218 rfl) rfl
theorem q471 : (Jvm.Cond.selects "BinaryTreeAddressableHeapDesk" ({ cls := "BinaryTreeAddressableHeapDesk", name := "key", desc := "(I)I" } : Jvm.MethodName) ({ cls := "BinaryTreeAddressableHeapDesk", name := "key", desc := "(I)I" } : Jvm.MethodName)) ∈ lw_all := lw_g (lw_at lw_m2 219 rfl) rfl
theorem q472 : (Jvm.Cond.code ({ cls := "BinaryTreeAddressableHeapDesk", name := "key", desc := "(I)I" } : Jvm.MethodName) prog_5_method_14_code (3 : Nat) (Option.some Jvm.ClassFile.FieldType.int)) ∈ lw_all := lw_g (lw_at lw_m2 220 rfl) rfl
theorem q474 : (Jvm.Cond.instanceMethod ({ cls := "BinaryTreeAddressableHeapDesk", name := "size", desc := "(I)I" } : Jvm.MethodName)) ∈ lw_all := lw_g (lw_at lw_m2 222 rfl) rfl
theorem q475 : (Jvm.Cond.selects "BinaryTreeAddressableHeapDesk" ({ cls := "BinaryTreeAddressableHeapDesk", name := "size", desc := "(I)I" } : Jvm.MethodName) ({ cls := "BinaryTreeAddressableHeapDesk", name := "size", desc := "(I)I" } : Jvm.MethodName)) ∈ lw_all := lw_g (lw_at lw_m2 223 rfl) rfl
theorem q476 : (Jvm.Cond.code ({ cls := "BinaryTreeAddressableHeapDesk", name := "size", desc := "(I)I" } : Jvm.MethodName) prog_5_method_15_code (2 : Nat) (Option.some Jvm.ClassFile.FieldType.int)) ∈ lw_all := lw_g (lw_at lw_m2 224 rfl) rfl
theorem q477 : (Jvm.Cond.methodLink "BinaryTreeAddressableHeapDesk" (97 : Nat) ({ cls := "BinaryTreeAddressableHeap", name := "size", desc := "()J" } : Jvm.MethodName)) ∈ lw_all := lw_g (lw_at lw_m2 225 rfl) rfl
theorem q482 : (Jvm.Cond.instanceMethod ({ cls := "BinaryTreeAddressableHeapDesk", name := "clear", desc := "(I)V" } : Jvm.MethodName)) ∈ lw_all := lw_g (lw_at lw_m2 230 rfl) rfl
theorem q483 : (Jvm.Cond.selects "BinaryTreeAddressableHeapDesk" ({ cls := "BinaryTreeAddressableHeapDesk", name := "clear", desc := "(I)V" } : Jvm.MethodName) ({ cls := "BinaryTreeAddressableHeapDesk", name := "clear", desc := "(I)V" } : Jvm.MethodName)) ∈ lw_all := lw_g (lw_at lw_m2 231 rfl) rfl
theorem q484 : (Jvm.Cond.code ({ cls := "BinaryTreeAddressableHeapDesk", name := "clear", desc := "(I)V" } : Jvm.MethodName) prog_5_method_16_code (3 : Nat) (Option.none : Option Jvm.ClassFile.FieldType)) ∈ lw_all := lw_g (lw_at lw_m2 232 rfl) rfl
theorem q485 : (Jvm.Cond.methodLink "BinaryTreeAddressableHeapDesk" (101 : Nat) ({ cls := "BinaryTreeAddressableHeap", name := "clear", desc := "()V" } : Jvm.MethodName)) ∈ lw_all := lw_g (lw_at lw_m2 233 rfl) rfl
theorem q563 : (Jvm.Cond.castable "BinaryTreeAddressableHeapDesk" "java/lang/Object") ∈ lw_tbl := lw_at lw_m3 71 rfl
theorem in_X0 : ∀ w ∈ wsX00, w ∈ lw_all := lw_in wsX00 [79, 81, 83, 85] (by decide +kernel) (by decide +kernel)
end
section
/-! BinaryTreeAddressableHeap -/
set_option maxRecDepth 100000
def RX1 : String := "BinaryTreeAddressableHeap"
def TX1 : u_T := fun k => match k with
  | 0 => ("BinaryTreeAddressableHeap", "comparator", "Ljava/util/Comparator;", true)
  | 1 => ("BinaryTreeAddressableHeap", "size", "J", false)
  | _ => ("BinaryTreeAddressableHeap", "root", "LBinaryTreeAddressableHeap$Node;", false)
def tyX1 : Nat → FieldType := fun k => match k with
  | 0 => .object "java/util/Comparator"
  | 1 => .long
  | _ => .object "BinaryTreeAddressableHeap$Node"
abbrev wsX10 : List Cond := u_ws RX1 TX1 3
theorem nmX1 : ∀ a, a < 3 → ∀ b, b < 3 → a ≠ b → (TX1 a).2.1 ≠ (TX1 b).2.1 := by decide +kernel
theorem tyX1_ok : ∀ k, k < 3 → parseFieldDescriptor (TX1 k).2.2.1 = some (tyX1 k) := by decide +kernel
abbrev cX1_init : ByteArray := prog_3_method_1_code
def yX1_init : MethodName := ⟨RX1, "<init>", "()V"⟩
def dkwX1_init_0 : List UInt8 := [42, 1, 183, 0, 1, 177]
abbrev dktX1_init_0 : List UInt8 := dkwX1_init_0 ++ []
theorem dksX1_init_0 : cX1_init.data.toList.drop 0 = dktX1_init_0 := by decide +kernel
theorem dX1_init_0 : decode cX1_init 0 = .ok (.aload_n 0, 1) := dk_42 (dk_at dksX1_init_0 0 rfl rfl)
theorem dX1_init_1 : decode cX1_init 1 = .ok (.aconst_null, 1) := dk_1 (dk_at dksX1_init_0 1 rfl rfl)
theorem dX1_init_2 : decode cX1_init 2 = .ok (.invokespecial 1, 3) := dk_183 0 1 (dk_at dksX1_init_0 2 rfl rfl)
theorem dX1_init_5 : decode cX1_init 5 = .ok (.return_, 1) := dk_177 (dk_at dksX1_init_0 5 rfl rfl)
abbrev cX1_init_2 : ByteArray := prog_3_method_2_code
def yX1_init_2 : MethodName := ⟨RX1, "<init>", "(Ljava/util/Comparator;)V"⟩
def dkwX1_init_2_0 : List UInt8 := [42, 183, 0, 7, 42, 43, 181, 0, 12, 42, 9, 181, 0, 16, 42, 1, 181, 0, 20, 177]
abbrev dktX1_init_2_0 : List UInt8 := dkwX1_init_2_0 ++ []
theorem dksX1_init_2_0 : cX1_init_2.data.toList.drop 0 = dktX1_init_2_0 := by decide +kernel
theorem dX1_init_2_0 : decode cX1_init_2 0 = .ok (.aload_n 0, 1) := dk_42 (dk_at dksX1_init_2_0 0 rfl rfl)
theorem dX1_init_2_1 : decode cX1_init_2 1 = .ok (.invokespecial 7, 3) := dk_183 0 7 (dk_at dksX1_init_2_0 1 rfl rfl)
theorem dX1_init_2_4 : decode cX1_init_2 4 = .ok (.aload_n 0, 1) := dk_42 (dk_at dksX1_init_2_0 4 rfl rfl)
theorem dX1_init_2_5 : decode cX1_init_2 5 = .ok (.aload_n 1, 1) := dk_43 (dk_at dksX1_init_2_0 5 rfl rfl)
theorem dX1_init_2_6 : decode cX1_init_2 6 = .ok (.putfield 12, 3) := dk_181 0 12 (dk_at dksX1_init_2_0 6 rfl rfl)
theorem dX1_init_2_9 : decode cX1_init_2 9 = .ok (.aload_n 0, 1) := dk_42 (dk_at dksX1_init_2_0 9 rfl rfl)
theorem dX1_init_2_10 : decode cX1_init_2 10 = .ok (.lconst 0, 1) := dk_9 (dk_at dksX1_init_2_0 10 rfl rfl)
theorem dX1_init_2_11 : decode cX1_init_2 11 = .ok (.putfield 16, 3) := dk_181 0 16 (dk_at dksX1_init_2_0 11 rfl rfl)
theorem dX1_init_2_14 : decode cX1_init_2 14 = .ok (.aload_n 0, 1) := dk_42 (dk_at dksX1_init_2_0 14 rfl rfl)
theorem dX1_init_2_15 : decode cX1_init_2 15 = .ok (.aconst_null, 1) := dk_1 (dk_at dksX1_init_2_0 15 rfl rfl)
theorem dX1_init_2_16 : decode cX1_init_2 16 = .ok (.putfield 20, 3) := dk_181 0 20 (dk_at dksX1_init_2_0 16 rfl rfl)
theorem dX1_init_2_19 : decode cX1_init_2 19 = .ok (.return_, 1) := dk_177 (dk_at dksX1_init_2_0 19 rfl rfl)
abbrev cX1_insert : ByteArray := prog_3_method_3_code
def yX1_insert : MethodName := ⟨RX1, "insert", "(Ljava/lang/Object;Ljava/lang/Object;)LAddressableHeap$Handle;"⟩
def dkwX1_insert_9 : List UInt8 := [45, 182, 0, 65, 45, 176]
abbrev dktX1_insert_9 : List UInt8 := dkwX1_insert_9 ++ []
def dkwX1_insert_8 : List UInt8 := [180, 0, 53, 45, 181, 0, 56, 45, 25, 4, 181, 0, 56, 42, 89, 180, 0, 16, 10, 97, 181, 0, 16, 42]
abbrev dktX1_insert_8 : List UInt8 := dkwX1_insert_8 ++ dktX1_insert_9
def dkwX1_insert_7 : List UInt8 := [182, 0, 61, 58, 4, 25, 4, 180, 0, 53, 199, 0, 12, 25, 4, 45, 181, 0, 53, 167, 0, 12, 25, 4]
abbrev dktX1_insert_7 : List UInt8 := dkwX1_insert_7 ++ dktX1_insert_8
def dkwX1_insert_6 : List UInt8 := [180, 0, 20, 181, 0, 56, 42, 20, 0, 59, 181, 0, 16, 45, 176, 42, 42, 180, 0, 16, 10, 97]
abbrev dktX1_insert_6 : List UInt8 := dkwX1_insert_6 ++ dktX1_insert_7
def dkwX1_insert_5 : List UInt8 := [45, 181, 0, 56, 42, 45, 181, 0, 20, 167, 0, 19, 42, 180, 0, 20, 45, 181, 0, 53, 45, 42]
abbrev dktX1_insert_5 : List UInt8 := dkwX1_insert_5 ++ dktX1_insert_6
def dkwX1_insert_4 : List UInt8 := [185, 0, 48, 3, 0, 54, 4, 21, 4, 156, 0, 27, 45, 42, 180, 0, 20, 181, 0, 53, 42, 180, 0, 20]
abbrev dktX1_insert_4 : List UInt8 := dkwX1_insert_4 ++ dktX1_insert_5
def dkwX1_insert_3 : List UInt8 := [180, 0, 38, 184, 0, 42, 54, 4, 167, 0, 22, 42, 180, 0, 12, 43, 42, 180, 0, 20, 180, 0, 38]
abbrev dktX1_insert_3 : List UInt8 := dkwX1_insert_3 ++ dktX1_insert_4
def dkwX1_insert_2 : List UInt8 := [180, 0, 16, 10, 148, 154, 0, 102, 42, 180, 0, 12, 199, 0, 22, 43, 192, 0, 36, 42, 180, 0, 20]
abbrev dktX1_insert_2 : List UInt8 := dkwX1_insert_2 ++ dktX1_insert_3
def dkwX1_insert_1 : List UInt8 := [78, 42, 180, 0, 16, 9, 148, 154, 0, 15, 42, 45, 181, 0, 20, 42, 10, 181, 0, 16, 45, 176, 42]
abbrev dktX1_insert_1 : List UInt8 := dkwX1_insert_1 ++ dktX1_insert_2
def dkwX1_insert_0 : List UInt8 := [43, 199, 0, 13, 187, 0, 24, 89, 18, 26, 183, 0, 28, 191, 187, 0, 31, 89, 42, 43, 44, 183, 0, 33]
abbrev dktX1_insert_0 : List UInt8 := dkwX1_insert_0 ++ dktX1_insert_1
theorem dksX1_insert_0 : cX1_insert.data.toList.drop 0 = dktX1_insert_0 := by decide +kernel
theorem dksX1_insert_1 : cX1_insert.data.toList.drop 24 = dktX1_insert_1 := dk_seg dksX1_insert_0 24 rfl rfl
theorem dksX1_insert_2 : cX1_insert.data.toList.drop 47 = dktX1_insert_2 := dk_seg dksX1_insert_1 23 rfl rfl
theorem dksX1_insert_3 : cX1_insert.data.toList.drop 70 = dktX1_insert_3 := dk_seg dksX1_insert_2 23 rfl rfl
theorem dksX1_insert_4 : cX1_insert.data.toList.drop 93 = dktX1_insert_4 := dk_seg dksX1_insert_3 23 rfl rfl
theorem dksX1_insert_5 : cX1_insert.data.toList.drop 117 = dktX1_insert_5 := dk_seg dksX1_insert_4 24 rfl rfl
theorem dksX1_insert_6 : cX1_insert.data.toList.drop 139 = dktX1_insert_6 := dk_seg dksX1_insert_5 22 rfl rfl
theorem dksX1_insert_7 : cX1_insert.data.toList.drop 161 = dktX1_insert_7 := dk_seg dksX1_insert_6 22 rfl rfl
theorem dksX1_insert_8 : cX1_insert.data.toList.drop 185 = dktX1_insert_8 := dk_seg dksX1_insert_7 24 rfl rfl
theorem dksX1_insert_9 : cX1_insert.data.toList.drop 209 = dktX1_insert_9 := dk_seg dksX1_insert_8 24 rfl rfl
theorem dX1_insert_0 : decode cX1_insert 0 = .ok (.aload_n 1, 1) := dk_43 (dk_at dksX1_insert_0 0 rfl rfl)
theorem dX1_insert_1 : decode cX1_insert 1 = .ok (.ifnonnull 13, 3) := dk_199 0 13 (dk_at dksX1_insert_0 1 rfl rfl)
theorem dX1_insert_4 : decode cX1_insert 4 = .ok (.new 24, 3) := dk_187 0 24 (dk_at dksX1_insert_0 4 rfl rfl)
theorem dX1_insert_7 : decode cX1_insert 7 = .ok (.dup, 1) := dk_89 (dk_at dksX1_insert_0 7 rfl rfl)
theorem dX1_insert_8 : decode cX1_insert 8 = .ok (.ldc 26, 2) := dk_18 26 (dk_at dksX1_insert_0 8 rfl rfl)
theorem dX1_insert_10 : decode cX1_insert 10 = .ok (.invokespecial 28, 3) := dk_183 0 28 (dk_at dksX1_insert_0 10 rfl rfl)
theorem dX1_insert_13 : decode cX1_insert 13 = .ok (.athrow, 1) := dk_191 (dk_at dksX1_insert_0 13 rfl rfl)
theorem dX1_insert_14 : decode cX1_insert 14 = .ok (.new 31, 3) := dk_187 0 31 (dk_at dksX1_insert_0 14 rfl rfl)
theorem dX1_insert_17 : decode cX1_insert 17 = .ok (.dup, 1) := dk_89 (dk_at dksX1_insert_0 17 rfl rfl)
theorem dX1_insert_18 : decode cX1_insert 18 = .ok (.aload_n 0, 1) := dk_42 (dk_at dksX1_insert_0 18 rfl rfl)
theorem dX1_insert_19 : decode cX1_insert 19 = .ok (.aload_n 1, 1) := dk_43 (dk_at dksX1_insert_0 19 rfl rfl)
theorem dX1_insert_20 : decode cX1_insert 20 = .ok (.aload_n 2, 1) := dk_44 (dk_at dksX1_insert_0 20 rfl rfl)
theorem dX1_insert_21 : decode cX1_insert 21 = .ok (.invokespecial 33, 3) := dk_183 0 33 (dk_at dksX1_insert_0 21 rfl rfl)
theorem dX1_insert_24 : decode cX1_insert 24 = .ok (.astore_n 3, 1) := dk_78 (dk_at dksX1_insert_1 0 rfl rfl)
theorem dX1_insert_25 : decode cX1_insert 25 = .ok (.aload_n 0, 1) := dk_42 (dk_at dksX1_insert_1 1 rfl rfl)
theorem dX1_insert_26 : decode cX1_insert 26 = .ok (.getfield 16, 3) := dk_180 0 16 (dk_at dksX1_insert_1 2 rfl rfl)
theorem dX1_insert_29 : decode cX1_insert 29 = .ok (.lconst 0, 1) := dk_9 (dk_at dksX1_insert_1 5 rfl rfl)
theorem dX1_insert_30 : decode cX1_insert 30 = .ok (.lcmp, 1) := dk_148 (dk_at dksX1_insert_1 6 rfl rfl)
theorem dX1_insert_31 : decode cX1_insert 31 = .ok (.ifCond .ne 15, 3) := dk_154 0 15 (dk_at dksX1_insert_1 7 rfl rfl)
theorem dX1_insert_34 : decode cX1_insert 34 = .ok (.aload_n 0, 1) := dk_42 (dk_at dksX1_insert_1 10 rfl rfl)
theorem dX1_insert_35 : decode cX1_insert 35 = .ok (.aload_n 3, 1) := dk_45 (dk_at dksX1_insert_1 11 rfl rfl)
theorem dX1_insert_36 : decode cX1_insert 36 = .ok (.putfield 20, 3) := dk_181 0 20 (dk_at dksX1_insert_1 12 rfl rfl)
theorem dX1_insert_39 : decode cX1_insert 39 = .ok (.aload_n 0, 1) := dk_42 (dk_at dksX1_insert_1 15 rfl rfl)
theorem dX1_insert_40 : decode cX1_insert 40 = .ok (.lconst 1, 1) := dk_10 (dk_at dksX1_insert_1 16 rfl rfl)
theorem dX1_insert_41 : decode cX1_insert 41 = .ok (.putfield 16, 3) := dk_181 0 16 (dk_at dksX1_insert_1 17 rfl rfl)
theorem dX1_insert_44 : decode cX1_insert 44 = .ok (.aload_n 3, 1) := dk_45 (dk_at dksX1_insert_1 20 rfl rfl)
theorem dX1_insert_45 : decode cX1_insert 45 = .ok (.areturn, 1) := dk_176 (dk_at dksX1_insert_1 21 rfl rfl)
theorem dX1_insert_46 : decode cX1_insert 46 = .ok (.aload_n 0, 1) := dk_42 (dk_at dksX1_insert_1 22 rfl rfl)
theorem dX1_insert_47 : decode cX1_insert 47 = .ok (.getfield 16, 3) := dk_180 0 16 (dk_at dksX1_insert_2 0 rfl rfl)
theorem dX1_insert_50 : decode cX1_insert 50 = .ok (.lconst 1, 1) := dk_10 (dk_at dksX1_insert_2 3 rfl rfl)
theorem dX1_insert_51 : decode cX1_insert 51 = .ok (.lcmp, 1) := dk_148 (dk_at dksX1_insert_2 4 rfl rfl)
theorem dX1_insert_52 : decode cX1_insert 52 = .ok (.ifCond .ne 102, 3) := dk_154 0 102 (dk_at dksX1_insert_2 5 rfl rfl)
theorem dX1_insert_55 : decode cX1_insert 55 = .ok (.aload_n 0, 1) := dk_42 (dk_at dksX1_insert_2 8 rfl rfl)
theorem dX1_insert_56 : decode cX1_insert 56 = .ok (.getfield 12, 3) := dk_180 0 12 (dk_at dksX1_insert_2 9 rfl rfl)
theorem dX1_insert_59 : decode cX1_insert 59 = .ok (.ifnonnull 22, 3) := dk_199 0 22 (dk_at dksX1_insert_2 12 rfl rfl)
theorem dX1_insert_62 : decode cX1_insert 62 = .ok (.aload_n 1, 1) := dk_43 (dk_at dksX1_insert_2 15 rfl rfl)
theorem dX1_insert_63 : decode cX1_insert 63 = .ok (.checkcast 36, 3) := dk_192 0 36 (dk_at dksX1_insert_2 16 rfl rfl)
theorem dX1_insert_66 : decode cX1_insert 66 = .ok (.aload_n 0, 1) := dk_42 (dk_at dksX1_insert_2 19 rfl rfl)
theorem dX1_insert_67 : decode cX1_insert 67 = .ok (.getfield 20, 3) := dk_180 0 20 (dk_at dksX1_insert_2 20 rfl rfl)
theorem dX1_insert_70 : decode cX1_insert 70 = .ok (.getfield 38, 3) := dk_180 0 38 (dk_at dksX1_insert_3 0 rfl rfl)
theorem dX1_insert_73 : decode cX1_insert 73 = .ok (.invokestatic 42, 3) := dk_184 0 42 (dk_at dksX1_insert_3 3 rfl rfl)
theorem dX1_insert_76 : decode cX1_insert 76 = .ok (.istore 4, 2) := dk_54 4 (dk_at dksX1_insert_3 6 rfl rfl)
theorem dX1_insert_78 : decode cX1_insert 78 = .ok (.goto 22, 3) := dk_167 0 22 (dk_at dksX1_insert_3 8 rfl rfl)
theorem dX1_insert_81 : decode cX1_insert 81 = .ok (.aload_n 0, 1) := dk_42 (dk_at dksX1_insert_3 11 rfl rfl)
theorem dX1_insert_82 : decode cX1_insert 82 = .ok (.getfield 12, 3) := dk_180 0 12 (dk_at dksX1_insert_3 12 rfl rfl)
theorem dX1_insert_85 : decode cX1_insert 85 = .ok (.aload_n 1, 1) := dk_43 (dk_at dksX1_insert_3 15 rfl rfl)
theorem dX1_insert_86 : decode cX1_insert 86 = .ok (.aload_n 0, 1) := dk_42 (dk_at dksX1_insert_3 16 rfl rfl)
theorem dX1_insert_87 : decode cX1_insert 87 = .ok (.getfield 20, 3) := dk_180 0 20 (dk_at dksX1_insert_3 17 rfl rfl)
theorem dX1_insert_90 : decode cX1_insert 90 = .ok (.getfield 38, 3) := dk_180 0 38 (dk_at dksX1_insert_3 20 rfl rfl)
theorem dX1_insert_93 : decode cX1_insert 93 = .ok (.invokeinterface 48 3, 5) := by decide +kernel
theorem dX1_insert_98 : decode cX1_insert 98 = .ok (.istore 4, 2) := dk_54 4 (dk_at dksX1_insert_4 5 rfl rfl)
theorem dX1_insert_100 : decode cX1_insert 100 = .ok (.iload 4, 2) := dk_21 4 (dk_at dksX1_insert_4 7 rfl rfl)
theorem dX1_insert_102 : decode cX1_insert 102 = .ok (.ifCond .ge 27, 3) := dk_156 0 27 (dk_at dksX1_insert_4 9 rfl rfl)
theorem dX1_insert_105 : decode cX1_insert 105 = .ok (.aload_n 3, 1) := dk_45 (dk_at dksX1_insert_4 12 rfl rfl)
theorem dX1_insert_106 : decode cX1_insert 106 = .ok (.aload_n 0, 1) := dk_42 (dk_at dksX1_insert_4 13 rfl rfl)
theorem dX1_insert_107 : decode cX1_insert 107 = .ok (.getfield 20, 3) := dk_180 0 20 (dk_at dksX1_insert_4 14 rfl rfl)
theorem dX1_insert_110 : decode cX1_insert 110 = .ok (.putfield 53, 3) := dk_181 0 53 (dk_at dksX1_insert_4 17 rfl rfl)
theorem dX1_insert_113 : decode cX1_insert 113 = .ok (.aload_n 0, 1) := dk_42 (dk_at dksX1_insert_4 20 rfl rfl)
theorem dX1_insert_114 : decode cX1_insert 114 = .ok (.getfield 20, 3) := dk_180 0 20 (dk_at dksX1_insert_4 21 rfl rfl)
theorem dX1_insert_117 : decode cX1_insert 117 = .ok (.aload_n 3, 1) := dk_45 (dk_at dksX1_insert_5 0 rfl rfl)
theorem dX1_insert_118 : decode cX1_insert 118 = .ok (.putfield 56, 3) := dk_181 0 56 (dk_at dksX1_insert_5 1 rfl rfl)
theorem dX1_insert_121 : decode cX1_insert 121 = .ok (.aload_n 0, 1) := dk_42 (dk_at dksX1_insert_5 4 rfl rfl)
theorem dX1_insert_122 : decode cX1_insert 122 = .ok (.aload_n 3, 1) := dk_45 (dk_at dksX1_insert_5 5 rfl rfl)
theorem dX1_insert_123 : decode cX1_insert 123 = .ok (.putfield 20, 3) := dk_181 0 20 (dk_at dksX1_insert_5 6 rfl rfl)
theorem dX1_insert_126 : decode cX1_insert 126 = .ok (.goto 19, 3) := dk_167 0 19 (dk_at dksX1_insert_5 9 rfl rfl)
theorem dX1_insert_129 : decode cX1_insert 129 = .ok (.aload_n 0, 1) := dk_42 (dk_at dksX1_insert_5 12 rfl rfl)
theorem dX1_insert_130 : decode cX1_insert 130 = .ok (.getfield 20, 3) := dk_180 0 20 (dk_at dksX1_insert_5 13 rfl rfl)
theorem dX1_insert_133 : decode cX1_insert 133 = .ok (.aload_n 3, 1) := dk_45 (dk_at dksX1_insert_5 16 rfl rfl)
theorem dX1_insert_134 : decode cX1_insert 134 = .ok (.putfield 53, 3) := dk_181 0 53 (dk_at dksX1_insert_5 17 rfl rfl)
theorem dX1_insert_137 : decode cX1_insert 137 = .ok (.aload_n 3, 1) := dk_45 (dk_at dksX1_insert_5 20 rfl rfl)
theorem dX1_insert_138 : decode cX1_insert 138 = .ok (.aload_n 0, 1) := dk_42 (dk_at dksX1_insert_5 21 rfl rfl)
theorem dX1_insert_139 : decode cX1_insert 139 = .ok (.getfield 20, 3) := dk_180 0 20 (dk_at dksX1_insert_6 0 rfl rfl)
theorem dX1_insert_142 : decode cX1_insert 142 = .ok (.putfield 56, 3) := dk_181 0 56 (dk_at dksX1_insert_6 3 rfl rfl)
theorem dX1_insert_145 : decode cX1_insert 145 = .ok (.aload_n 0, 1) := dk_42 (dk_at dksX1_insert_6 6 rfl rfl)
theorem dX1_insert_146 : decode cX1_insert 146 = .ok (.ldc2_w 59, 3) := dk_20 0 59 (dk_at dksX1_insert_6 7 rfl rfl)
theorem dX1_insert_149 : decode cX1_insert 149 = .ok (.putfield 16, 3) := dk_181 0 16 (dk_at dksX1_insert_6 10 rfl rfl)
theorem dX1_insert_152 : decode cX1_insert 152 = .ok (.aload_n 3, 1) := dk_45 (dk_at dksX1_insert_6 13 rfl rfl)
theorem dX1_insert_153 : decode cX1_insert 153 = .ok (.areturn, 1) := dk_176 (dk_at dksX1_insert_6 14 rfl rfl)
theorem dX1_insert_154 : decode cX1_insert 154 = .ok (.aload_n 0, 1) := dk_42 (dk_at dksX1_insert_6 15 rfl rfl)
theorem dX1_insert_155 : decode cX1_insert 155 = .ok (.aload_n 0, 1) := dk_42 (dk_at dksX1_insert_6 16 rfl rfl)
theorem dX1_insert_156 : decode cX1_insert 156 = .ok (.getfield 16, 3) := dk_180 0 16 (dk_at dksX1_insert_6 17 rfl rfl)
theorem dX1_insert_159 : decode cX1_insert 159 = .ok (.lconst 1, 1) := dk_10 (dk_at dksX1_insert_6 20 rfl rfl)
theorem dX1_insert_160 : decode cX1_insert 160 = .ok (.ladd, 1) := dk_97 (dk_at dksX1_insert_6 21 rfl rfl)
theorem dX1_insert_161 : decode cX1_insert 161 = .ok (.invokevirtual 61, 3) := dk_182 0 61 (dk_at dksX1_insert_7 0 rfl rfl)
theorem dX1_insert_164 : decode cX1_insert 164 = .ok (.astore 4, 2) := dk_58 4 (dk_at dksX1_insert_7 3 rfl rfl)
theorem dX1_insert_166 : decode cX1_insert 166 = .ok (.aload 4, 2) := dk_25 4 (dk_at dksX1_insert_7 5 rfl rfl)
theorem dX1_insert_168 : decode cX1_insert 168 = .ok (.getfield 53, 3) := dk_180 0 53 (dk_at dksX1_insert_7 7 rfl rfl)
theorem dX1_insert_171 : decode cX1_insert 171 = .ok (.ifnonnull 12, 3) := dk_199 0 12 (dk_at dksX1_insert_7 10 rfl rfl)
theorem dX1_insert_174 : decode cX1_insert 174 = .ok (.aload 4, 2) := dk_25 4 (dk_at dksX1_insert_7 13 rfl rfl)
theorem dX1_insert_176 : decode cX1_insert 176 = .ok (.aload_n 3, 1) := dk_45 (dk_at dksX1_insert_7 15 rfl rfl)
theorem dX1_insert_177 : decode cX1_insert 177 = .ok (.putfield 53, 3) := dk_181 0 53 (dk_at dksX1_insert_7 16 rfl rfl)
theorem dX1_insert_180 : decode cX1_insert 180 = .ok (.goto 12, 3) := dk_167 0 12 (dk_at dksX1_insert_7 19 rfl rfl)
theorem dX1_insert_183 : decode cX1_insert 183 = .ok (.aload 4, 2) := dk_25 4 (dk_at dksX1_insert_7 22 rfl rfl)
theorem dX1_insert_185 : decode cX1_insert 185 = .ok (.getfield 53, 3) := dk_180 0 53 (dk_at dksX1_insert_8 0 rfl rfl)
theorem dX1_insert_188 : decode cX1_insert 188 = .ok (.aload_n 3, 1) := dk_45 (dk_at dksX1_insert_8 3 rfl rfl)
theorem dX1_insert_189 : decode cX1_insert 189 = .ok (.putfield 56, 3) := dk_181 0 56 (dk_at dksX1_insert_8 4 rfl rfl)
theorem dX1_insert_192 : decode cX1_insert 192 = .ok (.aload_n 3, 1) := dk_45 (dk_at dksX1_insert_8 7 rfl rfl)
theorem dX1_insert_193 : decode cX1_insert 193 = .ok (.aload 4, 2) := dk_25 4 (dk_at dksX1_insert_8 8 rfl rfl)
theorem dX1_insert_195 : decode cX1_insert 195 = .ok (.putfield 56, 3) := dk_181 0 56 (dk_at dksX1_insert_8 10 rfl rfl)
theorem dX1_insert_198 : decode cX1_insert 198 = .ok (.aload_n 0, 1) := dk_42 (dk_at dksX1_insert_8 13 rfl rfl)
theorem dX1_insert_199 : decode cX1_insert 199 = .ok (.dup, 1) := dk_89 (dk_at dksX1_insert_8 14 rfl rfl)
theorem dX1_insert_200 : decode cX1_insert 200 = .ok (.getfield 16, 3) := dk_180 0 16 (dk_at dksX1_insert_8 15 rfl rfl)
theorem dX1_insert_203 : decode cX1_insert 203 = .ok (.lconst 1, 1) := dk_10 (dk_at dksX1_insert_8 18 rfl rfl)
theorem dX1_insert_204 : decode cX1_insert 204 = .ok (.ladd, 1) := dk_97 (dk_at dksX1_insert_8 19 rfl rfl)
theorem dX1_insert_205 : decode cX1_insert 205 = .ok (.putfield 16, 3) := dk_181 0 16 (dk_at dksX1_insert_8 20 rfl rfl)
theorem dX1_insert_208 : decode cX1_insert 208 = .ok (.aload_n 0, 1) := dk_42 (dk_at dksX1_insert_8 23 rfl rfl)
theorem dX1_insert_209 : decode cX1_insert 209 = .ok (.aload_n 3, 1) := dk_45 (dk_at dksX1_insert_9 0 rfl rfl)
theorem dX1_insert_210 : decode cX1_insert 210 = .ok (.invokevirtual 65, 3) := dk_182 0 65 (dk_at dksX1_insert_9 1 rfl rfl)
theorem dX1_insert_213 : decode cX1_insert 213 = .ok (.aload_n 3, 1) := dk_45 (dk_at dksX1_insert_9 4 rfl rfl)
theorem dX1_insert_214 : decode cX1_insert 214 = .ok (.areturn, 1) := dk_176 (dk_at dksX1_insert_9 5 rfl rfl)
abbrev cX1_findParentNode : ByteArray := prog_3_method_12_code
def yX1_findParentNode : MethodName := ⟨RX1, "findParentNode", "(J)LBinaryTreeAddressableHeap$Node;"⟩
def dkwX1_findParentNode_3 : List UInt8 := [25, 5, 176]
abbrev dktX1_findParentNode_3 : List UInt8 := dkwX1_findParentNode_3 ++ []
def dkwX1_findParentNode_2 : List UInt8 := [180, 0, 53, 180, 0, 56, 58, 5, 167, 0, 10, 25, 5, 180, 0, 53, 58, 5, 132, 6, 255, 167, 255, 218]
abbrev dktX1_findParentNode_2 : List UInt8 := dkwX1_findParentNode_2 ++ dktX1_findParentNode_3
def dkwX1_findParentNode_1 : List UInt8 := [182, 0, 89, 5, 100, 54, 6, 21, 6, 158, 0, 39, 25, 4, 21, 6, 182, 0, 93, 153, 0, 16, 25, 5]
abbrev dktX1_findParentNode_1 : List UInt8 := dkwX1_findParentNode_1 ++ dktX1_findParentNode_2
def dkwX1_findParentNode_0 : List UInt8 := [4, 188, 11, 89, 3, 31, 80, 78, 45, 184, 0, 83, 58, 4, 42, 180, 0, 20, 58, 5, 25, 4]
abbrev dktX1_findParentNode_0 : List UInt8 := dkwX1_findParentNode_0 ++ dktX1_findParentNode_1
theorem dksX1_findParentNode_0 : cX1_findParentNode.data.toList.drop 0 = dktX1_findParentNode_0 := by decide +kernel
theorem dksX1_findParentNode_1 : cX1_findParentNode.data.toList.drop 22 = dktX1_findParentNode_1 := dk_seg dksX1_findParentNode_0 22 rfl rfl
theorem dksX1_findParentNode_2 : cX1_findParentNode.data.toList.drop 46 = dktX1_findParentNode_2 := dk_seg dksX1_findParentNode_1 24 rfl rfl
theorem dksX1_findParentNode_3 : cX1_findParentNode.data.toList.drop 70 = dktX1_findParentNode_3 := dk_seg dksX1_findParentNode_2 24 rfl rfl
theorem dX1_findParentNode_0 : decode cX1_findParentNode 0 = .ok (.iconst 1, 1) := dk_4 (dk_at dksX1_findParentNode_0 0 rfl rfl)
theorem dX1_findParentNode_1 : decode cX1_findParentNode 1 = .ok (.newarray .long, 2) := dk_188_11 (dk_at dksX1_findParentNode_0 1 rfl rfl)
theorem dX1_findParentNode_3 : decode cX1_findParentNode 3 = .ok (.dup, 1) := dk_89 (dk_at dksX1_findParentNode_0 3 rfl rfl)
theorem dX1_findParentNode_4 : decode cX1_findParentNode 4 = .ok (.iconst 0, 1) := dk_3 (dk_at dksX1_findParentNode_0 4 rfl rfl)
theorem dX1_findParentNode_5 : decode cX1_findParentNode 5 = .ok (.lload_n 1, 1) := dk_31 (dk_at dksX1_findParentNode_0 5 rfl rfl)
theorem dX1_findParentNode_6 : decode cX1_findParentNode 6 = .ok (.lastore, 1) := dk_80 (dk_at dksX1_findParentNode_0 6 rfl rfl)
theorem dX1_findParentNode_7 : decode cX1_findParentNode 7 = .ok (.astore_n 3, 1) := dk_78 (dk_at dksX1_findParentNode_0 7 rfl rfl)
theorem dX1_findParentNode_8 : decode cX1_findParentNode 8 = .ok (.aload_n 3, 1) := dk_45 (dk_at dksX1_findParentNode_0 8 rfl rfl)
theorem dX1_findParentNode_9 : decode cX1_findParentNode 9 = .ok (.invokestatic 83, 3) := dk_184 0 83 (dk_at dksX1_findParentNode_0 9 rfl rfl)
theorem dX1_findParentNode_12 : decode cX1_findParentNode 12 = .ok (.astore 4, 2) := dk_58 4 (dk_at dksX1_findParentNode_0 12 rfl rfl)
theorem dX1_findParentNode_14 : decode cX1_findParentNode 14 = .ok (.aload_n 0, 1) := dk_42 (dk_at dksX1_findParentNode_0 14 rfl rfl)
theorem dX1_findParentNode_15 : decode cX1_findParentNode 15 = .ok (.getfield 20, 3) := dk_180 0 20 (dk_at dksX1_findParentNode_0 15 rfl rfl)
theorem dX1_findParentNode_18 : decode cX1_findParentNode 18 = .ok (.astore 5, 2) := dk_58 5 (dk_at dksX1_findParentNode_0 18 rfl rfl)
theorem dX1_findParentNode_20 : decode cX1_findParentNode 20 = .ok (.aload 4, 2) := dk_25 4 (dk_at dksX1_findParentNode_0 20 rfl rfl)
theorem dX1_findParentNode_22 : decode cX1_findParentNode 22 = .ok (.invokevirtual 89, 3) := dk_182 0 89 (dk_at dksX1_findParentNode_1 0 rfl rfl)
theorem dX1_findParentNode_25 : decode cX1_findParentNode 25 = .ok (.iconst 2, 1) := dk_5 (dk_at dksX1_findParentNode_1 3 rfl rfl)
theorem dX1_findParentNode_26 : decode cX1_findParentNode 26 = .ok (.isub, 1) := dk_100 (dk_at dksX1_findParentNode_1 4 rfl rfl)
theorem dX1_findParentNode_27 : decode cX1_findParentNode 27 = .ok (.istore 6, 2) := dk_54 6 (dk_at dksX1_findParentNode_1 5 rfl rfl)
theorem dX1_findParentNode_29 : decode cX1_findParentNode 29 = .ok (.iload 6, 2) := dk_21 6 (dk_at dksX1_findParentNode_1 7 rfl rfl)
theorem dX1_findParentNode_31 : decode cX1_findParentNode 31 = .ok (.ifCond .le 39, 3) := dk_158 0 39 (dk_at dksX1_findParentNode_1 9 rfl rfl)
theorem dX1_findParentNode_34 : decode cX1_findParentNode 34 = .ok (.aload 4, 2) := dk_25 4 (dk_at dksX1_findParentNode_1 12 rfl rfl)
theorem dX1_findParentNode_36 : decode cX1_findParentNode 36 = .ok (.iload 6, 2) := dk_21 6 (dk_at dksX1_findParentNode_1 14 rfl rfl)
theorem dX1_findParentNode_38 : decode cX1_findParentNode 38 = .ok (.invokevirtual 93, 3) := dk_182 0 93 (dk_at dksX1_findParentNode_1 16 rfl rfl)
theorem dX1_findParentNode_41 : decode cX1_findParentNode 41 = .ok (.ifCond .eq 16, 3) := dk_153 0 16 (dk_at dksX1_findParentNode_1 19 rfl rfl)
theorem dX1_findParentNode_44 : decode cX1_findParentNode 44 = .ok (.aload 5, 2) := dk_25 5 (dk_at dksX1_findParentNode_1 22 rfl rfl)
theorem dX1_findParentNode_46 : decode cX1_findParentNode 46 = .ok (.getfield 53, 3) := dk_180 0 53 (dk_at dksX1_findParentNode_2 0 rfl rfl)
theorem dX1_findParentNode_49 : decode cX1_findParentNode 49 = .ok (.getfield 56, 3) := dk_180 0 56 (dk_at dksX1_findParentNode_2 3 rfl rfl)
theorem dX1_findParentNode_52 : decode cX1_findParentNode 52 = .ok (.astore 5, 2) := dk_58 5 (dk_at dksX1_findParentNode_2 6 rfl rfl)
theorem dX1_findParentNode_54 : decode cX1_findParentNode 54 = .ok (.goto 10, 3) := dk_167 0 10 (dk_at dksX1_findParentNode_2 8 rfl rfl)
theorem dX1_findParentNode_57 : decode cX1_findParentNode 57 = .ok (.aload 5, 2) := dk_25 5 (dk_at dksX1_findParentNode_2 11 rfl rfl)
theorem dX1_findParentNode_59 : decode cX1_findParentNode 59 = .ok (.getfield 53, 3) := dk_180 0 53 (dk_at dksX1_findParentNode_2 13 rfl rfl)
theorem dX1_findParentNode_62 : decode cX1_findParentNode 62 = .ok (.astore 5, 2) := dk_58 5 (dk_at dksX1_findParentNode_2 16 rfl rfl)
theorem dX1_findParentNode_64 : decode cX1_findParentNode 64 = .ok (.iinc 6 (-1), 3) := dk_132 6 255 (dk_at dksX1_findParentNode_2 18 rfl rfl)
theorem dX1_findParentNode_67 : decode cX1_findParentNode 67 = .ok (.goto (-38), 3) := dk_167 255 218 (dk_at dksX1_findParentNode_2 21 rfl rfl)
theorem dX1_findParentNode_70 : decode cX1_findParentNode 70 = .ok (.aload 5, 2) := dk_25 5 (dk_at dksX1_findParentNode_3 0 rfl rfl)
theorem dX1_findParentNode_72 : decode cX1_findParentNode 72 = .ok (.areturn, 1) := dk_176 (dk_at dksX1_findParentNode_3 2 rfl rfl)
abbrev cX1_fixup : ByteArray := prog_3_method_9_code
def yX1_fixup : MethodName := ⟨RX1, "fixup", "(LBinaryTreeAddressableHeap$Node;)V"⟩
def dkwX1_fixup_4 : List UInt8 := [182, 0, 75, 78, 42, 43, 44, 45, 182, 0, 79, 45, 77, 167, 255, 214, 177]
abbrev dktX1_fixup_4 : List UInt8 := dkwX1_fixup_4 ++ []
def dkwX1_fixup_3 : List UInt8 := [180, 0, 12, 43, 180, 0, 38, 44, 180, 0, 38, 185, 0, 48, 3, 0, 155, 0, 6, 167, 0, 21, 42, 44]
abbrev dktX1_fixup_3 : List UInt8 := dkwX1_fixup_3 ++ dktX1_fixup_4
def dkwX1_fixup_2 : List UInt8 := [182, 0, 79, 45, 77, 167, 255, 217, 167, 0, 54, 42, 43, 182, 0, 75, 77, 44, 198, 0, 44, 42]
abbrev dktX1_fixup_2 : List UInt8 := dkwX1_fixup_2 ++ dktX1_fixup_3
def dkwX1_fixup_1 : List UInt8 := [44, 180, 0, 38, 184, 0, 42, 155, 0, 6, 167, 0, 21, 42, 44, 182, 0, 75, 78, 42, 43, 44, 45]
abbrev dktX1_fixup_1 : List UInt8 := dkwX1_fixup_1 ++ dktX1_fixup_2
def dkwX1_fixup_0 : List UInt8 := [42, 180, 0, 12, 199, 0, 54, 42, 43, 182, 0, 75, 77, 44, 198, 0, 41, 43, 180, 0, 38, 192, 0, 36]
abbrev dktX1_fixup_0 : List UInt8 := dkwX1_fixup_0 ++ dktX1_fixup_1
theorem dksX1_fixup_0 : cX1_fixup.data.toList.drop 0 = dktX1_fixup_0 := by decide +kernel
theorem dksX1_fixup_1 : cX1_fixup.data.toList.drop 24 = dktX1_fixup_1 := dk_seg dksX1_fixup_0 24 rfl rfl
theorem dksX1_fixup_2 : cX1_fixup.data.toList.drop 47 = dktX1_fixup_2 := dk_seg dksX1_fixup_1 23 rfl rfl
theorem dksX1_fixup_3 : cX1_fixup.data.toList.drop 69 = dktX1_fixup_3 := dk_seg dksX1_fixup_2 22 rfl rfl
theorem dksX1_fixup_4 : cX1_fixup.data.toList.drop 93 = dktX1_fixup_4 := dk_seg dksX1_fixup_3 24 rfl rfl
theorem dX1_fixup_0 : decode cX1_fixup 0 = .ok (.aload_n 0, 1) := dk_42 (dk_at dksX1_fixup_0 0 rfl rfl)
theorem dX1_fixup_1 : decode cX1_fixup 1 = .ok (.getfield 12, 3) := dk_180 0 12 (dk_at dksX1_fixup_0 1 rfl rfl)
theorem dX1_fixup_4 : decode cX1_fixup 4 = .ok (.ifnonnull 54, 3) := dk_199 0 54 (dk_at dksX1_fixup_0 4 rfl rfl)
theorem dX1_fixup_7 : decode cX1_fixup 7 = .ok (.aload_n 0, 1) := dk_42 (dk_at dksX1_fixup_0 7 rfl rfl)
theorem dX1_fixup_8 : decode cX1_fixup 8 = .ok (.aload_n 1, 1) := dk_43 (dk_at dksX1_fixup_0 8 rfl rfl)
theorem dX1_fixup_9 : decode cX1_fixup 9 = .ok (.invokevirtual 75, 3) := dk_182 0 75 (dk_at dksX1_fixup_0 9 rfl rfl)
theorem dX1_fixup_12 : decode cX1_fixup 12 = .ok (.astore_n 2, 1) := dk_77 (dk_at dksX1_fixup_0 12 rfl rfl)
theorem dX1_fixup_13 : decode cX1_fixup 13 = .ok (.aload_n 2, 1) := dk_44 (dk_at dksX1_fixup_0 13 rfl rfl)
theorem dX1_fixup_14 : decode cX1_fixup 14 = .ok (.ifnull 41, 3) := dk_198 0 41 (dk_at dksX1_fixup_0 14 rfl rfl)
theorem dX1_fixup_17 : decode cX1_fixup 17 = .ok (.aload_n 1, 1) := dk_43 (dk_at dksX1_fixup_0 17 rfl rfl)
theorem dX1_fixup_18 : decode cX1_fixup 18 = .ok (.getfield 38, 3) := dk_180 0 38 (dk_at dksX1_fixup_0 18 rfl rfl)
theorem dX1_fixup_21 : decode cX1_fixup 21 = .ok (.checkcast 36, 3) := dk_192 0 36 (dk_at dksX1_fixup_0 21 rfl rfl)
theorem dX1_fixup_24 : decode cX1_fixup 24 = .ok (.aload_n 2, 1) := dk_44 (dk_at dksX1_fixup_1 0 rfl rfl)
theorem dX1_fixup_25 : decode cX1_fixup 25 = .ok (.getfield 38, 3) := dk_180 0 38 (dk_at dksX1_fixup_1 1 rfl rfl)
theorem dX1_fixup_28 : decode cX1_fixup 28 = .ok (.invokestatic 42, 3) := dk_184 0 42 (dk_at dksX1_fixup_1 4 rfl rfl)
theorem dX1_fixup_31 : decode cX1_fixup 31 = .ok (.ifCond .lt 6, 3) := dk_155 0 6 (dk_at dksX1_fixup_1 7 rfl rfl)
theorem dX1_fixup_34 : decode cX1_fixup 34 = .ok (.goto 21, 3) := dk_167 0 21 (dk_at dksX1_fixup_1 10 rfl rfl)
theorem dX1_fixup_37 : decode cX1_fixup 37 = .ok (.aload_n 0, 1) := dk_42 (dk_at dksX1_fixup_1 13 rfl rfl)
theorem dX1_fixup_38 : decode cX1_fixup 38 = .ok (.aload_n 2, 1) := dk_44 (dk_at dksX1_fixup_1 14 rfl rfl)
theorem dX1_fixup_39 : decode cX1_fixup 39 = .ok (.invokevirtual 75, 3) := dk_182 0 75 (dk_at dksX1_fixup_1 15 rfl rfl)
theorem dX1_fixup_42 : decode cX1_fixup 42 = .ok (.astore_n 3, 1) := dk_78 (dk_at dksX1_fixup_1 18 rfl rfl)
theorem dX1_fixup_43 : decode cX1_fixup 43 = .ok (.aload_n 0, 1) := dk_42 (dk_at dksX1_fixup_1 19 rfl rfl)
theorem dX1_fixup_44 : decode cX1_fixup 44 = .ok (.aload_n 1, 1) := dk_43 (dk_at dksX1_fixup_1 20 rfl rfl)
theorem dX1_fixup_45 : decode cX1_fixup 45 = .ok (.aload_n 2, 1) := dk_44 (dk_at dksX1_fixup_1 21 rfl rfl)
theorem dX1_fixup_46 : decode cX1_fixup 46 = .ok (.aload_n 3, 1) := dk_45 (dk_at dksX1_fixup_1 22 rfl rfl)
theorem dX1_fixup_47 : decode cX1_fixup 47 = .ok (.invokevirtual 79, 3) := dk_182 0 79 (dk_at dksX1_fixup_2 0 rfl rfl)
theorem dX1_fixup_50 : decode cX1_fixup 50 = .ok (.aload_n 3, 1) := dk_45 (dk_at dksX1_fixup_2 3 rfl rfl)
theorem dX1_fixup_51 : decode cX1_fixup 51 = .ok (.astore_n 2, 1) := dk_77 (dk_at dksX1_fixup_2 4 rfl rfl)
theorem dX1_fixup_52 : decode cX1_fixup 52 = .ok (.goto (-39), 3) := dk_167 255 217 (dk_at dksX1_fixup_2 5 rfl rfl)
theorem dX1_fixup_55 : decode cX1_fixup 55 = .ok (.goto 54, 3) := dk_167 0 54 (dk_at dksX1_fixup_2 8 rfl rfl)
theorem dX1_fixup_58 : decode cX1_fixup 58 = .ok (.aload_n 0, 1) := dk_42 (dk_at dksX1_fixup_2 11 rfl rfl)
theorem dX1_fixup_59 : decode cX1_fixup 59 = .ok (.aload_n 1, 1) := dk_43 (dk_at dksX1_fixup_2 12 rfl rfl)
theorem dX1_fixup_60 : decode cX1_fixup 60 = .ok (.invokevirtual 75, 3) := dk_182 0 75 (dk_at dksX1_fixup_2 13 rfl rfl)
theorem dX1_fixup_63 : decode cX1_fixup 63 = .ok (.astore_n 2, 1) := dk_77 (dk_at dksX1_fixup_2 16 rfl rfl)
theorem dX1_fixup_64 : decode cX1_fixup 64 = .ok (.aload_n 2, 1) := dk_44 (dk_at dksX1_fixup_2 17 rfl rfl)
theorem dX1_fixup_65 : decode cX1_fixup 65 = .ok (.ifnull 44, 3) := dk_198 0 44 (dk_at dksX1_fixup_2 18 rfl rfl)
theorem dX1_fixup_68 : decode cX1_fixup 68 = .ok (.aload_n 0, 1) := dk_42 (dk_at dksX1_fixup_2 21 rfl rfl)
theorem dX1_fixup_69 : decode cX1_fixup 69 = .ok (.getfield 12, 3) := dk_180 0 12 (dk_at dksX1_fixup_3 0 rfl rfl)
theorem dX1_fixup_72 : decode cX1_fixup 72 = .ok (.aload_n 1, 1) := dk_43 (dk_at dksX1_fixup_3 3 rfl rfl)
theorem dX1_fixup_73 : decode cX1_fixup 73 = .ok (.getfield 38, 3) := dk_180 0 38 (dk_at dksX1_fixup_3 4 rfl rfl)
theorem dX1_fixup_76 : decode cX1_fixup 76 = .ok (.aload_n 2, 1) := dk_44 (dk_at dksX1_fixup_3 7 rfl rfl)
theorem dX1_fixup_77 : decode cX1_fixup 77 = .ok (.getfield 38, 3) := dk_180 0 38 (dk_at dksX1_fixup_3 8 rfl rfl)
theorem dX1_fixup_80 : decode cX1_fixup 80 = .ok (.invokeinterface 48 3, 5) := by decide +kernel
theorem dX1_fixup_85 : decode cX1_fixup 85 = .ok (.ifCond .lt 6, 3) := dk_155 0 6 (dk_at dksX1_fixup_3 16 rfl rfl)
theorem dX1_fixup_88 : decode cX1_fixup 88 = .ok (.goto 21, 3) := dk_167 0 21 (dk_at dksX1_fixup_3 19 rfl rfl)
theorem dX1_fixup_91 : decode cX1_fixup 91 = .ok (.aload_n 0, 1) := dk_42 (dk_at dksX1_fixup_3 22 rfl rfl)
theorem dX1_fixup_92 : decode cX1_fixup 92 = .ok (.aload_n 2, 1) := dk_44 (dk_at dksX1_fixup_3 23 rfl rfl)
theorem dX1_fixup_93 : decode cX1_fixup 93 = .ok (.invokevirtual 75, 3) := dk_182 0 75 (dk_at dksX1_fixup_4 0 rfl rfl)
theorem dX1_fixup_96 : decode cX1_fixup 96 = .ok (.astore_n 3, 1) := dk_78 (dk_at dksX1_fixup_4 3 rfl rfl)
theorem dX1_fixup_97 : decode cX1_fixup 97 = .ok (.aload_n 0, 1) := dk_42 (dk_at dksX1_fixup_4 4 rfl rfl)
theorem dX1_fixup_98 : decode cX1_fixup 98 = .ok (.aload_n 1, 1) := dk_43 (dk_at dksX1_fixup_4 5 rfl rfl)
theorem dX1_fixup_99 : decode cX1_fixup 99 = .ok (.aload_n 2, 1) := dk_44 (dk_at dksX1_fixup_4 6 rfl rfl)
theorem dX1_fixup_100 : decode cX1_fixup 100 = .ok (.aload_n 3, 1) := dk_45 (dk_at dksX1_fixup_4 7 rfl rfl)
theorem dX1_fixup_101 : decode cX1_fixup 101 = .ok (.invokevirtual 79, 3) := dk_182 0 79 (dk_at dksX1_fixup_4 8 rfl rfl)
theorem dX1_fixup_104 : decode cX1_fixup 104 = .ok (.aload_n 3, 1) := dk_45 (dk_at dksX1_fixup_4 11 rfl rfl)
theorem dX1_fixup_105 : decode cX1_fixup 105 = .ok (.astore_n 2, 1) := dk_77 (dk_at dksX1_fixup_4 12 rfl rfl)
theorem dX1_fixup_106 : decode cX1_fixup 106 = .ok (.goto (-42), 3) := dk_167 255 214 (dk_at dksX1_fixup_4 13 rfl rfl)
theorem dX1_fixup_109 : decode cX1_fixup 109 = .ok (.return_, 1) := dk_177 (dk_at dksX1_fixup_4 16 rfl rfl)
abbrev cX1_getParent : ByteArray := prog_3_method_11_code
def yX1_getParent : MethodName := ⟨RX1, "getParent", "(LBinaryTreeAddressableHeap$Node;)LBinaryTreeAddressableHeap$Node;"⟩
def dkwX1_getParent_1 : List UInt8 := [44, 180, 0, 56, 78, 45, 198, 0, 13, 45, 180, 0, 53, 43, 166, 0, 5, 45, 176, 44, 176]
abbrev dktX1_getParent_1 : List UInt8 := dkwX1_getParent_1 ++ []
def dkwX1_getParent_0 : List UInt8 := [43, 180, 0, 56, 199, 0, 5, 1, 176, 43, 180, 0, 56, 77, 44, 180, 0, 53, 43, 166, 0, 5, 44, 176]
abbrev dktX1_getParent_0 : List UInt8 := dkwX1_getParent_0 ++ dktX1_getParent_1
theorem dksX1_getParent_0 : cX1_getParent.data.toList.drop 0 = dktX1_getParent_0 := by decide +kernel
theorem dksX1_getParent_1 : cX1_getParent.data.toList.drop 24 = dktX1_getParent_1 := dk_seg dksX1_getParent_0 24 rfl rfl
theorem dX1_getParent_0 : decode cX1_getParent 0 = .ok (.aload_n 1, 1) := dk_43 (dk_at dksX1_getParent_0 0 rfl rfl)
theorem dX1_getParent_1 : decode cX1_getParent 1 = .ok (.getfield 56, 3) := dk_180 0 56 (dk_at dksX1_getParent_0 1 rfl rfl)
theorem dX1_getParent_4 : decode cX1_getParent 4 = .ok (.ifnonnull 5, 3) := dk_199 0 5 (dk_at dksX1_getParent_0 4 rfl rfl)
theorem dX1_getParent_7 : decode cX1_getParent 7 = .ok (.aconst_null, 1) := dk_1 (dk_at dksX1_getParent_0 7 rfl rfl)
theorem dX1_getParent_8 : decode cX1_getParent 8 = .ok (.areturn, 1) := dk_176 (dk_at dksX1_getParent_0 8 rfl rfl)
theorem dX1_getParent_9 : decode cX1_getParent 9 = .ok (.aload_n 1, 1) := dk_43 (dk_at dksX1_getParent_0 9 rfl rfl)
theorem dX1_getParent_10 : decode cX1_getParent 10 = .ok (.getfield 56, 3) := dk_180 0 56 (dk_at dksX1_getParent_0 10 rfl rfl)
theorem dX1_getParent_13 : decode cX1_getParent 13 = .ok (.astore_n 2, 1) := dk_77 (dk_at dksX1_getParent_0 13 rfl rfl)
theorem dX1_getParent_14 : decode cX1_getParent 14 = .ok (.aload_n 2, 1) := dk_44 (dk_at dksX1_getParent_0 14 rfl rfl)
theorem dX1_getParent_15 : decode cX1_getParent 15 = .ok (.getfield 53, 3) := dk_180 0 53 (dk_at dksX1_getParent_0 15 rfl rfl)
theorem dX1_getParent_18 : decode cX1_getParent 18 = .ok (.aload_n 1, 1) := dk_43 (dk_at dksX1_getParent_0 18 rfl rfl)
theorem dX1_getParent_19 : decode cX1_getParent 19 = .ok (.if_acmp .ne 5, 3) := dk_166 0 5 (dk_at dksX1_getParent_0 19 rfl rfl)
theorem dX1_getParent_22 : decode cX1_getParent 22 = .ok (.aload_n 2, 1) := dk_44 (dk_at dksX1_getParent_0 22 rfl rfl)
theorem dX1_getParent_23 : decode cX1_getParent 23 = .ok (.areturn, 1) := dk_176 (dk_at dksX1_getParent_0 23 rfl rfl)
theorem dX1_getParent_24 : decode cX1_getParent 24 = .ok (.aload_n 2, 1) := dk_44 (dk_at dksX1_getParent_1 0 rfl rfl)
theorem dX1_getParent_25 : decode cX1_getParent 25 = .ok (.getfield 56, 3) := dk_180 0 56 (dk_at dksX1_getParent_1 1 rfl rfl)
theorem dX1_getParent_28 : decode cX1_getParent 28 = .ok (.astore_n 3, 1) := dk_78 (dk_at dksX1_getParent_1 4 rfl rfl)
theorem dX1_getParent_29 : decode cX1_getParent 29 = .ok (.aload_n 3, 1) := dk_45 (dk_at dksX1_getParent_1 5 rfl rfl)
theorem dX1_getParent_30 : decode cX1_getParent 30 = .ok (.ifnull 13, 3) := dk_198 0 13 (dk_at dksX1_getParent_1 6 rfl rfl)
theorem dX1_getParent_33 : decode cX1_getParent 33 = .ok (.aload_n 3, 1) := dk_45 (dk_at dksX1_getParent_1 9 rfl rfl)
theorem dX1_getParent_34 : decode cX1_getParent 34 = .ok (.getfield 53, 3) := dk_180 0 53 (dk_at dksX1_getParent_1 10 rfl rfl)
theorem dX1_getParent_37 : decode cX1_getParent 37 = .ok (.aload_n 1, 1) := dk_43 (dk_at dksX1_getParent_1 13 rfl rfl)
theorem dX1_getParent_38 : decode cX1_getParent 38 = .ok (.if_acmp .ne 5, 3) := dk_166 0 5 (dk_at dksX1_getParent_1 14 rfl rfl)
theorem dX1_getParent_41 : decode cX1_getParent 41 = .ok (.aload_n 3, 1) := dk_45 (dk_at dksX1_getParent_1 17 rfl rfl)
theorem dX1_getParent_42 : decode cX1_getParent 42 = .ok (.areturn, 1) := dk_176 (dk_at dksX1_getParent_1 18 rfl rfl)
theorem dX1_getParent_43 : decode cX1_getParent 43 = .ok (.aload_n 2, 1) := dk_44 (dk_at dksX1_getParent_1 19 rfl rfl)
theorem dX1_getParent_44 : decode cX1_getParent 44 = .ok (.areturn, 1) := dk_176 (dk_at dksX1_getParent_1 20 rfl rfl)
abbrev cX1_swap : ByteArray := prog_3_method_14_code
def yX1_swap : MethodName := ⟨RX1, "swap", "(LBinaryTreeAddressableHeap$Node;LBinaryTreeAddressableHeap$Node;LBinaryTreeAddressableHeap$Node;)V"⟩
def dkwX1_swap_12 : List UInt8 := [25, 4, 44, 181, 0, 56, 167, 0, 12, 25, 4, 180, 0, 56, 44, 181, 0, 56, 177]
abbrev dktX1_swap_12 : List UInt8 := dkwX1_swap_12 ++ []
def dkwX1_swap_11 : List UInt8 := [181, 0, 56, 44, 25, 4, 181, 0, 53, 25, 4, 198, 0, 30, 25, 4, 180, 0, 56, 43, 166, 0, 12]
abbrev dktX1_swap_11 : List UInt8 := dkwX1_swap_11 ++ dktX1_swap_12
def dkwX1_swap_10 : List UInt8 := [43, 45, 181, 0, 56, 43, 44, 180, 0, 53, 181, 0, 53, 43, 180, 0, 53, 44, 181, 0, 56, 44, 43]
abbrev dktX1_swap_10 : List UInt8 := dkwX1_swap_10 ++ dktX1_swap_11
def dkwX1_swap_9 : List UInt8 := [43, 44, 181, 0, 53, 44, 180, 0, 56, 43, 181, 0, 56, 167, 0, 37, 45, 180, 0, 53, 43, 181, 0, 56]
abbrev dktX1_swap_9 : List UInt8 := dkwX1_swap_9 ++ dktX1_swap_10
def dkwX1_swap_8 : List UInt8 := [167, 0, 74, 45, 180, 0, 53, 43, 181, 0, 56, 44, 43, 180, 0, 56, 181, 0, 56, 43, 45, 181, 0, 56]
abbrev dktX1_swap_8 : List UInt8 := dkwX1_swap_8 ++ dktX1_swap_9
def dkwX1_swap_7 : List UInt8 := [45, 181, 0, 56, 45, 180, 0, 53, 43, 181, 0, 56, 43, 44, 181, 0, 53, 44, 43, 181, 0, 56]
abbrev dktX1_swap_7 : List UInt8 := dkwX1_swap_7 ++ dktX1_swap_8
def dkwX1_swap_6 : List UInt8 := [43, 181, 0, 56, 167, 0, 116, 44, 180, 0, 53, 43, 166, 0, 74, 43, 180, 0, 56, 44, 166, 0, 29, 43]
abbrev dktX1_swap_6 : List UInt8 := dkwX1_swap_6 ++ dktX1_swap_7
def dkwX1_swap_5 : List UInt8 := [180, 0, 56, 181, 0, 56, 45, 43, 181, 0, 53, 43, 25, 5, 181, 0, 53, 25, 5, 44, 181, 0, 56, 44]
abbrev dktX1_swap_5 : List UInt8 := dkwX1_swap_5 ++ dktX1_swap_6
def dkwX1_swap_4 : List UInt8 := [181, 0, 56, 45, 43, 181, 0, 53, 43, 44, 181, 0, 53, 167, 0, 155, 44, 180, 0, 53, 58, 5, 43, 44]
abbrev dktX1_swap_4 : List UInt8 := dkwX1_swap_4 ++ dktX1_swap_5
def dkwX1_swap_3 : List UInt8 := [180, 0, 56, 43, 181, 0, 56, 43, 180, 0, 56, 58, 5, 43, 44, 180, 0, 56, 181, 0, 56, 44, 25, 5]
abbrev dktX1_swap_3 : List UInt8 := dkwX1_swap_3 ++ dktX1_swap_4
def dkwX1_swap_2 : List UInt8 := [43, 44, 180, 0, 56, 181, 0, 56, 43, 44, 181, 0, 53, 44, 43, 181, 0, 56, 167, 0, 196, 43]
abbrev dktX1_swap_2 : List UInt8 := dkwX1_swap_2 ++ dktX1_swap_3
def dkwX1_swap_1 : List UInt8 := [166, 0, 125, 44, 180, 0, 53, 43, 166, 0, 78, 43, 180, 0, 56, 44, 166, 0, 29, 45, 43, 181, 0, 53]
abbrev dktX1_swap_1 : List UInt8 := dkwX1_swap_1 ++ dktX1_swap_2
def dkwX1_swap_0 : List UInt8 := [45, 199, 0, 10, 42, 43, 44, 182, 0, 97, 177, 43, 180, 0, 53, 58, 4, 45, 180, 0, 53, 44]
abbrev dktX1_swap_0 : List UInt8 := dkwX1_swap_0 ++ dktX1_swap_1
theorem dksX1_swap_0 : cX1_swap.data.toList.drop 0 = dktX1_swap_0 := by decide +kernel
theorem dksX1_swap_1 : cX1_swap.data.toList.drop 22 = dktX1_swap_1 := dk_seg dksX1_swap_0 22 rfl rfl
theorem dksX1_swap_2 : cX1_swap.data.toList.drop 46 = dktX1_swap_2 := dk_seg dksX1_swap_1 24 rfl rfl
theorem dksX1_swap_3 : cX1_swap.data.toList.drop 68 = dktX1_swap_3 := dk_seg dksX1_swap_2 22 rfl rfl
theorem dksX1_swap_4 : cX1_swap.data.toList.drop 92 = dktX1_swap_4 := dk_seg dksX1_swap_3 24 rfl rfl
theorem dksX1_swap_5 : cX1_swap.data.toList.drop 116 = dktX1_swap_5 := dk_seg dksX1_swap_4 24 rfl rfl
theorem dksX1_swap_6 : cX1_swap.data.toList.drop 140 = dktX1_swap_6 := dk_seg dksX1_swap_5 24 rfl rfl
theorem dksX1_swap_7 : cX1_swap.data.toList.drop 164 = dktX1_swap_7 := dk_seg dksX1_swap_6 24 rfl rfl
theorem dksX1_swap_8 : cX1_swap.data.toList.drop 186 = dktX1_swap_8 := dk_seg dksX1_swap_7 22 rfl rfl
theorem dksX1_swap_9 : cX1_swap.data.toList.drop 210 = dktX1_swap_9 := dk_seg dksX1_swap_8 24 rfl rfl
theorem dksX1_swap_10 : cX1_swap.data.toList.drop 234 = dktX1_swap_10 := dk_seg dksX1_swap_9 24 rfl rfl
theorem dksX1_swap_11 : cX1_swap.data.toList.drop 257 = dktX1_swap_11 := dk_seg dksX1_swap_10 23 rfl rfl
theorem dksX1_swap_12 : cX1_swap.data.toList.drop 280 = dktX1_swap_12 := dk_seg dksX1_swap_11 23 rfl rfl
theorem dX1_swap_0 : decode cX1_swap 0 = .ok (.aload_n 3, 1) := dk_45 (dk_at dksX1_swap_0 0 rfl rfl)
theorem dX1_swap_1 : decode cX1_swap 1 = .ok (.ifnonnull 10, 3) := dk_199 0 10 (dk_at dksX1_swap_0 1 rfl rfl)
theorem dX1_swap_4 : decode cX1_swap 4 = .ok (.aload_n 0, 1) := dk_42 (dk_at dksX1_swap_0 4 rfl rfl)
theorem dX1_swap_5 : decode cX1_swap 5 = .ok (.aload_n 1, 1) := dk_43 (dk_at dksX1_swap_0 5 rfl rfl)
theorem dX1_swap_6 : decode cX1_swap 6 = .ok (.aload_n 2, 1) := dk_44 (dk_at dksX1_swap_0 6 rfl rfl)
theorem dX1_swap_7 : decode cX1_swap 7 = .ok (.invokevirtual 97, 3) := dk_182 0 97 (dk_at dksX1_swap_0 7 rfl rfl)
theorem dX1_swap_10 : decode cX1_swap 10 = .ok (.return_, 1) := dk_177 (dk_at dksX1_swap_0 10 rfl rfl)
theorem dX1_swap_11 : decode cX1_swap 11 = .ok (.aload_n 1, 1) := dk_43 (dk_at dksX1_swap_0 11 rfl rfl)
theorem dX1_swap_12 : decode cX1_swap 12 = .ok (.getfield 53, 3) := dk_180 0 53 (dk_at dksX1_swap_0 12 rfl rfl)
theorem dX1_swap_15 : decode cX1_swap 15 = .ok (.astore 4, 2) := dk_58 4 (dk_at dksX1_swap_0 15 rfl rfl)
theorem dX1_swap_17 : decode cX1_swap 17 = .ok (.aload_n 3, 1) := dk_45 (dk_at dksX1_swap_0 17 rfl rfl)
theorem dX1_swap_18 : decode cX1_swap 18 = .ok (.getfield 53, 3) := dk_180 0 53 (dk_at dksX1_swap_0 18 rfl rfl)
theorem dX1_swap_21 : decode cX1_swap 21 = .ok (.aload_n 2, 1) := dk_44 (dk_at dksX1_swap_0 21 rfl rfl)
theorem dX1_swap_22 : decode cX1_swap 22 = .ok (.if_acmp .ne 125, 3) := dk_166 0 125 (dk_at dksX1_swap_1 0 rfl rfl)
theorem dX1_swap_25 : decode cX1_swap 25 = .ok (.aload_n 2, 1) := dk_44 (dk_at dksX1_swap_1 3 rfl rfl)
theorem dX1_swap_26 : decode cX1_swap 26 = .ok (.getfield 53, 3) := dk_180 0 53 (dk_at dksX1_swap_1 4 rfl rfl)
theorem dX1_swap_29 : decode cX1_swap 29 = .ok (.aload_n 1, 1) := dk_43 (dk_at dksX1_swap_1 7 rfl rfl)
theorem dX1_swap_30 : decode cX1_swap 30 = .ok (.if_acmp .ne 78, 3) := dk_166 0 78 (dk_at dksX1_swap_1 8 rfl rfl)
theorem dX1_swap_33 : decode cX1_swap 33 = .ok (.aload_n 1, 1) := dk_43 (dk_at dksX1_swap_1 11 rfl rfl)
theorem dX1_swap_34 : decode cX1_swap 34 = .ok (.getfield 56, 3) := dk_180 0 56 (dk_at dksX1_swap_1 12 rfl rfl)
theorem dX1_swap_37 : decode cX1_swap 37 = .ok (.aload_n 2, 1) := dk_44 (dk_at dksX1_swap_1 15 rfl rfl)
theorem dX1_swap_38 : decode cX1_swap 38 = .ok (.if_acmp .ne 29, 3) := dk_166 0 29 (dk_at dksX1_swap_1 16 rfl rfl)
theorem dX1_swap_41 : decode cX1_swap 41 = .ok (.aload_n 3, 1) := dk_45 (dk_at dksX1_swap_1 19 rfl rfl)
theorem dX1_swap_42 : decode cX1_swap 42 = .ok (.aload_n 1, 1) := dk_43 (dk_at dksX1_swap_1 20 rfl rfl)
theorem dX1_swap_43 : decode cX1_swap 43 = .ok (.putfield 53, 3) := dk_181 0 53 (dk_at dksX1_swap_1 21 rfl rfl)
theorem dX1_swap_46 : decode cX1_swap 46 = .ok (.aload_n 1, 1) := dk_43 (dk_at dksX1_swap_2 0 rfl rfl)
theorem dX1_swap_47 : decode cX1_swap 47 = .ok (.aload_n 2, 1) := dk_44 (dk_at dksX1_swap_2 1 rfl rfl)
theorem dX1_swap_48 : decode cX1_swap 48 = .ok (.getfield 56, 3) := dk_180 0 56 (dk_at dksX1_swap_2 2 rfl rfl)
theorem dX1_swap_51 : decode cX1_swap 51 = .ok (.putfield 56, 3) := dk_181 0 56 (dk_at dksX1_swap_2 5 rfl rfl)
theorem dX1_swap_54 : decode cX1_swap 54 = .ok (.aload_n 1, 1) := dk_43 (dk_at dksX1_swap_2 8 rfl rfl)
theorem dX1_swap_55 : decode cX1_swap 55 = .ok (.aload_n 2, 1) := dk_44 (dk_at dksX1_swap_2 9 rfl rfl)
theorem dX1_swap_56 : decode cX1_swap 56 = .ok (.putfield 53, 3) := dk_181 0 53 (dk_at dksX1_swap_2 10 rfl rfl)
theorem dX1_swap_59 : decode cX1_swap 59 = .ok (.aload_n 2, 1) := dk_44 (dk_at dksX1_swap_2 13 rfl rfl)
theorem dX1_swap_60 : decode cX1_swap 60 = .ok (.aload_n 1, 1) := dk_43 (dk_at dksX1_swap_2 14 rfl rfl)
theorem dX1_swap_61 : decode cX1_swap 61 = .ok (.putfield 56, 3) := dk_181 0 56 (dk_at dksX1_swap_2 15 rfl rfl)
theorem dX1_swap_64 : decode cX1_swap 64 = .ok (.goto 196, 3) := dk_167 0 196 (dk_at dksX1_swap_2 18 rfl rfl)
theorem dX1_swap_67 : decode cX1_swap 67 = .ok (.aload_n 1, 1) := dk_43 (dk_at dksX1_swap_2 21 rfl rfl)
theorem dX1_swap_68 : decode cX1_swap 68 = .ok (.getfield 56, 3) := dk_180 0 56 (dk_at dksX1_swap_3 0 rfl rfl)
theorem dX1_swap_71 : decode cX1_swap 71 = .ok (.aload_n 1, 1) := dk_43 (dk_at dksX1_swap_3 3 rfl rfl)
theorem dX1_swap_72 : decode cX1_swap 72 = .ok (.putfield 56, 3) := dk_181 0 56 (dk_at dksX1_swap_3 4 rfl rfl)
theorem dX1_swap_75 : decode cX1_swap 75 = .ok (.aload_n 1, 1) := dk_43 (dk_at dksX1_swap_3 7 rfl rfl)
theorem dX1_swap_76 : decode cX1_swap 76 = .ok (.getfield 56, 3) := dk_180 0 56 (dk_at dksX1_swap_3 8 rfl rfl)
theorem dX1_swap_79 : decode cX1_swap 79 = .ok (.astore 5, 2) := dk_58 5 (dk_at dksX1_swap_3 11 rfl rfl)
theorem dX1_swap_81 : decode cX1_swap 81 = .ok (.aload_n 1, 1) := dk_43 (dk_at dksX1_swap_3 13 rfl rfl)
theorem dX1_swap_82 : decode cX1_swap 82 = .ok (.aload_n 2, 1) := dk_44 (dk_at dksX1_swap_3 14 rfl rfl)
theorem dX1_swap_83 : decode cX1_swap 83 = .ok (.getfield 56, 3) := dk_180 0 56 (dk_at dksX1_swap_3 15 rfl rfl)
theorem dX1_swap_86 : decode cX1_swap 86 = .ok (.putfield 56, 3) := dk_181 0 56 (dk_at dksX1_swap_3 18 rfl rfl)
theorem dX1_swap_89 : decode cX1_swap 89 = .ok (.aload_n 2, 1) := dk_44 (dk_at dksX1_swap_3 21 rfl rfl)
theorem dX1_swap_90 : decode cX1_swap 90 = .ok (.aload 5, 2) := dk_25 5 (dk_at dksX1_swap_3 22 rfl rfl)
theorem dX1_swap_92 : decode cX1_swap 92 = .ok (.putfield 56, 3) := dk_181 0 56 (dk_at dksX1_swap_4 0 rfl rfl)
theorem dX1_swap_95 : decode cX1_swap 95 = .ok (.aload_n 3, 1) := dk_45 (dk_at dksX1_swap_4 3 rfl rfl)
theorem dX1_swap_96 : decode cX1_swap 96 = .ok (.aload_n 1, 1) := dk_43 (dk_at dksX1_swap_4 4 rfl rfl)
theorem dX1_swap_97 : decode cX1_swap 97 = .ok (.putfield 53, 3) := dk_181 0 53 (dk_at dksX1_swap_4 5 rfl rfl)
theorem dX1_swap_100 : decode cX1_swap 100 = .ok (.aload_n 1, 1) := dk_43 (dk_at dksX1_swap_4 8 rfl rfl)
theorem dX1_swap_101 : decode cX1_swap 101 = .ok (.aload_n 2, 1) := dk_44 (dk_at dksX1_swap_4 9 rfl rfl)
theorem dX1_swap_102 : decode cX1_swap 102 = .ok (.putfield 53, 3) := dk_181 0 53 (dk_at dksX1_swap_4 10 rfl rfl)
theorem dX1_swap_105 : decode cX1_swap 105 = .ok (.goto 155, 3) := dk_167 0 155 (dk_at dksX1_swap_4 13 rfl rfl)
theorem dX1_swap_108 : decode cX1_swap 108 = .ok (.aload_n 2, 1) := dk_44 (dk_at dksX1_swap_4 16 rfl rfl)
theorem dX1_swap_109 : decode cX1_swap 109 = .ok (.getfield 53, 3) := dk_180 0 53 (dk_at dksX1_swap_4 17 rfl rfl)
theorem dX1_swap_112 : decode cX1_swap 112 = .ok (.astore 5, 2) := dk_58 5 (dk_at dksX1_swap_4 20 rfl rfl)
theorem dX1_swap_114 : decode cX1_swap 114 = .ok (.aload_n 1, 1) := dk_43 (dk_at dksX1_swap_4 22 rfl rfl)
theorem dX1_swap_115 : decode cX1_swap 115 = .ok (.aload_n 2, 1) := dk_44 (dk_at dksX1_swap_4 23 rfl rfl)
theorem dX1_swap_116 : decode cX1_swap 116 = .ok (.getfield 56, 3) := dk_180 0 56 (dk_at dksX1_swap_5 0 rfl rfl)
theorem dX1_swap_119 : decode cX1_swap 119 = .ok (.putfield 56, 3) := dk_181 0 56 (dk_at dksX1_swap_5 3 rfl rfl)
theorem dX1_swap_122 : decode cX1_swap 122 = .ok (.aload_n 3, 1) := dk_45 (dk_at dksX1_swap_5 6 rfl rfl)
theorem dX1_swap_123 : decode cX1_swap 123 = .ok (.aload_n 1, 1) := dk_43 (dk_at dksX1_swap_5 7 rfl rfl)
theorem dX1_swap_124 : decode cX1_swap 124 = .ok (.putfield 53, 3) := dk_181 0 53 (dk_at dksX1_swap_5 8 rfl rfl)
theorem dX1_swap_127 : decode cX1_swap 127 = .ok (.aload_n 1, 1) := dk_43 (dk_at dksX1_swap_5 11 rfl rfl)
theorem dX1_swap_128 : decode cX1_swap 128 = .ok (.aload 5, 2) := dk_25 5 (dk_at dksX1_swap_5 12 rfl rfl)
theorem dX1_swap_130 : decode cX1_swap 130 = .ok (.putfield 53, 3) := dk_181 0 53 (dk_at dksX1_swap_5 14 rfl rfl)
theorem dX1_swap_133 : decode cX1_swap 133 = .ok (.aload 5, 2) := dk_25 5 (dk_at dksX1_swap_5 17 rfl rfl)
theorem dX1_swap_135 : decode cX1_swap 135 = .ok (.aload_n 2, 1) := dk_44 (dk_at dksX1_swap_5 19 rfl rfl)
theorem dX1_swap_136 : decode cX1_swap 136 = .ok (.putfield 56, 3) := dk_181 0 56 (dk_at dksX1_swap_5 20 rfl rfl)
theorem dX1_swap_139 : decode cX1_swap 139 = .ok (.aload_n 2, 1) := dk_44 (dk_at dksX1_swap_5 23 rfl rfl)
theorem dX1_swap_140 : decode cX1_swap 140 = .ok (.aload_n 1, 1) := dk_43 (dk_at dksX1_swap_6 0 rfl rfl)
theorem dX1_swap_141 : decode cX1_swap 141 = .ok (.putfield 56, 3) := dk_181 0 56 (dk_at dksX1_swap_6 1 rfl rfl)
theorem dX1_swap_144 : decode cX1_swap 144 = .ok (.goto 116, 3) := dk_167 0 116 (dk_at dksX1_swap_6 4 rfl rfl)
theorem dX1_swap_147 : decode cX1_swap 147 = .ok (.aload_n 2, 1) := dk_44 (dk_at dksX1_swap_6 7 rfl rfl)
theorem dX1_swap_148 : decode cX1_swap 148 = .ok (.getfield 53, 3) := dk_180 0 53 (dk_at dksX1_swap_6 8 rfl rfl)
theorem dX1_swap_151 : decode cX1_swap 151 = .ok (.aload_n 1, 1) := dk_43 (dk_at dksX1_swap_6 11 rfl rfl)
theorem dX1_swap_152 : decode cX1_swap 152 = .ok (.if_acmp .ne 74, 3) := dk_166 0 74 (dk_at dksX1_swap_6 12 rfl rfl)
theorem dX1_swap_155 : decode cX1_swap 155 = .ok (.aload_n 1, 1) := dk_43 (dk_at dksX1_swap_6 15 rfl rfl)
theorem dX1_swap_156 : decode cX1_swap 156 = .ok (.getfield 56, 3) := dk_180 0 56 (dk_at dksX1_swap_6 16 rfl rfl)
theorem dX1_swap_159 : decode cX1_swap 159 = .ok (.aload_n 2, 1) := dk_44 (dk_at dksX1_swap_6 19 rfl rfl)
theorem dX1_swap_160 : decode cX1_swap 160 = .ok (.if_acmp .ne 29, 3) := dk_166 0 29 (dk_at dksX1_swap_6 20 rfl rfl)
theorem dX1_swap_163 : decode cX1_swap 163 = .ok (.aload_n 1, 1) := dk_43 (dk_at dksX1_swap_6 23 rfl rfl)
theorem dX1_swap_164 : decode cX1_swap 164 = .ok (.aload_n 3, 1) := dk_45 (dk_at dksX1_swap_7 0 rfl rfl)
theorem dX1_swap_165 : decode cX1_swap 165 = .ok (.putfield 56, 3) := dk_181 0 56 (dk_at dksX1_swap_7 1 rfl rfl)
theorem dX1_swap_168 : decode cX1_swap 168 = .ok (.aload_n 3, 1) := dk_45 (dk_at dksX1_swap_7 4 rfl rfl)
theorem dX1_swap_169 : decode cX1_swap 169 = .ok (.getfield 53, 3) := dk_180 0 53 (dk_at dksX1_swap_7 5 rfl rfl)
theorem dX1_swap_172 : decode cX1_swap 172 = .ok (.aload_n 1, 1) := dk_43 (dk_at dksX1_swap_7 8 rfl rfl)
theorem dX1_swap_173 : decode cX1_swap 173 = .ok (.putfield 56, 3) := dk_181 0 56 (dk_at dksX1_swap_7 9 rfl rfl)
theorem dX1_swap_176 : decode cX1_swap 176 = .ok (.aload_n 1, 1) := dk_43 (dk_at dksX1_swap_7 12 rfl rfl)
theorem dX1_swap_177 : decode cX1_swap 177 = .ok (.aload_n 2, 1) := dk_44 (dk_at dksX1_swap_7 13 rfl rfl)
theorem dX1_swap_178 : decode cX1_swap 178 = .ok (.putfield 53, 3) := dk_181 0 53 (dk_at dksX1_swap_7 14 rfl rfl)
theorem dX1_swap_181 : decode cX1_swap 181 = .ok (.aload_n 2, 1) := dk_44 (dk_at dksX1_swap_7 17 rfl rfl)
theorem dX1_swap_182 : decode cX1_swap 182 = .ok (.aload_n 1, 1) := dk_43 (dk_at dksX1_swap_7 18 rfl rfl)
theorem dX1_swap_183 : decode cX1_swap 183 = .ok (.putfield 56, 3) := dk_181 0 56 (dk_at dksX1_swap_7 19 rfl rfl)
theorem dX1_swap_186 : decode cX1_swap 186 = .ok (.goto 74, 3) := dk_167 0 74 (dk_at dksX1_swap_8 0 rfl rfl)
theorem dX1_swap_189 : decode cX1_swap 189 = .ok (.aload_n 3, 1) := dk_45 (dk_at dksX1_swap_8 3 rfl rfl)
theorem dX1_swap_190 : decode cX1_swap 190 = .ok (.getfield 53, 3) := dk_180 0 53 (dk_at dksX1_swap_8 4 rfl rfl)
theorem dX1_swap_193 : decode cX1_swap 193 = .ok (.aload_n 1, 1) := dk_43 (dk_at dksX1_swap_8 7 rfl rfl)
theorem dX1_swap_194 : decode cX1_swap 194 = .ok (.putfield 56, 3) := dk_181 0 56 (dk_at dksX1_swap_8 8 rfl rfl)
theorem dX1_swap_197 : decode cX1_swap 197 = .ok (.aload_n 2, 1) := dk_44 (dk_at dksX1_swap_8 11 rfl rfl)
theorem dX1_swap_198 : decode cX1_swap 198 = .ok (.aload_n 1, 1) := dk_43 (dk_at dksX1_swap_8 12 rfl rfl)
theorem dX1_swap_199 : decode cX1_swap 199 = .ok (.getfield 56, 3) := dk_180 0 56 (dk_at dksX1_swap_8 13 rfl rfl)
theorem dX1_swap_202 : decode cX1_swap 202 = .ok (.putfield 56, 3) := dk_181 0 56 (dk_at dksX1_swap_8 16 rfl rfl)
theorem dX1_swap_205 : decode cX1_swap 205 = .ok (.aload_n 1, 1) := dk_43 (dk_at dksX1_swap_8 19 rfl rfl)
theorem dX1_swap_206 : decode cX1_swap 206 = .ok (.aload_n 3, 1) := dk_45 (dk_at dksX1_swap_8 20 rfl rfl)
theorem dX1_swap_207 : decode cX1_swap 207 = .ok (.putfield 56, 3) := dk_181 0 56 (dk_at dksX1_swap_8 21 rfl rfl)
theorem dX1_swap_210 : decode cX1_swap 210 = .ok (.aload_n 1, 1) := dk_43 (dk_at dksX1_swap_9 0 rfl rfl)
theorem dX1_swap_211 : decode cX1_swap 211 = .ok (.aload_n 2, 1) := dk_44 (dk_at dksX1_swap_9 1 rfl rfl)
theorem dX1_swap_212 : decode cX1_swap 212 = .ok (.putfield 53, 3) := dk_181 0 53 (dk_at dksX1_swap_9 2 rfl rfl)
theorem dX1_swap_215 : decode cX1_swap 215 = .ok (.aload_n 2, 1) := dk_44 (dk_at dksX1_swap_9 5 rfl rfl)
theorem dX1_swap_216 : decode cX1_swap 216 = .ok (.getfield 56, 3) := dk_180 0 56 (dk_at dksX1_swap_9 6 rfl rfl)
theorem dX1_swap_219 : decode cX1_swap 219 = .ok (.aload_n 1, 1) := dk_43 (dk_at dksX1_swap_9 9 rfl rfl)
theorem dX1_swap_220 : decode cX1_swap 220 = .ok (.putfield 56, 3) := dk_181 0 56 (dk_at dksX1_swap_9 10 rfl rfl)
theorem dX1_swap_223 : decode cX1_swap 223 = .ok (.goto 37, 3) := dk_167 0 37 (dk_at dksX1_swap_9 13 rfl rfl)
theorem dX1_swap_226 : decode cX1_swap 226 = .ok (.aload_n 3, 1) := dk_45 (dk_at dksX1_swap_9 16 rfl rfl)
theorem dX1_swap_227 : decode cX1_swap 227 = .ok (.getfield 53, 3) := dk_180 0 53 (dk_at dksX1_swap_9 17 rfl rfl)
theorem dX1_swap_230 : decode cX1_swap 230 = .ok (.aload_n 1, 1) := dk_43 (dk_at dksX1_swap_9 20 rfl rfl)
theorem dX1_swap_231 : decode cX1_swap 231 = .ok (.putfield 56, 3) := dk_181 0 56 (dk_at dksX1_swap_9 21 rfl rfl)
theorem dX1_swap_234 : decode cX1_swap 234 = .ok (.aload_n 1, 1) := dk_43 (dk_at dksX1_swap_10 0 rfl rfl)
theorem dX1_swap_235 : decode cX1_swap 235 = .ok (.aload_n 3, 1) := dk_45 (dk_at dksX1_swap_10 1 rfl rfl)
theorem dX1_swap_236 : decode cX1_swap 236 = .ok (.putfield 56, 3) := dk_181 0 56 (dk_at dksX1_swap_10 2 rfl rfl)
theorem dX1_swap_239 : decode cX1_swap 239 = .ok (.aload_n 1, 1) := dk_43 (dk_at dksX1_swap_10 5 rfl rfl)
theorem dX1_swap_240 : decode cX1_swap 240 = .ok (.aload_n 2, 1) := dk_44 (dk_at dksX1_swap_10 6 rfl rfl)
theorem dX1_swap_241 : decode cX1_swap 241 = .ok (.getfield 53, 3) := dk_180 0 53 (dk_at dksX1_swap_10 7 rfl rfl)
theorem dX1_swap_244 : decode cX1_swap 244 = .ok (.putfield 53, 3) := dk_181 0 53 (dk_at dksX1_swap_10 10 rfl rfl)
theorem dX1_swap_247 : decode cX1_swap 247 = .ok (.aload_n 1, 1) := dk_43 (dk_at dksX1_swap_10 13 rfl rfl)
theorem dX1_swap_248 : decode cX1_swap 248 = .ok (.getfield 53, 3) := dk_180 0 53 (dk_at dksX1_swap_10 14 rfl rfl)
theorem dX1_swap_251 : decode cX1_swap 251 = .ok (.aload_n 2, 1) := dk_44 (dk_at dksX1_swap_10 17 rfl rfl)
theorem dX1_swap_252 : decode cX1_swap 252 = .ok (.putfield 56, 3) := dk_181 0 56 (dk_at dksX1_swap_10 18 rfl rfl)
theorem dX1_swap_255 : decode cX1_swap 255 = .ok (.aload_n 2, 1) := dk_44 (dk_at dksX1_swap_10 21 rfl rfl)
theorem dX1_swap_256 : decode cX1_swap 256 = .ok (.aload_n 1, 1) := dk_43 (dk_at dksX1_swap_10 22 rfl rfl)
theorem dX1_swap_257 : decode cX1_swap 257 = .ok (.putfield 56, 3) := dk_181 0 56 (dk_at dksX1_swap_11 0 rfl rfl)
theorem dX1_swap_260 : decode cX1_swap 260 = .ok (.aload_n 2, 1) := dk_44 (dk_at dksX1_swap_11 3 rfl rfl)
theorem dX1_swap_261 : decode cX1_swap 261 = .ok (.aload 4, 2) := dk_25 4 (dk_at dksX1_swap_11 4 rfl rfl)
theorem dX1_swap_263 : decode cX1_swap 263 = .ok (.putfield 53, 3) := dk_181 0 53 (dk_at dksX1_swap_11 6 rfl rfl)
theorem dX1_swap_266 : decode cX1_swap 266 = .ok (.aload 4, 2) := dk_25 4 (dk_at dksX1_swap_11 9 rfl rfl)
theorem dX1_swap_268 : decode cX1_swap 268 = .ok (.ifnull 30, 3) := dk_198 0 30 (dk_at dksX1_swap_11 11 rfl rfl)
theorem dX1_swap_271 : decode cX1_swap 271 = .ok (.aload 4, 2) := dk_25 4 (dk_at dksX1_swap_11 14 rfl rfl)
theorem dX1_swap_273 : decode cX1_swap 273 = .ok (.getfield 56, 3) := dk_180 0 56 (dk_at dksX1_swap_11 16 rfl rfl)
theorem dX1_swap_276 : decode cX1_swap 276 = .ok (.aload_n 1, 1) := dk_43 (dk_at dksX1_swap_11 19 rfl rfl)
theorem dX1_swap_277 : decode cX1_swap 277 = .ok (.if_acmp .ne 12, 3) := dk_166 0 12 (dk_at dksX1_swap_11 20 rfl rfl)
theorem dX1_swap_280 : decode cX1_swap 280 = .ok (.aload 4, 2) := dk_25 4 (dk_at dksX1_swap_12 0 rfl rfl)
theorem dX1_swap_282 : decode cX1_swap 282 = .ok (.aload_n 2, 1) := dk_44 (dk_at dksX1_swap_12 2 rfl rfl)
theorem dX1_swap_283 : decode cX1_swap 283 = .ok (.putfield 56, 3) := dk_181 0 56 (dk_at dksX1_swap_12 3 rfl rfl)
theorem dX1_swap_286 : decode cX1_swap 286 = .ok (.goto 12, 3) := dk_167 0 12 (dk_at dksX1_swap_12 6 rfl rfl)
theorem dX1_swap_289 : decode cX1_swap 289 = .ok (.aload 4, 2) := dk_25 4 (dk_at dksX1_swap_12 9 rfl rfl)
theorem dX1_swap_291 : decode cX1_swap 291 = .ok (.getfield 56, 3) := dk_180 0 56 (dk_at dksX1_swap_12 11 rfl rfl)
theorem dX1_swap_294 : decode cX1_swap 294 = .ok (.aload_n 2, 1) := dk_44 (dk_at dksX1_swap_12 14 rfl rfl)
theorem dX1_swap_295 : decode cX1_swap 295 = .ok (.putfield 56, 3) := dk_181 0 56 (dk_at dksX1_swap_12 15 rfl rfl)
theorem dX1_swap_298 : decode cX1_swap 298 = .ok (.return_, 1) := dk_177 (dk_at dksX1_swap_12 18 rfl rfl)
abbrev cX1_swap_2 : ByteArray := prog_3_method_13_code
def yX1_swap_2 : MethodName := ⟨RX1, "swap", "(LBinaryTreeAddressableHeap$Node;LBinaryTreeAddressableHeap$Node;)V"⟩
def dkwX1_swap_2_5 : List UInt8 := [43, 181, 0, 20, 177]
abbrev dktX1_swap_2_5 : List UInt8 := dkwX1_swap_2_5 ++ []
def dkwX1_swap_2_4 : List UInt8 := [180, 0, 56, 43, 166, 0, 11, 45, 44, 181, 0, 56, 167, 0, 11, 45, 180, 0, 56, 44, 181, 0, 56, 42]
abbrev dktX1_swap_2_4 : List UInt8 := dkwX1_swap_2_4 ++ dktX1_swap_2_5
def dkwX1_swap_2_3 : List UInt8 := [181, 0, 53, 44, 43, 181, 0, 56, 43, 1, 181, 0, 56, 44, 45, 181, 0, 53, 45, 198, 0, 27, 45]
abbrev dktX1_swap_2_3 : List UInt8 := dkwX1_swap_2_3 ++ dktX1_swap_2_4
def dkwX1_swap_2_2 : List UInt8 := [181, 0, 56, 43, 44, 181, 0, 53, 167, 0, 24, 44, 180, 0, 53, 44, 181, 0, 56, 43, 44, 180, 0, 53]
abbrev dktX1_swap_2_2 : List UInt8 := dkwX1_swap_2_2 ++ dktX1_swap_2_3
def dkwX1_swap_2_1 : List UInt8 := [181, 0, 53, 44, 43, 181, 0, 56, 167, 0, 48, 44, 43, 180, 0, 56, 181, 0, 56, 44, 180, 0, 56, 43]
abbrev dktX1_swap_2_1 : List UInt8 := dkwX1_swap_2_1 ++ dktX1_swap_2_2
def dkwX1_swap_2_0 : List UInt8 := [43, 180, 0, 53, 78, 44, 180, 0, 53, 43, 166, 0, 48, 43, 180, 0, 56, 44, 166, 0, 16, 43, 44]
abbrev dktX1_swap_2_0 : List UInt8 := dkwX1_swap_2_0 ++ dktX1_swap_2_1
theorem dksX1_swap_2_0 : cX1_swap_2.data.toList.drop 0 = dktX1_swap_2_0 := by decide +kernel
theorem dksX1_swap_2_1 : cX1_swap_2.data.toList.drop 23 = dktX1_swap_2_1 := dk_seg dksX1_swap_2_0 23 rfl rfl
theorem dksX1_swap_2_2 : cX1_swap_2.data.toList.drop 47 = dktX1_swap_2_2 := dk_seg dksX1_swap_2_1 24 rfl rfl
theorem dksX1_swap_2_3 : cX1_swap_2.data.toList.drop 71 = dktX1_swap_2_3 := dk_seg dksX1_swap_2_2 24 rfl rfl
theorem dksX1_swap_2_4 : cX1_swap_2.data.toList.drop 94 = dktX1_swap_2_4 := dk_seg dksX1_swap_2_3 23 rfl rfl
theorem dksX1_swap_2_5 : cX1_swap_2.data.toList.drop 118 = dktX1_swap_2_5 := dk_seg dksX1_swap_2_4 24 rfl rfl
theorem dX1_swap_2_0 : decode cX1_swap_2 0 = .ok (.aload_n 1, 1) := dk_43 (dk_at dksX1_swap_2_0 0 rfl rfl)
theorem dX1_swap_2_1 : decode cX1_swap_2 1 = .ok (.getfield 53, 3) := dk_180 0 53 (dk_at dksX1_swap_2_0 1 rfl rfl)
theorem dX1_swap_2_4 : decode cX1_swap_2 4 = .ok (.astore_n 3, 1) := dk_78 (dk_at dksX1_swap_2_0 4 rfl rfl)
theorem dX1_swap_2_5 : decode cX1_swap_2 5 = .ok (.aload_n 2, 1) := dk_44 (dk_at dksX1_swap_2_0 5 rfl rfl)
theorem dX1_swap_2_6 : decode cX1_swap_2 6 = .ok (.getfield 53, 3) := dk_180 0 53 (dk_at dksX1_swap_2_0 6 rfl rfl)
theorem dX1_swap_2_9 : decode cX1_swap_2 9 = .ok (.aload_n 1, 1) := dk_43 (dk_at dksX1_swap_2_0 9 rfl rfl)
theorem dX1_swap_2_10 : decode cX1_swap_2 10 = .ok (.if_acmp .ne 48, 3) := dk_166 0 48 (dk_at dksX1_swap_2_0 10 rfl rfl)
theorem dX1_swap_2_13 : decode cX1_swap_2 13 = .ok (.aload_n 1, 1) := dk_43 (dk_at dksX1_swap_2_0 13 rfl rfl)
theorem dX1_swap_2_14 : decode cX1_swap_2 14 = .ok (.getfield 56, 3) := dk_180 0 56 (dk_at dksX1_swap_2_0 14 rfl rfl)
theorem dX1_swap_2_17 : decode cX1_swap_2 17 = .ok (.aload_n 2, 1) := dk_44 (dk_at dksX1_swap_2_0 17 rfl rfl)
theorem dX1_swap_2_18 : decode cX1_swap_2 18 = .ok (.if_acmp .ne 16, 3) := dk_166 0 16 (dk_at dksX1_swap_2_0 18 rfl rfl)
theorem dX1_swap_2_21 : decode cX1_swap_2 21 = .ok (.aload_n 1, 1) := dk_43 (dk_at dksX1_swap_2_0 21 rfl rfl)
theorem dX1_swap_2_22 : decode cX1_swap_2 22 = .ok (.aload_n 2, 1) := dk_44 (dk_at dksX1_swap_2_0 22 rfl rfl)
theorem dX1_swap_2_23 : decode cX1_swap_2 23 = .ok (.putfield 53, 3) := dk_181 0 53 (dk_at dksX1_swap_2_1 0 rfl rfl)
theorem dX1_swap_2_26 : decode cX1_swap_2 26 = .ok (.aload_n 2, 1) := dk_44 (dk_at dksX1_swap_2_1 3 rfl rfl)
theorem dX1_swap_2_27 : decode cX1_swap_2 27 = .ok (.aload_n 1, 1) := dk_43 (dk_at dksX1_swap_2_1 4 rfl rfl)
theorem dX1_swap_2_28 : decode cX1_swap_2 28 = .ok (.putfield 56, 3) := dk_181 0 56 (dk_at dksX1_swap_2_1 5 rfl rfl)
theorem dX1_swap_2_31 : decode cX1_swap_2 31 = .ok (.goto 48, 3) := dk_167 0 48 (dk_at dksX1_swap_2_1 8 rfl rfl)
theorem dX1_swap_2_34 : decode cX1_swap_2 34 = .ok (.aload_n 2, 1) := dk_44 (dk_at dksX1_swap_2_1 11 rfl rfl)
theorem dX1_swap_2_35 : decode cX1_swap_2 35 = .ok (.aload_n 1, 1) := dk_43 (dk_at dksX1_swap_2_1 12 rfl rfl)
theorem dX1_swap_2_36 : decode cX1_swap_2 36 = .ok (.getfield 56, 3) := dk_180 0 56 (dk_at dksX1_swap_2_1 13 rfl rfl)
theorem dX1_swap_2_39 : decode cX1_swap_2 39 = .ok (.putfield 56, 3) := dk_181 0 56 (dk_at dksX1_swap_2_1 16 rfl rfl)
theorem dX1_swap_2_42 : decode cX1_swap_2 42 = .ok (.aload_n 2, 1) := dk_44 (dk_at dksX1_swap_2_1 19 rfl rfl)
theorem dX1_swap_2_43 : decode cX1_swap_2 43 = .ok (.getfield 56, 3) := dk_180 0 56 (dk_at dksX1_swap_2_1 20 rfl rfl)
theorem dX1_swap_2_46 : decode cX1_swap_2 46 = .ok (.aload_n 1, 1) := dk_43 (dk_at dksX1_swap_2_1 23 rfl rfl)
theorem dX1_swap_2_47 : decode cX1_swap_2 47 = .ok (.putfield 56, 3) := dk_181 0 56 (dk_at dksX1_swap_2_2 0 rfl rfl)
theorem dX1_swap_2_50 : decode cX1_swap_2 50 = .ok (.aload_n 1, 1) := dk_43 (dk_at dksX1_swap_2_2 3 rfl rfl)
theorem dX1_swap_2_51 : decode cX1_swap_2 51 = .ok (.aload_n 2, 1) := dk_44 (dk_at dksX1_swap_2_2 4 rfl rfl)
theorem dX1_swap_2_52 : decode cX1_swap_2 52 = .ok (.putfield 53, 3) := dk_181 0 53 (dk_at dksX1_swap_2_2 5 rfl rfl)
theorem dX1_swap_2_55 : decode cX1_swap_2 55 = .ok (.goto 24, 3) := dk_167 0 24 (dk_at dksX1_swap_2_2 8 rfl rfl)
theorem dX1_swap_2_58 : decode cX1_swap_2 58 = .ok (.aload_n 2, 1) := dk_44 (dk_at dksX1_swap_2_2 11 rfl rfl)
theorem dX1_swap_2_59 : decode cX1_swap_2 59 = .ok (.getfield 53, 3) := dk_180 0 53 (dk_at dksX1_swap_2_2 12 rfl rfl)
theorem dX1_swap_2_62 : decode cX1_swap_2 62 = .ok (.aload_n 2, 1) := dk_44 (dk_at dksX1_swap_2_2 15 rfl rfl)
theorem dX1_swap_2_63 : decode cX1_swap_2 63 = .ok (.putfield 56, 3) := dk_181 0 56 (dk_at dksX1_swap_2_2 16 rfl rfl)
theorem dX1_swap_2_66 : decode cX1_swap_2 66 = .ok (.aload_n 1, 1) := dk_43 (dk_at dksX1_swap_2_2 19 rfl rfl)
theorem dX1_swap_2_67 : decode cX1_swap_2 67 = .ok (.aload_n 2, 1) := dk_44 (dk_at dksX1_swap_2_2 20 rfl rfl)
theorem dX1_swap_2_68 : decode cX1_swap_2 68 = .ok (.getfield 53, 3) := dk_180 0 53 (dk_at dksX1_swap_2_2 21 rfl rfl)
theorem dX1_swap_2_71 : decode cX1_swap_2 71 = .ok (.putfield 53, 3) := dk_181 0 53 (dk_at dksX1_swap_2_3 0 rfl rfl)
theorem dX1_swap_2_74 : decode cX1_swap_2 74 = .ok (.aload_n 2, 1) := dk_44 (dk_at dksX1_swap_2_3 3 rfl rfl)
theorem dX1_swap_2_75 : decode cX1_swap_2 75 = .ok (.aload_n 1, 1) := dk_43 (dk_at dksX1_swap_2_3 4 rfl rfl)
theorem dX1_swap_2_76 : decode cX1_swap_2 76 = .ok (.putfield 56, 3) := dk_181 0 56 (dk_at dksX1_swap_2_3 5 rfl rfl)
theorem dX1_swap_2_79 : decode cX1_swap_2 79 = .ok (.aload_n 1, 1) := dk_43 (dk_at dksX1_swap_2_3 8 rfl rfl)
theorem dX1_swap_2_80 : decode cX1_swap_2 80 = .ok (.aconst_null, 1) := dk_1 (dk_at dksX1_swap_2_3 9 rfl rfl)
theorem dX1_swap_2_81 : decode cX1_swap_2 81 = .ok (.putfield 56, 3) := dk_181 0 56 (dk_at dksX1_swap_2_3 10 rfl rfl)
theorem dX1_swap_2_84 : decode cX1_swap_2 84 = .ok (.aload_n 2, 1) := dk_44 (dk_at dksX1_swap_2_3 13 rfl rfl)
theorem dX1_swap_2_85 : decode cX1_swap_2 85 = .ok (.aload_n 3, 1) := dk_45 (dk_at dksX1_swap_2_3 14 rfl rfl)
theorem dX1_swap_2_86 : decode cX1_swap_2 86 = .ok (.putfield 53, 3) := dk_181 0 53 (dk_at dksX1_swap_2_3 15 rfl rfl)
theorem dX1_swap_2_89 : decode cX1_swap_2 89 = .ok (.aload_n 3, 1) := dk_45 (dk_at dksX1_swap_2_3 18 rfl rfl)
theorem dX1_swap_2_90 : decode cX1_swap_2 90 = .ok (.ifnull 27, 3) := dk_198 0 27 (dk_at dksX1_swap_2_3 19 rfl rfl)
theorem dX1_swap_2_93 : decode cX1_swap_2 93 = .ok (.aload_n 3, 1) := dk_45 (dk_at dksX1_swap_2_3 22 rfl rfl)
theorem dX1_swap_2_94 : decode cX1_swap_2 94 = .ok (.getfield 56, 3) := dk_180 0 56 (dk_at dksX1_swap_2_4 0 rfl rfl)
theorem dX1_swap_2_97 : decode cX1_swap_2 97 = .ok (.aload_n 1, 1) := dk_43 (dk_at dksX1_swap_2_4 3 rfl rfl)
theorem dX1_swap_2_98 : decode cX1_swap_2 98 = .ok (.if_acmp .ne 11, 3) := dk_166 0 11 (dk_at dksX1_swap_2_4 4 rfl rfl)
theorem dX1_swap_2_101 : decode cX1_swap_2 101 = .ok (.aload_n 3, 1) := dk_45 (dk_at dksX1_swap_2_4 7 rfl rfl)
theorem dX1_swap_2_102 : decode cX1_swap_2 102 = .ok (.aload_n 2, 1) := dk_44 (dk_at dksX1_swap_2_4 8 rfl rfl)
theorem dX1_swap_2_103 : decode cX1_swap_2 103 = .ok (.putfield 56, 3) := dk_181 0 56 (dk_at dksX1_swap_2_4 9 rfl rfl)
theorem dX1_swap_2_106 : decode cX1_swap_2 106 = .ok (.goto 11, 3) := dk_167 0 11 (dk_at dksX1_swap_2_4 12 rfl rfl)
theorem dX1_swap_2_109 : decode cX1_swap_2 109 = .ok (.aload_n 3, 1) := dk_45 (dk_at dksX1_swap_2_4 15 rfl rfl)
theorem dX1_swap_2_110 : decode cX1_swap_2 110 = .ok (.getfield 56, 3) := dk_180 0 56 (dk_at dksX1_swap_2_4 16 rfl rfl)
theorem dX1_swap_2_113 : decode cX1_swap_2 113 = .ok (.aload_n 2, 1) := dk_44 (dk_at dksX1_swap_2_4 19 rfl rfl)
theorem dX1_swap_2_114 : decode cX1_swap_2 114 = .ok (.putfield 56, 3) := dk_181 0 56 (dk_at dksX1_swap_2_4 20 rfl rfl)
theorem dX1_swap_2_117 : decode cX1_swap_2 117 = .ok (.aload_n 0, 1) := dk_42 (dk_at dksX1_swap_2_4 23 rfl rfl)
theorem dX1_swap_2_118 : decode cX1_swap_2 118 = .ok (.aload_n 1, 1) := dk_43 (dk_at dksX1_swap_2_5 0 rfl rfl)
theorem dX1_swap_2_119 : decode cX1_swap_2 119 = .ok (.putfield 20, 3) := dk_181 0 20 (dk_at dksX1_swap_2_5 1 rfl rfl)
theorem dX1_swap_2_122 : decode cX1_swap_2 122 = .ok (.return_, 1) := dk_177 (dk_at dksX1_swap_2_5 4 rfl rfl)
abbrev cX1_isEmpty : ByteArray := prog_3_method_6_code
def yX1_isEmpty : MethodName := ⟨RX1, "isEmpty", "()Z"⟩
def dkwX1_isEmpty_0 : List UInt8 := [42, 180, 0, 16, 9, 148, 154, 0, 7, 4, 167, 0, 4, 3, 172]
abbrev dktX1_isEmpty_0 : List UInt8 := dkwX1_isEmpty_0 ++ []
theorem dksX1_isEmpty_0 : cX1_isEmpty.data.toList.drop 0 = dktX1_isEmpty_0 := by decide +kernel
theorem dX1_isEmpty_0 : decode cX1_isEmpty 0 = .ok (.aload_n 0, 1) := dk_42 (dk_at dksX1_isEmpty_0 0 rfl rfl)
theorem dX1_isEmpty_1 : decode cX1_isEmpty 1 = .ok (.getfield 16, 3) := dk_180 0 16 (dk_at dksX1_isEmpty_0 1 rfl rfl)
theorem dX1_isEmpty_4 : decode cX1_isEmpty 4 = .ok (.lconst 0, 1) := dk_9 (dk_at dksX1_isEmpty_0 4 rfl rfl)
theorem dX1_isEmpty_5 : decode cX1_isEmpty 5 = .ok (.lcmp, 1) := dk_148 (dk_at dksX1_isEmpty_0 5 rfl rfl)
theorem dX1_isEmpty_6 : decode cX1_isEmpty 6 = .ok (.ifCond .ne 7, 3) := dk_154 0 7 (dk_at dksX1_isEmpty_0 6 rfl rfl)
theorem dX1_isEmpty_9 : decode cX1_isEmpty 9 = .ok (.iconst 1, 1) := dk_4 (dk_at dksX1_isEmpty_0 9 rfl rfl)
theorem dX1_isEmpty_10 : decode cX1_isEmpty 10 = .ok (.goto 4, 3) := dk_167 0 4 (dk_at dksX1_isEmpty_0 10 rfl rfl)
theorem dX1_isEmpty_13 : decode cX1_isEmpty 13 = .ok (.iconst 0, 1) := dk_3 (dk_at dksX1_isEmpty_0 13 rfl rfl)
theorem dX1_isEmpty_14 : decode cX1_isEmpty 14 = .ok (.ireturn, 1) := dk_172 (dk_at dksX1_isEmpty_0 14 rfl rfl)
abbrev cX1_findMin : ByteArray := prog_3_method_4_code
def yX1_findMin : MethodName := ⟨RX1, "findMin", "()LAddressableHeap$Handle;"⟩
def dkwX1_findMin_0 : List UInt8 := [42, 180, 0, 16, 9, 148, 154, 0, 11, 187, 0, 69, 89, 183, 0, 71, 191, 42, 180, 0, 20, 176]
abbrev dktX1_findMin_0 : List UInt8 := dkwX1_findMin_0 ++ []
theorem dksX1_findMin_0 : cX1_findMin.data.toList.drop 0 = dktX1_findMin_0 := by decide +kernel
theorem dX1_findMin_0 : decode cX1_findMin 0 = .ok (.aload_n 0, 1) := dk_42 (dk_at dksX1_findMin_0 0 rfl rfl)
theorem dX1_findMin_1 : decode cX1_findMin 1 = .ok (.getfield 16, 3) := dk_180 0 16 (dk_at dksX1_findMin_0 1 rfl rfl)
theorem dX1_findMin_4 : decode cX1_findMin 4 = .ok (.lconst 0, 1) := dk_9 (dk_at dksX1_findMin_0 4 rfl rfl)
theorem dX1_findMin_5 : decode cX1_findMin 5 = .ok (.lcmp, 1) := dk_148 (dk_at dksX1_findMin_0 5 rfl rfl)
theorem dX1_findMin_6 : decode cX1_findMin 6 = .ok (.ifCond .ne 11, 3) := dk_154 0 11 (dk_at dksX1_findMin_0 6 rfl rfl)
theorem dX1_findMin_9 : decode cX1_findMin 9 = .ok (.new 69, 3) := dk_187 0 69 (dk_at dksX1_findMin_0 9 rfl rfl)
theorem dX1_findMin_12 : decode cX1_findMin 12 = .ok (.dup, 1) := dk_89 (dk_at dksX1_findMin_0 12 rfl rfl)
theorem dX1_findMin_13 : decode cX1_findMin 13 = .ok (.invokespecial 71, 3) := dk_183 0 71 (dk_at dksX1_findMin_0 13 rfl rfl)
theorem dX1_findMin_16 : decode cX1_findMin 16 = .ok (.athrow, 1) := dk_191 (dk_at dksX1_findMin_0 16 rfl rfl)
theorem dX1_findMin_17 : decode cX1_findMin 17 = .ok (.aload_n 0, 1) := dk_42 (dk_at dksX1_findMin_0 17 rfl rfl)
theorem dX1_findMin_18 : decode cX1_findMin 18 = .ok (.getfield 20, 3) := dk_180 0 20 (dk_at dksX1_findMin_0 18 rfl rfl)
theorem dX1_findMin_21 : decode cX1_findMin 21 = .ok (.areturn, 1) := dk_176 (dk_at dksX1_findMin_0 21 rfl rfl)
abbrev cX1_deleteMin : ByteArray := prog_3_method_5_code
def yX1_deleteMin : MethodName := ⟨RX1, "deleteMin", "()LAddressableHeap$Handle;"⟩
def dkwX1_deleteMin_9 : List UInt8 := [181, 0, 20, 42, 42, 180, 0, 20, 182, 0, 72, 43, 1, 181, 0, 53, 43, 176]
abbrev dktX1_deleteMin_9 : List UInt8 := dkwX1_deleteMin_9 ++ []
def dkwX1_deleteMin_8 : List UInt8 := [180, 0, 53, 180, 0, 56, 45, 181, 0, 56, 45, 42, 180, 0, 20, 180, 0, 53, 181, 0, 53, 42, 45]
abbrev dktX1_deleteMin_8 : List UInt8 := dkwX1_deleteMin_8 ++ dktX1_deleteMin_9
def dkwX1_deleteMin_7 : List UInt8 := [180, 0, 20, 166, 0, 17, 42, 180, 0, 20, 180, 0, 53, 45, 181, 0, 56, 167, 0, 17, 42, 180, 0, 20]
abbrev dktX1_deleteMin_7 : List UInt8 := dkwX1_deleteMin_7 ++ dktX1_deleteMin_8
def dkwX1_deleteMin_6 : List UInt8 := [181, 0, 56, 42, 89, 180, 0, 16, 10, 101, 181, 0, 16, 42, 180, 0, 20, 180, 0, 53, 180, 0, 56, 42]
abbrev dktX1_deleteMin_6 : List UInt8 := dkwX1_deleteMin_6 ++ dktX1_deleteMin_7
def dkwX1_deleteMin_5 : List UInt8 := [25, 4, 180, 0, 56, 78, 25, 4, 44, 181, 0, 56, 167, 0, 8, 44, 1, 181, 0, 53, 45, 1]
abbrev dktX1_deleteMin_5 : List UInt8 := dkwX1_deleteMin_5 ++ dktX1_deleteMin_6
def dkwX1_deleteMin_4 : List UInt8 := [42, 180, 0, 16, 182, 0, 61, 77, 44, 180, 0, 53, 78, 45, 180, 0, 56, 44, 165, 0, 21, 45, 58, 4]
abbrev dktX1_deleteMin_4 : List UInt8 := dkwX1_deleteMin_4 ++ dktX1_deleteMin_5
def dkwX1_deleteMin_3 : List UInt8 := [181, 0, 53, 42, 180, 0, 20, 1, 181, 0, 56, 42, 10, 181, 0, 16, 43, 1, 181, 0, 53, 43, 176, 42]
abbrev dktX1_deleteMin_3 : List UInt8 := dkwX1_deleteMin_3 ++ dktX1_deleteMin_4
def dkwX1_deleteMin_2 : List UInt8 := [20, 0, 59, 148, 154, 0, 42, 42, 42, 180, 0, 20, 180, 0, 53, 181, 0, 20, 42, 180, 0, 20, 1]
abbrev dktX1_deleteMin_2 : List UInt8 := dkwX1_deleteMin_2 ++ dktX1_deleteMin_3
def dkwX1_deleteMin_1 : List UInt8 := [180, 0, 16, 10, 148, 154, 0, 15, 42, 1, 181, 0, 20, 42, 9, 181, 0, 16, 43, 176, 42, 180, 0, 16]
abbrev dktX1_deleteMin_1 : List UInt8 := dkwX1_deleteMin_1 ++ dktX1_deleteMin_2
def dkwX1_deleteMin_0 : List UInt8 := [42, 180, 0, 16, 9, 148, 154, 0, 11, 187, 0, 69, 89, 183, 0, 71, 191, 42, 180, 0, 20, 76, 42]
abbrev dktX1_deleteMin_0 : List UInt8 := dkwX1_deleteMin_0 ++ dktX1_deleteMin_1
theorem dksX1_deleteMin_0 : cX1_deleteMin.data.toList.drop 0 = dktX1_deleteMin_0 := by decide +kernel
theorem dksX1_deleteMin_1 : cX1_deleteMin.data.toList.drop 23 = dktX1_deleteMin_1 := dk_seg dksX1_deleteMin_0 23 rfl rfl
theorem dksX1_deleteMin_2 : cX1_deleteMin.data.toList.drop 47 = dktX1_deleteMin_2 := dk_seg dksX1_deleteMin_1 24 rfl rfl
theorem dksX1_deleteMin_3 : cX1_deleteMin.data.toList.drop 70 = dktX1_deleteMin_3 := dk_seg dksX1_deleteMin_2 23 rfl rfl
theorem dksX1_deleteMin_4 : cX1_deleteMin.data.toList.drop 94 = dktX1_deleteMin_4 := dk_seg dksX1_deleteMin_3 24 rfl rfl
theorem dksX1_deleteMin_5 : cX1_deleteMin.data.toList.drop 118 = dktX1_deleteMin_5 := dk_seg dksX1_deleteMin_4 24 rfl rfl
theorem dksX1_deleteMin_6 : cX1_deleteMin.data.toList.drop 140 = dktX1_deleteMin_6 := dk_seg dksX1_deleteMin_5 22 rfl rfl
theorem dksX1_deleteMin_7 : cX1_deleteMin.data.toList.drop 164 = dktX1_deleteMin_7 := dk_seg dksX1_deleteMin_6 24 rfl rfl
theorem dksX1_deleteMin_8 : cX1_deleteMin.data.toList.drop 188 = dktX1_deleteMin_8 := dk_seg dksX1_deleteMin_7 24 rfl rfl
theorem dksX1_deleteMin_9 : cX1_deleteMin.data.toList.drop 211 = dktX1_deleteMin_9 := dk_seg dksX1_deleteMin_8 23 rfl rfl
theorem dX1_deleteMin_0 : decode cX1_deleteMin 0 = .ok (.aload_n 0, 1) := dk_42 (dk_at dksX1_deleteMin_0 0 rfl rfl)
theorem dX1_deleteMin_1 : decode cX1_deleteMin 1 = .ok (.getfield 16, 3) := dk_180 0 16 (dk_at dksX1_deleteMin_0 1 rfl rfl)
theorem dX1_deleteMin_4 : decode cX1_deleteMin 4 = .ok (.lconst 0, 1) := dk_9 (dk_at dksX1_deleteMin_0 4 rfl rfl)
theorem dX1_deleteMin_5 : decode cX1_deleteMin 5 = .ok (.lcmp, 1) := dk_148 (dk_at dksX1_deleteMin_0 5 rfl rfl)
theorem dX1_deleteMin_6 : decode cX1_deleteMin 6 = .ok (.ifCond .ne 11, 3) := dk_154 0 11 (dk_at dksX1_deleteMin_0 6 rfl rfl)
theorem dX1_deleteMin_9 : decode cX1_deleteMin 9 = .ok (.new 69, 3) := dk_187 0 69 (dk_at dksX1_deleteMin_0 9 rfl rfl)
theorem dX1_deleteMin_12 : decode cX1_deleteMin 12 = .ok (.dup, 1) := dk_89 (dk_at dksX1_deleteMin_0 12 rfl rfl)
theorem dX1_deleteMin_13 : decode cX1_deleteMin 13 = .ok (.invokespecial 71, 3) := dk_183 0 71 (dk_at dksX1_deleteMin_0 13 rfl rfl)
theorem dX1_deleteMin_16 : decode cX1_deleteMin 16 = .ok (.athrow, 1) := dk_191 (dk_at dksX1_deleteMin_0 16 rfl rfl)
theorem dX1_deleteMin_17 : decode cX1_deleteMin 17 = .ok (.aload_n 0, 1) := dk_42 (dk_at dksX1_deleteMin_0 17 rfl rfl)
theorem dX1_deleteMin_18 : decode cX1_deleteMin 18 = .ok (.getfield 20, 3) := dk_180 0 20 (dk_at dksX1_deleteMin_0 18 rfl rfl)
theorem dX1_deleteMin_21 : decode cX1_deleteMin 21 = .ok (.astore_n 1, 1) := dk_76 (dk_at dksX1_deleteMin_0 21 rfl rfl)
theorem dX1_deleteMin_22 : decode cX1_deleteMin 22 = .ok (.aload_n 0, 1) := dk_42 (dk_at dksX1_deleteMin_0 22 rfl rfl)
theorem dX1_deleteMin_23 : decode cX1_deleteMin 23 = .ok (.getfield 16, 3) := dk_180 0 16 (dk_at dksX1_deleteMin_1 0 rfl rfl)
theorem dX1_deleteMin_26 : decode cX1_deleteMin 26 = .ok (.lconst 1, 1) := dk_10 (dk_at dksX1_deleteMin_1 3 rfl rfl)
theorem dX1_deleteMin_27 : decode cX1_deleteMin 27 = .ok (.lcmp, 1) := dk_148 (dk_at dksX1_deleteMin_1 4 rfl rfl)
theorem dX1_deleteMin_28 : decode cX1_deleteMin 28 = .ok (.ifCond .ne 15, 3) := dk_154 0 15 (dk_at dksX1_deleteMin_1 5 rfl rfl)
theorem dX1_deleteMin_31 : decode cX1_deleteMin 31 = .ok (.aload_n 0, 1) := dk_42 (dk_at dksX1_deleteMin_1 8 rfl rfl)
theorem dX1_deleteMin_32 : decode cX1_deleteMin 32 = .ok (.aconst_null, 1) := dk_1 (dk_at dksX1_deleteMin_1 9 rfl rfl)
theorem dX1_deleteMin_33 : decode cX1_deleteMin 33 = .ok (.putfield 20, 3) := dk_181 0 20 (dk_at dksX1_deleteMin_1 10 rfl rfl)
theorem dX1_deleteMin_36 : decode cX1_deleteMin 36 = .ok (.aload_n 0, 1) := dk_42 (dk_at dksX1_deleteMin_1 13 rfl rfl)
theorem dX1_deleteMin_37 : decode cX1_deleteMin 37 = .ok (.lconst 0, 1) := dk_9 (dk_at dksX1_deleteMin_1 14 rfl rfl)
theorem dX1_deleteMin_38 : decode cX1_deleteMin 38 = .ok (.putfield 16, 3) := dk_181 0 16 (dk_at dksX1_deleteMin_1 15 rfl rfl)
theorem dX1_deleteMin_41 : decode cX1_deleteMin 41 = .ok (.aload_n 1, 1) := dk_43 (dk_at dksX1_deleteMin_1 18 rfl rfl)
theorem dX1_deleteMin_42 : decode cX1_deleteMin 42 = .ok (.areturn, 1) := dk_176 (dk_at dksX1_deleteMin_1 19 rfl rfl)
theorem dX1_deleteMin_43 : decode cX1_deleteMin 43 = .ok (.aload_n 0, 1) := dk_42 (dk_at dksX1_deleteMin_1 20 rfl rfl)
theorem dX1_deleteMin_44 : decode cX1_deleteMin 44 = .ok (.getfield 16, 3) := dk_180 0 16 (dk_at dksX1_deleteMin_1 21 rfl rfl)
theorem dX1_deleteMin_47 : decode cX1_deleteMin 47 = .ok (.ldc2_w 59, 3) := dk_20 0 59 (dk_at dksX1_deleteMin_2 0 rfl rfl)
theorem dX1_deleteMin_50 : decode cX1_deleteMin 50 = .ok (.lcmp, 1) := dk_148 (dk_at dksX1_deleteMin_2 3 rfl rfl)
theorem dX1_deleteMin_51 : decode cX1_deleteMin 51 = .ok (.ifCond .ne 42, 3) := dk_154 0 42 (dk_at dksX1_deleteMin_2 4 rfl rfl)
theorem dX1_deleteMin_54 : decode cX1_deleteMin 54 = .ok (.aload_n 0, 1) := dk_42 (dk_at dksX1_deleteMin_2 7 rfl rfl)
theorem dX1_deleteMin_55 : decode cX1_deleteMin 55 = .ok (.aload_n 0, 1) := dk_42 (dk_at dksX1_deleteMin_2 8 rfl rfl)
theorem dX1_deleteMin_56 : decode cX1_deleteMin 56 = .ok (.getfield 20, 3) := dk_180 0 20 (dk_at dksX1_deleteMin_2 9 rfl rfl)
theorem dX1_deleteMin_59 : decode cX1_deleteMin 59 = .ok (.getfield 53, 3) := dk_180 0 53 (dk_at dksX1_deleteMin_2 12 rfl rfl)
theorem dX1_deleteMin_62 : decode cX1_deleteMin 62 = .ok (.putfield 20, 3) := dk_181 0 20 (dk_at dksX1_deleteMin_2 15 rfl rfl)
theorem dX1_deleteMin_65 : decode cX1_deleteMin 65 = .ok (.aload_n 0, 1) := dk_42 (dk_at dksX1_deleteMin_2 18 rfl rfl)
theorem dX1_deleteMin_66 : decode cX1_deleteMin 66 = .ok (.getfield 20, 3) := dk_180 0 20 (dk_at dksX1_deleteMin_2 19 rfl rfl)
theorem dX1_deleteMin_69 : decode cX1_deleteMin 69 = .ok (.aconst_null, 1) := dk_1 (dk_at dksX1_deleteMin_2 22 rfl rfl)
theorem dX1_deleteMin_70 : decode cX1_deleteMin 70 = .ok (.putfield 53, 3) := dk_181 0 53 (dk_at dksX1_deleteMin_3 0 rfl rfl)
theorem dX1_deleteMin_73 : decode cX1_deleteMin 73 = .ok (.aload_n 0, 1) := dk_42 (dk_at dksX1_deleteMin_3 3 rfl rfl)
theorem dX1_deleteMin_74 : decode cX1_deleteMin 74 = .ok (.getfield 20, 3) := dk_180 0 20 (dk_at dksX1_deleteMin_3 4 rfl rfl)
theorem dX1_deleteMin_77 : decode cX1_deleteMin 77 = .ok (.aconst_null, 1) := dk_1 (dk_at dksX1_deleteMin_3 7 rfl rfl)
theorem dX1_deleteMin_78 : decode cX1_deleteMin 78 = .ok (.putfield 56, 3) := dk_181 0 56 (dk_at dksX1_deleteMin_3 8 rfl rfl)
theorem dX1_deleteMin_81 : decode cX1_deleteMin 81 = .ok (.aload_n 0, 1) := dk_42 (dk_at dksX1_deleteMin_3 11 rfl rfl)
theorem dX1_deleteMin_82 : decode cX1_deleteMin 82 = .ok (.lconst 1, 1) := dk_10 (dk_at dksX1_deleteMin_3 12 rfl rfl)
theorem dX1_deleteMin_83 : decode cX1_deleteMin 83 = .ok (.putfield 16, 3) := dk_181 0 16 (dk_at dksX1_deleteMin_3 13 rfl rfl)
theorem dX1_deleteMin_86 : decode cX1_deleteMin 86 = .ok (.aload_n 1, 1) := dk_43 (dk_at dksX1_deleteMin_3 16 rfl rfl)
theorem dX1_deleteMin_87 : decode cX1_deleteMin 87 = .ok (.aconst_null, 1) := dk_1 (dk_at dksX1_deleteMin_3 17 rfl rfl)
theorem dX1_deleteMin_88 : decode cX1_deleteMin 88 = .ok (.putfield 53, 3) := dk_181 0 53 (dk_at dksX1_deleteMin_3 18 rfl rfl)
theorem dX1_deleteMin_91 : decode cX1_deleteMin 91 = .ok (.aload_n 1, 1) := dk_43 (dk_at dksX1_deleteMin_3 21 rfl rfl)
theorem dX1_deleteMin_92 : decode cX1_deleteMin 92 = .ok (.areturn, 1) := dk_176 (dk_at dksX1_deleteMin_3 22 rfl rfl)
theorem dX1_deleteMin_93 : decode cX1_deleteMin 93 = .ok (.aload_n 0, 1) := dk_42 (dk_at dksX1_deleteMin_3 23 rfl rfl)
theorem dX1_deleteMin_94 : decode cX1_deleteMin 94 = .ok (.aload_n 0, 1) := dk_42 (dk_at dksX1_deleteMin_4 0 rfl rfl)
theorem dX1_deleteMin_95 : decode cX1_deleteMin 95 = .ok (.getfield 16, 3) := dk_180 0 16 (dk_at dksX1_deleteMin_4 1 rfl rfl)
theorem dX1_deleteMin_98 : decode cX1_deleteMin 98 = .ok (.invokevirtual 61, 3) := dk_182 0 61 (dk_at dksX1_deleteMin_4 4 rfl rfl)
theorem dX1_deleteMin_101 : decode cX1_deleteMin 101 = .ok (.astore_n 2, 1) := dk_77 (dk_at dksX1_deleteMin_4 7 rfl rfl)
theorem dX1_deleteMin_102 : decode cX1_deleteMin 102 = .ok (.aload_n 2, 1) := dk_44 (dk_at dksX1_deleteMin_4 8 rfl rfl)
theorem dX1_deleteMin_103 : decode cX1_deleteMin 103 = .ok (.getfield 53, 3) := dk_180 0 53 (dk_at dksX1_deleteMin_4 9 rfl rfl)
theorem dX1_deleteMin_106 : decode cX1_deleteMin 106 = .ok (.astore_n 3, 1) := dk_78 (dk_at dksX1_deleteMin_4 12 rfl rfl)
theorem dX1_deleteMin_107 : decode cX1_deleteMin 107 = .ok (.aload_n 3, 1) := dk_45 (dk_at dksX1_deleteMin_4 13 rfl rfl)
theorem dX1_deleteMin_108 : decode cX1_deleteMin 108 = .ok (.getfield 56, 3) := dk_180 0 56 (dk_at dksX1_deleteMin_4 14 rfl rfl)
theorem dX1_deleteMin_111 : decode cX1_deleteMin 111 = .ok (.aload_n 2, 1) := dk_44 (dk_at dksX1_deleteMin_4 17 rfl rfl)
theorem dX1_deleteMin_112 : decode cX1_deleteMin 112 = .ok (.if_acmp .eq 21, 3) := dk_165 0 21 (dk_at dksX1_deleteMin_4 18 rfl rfl)
theorem dX1_deleteMin_115 : decode cX1_deleteMin 115 = .ok (.aload_n 3, 1) := dk_45 (dk_at dksX1_deleteMin_4 21 rfl rfl)
theorem dX1_deleteMin_116 : decode cX1_deleteMin 116 = .ok (.astore 4, 2) := dk_58 4 (dk_at dksX1_deleteMin_4 22 rfl rfl)
theorem dX1_deleteMin_118 : decode cX1_deleteMin 118 = .ok (.aload 4, 2) := dk_25 4 (dk_at dksX1_deleteMin_5 0 rfl rfl)
theorem dX1_deleteMin_120 : decode cX1_deleteMin 120 = .ok (.getfield 56, 3) := dk_180 0 56 (dk_at dksX1_deleteMin_5 2 rfl rfl)
theorem dX1_deleteMin_123 : decode cX1_deleteMin 123 = .ok (.astore_n 3, 1) := dk_78 (dk_at dksX1_deleteMin_5 5 rfl rfl)
theorem dX1_deleteMin_124 : decode cX1_deleteMin 124 = .ok (.aload 4, 2) := dk_25 4 (dk_at dksX1_deleteMin_5 6 rfl rfl)
theorem dX1_deleteMin_126 : decode cX1_deleteMin 126 = .ok (.aload_n 2, 1) := dk_44 (dk_at dksX1_deleteMin_5 8 rfl rfl)
theorem dX1_deleteMin_127 : decode cX1_deleteMin 127 = .ok (.putfield 56, 3) := dk_181 0 56 (dk_at dksX1_deleteMin_5 9 rfl rfl)
theorem dX1_deleteMin_130 : decode cX1_deleteMin 130 = .ok (.goto 8, 3) := dk_167 0 8 (dk_at dksX1_deleteMin_5 12 rfl rfl)
theorem dX1_deleteMin_133 : decode cX1_deleteMin 133 = .ok (.aload_n 2, 1) := dk_44 (dk_at dksX1_deleteMin_5 15 rfl rfl)
theorem dX1_deleteMin_134 : decode cX1_deleteMin 134 = .ok (.aconst_null, 1) := dk_1 (dk_at dksX1_deleteMin_5 16 rfl rfl)
theorem dX1_deleteMin_135 : decode cX1_deleteMin 135 = .ok (.putfield 53, 3) := dk_181 0 53 (dk_at dksX1_deleteMin_5 17 rfl rfl)
theorem dX1_deleteMin_138 : decode cX1_deleteMin 138 = .ok (.aload_n 3, 1) := dk_45 (dk_at dksX1_deleteMin_5 20 rfl rfl)
theorem dX1_deleteMin_139 : decode cX1_deleteMin 139 = .ok (.aconst_null, 1) := dk_1 (dk_at dksX1_deleteMin_5 21 rfl rfl)
theorem dX1_deleteMin_140 : decode cX1_deleteMin 140 = .ok (.putfield 56, 3) := dk_181 0 56 (dk_at dksX1_deleteMin_6 0 rfl rfl)
theorem dX1_deleteMin_143 : decode cX1_deleteMin 143 = .ok (.aload_n 0, 1) := dk_42 (dk_at dksX1_deleteMin_6 3 rfl rfl)
theorem dX1_deleteMin_144 : decode cX1_deleteMin 144 = .ok (.dup, 1) := dk_89 (dk_at dksX1_deleteMin_6 4 rfl rfl)
theorem dX1_deleteMin_145 : decode cX1_deleteMin 145 = .ok (.getfield 16, 3) := dk_180 0 16 (dk_at dksX1_deleteMin_6 5 rfl rfl)
theorem dX1_deleteMin_148 : decode cX1_deleteMin 148 = .ok (.lconst 1, 1) := dk_10 (dk_at dksX1_deleteMin_6 8 rfl rfl)
theorem dX1_deleteMin_149 : decode cX1_deleteMin 149 = .ok (.lsub, 1) := dk_101 (dk_at dksX1_deleteMin_6 9 rfl rfl)
theorem dX1_deleteMin_150 : decode cX1_deleteMin 150 = .ok (.putfield 16, 3) := dk_181 0 16 (dk_at dksX1_deleteMin_6 10 rfl rfl)
theorem dX1_deleteMin_153 : decode cX1_deleteMin 153 = .ok (.aload_n 0, 1) := dk_42 (dk_at dksX1_deleteMin_6 13 rfl rfl)
theorem dX1_deleteMin_154 : decode cX1_deleteMin 154 = .ok (.getfield 20, 3) := dk_180 0 20 (dk_at dksX1_deleteMin_6 14 rfl rfl)
theorem dX1_deleteMin_157 : decode cX1_deleteMin 157 = .ok (.getfield 53, 3) := dk_180 0 53 (dk_at dksX1_deleteMin_6 17 rfl rfl)
theorem dX1_deleteMin_160 : decode cX1_deleteMin 160 = .ok (.getfield 56, 3) := dk_180 0 56 (dk_at dksX1_deleteMin_6 20 rfl rfl)
theorem dX1_deleteMin_163 : decode cX1_deleteMin 163 = .ok (.aload_n 0, 1) := dk_42 (dk_at dksX1_deleteMin_6 23 rfl rfl)
theorem dX1_deleteMin_164 : decode cX1_deleteMin 164 = .ok (.getfield 20, 3) := dk_180 0 20 (dk_at dksX1_deleteMin_7 0 rfl rfl)
theorem dX1_deleteMin_167 : decode cX1_deleteMin 167 = .ok (.if_acmp .ne 17, 3) := dk_166 0 17 (dk_at dksX1_deleteMin_7 3 rfl rfl)
theorem dX1_deleteMin_170 : decode cX1_deleteMin 170 = .ok (.aload_n 0, 1) := dk_42 (dk_at dksX1_deleteMin_7 6 rfl rfl)
theorem dX1_deleteMin_171 : decode cX1_deleteMin 171 = .ok (.getfield 20, 3) := dk_180 0 20 (dk_at dksX1_deleteMin_7 7 rfl rfl)
theorem dX1_deleteMin_174 : decode cX1_deleteMin 174 = .ok (.getfield 53, 3) := dk_180 0 53 (dk_at dksX1_deleteMin_7 10 rfl rfl)
theorem dX1_deleteMin_177 : decode cX1_deleteMin 177 = .ok (.aload_n 3, 1) := dk_45 (dk_at dksX1_deleteMin_7 13 rfl rfl)
theorem dX1_deleteMin_178 : decode cX1_deleteMin 178 = .ok (.putfield 56, 3) := dk_181 0 56 (dk_at dksX1_deleteMin_7 14 rfl rfl)
theorem dX1_deleteMin_181 : decode cX1_deleteMin 181 = .ok (.goto 17, 3) := dk_167 0 17 (dk_at dksX1_deleteMin_7 17 rfl rfl)
theorem dX1_deleteMin_184 : decode cX1_deleteMin 184 = .ok (.aload_n 0, 1) := dk_42 (dk_at dksX1_deleteMin_7 20 rfl rfl)
theorem dX1_deleteMin_185 : decode cX1_deleteMin 185 = .ok (.getfield 20, 3) := dk_180 0 20 (dk_at dksX1_deleteMin_7 21 rfl rfl)
theorem dX1_deleteMin_188 : decode cX1_deleteMin 188 = .ok (.getfield 53, 3) := dk_180 0 53 (dk_at dksX1_deleteMin_8 0 rfl rfl)
theorem dX1_deleteMin_191 : decode cX1_deleteMin 191 = .ok (.getfield 56, 3) := dk_180 0 56 (dk_at dksX1_deleteMin_8 3 rfl rfl)
theorem dX1_deleteMin_194 : decode cX1_deleteMin 194 = .ok (.aload_n 3, 1) := dk_45 (dk_at dksX1_deleteMin_8 6 rfl rfl)
theorem dX1_deleteMin_195 : decode cX1_deleteMin 195 = .ok (.putfield 56, 3) := dk_181 0 56 (dk_at dksX1_deleteMin_8 7 rfl rfl)
theorem dX1_deleteMin_198 : decode cX1_deleteMin 198 = .ok (.aload_n 3, 1) := dk_45 (dk_at dksX1_deleteMin_8 10 rfl rfl)
theorem dX1_deleteMin_199 : decode cX1_deleteMin 199 = .ok (.aload_n 0, 1) := dk_42 (dk_at dksX1_deleteMin_8 11 rfl rfl)
theorem dX1_deleteMin_200 : decode cX1_deleteMin 200 = .ok (.getfield 20, 3) := dk_180 0 20 (dk_at dksX1_deleteMin_8 12 rfl rfl)
theorem dX1_deleteMin_203 : decode cX1_deleteMin 203 = .ok (.getfield 53, 3) := dk_180 0 53 (dk_at dksX1_deleteMin_8 15 rfl rfl)
theorem dX1_deleteMin_206 : decode cX1_deleteMin 206 = .ok (.putfield 53, 3) := dk_181 0 53 (dk_at dksX1_deleteMin_8 18 rfl rfl)
theorem dX1_deleteMin_209 : decode cX1_deleteMin 209 = .ok (.aload_n 0, 1) := dk_42 (dk_at dksX1_deleteMin_8 21 rfl rfl)
theorem dX1_deleteMin_210 : decode cX1_deleteMin 210 = .ok (.aload_n 3, 1) := dk_45 (dk_at dksX1_deleteMin_8 22 rfl rfl)
theorem dX1_deleteMin_211 : decode cX1_deleteMin 211 = .ok (.putfield 20, 3) := dk_181 0 20 (dk_at dksX1_deleteMin_9 0 rfl rfl)
theorem dX1_deleteMin_214 : decode cX1_deleteMin 214 = .ok (.aload_n 0, 1) := dk_42 (dk_at dksX1_deleteMin_9 3 rfl rfl)
theorem dX1_deleteMin_215 : decode cX1_deleteMin 215 = .ok (.aload_n 0, 1) := dk_42 (dk_at dksX1_deleteMin_9 4 rfl rfl)
theorem dX1_deleteMin_216 : decode cX1_deleteMin 216 = .ok (.getfield 20, 3) := dk_180 0 20 (dk_at dksX1_deleteMin_9 5 rfl rfl)
theorem dX1_deleteMin_219 : decode cX1_deleteMin 219 = .ok (.invokevirtual 72, 3) := dk_182 0 72 (dk_at dksX1_deleteMin_9 8 rfl rfl)
theorem dX1_deleteMin_222 : decode cX1_deleteMin 222 = .ok (.aload_n 1, 1) := dk_43 (dk_at dksX1_deleteMin_9 11 rfl rfl)
theorem dX1_deleteMin_223 : decode cX1_deleteMin 223 = .ok (.aconst_null, 1) := dk_1 (dk_at dksX1_deleteMin_9 12 rfl rfl)
theorem dX1_deleteMin_224 : decode cX1_deleteMin 224 = .ok (.putfield 53, 3) := dk_181 0 53 (dk_at dksX1_deleteMin_9 13 rfl rfl)
theorem dX1_deleteMin_227 : decode cX1_deleteMin 227 = .ok (.aload_n 1, 1) := dk_43 (dk_at dksX1_deleteMin_9 16 rfl rfl)
theorem dX1_deleteMin_228 : decode cX1_deleteMin 228 = .ok (.areturn, 1) := dk_176 (dk_at dksX1_deleteMin_9 17 rfl rfl)
abbrev cX1_fixdown : ByteArray := prog_3_method_10_code
def yX1_fixdown : MethodName := ⟨RX1, "fixdown", "(LBinaryTreeAddressableHeap$Node;)V"⟩
def dkwX1_fixdown_7 : List UInt8 := [185, 0, 48, 3, 0, 157, 0, 6, 167, 0, 15, 42, 45, 43, 44, 182, 0, 79, 45, 77, 167, 255, 176, 177]
abbrev dktX1_fixdown_7 : List UInt8 := dkwX1_fixdown_7 ++ []
def dkwX1_fixdown_6 : List UInt8 := [156, 0, 8, 45, 180, 0, 56, 78, 42, 180, 0, 12, 43, 180, 0, 38, 45, 180, 0, 38]
abbrev dktX1_fixdown_6 : List UInt8 := dkwX1_fixdown_6 ++ dktX1_fixdown_7
def dkwX1_fixdown_5 : List UInt8 := [165, 0, 31, 42, 180, 0, 12, 45, 180, 0, 56, 180, 0, 38, 45, 180, 0, 38, 185, 0, 48, 3, 0]
abbrev dktX1_fixdown_5 : List UInt8 := dkwX1_fixdown_5 ++ dktX1_fixdown_6
def dkwX1_fixdown_4 : List UInt8 := [42, 43, 182, 0, 75, 77, 43, 180, 0, 53, 198, 0, 79, 43, 180, 0, 53, 78, 45, 180, 0, 56, 43]
abbrev dktX1_fixdown_4 : List UInt8 := dkwX1_fixdown_4 ++ dktX1_fixdown_5
def dkwX1_fixdown_3 : List UInt8 := [184, 0, 42, 157, 0, 6, 167, 0, 15, 42, 45, 43, 44, 182, 0, 79, 45, 77, 167, 255, 182, 167, 0, 92]
abbrev dktX1_fixdown_3 : List UInt8 := dkwX1_fixdown_3 ++ dktX1_fixdown_4
def dkwX1_fixdown_2 : List UInt8 := [184, 0, 42, 156, 0, 8, 45, 180, 0, 56, 78, 43, 180, 0, 38, 192, 0, 36, 45, 180, 0, 38]
abbrev dktX1_fixdown_2 : List UInt8 := dkwX1_fixdown_2 ++ dktX1_fixdown_3
def dkwX1_fixdown_1 : List UInt8 := [78, 45, 180, 0, 56, 43, 165, 0, 28, 45, 180, 0, 56, 180, 0, 38, 192, 0, 36, 45, 180, 0, 38]
abbrev dktX1_fixdown_1 : List UInt8 := dkwX1_fixdown_1 ++ dktX1_fixdown_2
def dkwX1_fixdown_0 : List UInt8 := [42, 180, 0, 12, 199, 0, 89, 42, 43, 182, 0, 75, 77, 43, 180, 0, 53, 198, 0, 73, 43, 180, 0, 53]
abbrev dktX1_fixdown_0 : List UInt8 := dkwX1_fixdown_0 ++ dktX1_fixdown_1
theorem dksX1_fixdown_0 : cX1_fixdown.data.toList.drop 0 = dktX1_fixdown_0 := by decide +kernel
theorem dksX1_fixdown_1 : cX1_fixdown.data.toList.drop 24 = dktX1_fixdown_1 := dk_seg dksX1_fixdown_0 24 rfl rfl
theorem dksX1_fixdown_2 : cX1_fixdown.data.toList.drop 47 = dktX1_fixdown_2 := dk_seg dksX1_fixdown_1 23 rfl rfl
theorem dksX1_fixdown_3 : cX1_fixdown.data.toList.drop 69 = dktX1_fixdown_3 := dk_seg dksX1_fixdown_2 22 rfl rfl
theorem dksX1_fixdown_4 : cX1_fixdown.data.toList.drop 93 = dktX1_fixdown_4 := dk_seg dksX1_fixdown_3 24 rfl rfl
theorem dksX1_fixdown_5 : cX1_fixdown.data.toList.drop 116 = dktX1_fixdown_5 := dk_seg dksX1_fixdown_4 23 rfl rfl
theorem dksX1_fixdown_6 : cX1_fixdown.data.toList.drop 139 = dktX1_fixdown_6 := dk_seg dksX1_fixdown_5 23 rfl rfl
theorem dksX1_fixdown_7 : cX1_fixdown.data.toList.drop 159 = dktX1_fixdown_7 := dk_seg dksX1_fixdown_6 20 rfl rfl
theorem dX1_fixdown_0 : decode cX1_fixdown 0 = .ok (.aload_n 0, 1) := dk_42 (dk_at dksX1_fixdown_0 0 rfl rfl)
theorem dX1_fixdown_1 : decode cX1_fixdown 1 = .ok (.getfield 12, 3) := dk_180 0 12 (dk_at dksX1_fixdown_0 1 rfl rfl)
theorem dX1_fixdown_4 : decode cX1_fixdown 4 = .ok (.ifnonnull 89, 3) := dk_199 0 89 (dk_at dksX1_fixdown_0 4 rfl rfl)
theorem dX1_fixdown_7 : decode cX1_fixdown 7 = .ok (.aload_n 0, 1) := dk_42 (dk_at dksX1_fixdown_0 7 rfl rfl)
theorem dX1_fixdown_8 : decode cX1_fixdown 8 = .ok (.aload_n 1, 1) := dk_43 (dk_at dksX1_fixdown_0 8 rfl rfl)
theorem dX1_fixdown_9 : decode cX1_fixdown 9 = .ok (.invokevirtual 75, 3) := dk_182 0 75 (dk_at dksX1_fixdown_0 9 rfl rfl)
theorem dX1_fixdown_12 : decode cX1_fixdown 12 = .ok (.astore_n 2, 1) := dk_77 (dk_at dksX1_fixdown_0 12 rfl rfl)
theorem dX1_fixdown_13 : decode cX1_fixdown 13 = .ok (.aload_n 1, 1) := dk_43 (dk_at dksX1_fixdown_0 13 rfl rfl)
theorem dX1_fixdown_14 : decode cX1_fixdown 14 = .ok (.getfield 53, 3) := dk_180 0 53 (dk_at dksX1_fixdown_0 14 rfl rfl)
theorem dX1_fixdown_17 : decode cX1_fixdown 17 = .ok (.ifnull 73, 3) := dk_198 0 73 (dk_at dksX1_fixdown_0 17 rfl rfl)
theorem dX1_fixdown_20 : decode cX1_fixdown 20 = .ok (.aload_n 1, 1) := dk_43 (dk_at dksX1_fixdown_0 20 rfl rfl)
theorem dX1_fixdown_21 : decode cX1_fixdown 21 = .ok (.getfield 53, 3) := dk_180 0 53 (dk_at dksX1_fixdown_0 21 rfl rfl)
theorem dX1_fixdown_24 : decode cX1_fixdown 24 = .ok (.astore_n 3, 1) := dk_78 (dk_at dksX1_fixdown_1 0 rfl rfl)
theorem dX1_fixdown_25 : decode cX1_fixdown 25 = .ok (.aload_n 3, 1) := dk_45 (dk_at dksX1_fixdown_1 1 rfl rfl)
theorem dX1_fixdown_26 : decode cX1_fixdown 26 = .ok (.getfield 56, 3) := dk_180 0 56 (dk_at dksX1_fixdown_1 2 rfl rfl)
theorem dX1_fixdown_29 : decode cX1_fixdown 29 = .ok (.aload_n 1, 1) := dk_43 (dk_at dksX1_fixdown_1 5 rfl rfl)
theorem dX1_fixdown_30 : decode cX1_fixdown 30 = .ok (.if_acmp .eq 28, 3) := dk_165 0 28 (dk_at dksX1_fixdown_1 6 rfl rfl)
theorem dX1_fixdown_33 : decode cX1_fixdown 33 = .ok (.aload_n 3, 1) := dk_45 (dk_at dksX1_fixdown_1 9 rfl rfl)
theorem dX1_fixdown_34 : decode cX1_fixdown 34 = .ok (.getfield 56, 3) := dk_180 0 56 (dk_at dksX1_fixdown_1 10 rfl rfl)
theorem dX1_fixdown_37 : decode cX1_fixdown 37 = .ok (.getfield 38, 3) := dk_180 0 38 (dk_at dksX1_fixdown_1 13 rfl rfl)
theorem dX1_fixdown_40 : decode cX1_fixdown 40 = .ok (.checkcast 36, 3) := dk_192 0 36 (dk_at dksX1_fixdown_1 16 rfl rfl)
theorem dX1_fixdown_43 : decode cX1_fixdown 43 = .ok (.aload_n 3, 1) := dk_45 (dk_at dksX1_fixdown_1 19 rfl rfl)
theorem dX1_fixdown_44 : decode cX1_fixdown 44 = .ok (.getfield 38, 3) := dk_180 0 38 (dk_at dksX1_fixdown_1 20 rfl rfl)
theorem dX1_fixdown_47 : decode cX1_fixdown 47 = .ok (.invokestatic 42, 3) := dk_184 0 42 (dk_at dksX1_fixdown_2 0 rfl rfl)
theorem dX1_fixdown_50 : decode cX1_fixdown 50 = .ok (.ifCond .ge 8, 3) := dk_156 0 8 (dk_at dksX1_fixdown_2 3 rfl rfl)
theorem dX1_fixdown_53 : decode cX1_fixdown 53 = .ok (.aload_n 3, 1) := dk_45 (dk_at dksX1_fixdown_2 6 rfl rfl)
theorem dX1_fixdown_54 : decode cX1_fixdown 54 = .ok (.getfield 56, 3) := dk_180 0 56 (dk_at dksX1_fixdown_2 7 rfl rfl)
theorem dX1_fixdown_57 : decode cX1_fixdown 57 = .ok (.astore_n 3, 1) := dk_78 (dk_at dksX1_fixdown_2 10 rfl rfl)
theorem dX1_fixdown_58 : decode cX1_fixdown 58 = .ok (.aload_n 1, 1) := dk_43 (dk_at dksX1_fixdown_2 11 rfl rfl)
theorem dX1_fixdown_59 : decode cX1_fixdown 59 = .ok (.getfield 38, 3) := dk_180 0 38 (dk_at dksX1_fixdown_2 12 rfl rfl)
theorem dX1_fixdown_62 : decode cX1_fixdown 62 = .ok (.checkcast 36, 3) := dk_192 0 36 (dk_at dksX1_fixdown_2 15 rfl rfl)
theorem dX1_fixdown_65 : decode cX1_fixdown 65 = .ok (.aload_n 3, 1) := dk_45 (dk_at dksX1_fixdown_2 18 rfl rfl)
theorem dX1_fixdown_66 : decode cX1_fixdown 66 = .ok (.getfield 38, 3) := dk_180 0 38 (dk_at dksX1_fixdown_2 19 rfl rfl)
theorem dX1_fixdown_69 : decode cX1_fixdown 69 = .ok (.invokestatic 42, 3) := dk_184 0 42 (dk_at dksX1_fixdown_3 0 rfl rfl)
theorem dX1_fixdown_72 : decode cX1_fixdown 72 = .ok (.ifCond .gt 6, 3) := dk_157 0 6 (dk_at dksX1_fixdown_3 3 rfl rfl)
theorem dX1_fixdown_75 : decode cX1_fixdown 75 = .ok (.goto 15, 3) := dk_167 0 15 (dk_at dksX1_fixdown_3 6 rfl rfl)
theorem dX1_fixdown_78 : decode cX1_fixdown 78 = .ok (.aload_n 0, 1) := dk_42 (dk_at dksX1_fixdown_3 9 rfl rfl)
theorem dX1_fixdown_79 : decode cX1_fixdown 79 = .ok (.aload_n 3, 1) := dk_45 (dk_at dksX1_fixdown_3 10 rfl rfl)
theorem dX1_fixdown_80 : decode cX1_fixdown 80 = .ok (.aload_n 1, 1) := dk_43 (dk_at dksX1_fixdown_3 11 rfl rfl)
theorem dX1_fixdown_81 : decode cX1_fixdown 81 = .ok (.aload_n 2, 1) := dk_44 (dk_at dksX1_fixdown_3 12 rfl rfl)
theorem dX1_fixdown_82 : decode cX1_fixdown 82 = .ok (.invokevirtual 79, 3) := dk_182 0 79 (dk_at dksX1_fixdown_3 13 rfl rfl)
theorem dX1_fixdown_85 : decode cX1_fixdown 85 = .ok (.aload_n 3, 1) := dk_45 (dk_at dksX1_fixdown_3 16 rfl rfl)
theorem dX1_fixdown_86 : decode cX1_fixdown 86 = .ok (.astore_n 2, 1) := dk_77 (dk_at dksX1_fixdown_3 17 rfl rfl)
theorem dX1_fixdown_87 : decode cX1_fixdown 87 = .ok (.goto (-74), 3) := dk_167 255 182 (dk_at dksX1_fixdown_3 18 rfl rfl)
theorem dX1_fixdown_90 : decode cX1_fixdown 90 = .ok (.goto 92, 3) := dk_167 0 92 (dk_at dksX1_fixdown_3 21 rfl rfl)
theorem dX1_fixdown_93 : decode cX1_fixdown 93 = .ok (.aload_n 0, 1) := dk_42 (dk_at dksX1_fixdown_4 0 rfl rfl)
theorem dX1_fixdown_94 : decode cX1_fixdown 94 = .ok (.aload_n 1, 1) := dk_43 (dk_at dksX1_fixdown_4 1 rfl rfl)
theorem dX1_fixdown_95 : decode cX1_fixdown 95 = .ok (.invokevirtual 75, 3) := dk_182 0 75 (dk_at dksX1_fixdown_4 2 rfl rfl)
theorem dX1_fixdown_98 : decode cX1_fixdown 98 = .ok (.astore_n 2, 1) := dk_77 (dk_at dksX1_fixdown_4 5 rfl rfl)
theorem dX1_fixdown_99 : decode cX1_fixdown 99 = .ok (.aload_n 1, 1) := dk_43 (dk_at dksX1_fixdown_4 6 rfl rfl)
theorem dX1_fixdown_100 : decode cX1_fixdown 100 = .ok (.getfield 53, 3) := dk_180 0 53 (dk_at dksX1_fixdown_4 7 rfl rfl)
theorem dX1_fixdown_103 : decode cX1_fixdown 103 = .ok (.ifnull 79, 3) := dk_198 0 79 (dk_at dksX1_fixdown_4 10 rfl rfl)
theorem dX1_fixdown_106 : decode cX1_fixdown 106 = .ok (.aload_n 1, 1) := dk_43 (dk_at dksX1_fixdown_4 13 rfl rfl)
theorem dX1_fixdown_107 : decode cX1_fixdown 107 = .ok (.getfield 53, 3) := dk_180 0 53 (dk_at dksX1_fixdown_4 14 rfl rfl)
theorem dX1_fixdown_110 : decode cX1_fixdown 110 = .ok (.astore_n 3, 1) := dk_78 (dk_at dksX1_fixdown_4 17 rfl rfl)
theorem dX1_fixdown_111 : decode cX1_fixdown 111 = .ok (.aload_n 3, 1) := dk_45 (dk_at dksX1_fixdown_4 18 rfl rfl)
theorem dX1_fixdown_112 : decode cX1_fixdown 112 = .ok (.getfield 56, 3) := dk_180 0 56 (dk_at dksX1_fixdown_4 19 rfl rfl)
theorem dX1_fixdown_115 : decode cX1_fixdown 115 = .ok (.aload_n 1, 1) := dk_43 (dk_at dksX1_fixdown_4 22 rfl rfl)
theorem dX1_fixdown_116 : decode cX1_fixdown 116 = .ok (.if_acmp .eq 31, 3) := dk_165 0 31 (dk_at dksX1_fixdown_5 0 rfl rfl)
theorem dX1_fixdown_119 : decode cX1_fixdown 119 = .ok (.aload_n 0, 1) := dk_42 (dk_at dksX1_fixdown_5 3 rfl rfl)
theorem dX1_fixdown_120 : decode cX1_fixdown 120 = .ok (.getfield 12, 3) := dk_180 0 12 (dk_at dksX1_fixdown_5 4 rfl rfl)
theorem dX1_fixdown_123 : decode cX1_fixdown 123 = .ok (.aload_n 3, 1) := dk_45 (dk_at dksX1_fixdown_5 7 rfl rfl)
theorem dX1_fixdown_124 : decode cX1_fixdown 124 = .ok (.getfield 56, 3) := dk_180 0 56 (dk_at dksX1_fixdown_5 8 rfl rfl)
theorem dX1_fixdown_127 : decode cX1_fixdown 127 = .ok (.getfield 38, 3) := dk_180 0 38 (dk_at dksX1_fixdown_5 11 rfl rfl)
theorem dX1_fixdown_130 : decode cX1_fixdown 130 = .ok (.aload_n 3, 1) := dk_45 (dk_at dksX1_fixdown_5 14 rfl rfl)
theorem dX1_fixdown_131 : decode cX1_fixdown 131 = .ok (.getfield 38, 3) := dk_180 0 38 (dk_at dksX1_fixdown_5 15 rfl rfl)
theorem dX1_fixdown_134 : decode cX1_fixdown 134 = .ok (.invokeinterface 48 3, 5) := by decide +kernel
theorem dX1_fixdown_139 : decode cX1_fixdown 139 = .ok (.ifCond .ge 8, 3) := dk_156 0 8 (dk_at dksX1_fixdown_6 0 rfl rfl)
theorem dX1_fixdown_142 : decode cX1_fixdown 142 = .ok (.aload_n 3, 1) := dk_45 (dk_at dksX1_fixdown_6 3 rfl rfl)
theorem dX1_fixdown_143 : decode cX1_fixdown 143 = .ok (.getfield 56, 3) := dk_180 0 56 (dk_at dksX1_fixdown_6 4 rfl rfl)
theorem dX1_fixdown_146 : decode cX1_fixdown 146 = .ok (.astore_n 3, 1) := dk_78 (dk_at dksX1_fixdown_6 7 rfl rfl)
theorem dX1_fixdown_147 : decode cX1_fixdown 147 = .ok (.aload_n 0, 1) := dk_42 (dk_at dksX1_fixdown_6 8 rfl rfl)
theorem dX1_fixdown_148 : decode cX1_fixdown 148 = .ok (.getfield 12, 3) := dk_180 0 12 (dk_at dksX1_fixdown_6 9 rfl rfl)
theorem dX1_fixdown_151 : decode cX1_fixdown 151 = .ok (.aload_n 1, 1) := dk_43 (dk_at dksX1_fixdown_6 12 rfl rfl)
theorem dX1_fixdown_152 : decode cX1_fixdown 152 = .ok (.getfield 38, 3) := dk_180 0 38 (dk_at dksX1_fixdown_6 13 rfl rfl)
theorem dX1_fixdown_155 : decode cX1_fixdown 155 = .ok (.aload_n 3, 1) := dk_45 (dk_at dksX1_fixdown_6 16 rfl rfl)
theorem dX1_fixdown_156 : decode cX1_fixdown 156 = .ok (.getfield 38, 3) := dk_180 0 38 (dk_at dksX1_fixdown_6 17 rfl rfl)
theorem dX1_fixdown_159 : decode cX1_fixdown 159 = .ok (.invokeinterface 48 3, 5) := by decide +kernel
theorem dX1_fixdown_164 : decode cX1_fixdown 164 = .ok (.ifCond .gt 6, 3) := dk_157 0 6 (dk_at dksX1_fixdown_7 5 rfl rfl)
theorem dX1_fixdown_167 : decode cX1_fixdown 167 = .ok (.goto 15, 3) := dk_167 0 15 (dk_at dksX1_fixdown_7 8 rfl rfl)
theorem dX1_fixdown_170 : decode cX1_fixdown 170 = .ok (.aload_n 0, 1) := dk_42 (dk_at dksX1_fixdown_7 11 rfl rfl)
theorem dX1_fixdown_171 : decode cX1_fixdown 171 = .ok (.aload_n 3, 1) := dk_45 (dk_at dksX1_fixdown_7 12 rfl rfl)
theorem dX1_fixdown_172 : decode cX1_fixdown 172 = .ok (.aload_n 1, 1) := dk_43 (dk_at dksX1_fixdown_7 13 rfl rfl)
theorem dX1_fixdown_173 : decode cX1_fixdown 173 = .ok (.aload_n 2, 1) := dk_44 (dk_at dksX1_fixdown_7 14 rfl rfl)
theorem dX1_fixdown_174 : decode cX1_fixdown 174 = .ok (.invokevirtual 79, 3) := dk_182 0 79 (dk_at dksX1_fixdown_7 15 rfl rfl)
theorem dX1_fixdown_177 : decode cX1_fixdown 177 = .ok (.aload_n 3, 1) := dk_45 (dk_at dksX1_fixdown_7 18 rfl rfl)
theorem dX1_fixdown_178 : decode cX1_fixdown 178 = .ok (.astore_n 2, 1) := dk_77 (dk_at dksX1_fixdown_7 19 rfl rfl)
theorem dX1_fixdown_179 : decode cX1_fixdown 179 = .ok (.goto (-80), 3) := dk_167 255 176 (dk_at dksX1_fixdown_7 20 rfl rfl)
theorem dX1_fixdown_182 : decode cX1_fixdown 182 = .ok (.return_, 1) := dk_177 (dk_at dksX1_fixdown_7 23 rfl rfl)
abbrev cX1_size : ByteArray := prog_3_method_7_code
def yX1_size : MethodName := ⟨RX1, "size", "()J"⟩
theorem dX1_size_0 : decode cX1_size 0 = .ok (.aload_n 0, 1) := by decide +kernel
theorem dX1_size_1 : decode cX1_size 1 = .ok (.getfield 16, 3) := by decide +kernel
theorem dX1_size_4 : decode cX1_size 4 = .ok (.lreturn, 1) := by decide +kernel
abbrev cX1_clear : ByteArray := prog_3_method_8_code
def yX1_clear : MethodName := ⟨RX1, "clear", "()V"⟩
def dkwX1_clear_0 : List UInt8 := [42, 1, 181, 0, 20, 42, 9, 181, 0, 16, 177]
abbrev dktX1_clear_0 : List UInt8 := dkwX1_clear_0 ++ []
theorem dksX1_clear_0 : cX1_clear.data.toList.drop 0 = dktX1_clear_0 := by decide +kernel
theorem dX1_clear_0 : decode cX1_clear 0 = .ok (.aload_n 0, 1) := dk_42 (dk_at dksX1_clear_0 0 rfl rfl)
theorem dX1_clear_1 : decode cX1_clear 1 = .ok (.aconst_null, 1) := dk_1 (dk_at dksX1_clear_0 1 rfl rfl)
theorem dX1_clear_2 : decode cX1_clear 2 = .ok (.putfield 20, 3) := dk_181 0 20 (dk_at dksX1_clear_0 2 rfl rfl)
theorem dX1_clear_5 : decode cX1_clear 5 = .ok (.aload_n 0, 1) := dk_42 (dk_at dksX1_clear_0 5 rfl rfl)
theorem dX1_clear_6 : decode cX1_clear 6 = .ok (.lconst 0, 1) := dk_9 (dk_at dksX1_clear_0 6 rfl rfl)
theorem dX1_clear_7 : decode cX1_clear 7 = .ok (.putfield 16, 3) := dk_181 0 16 (dk_at dksX1_clear_0 7 rfl rfl)
theorem dX1_clear_10 : decode cX1_clear 10 = .ok (.return_, 1) := dk_177 (dk_at dksX1_clear_0 10 rfl rfl)
theorem q14 : (Jvm.Cond.initialized "BinaryTreeAddressableHeap") ∈ lw_all := lw_g (lw_at lw_m1 2 rfl) rfl
theorem q47 : (Jvm.Cond.instantiable "BinaryTreeAddressableHeap" (3 : Nat)) ∈ lw_all := lw_g (lw_at lw_m1 35 rfl) rfl
theorem q49 : (Jvm.Cond.instanceMethod ({ cls := "BinaryTreeAddressableHeap", name := "<init>", desc := "()V" } : Jvm.MethodName)) ∈ lw_all := lw_g (lw_at lw_m1 37 rfl) rfl
theorem q50 : (Jvm.Cond.code ({ cls := "BinaryTreeAddressableHeap", name := "<init>", desc := "()V" } : Jvm.MethodName) prog_3_method_1_code (1 : Nat) (Option.none : Option Jvm.ClassFile.FieldType)) ∈ lw_all := lw_g (lw_at lw_m1 38 rfl) rfl
theorem q51 : (Jvm.Cond.methodLink "BinaryTreeAddressableHeap" (1 : Nat) ({ cls := "BinaryTreeAddressableHeap", name := "<init>", desc := "(Ljava/util/Comparator;)V" } : Jvm.MethodName)) ∈ lw_all := lw_g (lw_at lw_m1 39 rfl) rfl
theorem q52 : (Jvm.Cond.instanceMethod ({ cls := "BinaryTreeAddressableHeap", name := "<init>", desc := "(Ljava/util/Comparator;)V" } : Jvm.MethodName)) ∈ lw_all := lw_g (lw_at lw_m1 40 rfl) rfl
theorem q53 : (Jvm.Cond.code ({ cls := "BinaryTreeAddressableHeap", name := "<init>", desc := "(Ljava/util/Comparator;)V" } : Jvm.MethodName) prog_3_method_2_code (2 : Nat) (Option.none : Option Jvm.ClassFile.FieldType)) ∈ lw_all := lw_g (lw_at lw_m1 41 rfl) rfl
theorem q54 : (Jvm.Cond.methodLink "BinaryTreeAddressableHeap" (7 : Nat) ({ cls := "java/lang/Object", name := "<init>", desc := "()V" } : Jvm.MethodName)) ∈ lw_all := lw_g (lw_at lw_m1 42 rfl) rfl
theorem q55 : (Jvm.Cond.fieldLink "BinaryTreeAddressableHeap" (12 : Nat) "BinaryTreeAddressableHeap" "comparator" "Ljava/util/Comparator;") ∈ lw_all := lw_g (lw_at lw_m1 43 rfl) rfl
theorem q57 : (Jvm.Cond.fieldLink "BinaryTreeAddressableHeap" (16 : Nat) "BinaryTreeAddressableHeap" "size" "J") ∈ lw_all := lw_g (lw_at lw_m1 45 rfl) rfl
theorem q58 : (Jvm.Cond.fieldLink "BinaryTreeAddressableHeap" (20 : Nat) "BinaryTreeAddressableHeap" "root" "LBinaryTreeAddressableHeap$Node;") ∈ lw_all := lw_g (lw_at lw_m1 46 rfl) rfl
theorem q60 : (Jvm.Cond.laysFinal "BinaryTreeAddressableHeap" "BinaryTreeAddressableHeap" "comparator" "Ljava/util/Comparator;") ∈ lw_all := lw_g (lw_at lw_m1 48 rfl) rfl
theorem q61 : (Jvm.Cond.soleField "BinaryTreeAddressableHeap" "comparator") ∈ lw_all := lw_g (lw_at lw_m1 49 rfl) rfl
theorem q62 : (Jvm.Cond.lays "BinaryTreeAddressableHeap" "BinaryTreeAddressableHeap" "size" "J") ∈ lw_all := lw_g (lw_at lw_m1 50 rfl) rfl
theorem q63 : (Jvm.Cond.soleField "BinaryTreeAddressableHeap" "size") ∈ lw_all := lw_g (lw_at lw_m1 51 rfl) rfl
theorem q64 : (Jvm.Cond.lays "BinaryTreeAddressableHeap" "BinaryTreeAddressableHeap" "root" "LBinaryTreeAddressableHeap$Node;") ∈ lw_all := lw_g (lw_at lw_m1 52 rfl) rfl
theorem q65 : (Jvm.Cond.soleField "BinaryTreeAddressableHeap" "root") ∈ lw_all := lw_g (lw_at lw_m1 53 rfl) rfl
theorem q66 : (Jvm.Cond.superclass "BinaryTreeAddressableHeap" "java/lang/Object") ∈ lw_all := lw_g (lw_at lw_m1 54 rfl) rfl
theorem q115 : (Jvm.Cond.instanceMethod ({ cls := "BinaryTreeAddressableHeap", name := "insert", desc := "(Ljava/lang/Object;Ljava/lang/Object;)LAddressableHeap$Handle;" } : Jvm.MethodName)) ∈ lw_all := lw_g (lw_at lw_m1 103 rfl) rfl
theorem q116 : (Jvm.Cond.selects "BinaryTreeAddressableHeap" ({ cls := "BinaryTreeAddressableHeap", name := "insert", desc := "(Ljava/lang/Object;Ljava/lang/Object;)LAddressableHeap$Handle;" } : Jvm.MethodName) ({ cls := "BinaryTreeAddressableHeap", name := "insert", desc := "(Ljava/lang/Object;Ljava/lang/Object;)LAddressableHeap$Handle;" } : Jvm.MethodName)) ∈ lw_all := lw_g (lw_at lw_m1 104 rfl) rfl
theorem q117 : (Jvm.Cond.code ({ cls := "BinaryTreeAddressableHeap", name := "insert", desc := "(Ljava/lang/Object;Ljava/lang/Object;)LAddressableHeap$Handle;" } : Jvm.MethodName) prog_3_method_3_code (5 : Nat) (Option.some (Jvm.ClassFile.FieldType.object "AddressableHeap$Handle"))) ∈ lw_all := lw_g (lw_at lw_m1 105 rfl) rfl
theorem q118 : (Jvm.Cond.classLink "BinaryTreeAddressableHeap" (24 : Nat) "java/lang/NullPointerException") ∈ lw_all := lw_g (lw_at lw_m1 106 rfl) rfl
theorem q121 : (Jvm.Cond.methodLink "BinaryTreeAddressableHeap" (28 : Nat) ({ cls := "java/lang/NullPointerException", name := "<init>", desc := "(Ljava/lang/String;)V" } : Jvm.MethodName)) ∈ lw_all := lw_g (lw_at lw_m1 109 rfl) rfl
theorem q186 : (Jvm.Cond.classLink "BinaryTreeAddressableHeap" (31 : Nat) "BinaryTreeAddressableHeap$Node") ∈ lw_all := lw_g (lw_at lw_m1 174 rfl) rfl
theorem q188 : (Jvm.Cond.methodLink "BinaryTreeAddressableHeap" (33 : Nat) ({ cls := "BinaryTreeAddressableHeap$Node", name := "<init>", desc := "(LBinaryTreeAddressableHeap;Ljava/lang/Object;Ljava/lang/Object;)V" } : Jvm.MethodName)) ∈ lw_all := lw_g (lw_at lw_m1 176 rfl) rfl
theorem q193 : (Jvm.Cond.fieldLink "BinaryTreeAddressableHeap" (38 : Nat) "BinaryTreeAddressableHeap$Node" "key" "Ljava/lang/Object;") ∈ lw_all := lw_g (lw_at lw_m1 181 rfl) rfl
theorem q196 : (Jvm.Cond.fieldLink "BinaryTreeAddressableHeap" (53 : Nat) "BinaryTreeAddressableHeap$Node" "o_c" "LBinaryTreeAddressableHeap$Node;") ∈ lw_all := lw_g (lw_at lw_m1 184 rfl) rfl
theorem q198 : (Jvm.Cond.fieldLink "BinaryTreeAddressableHeap" (56 : Nat) "BinaryTreeAddressableHeap$Node" "y_s" "LBinaryTreeAddressableHeap$Node;") ∈ lw_all := lw_g (lw_at lw_m1 186 rfl) rfl
theorem q211 : (Jvm.Cond.classLink "BinaryTreeAddressableHeap" (36 : Nat) "java/lang/Comparable") ∈ lw_all := lw_g (lw_at lw_m1 199 rfl) rfl
theorem q212 : (Jvm.Cond.methodLink "BinaryTreeAddressableHeap" (42 : Nat) ({ cls := "BinaryTreeAddressableHeapDesk", name := "order", desc := "(Ljava/lang/Object;Ljava/lang/Object;)I" } : Jvm.MethodName)) ∈ lw_all := lw_g (lw_at lw_m1 200 rfl) rfl
theorem q220 : (Jvm.Cond.interfaceEntry "BinaryTreeAddressableHeap" (48 : Nat)) ∈ lw_tbl := lw_at lw_m1 208 rfl
theorem q221 : (Jvm.Cond.methodLink "BinaryTreeAddressableHeap" (48 : Nat) ({ cls := "java/util/Comparator", name := "compare", desc := "(Ljava/lang/Object;Ljava/lang/Object;)I" } : Jvm.MethodName)) ∈ lw_all := lw_g (lw_at lw_m1 209 rfl) rfl
theorem q236 : (Jvm.Cond.constantLong "BinaryTreeAddressableHeap" (59 : Nat) (2 : Int64)) ∈ lw_all := lw_g (lw_at lw_m1 224 rfl) rfl
theorem q237 : (Jvm.Cond.methodLink "BinaryTreeAddressableHeap" (61 : Nat) ({ cls := "BinaryTreeAddressableHeap", name := "findParentNode", desc := "(J)LBinaryTreeAddressableHeap$Node;" } : Jvm.MethodName)) ∈ lw_all := lw_g (lw_at lw_m1 225 rfl) rfl
theorem q238 : (Jvm.Cond.privateMethod ({ cls := "BinaryTreeAddressableHeap", name := "findParentNode", desc := "(J)LBinaryTreeAddressableHeap$Node;" } : Jvm.MethodName)) ∈ lw_tbl := lw_at lw_m1 226 rfl
theorem q239 : (Jvm.Cond.instanceMethod ({ cls := "BinaryTreeAddressableHeap", name := "findParentNode", desc := "(J)LBinaryTreeAddressableHeap$Node;" } : Jvm.MethodName)) ∈ lw_all := lw_g (lw_at lw_m1 227 rfl) rfl
theorem q240 : (Jvm.Cond.code ({ cls := "BinaryTreeAddressableHeap", name := "findParentNode", desc := "(J)LBinaryTreeAddressableHeap$Node;" } : Jvm.MethodName) prog_3_method_12_code (7 : Nat) (Option.some (Jvm.ClassFile.FieldType.object "BinaryTreeAddressableHeap$Node"))) ∈ lw_all := lw_g (lw_at lw_m1 228 rfl) rfl
theorem q241 : (Jvm.Cond.methodLink "BinaryTreeAddressableHeap" (83 : Nat) ({ cls := "java/util/BitSet", name := "valueOf", desc := "([J)Ljava/util/BitSet;" } : Jvm.MethodName)) ∈ lw_all := lw_g (lw_at lw_m1 229 rfl) rfl
theorem q283 : (Jvm.Cond.methodLink "BinaryTreeAddressableHeap" (89 : Nat) ({ cls := "java/util/BitSet", name := "length", desc := "()I" } : Jvm.MethodName)) ∈ lw_all := lw_g (lw_at lw_m2 31 rfl) rfl
theorem q294 : (Jvm.Cond.methodLink "BinaryTreeAddressableHeap" (93 : Nat) ({ cls := "java/util/BitSet", name := "get", desc := "(I)Z" } : Jvm.MethodName)) ∈ lw_all := lw_g (lw_at lw_m2 42 rfl) rfl
theorem q301 : (Jvm.Cond.methodLink "BinaryTreeAddressableHeap" (65 : Nat) ({ cls := "BinaryTreeAddressableHeap", name := "fixup", desc := "(LBinaryTreeAddressableHeap$Node;)V" } : Jvm.MethodName)) ∈ lw_all := lw_g (lw_at lw_m2 49 rfl) rfl
theorem q302 : (Jvm.Cond.privateMethod ({ cls := "BinaryTreeAddressableHeap", name := "fixup", desc := "(LBinaryTreeAddressableHeap$Node;)V" } : Jvm.MethodName)) ∈ lw_tbl := lw_at lw_m2 50 rfl
theorem q303 : (Jvm.Cond.instanceMethod ({ cls := "BinaryTreeAddressableHeap", name := "fixup", desc := "(LBinaryTreeAddressableHeap$Node;)V" } : Jvm.MethodName)) ∈ lw_all := lw_g (lw_at lw_m2 51 rfl) rfl
theorem q304 : (Jvm.Cond.code ({ cls := "BinaryTreeAddressableHeap", name := "fixup", desc := "(LBinaryTreeAddressableHeap$Node;)V" } : Jvm.MethodName) prog_3_method_9_code (4 : Nat) (Option.none : Option Jvm.ClassFile.FieldType)) ∈ lw_all := lw_g (lw_at lw_m2 52 rfl) rfl
theorem q305 : (Jvm.Cond.methodLink "BinaryTreeAddressableHeap" (75 : Nat) ({ cls := "BinaryTreeAddressableHeap", name := "getParent", desc := "(LBinaryTreeAddressableHeap$Node;)LBinaryTreeAddressableHeap$Node;" } : Jvm.MethodName)) ∈ lw_all := lw_g (lw_at lw_m2 53 rfl) rfl
theorem q306 : (Jvm.Cond.privateMethod ({ cls := "BinaryTreeAddressableHeap", name := "getParent", desc := "(LBinaryTreeAddressableHeap$Node;)LBinaryTreeAddressableHeap$Node;" } : Jvm.MethodName)) ∈ lw_tbl := lw_at lw_m2 54 rfl
theorem q307 : (Jvm.Cond.instanceMethod ({ cls := "BinaryTreeAddressableHeap", name := "getParent", desc := "(LBinaryTreeAddressableHeap$Node;)LBinaryTreeAddressableHeap$Node;" } : Jvm.MethodName)) ∈ lw_all := lw_g (lw_at lw_m2 55 rfl) rfl
theorem q308 : (Jvm.Cond.code ({ cls := "BinaryTreeAddressableHeap", name := "getParent", desc := "(LBinaryTreeAddressableHeap$Node;)LBinaryTreeAddressableHeap$Node;" } : Jvm.MethodName) prog_3_method_11_code (4 : Nat) (Option.some (Jvm.ClassFile.FieldType.object "BinaryTreeAddressableHeap$Node"))) ∈ lw_all := lw_g (lw_at lw_m2 56 rfl) rfl
theorem q309 : (Jvm.Cond.methodLink "BinaryTreeAddressableHeap" (79 : Nat) ({ cls := "BinaryTreeAddressableHeap", name := "swap", desc := "(LBinaryTreeAddressableHeap$Node;LBinaryTreeAddressableHeap$Node;LBinaryTreeAddressableHeap$Node;)V" } : Jvm.MethodName)) ∈ lw_all := lw_g (lw_at lw_m2 57 rfl) rfl
theorem q310 : (Jvm.Cond.privateMethod ({ cls := "BinaryTreeAddressableHeap", name := "swap", desc := "(LBinaryTreeAddressableHeap$Node;LBinaryTreeAddressableHeap$Node;LBinaryTreeAddressableHeap$Node;)V" } : Jvm.MethodName)) ∈ lw_tbl := lw_at lw_m2 58 rfl
theorem q311 : (Jvm.Cond.instanceMethod ({ cls := "BinaryTreeAddressableHeap", name := "swap", desc := "(LBinaryTreeAddressableHeap$Node;LBinaryTreeAddressableHeap$Node;LBinaryTreeAddressableHeap$Node;)V" } : Jvm.MethodName)) ∈ lw_all := lw_g (lw_at lw_m2 59 rfl) rfl
theorem q312 : (Jvm.Cond.code ({ cls := "BinaryTreeAddressableHeap", name := "swap", desc := "(LBinaryTreeAddressableHeap$Node;LBinaryTreeAddressableHeap$Node;LBinaryTreeAddressableHeap$Node;)V" } : Jvm.MethodName) prog_3_method_14_code (6 : Nat) (Option.none : Option Jvm.ClassFile.FieldType)) ∈ lw_all := lw_g (lw_at lw_m2 60 rfl) rfl
theorem q313 : (Jvm.Cond.methodLink "BinaryTreeAddressableHeap" (97 : Nat) ({ cls := "BinaryTreeAddressableHeap", name := "swap", desc := "(LBinaryTreeAddressableHeap$Node;LBinaryTreeAddressableHeap$Node;)V" } : Jvm.MethodName)) ∈ lw_all := lw_g (lw_at lw_m2 61 rfl) rfl
theorem q314 : (Jvm.Cond.privateMethod ({ cls := "BinaryTreeAddressableHeap", name := "swap", desc := "(LBinaryTreeAddressableHeap$Node;LBinaryTreeAddressableHeap$Node;)V" } : Jvm.MethodName)) ∈ lw_tbl := lw_at lw_m2 62 rfl
theorem q315 : (Jvm.Cond.instanceMethod ({ cls := "BinaryTreeAddressableHeap", name := "swap", desc := "(LBinaryTreeAddressableHeap$Node;LBinaryTreeAddressableHeap$Node;)V" } : Jvm.MethodName)) ∈ lw_all := lw_g (lw_at lw_m2 63 rfl) rfl
theorem q316 : (Jvm.Cond.code ({ cls := "BinaryTreeAddressableHeap", name := "swap", desc := "(LBinaryTreeAddressableHeap$Node;LBinaryTreeAddressableHeap$Node;)V" } : Jvm.MethodName) prog_3_method_13_code (4 : Nat) (Option.none : Option Jvm.ClassFile.FieldType)) ∈ lw_all := lw_g (lw_at lw_m2 64 rfl) rfl
theorem q322 : (Jvm.Cond.instanceMethod ({ cls := "BinaryTreeAddressableHeap", name := "isEmpty", desc := "()Z" } : Jvm.MethodName)) ∈ lw_all := lw_g (lw_at lw_m2 70 rfl) rfl
theorem q323 : (Jvm.Cond.selects "BinaryTreeAddressableHeap" ({ cls := "BinaryTreeAddressableHeap", name := "isEmpty", desc := "()Z" } : Jvm.MethodName) ({ cls := "BinaryTreeAddressableHeap", name := "isEmpty", desc := "()Z" } : Jvm.MethodName)) ∈ lw_all := lw_g (lw_at lw_m2 71 rfl) rfl
theorem q324 : (Jvm.Cond.code ({ cls := "BinaryTreeAddressableHeap", name := "isEmpty", desc := "()Z" } : Jvm.MethodName) prog_3_method_6_code (1 : Nat) (Option.some Jvm.ClassFile.FieldType.boolean)) ∈ lw_all := lw_g (lw_at lw_m2 72 rfl) rfl
theorem q326 : (Jvm.Cond.instanceMethod ({ cls := "BinaryTreeAddressableHeap", name := "findMin", desc := "()LAddressableHeap$Handle;" } : Jvm.MethodName)) ∈ lw_all := lw_g (lw_at lw_m2 74 rfl) rfl
theorem q327 : (Jvm.Cond.selects "BinaryTreeAddressableHeap" ({ cls := "BinaryTreeAddressableHeap", name := "findMin", desc := "()LAddressableHeap$Handle;" } : Jvm.MethodName) ({ cls := "BinaryTreeAddressableHeap", name := "findMin", desc := "()LAddressableHeap$Handle;" } : Jvm.MethodName)) ∈ lw_all := lw_g (lw_at lw_m2 75 rfl) rfl
theorem q328 : (Jvm.Cond.code ({ cls := "BinaryTreeAddressableHeap", name := "findMin", desc := "()LAddressableHeap$Handle;" } : Jvm.MethodName) prog_3_method_4_code (1 : Nat) (Option.some (Jvm.ClassFile.FieldType.object "AddressableHeap$Handle"))) ∈ lw_all := lw_g (lw_at lw_m2 76 rfl) rfl
theorem q329 : (Jvm.Cond.classLink "BinaryTreeAddressableHeap" (69 : Nat) "java/util/NoSuchElementException") ∈ lw_all := lw_g (lw_at lw_m2 77 rfl) rfl
theorem q353 : (Jvm.Cond.methodLink "BinaryTreeAddressableHeap" (71 : Nat) ({ cls := "java/util/NoSuchElementException", name := "<init>", desc := "()V" } : Jvm.MethodName)) ∈ lw_all := lw_g (lw_at lw_m2 101 rfl) rfl
theorem q393 : (Jvm.Cond.instanceMethod ({ cls := "BinaryTreeAddressableHeap", name := "deleteMin", desc := "()LAddressableHeap$Handle;" } : Jvm.MethodName)) ∈ lw_all := lw_g (lw_at lw_m2 141 rfl) rfl
theorem q394 : (Jvm.Cond.selects "BinaryTreeAddressableHeap" ({ cls := "BinaryTreeAddressableHeap", name := "deleteMin", desc := "()LAddressableHeap$Handle;" } : Jvm.MethodName) ({ cls := "BinaryTreeAddressableHeap", name := "deleteMin", desc := "()LAddressableHeap$Handle;" } : Jvm.MethodName)) ∈ lw_all := lw_g (lw_at lw_m2 142 rfl) rfl
theorem q395 : (Jvm.Cond.code ({ cls := "BinaryTreeAddressableHeap", name := "deleteMin", desc := "()LAddressableHeap$Handle;" } : Jvm.MethodName) prog_3_method_5_code (5 : Nat) (Option.some (Jvm.ClassFile.FieldType.object "AddressableHeap$Handle"))) ∈ lw_all := lw_g (lw_at lw_m2 143 rfl) rfl
theorem q396 : (Jvm.Cond.methodLink "BinaryTreeAddressableHeap" (72 : Nat) ({ cls := "BinaryTreeAddressableHeap", name := "fixdown", desc := "(LBinaryTreeAddressableHeap$Node;)V" } : Jvm.MethodName)) ∈ lw_all := lw_g (lw_at lw_m2 144 rfl) rfl
theorem q397 : (Jvm.Cond.privateMethod ({ cls := "BinaryTreeAddressableHeap", name := "fixdown", desc := "(LBinaryTreeAddressableHeap$Node;)V" } : Jvm.MethodName)) ∈ lw_tbl := lw_at lw_m2 145 rfl
theorem q398 : (Jvm.Cond.instanceMethod ({ cls := "BinaryTreeAddressableHeap", name := "fixdown", desc := "(LBinaryTreeAddressableHeap$Node;)V" } : Jvm.MethodName)) ∈ lw_all := lw_g (lw_at lw_m2 146 rfl) rfl
theorem q399 : (Jvm.Cond.code ({ cls := "BinaryTreeAddressableHeap", name := "fixdown", desc := "(LBinaryTreeAddressableHeap$Node;)V" } : Jvm.MethodName) prog_3_method_10_code (4 : Nat) (Option.none : Option Jvm.ClassFile.FieldType)) ∈ lw_all := lw_g (lw_at lw_m2 147 rfl) rfl
theorem q478 : (Jvm.Cond.instanceMethod ({ cls := "BinaryTreeAddressableHeap", name := "size", desc := "()J" } : Jvm.MethodName)) ∈ lw_all := lw_g (lw_at lw_m2 226 rfl) rfl
theorem q479 : (Jvm.Cond.selects "BinaryTreeAddressableHeap" ({ cls := "BinaryTreeAddressableHeap", name := "size", desc := "()J" } : Jvm.MethodName) ({ cls := "BinaryTreeAddressableHeap", name := "size", desc := "()J" } : Jvm.MethodName)) ∈ lw_all := lw_g (lw_at lw_m2 227 rfl) rfl
theorem q480 : (Jvm.Cond.code ({ cls := "BinaryTreeAddressableHeap", name := "size", desc := "()J" } : Jvm.MethodName) prog_3_method_7_code (1 : Nat) (Option.some Jvm.ClassFile.FieldType.long)) ∈ lw_all := lw_g (lw_at lw_m2 228 rfl) rfl
theorem q486 : (Jvm.Cond.instanceMethod ({ cls := "BinaryTreeAddressableHeap", name := "clear", desc := "()V" } : Jvm.MethodName)) ∈ lw_all := lw_g (lw_at lw_m2 234 rfl) rfl
theorem q487 : (Jvm.Cond.selects "BinaryTreeAddressableHeap" ({ cls := "BinaryTreeAddressableHeap", name := "clear", desc := "()V" } : Jvm.MethodName) ({ cls := "BinaryTreeAddressableHeap", name := "clear", desc := "()V" } : Jvm.MethodName)) ∈ lw_all := lw_g (lw_at lw_m2 235 rfl) rfl
theorem q488 : (Jvm.Cond.code ({ cls := "BinaryTreeAddressableHeap", name := "clear", desc := "()V" } : Jvm.MethodName) prog_3_method_8_code (1 : Nat) (Option.none : Option Jvm.ClassFile.FieldType)) ∈ lw_all := lw_g (lw_at lw_m2 236 rfl) rfl
theorem q564 : (Jvm.Cond.castable "BinaryTreeAddressableHeap" "java/lang/Object") ∈ lw_tbl := lw_at lw_m3 72 rfl
theorem in_X1 : ∀ w ∈ wsX10, w ∈ lw_all := lw_in wsX10 [60, 62, 64] (by decide +kernel) (by decide +kernel)
end
section
/-! BinaryTreeAddressableHeapDeskModel -/
set_option maxRecDepth 100000
def RX2 : String := "BinaryTreeAddressableHeapDeskModel"
def TX2 : u_T := fun k => match k with
  | 0 => ("BinaryTreeAddressableHeapDeskModel", "keys", "[I", true)
  | 1 => ("BinaryTreeAddressableHeapDeskModel", "values", "[I", true)
  | 2 => ("BinaryTreeAddressableHeapDeskModel", "home", "[I", true)
  | _ => ("BinaryTreeAddressableHeapDeskModel", "next", "I", false)
def tyX2 : Nat → FieldType := fun k => match k with
  | 0 => .array .int
  | 1 => .array .int
  | 2 => .array .int
  | _ => .int
abbrev wsX20 : List Cond := u_ws RX2 TX2 4
theorem nmX2 : ∀ a, a < 4 → ∀ b, b < 4 → a ≠ b → (TX2 a).2.1 ≠ (TX2 b).2.1 := by decide +kernel
theorem tyX2_ok : ∀ k, k < 4 → parseFieldDescriptor (TX2 k).2.2.1 = some (tyX2 k) := by decide +kernel
abbrev cX2_init : ByteArray := prog_8_method_1_code
def yX2_init : MethodName := ⟨RX2, "<init>", "()V"⟩
def dkwX2_init_1 : List UInt8 := [188, 10, 181, 0, 16, 177]
abbrev dktX2_init_1 : List UInt8 := dkwX2_init_1 ++ []
def dkwX2_init_0 : List UInt8 := [42, 183, 0, 1, 42, 16, 64, 188, 10, 181, 0, 7, 42, 16, 64, 188, 10, 181, 0, 13, 42, 16, 64]
abbrev dktX2_init_0 : List UInt8 := dkwX2_init_0 ++ dktX2_init_1
theorem dksX2_init_0 : cX2_init.data.toList.drop 0 = dktX2_init_0 := by decide +kernel
theorem dksX2_init_1 : cX2_init.data.toList.drop 23 = dktX2_init_1 := dk_seg dksX2_init_0 23 rfl rfl
theorem dX2_init_0 : decode cX2_init 0 = .ok (.aload_n 0, 1) := dk_42 (dk_at dksX2_init_0 0 rfl rfl)
theorem dX2_init_1 : decode cX2_init 1 = .ok (.invokespecial 1, 3) := dk_183 0 1 (dk_at dksX2_init_0 1 rfl rfl)
theorem dX2_init_4 : decode cX2_init 4 = .ok (.aload_n 0, 1) := dk_42 (dk_at dksX2_init_0 4 rfl rfl)
theorem dX2_init_5 : decode cX2_init 5 = .ok (.bipush 64, 2) := dk_16 64 (dk_at dksX2_init_0 5 rfl rfl)
theorem dX2_init_7 : decode cX2_init 7 = .ok (.newarray .int, 2) := dk_188_10 (dk_at dksX2_init_0 7 rfl rfl)
theorem dX2_init_9 : decode cX2_init 9 = .ok (.putfield 7, 3) := dk_181 0 7 (dk_at dksX2_init_0 9 rfl rfl)
theorem dX2_init_12 : decode cX2_init 12 = .ok (.aload_n 0, 1) := dk_42 (dk_at dksX2_init_0 12 rfl rfl)
theorem dX2_init_13 : decode cX2_init 13 = .ok (.bipush 64, 2) := dk_16 64 (dk_at dksX2_init_0 13 rfl rfl)
theorem dX2_init_15 : decode cX2_init 15 = .ok (.newarray .int, 2) := dk_188_10 (dk_at dksX2_init_0 15 rfl rfl)
theorem dX2_init_17 : decode cX2_init 17 = .ok (.putfield 13, 3) := dk_181 0 13 (dk_at dksX2_init_0 17 rfl rfl)
theorem dX2_init_20 : decode cX2_init 20 = .ok (.aload_n 0, 1) := dk_42 (dk_at dksX2_init_0 20 rfl rfl)
theorem dX2_init_21 : decode cX2_init 21 = .ok (.bipush 64, 2) := dk_16 64 (dk_at dksX2_init_0 21 rfl rfl)
theorem dX2_init_23 : decode cX2_init 23 = .ok (.newarray .int, 2) := dk_188_10 (dk_at dksX2_init_1 0 rfl rfl)
theorem dX2_init_25 : decode cX2_init 25 = .ok (.putfield 16, 3) := dk_181 0 16 (dk_at dksX2_init_1 2 rfl rfl)
theorem dX2_init_28 : decode cX2_init 28 = .ok (.return_, 1) := dk_177 (dk_at dksX2_init_1 5 rfl rfl)
abbrev cX2_put : ByteArray := prog_8_method_3_code
def yX2_put : MethodName := ⟨RX2, "put", "(III)I"⟩
def dkwX2_put_3 : List UInt8 := [100, 172]
abbrev dktX2_put_3 : List UInt8 := dkwX2_put_3 ++ []
def dkwX2_put_2 : List UInt8 := [180, 0, 19, 4, 27, 6, 126, 96, 79, 42, 42, 180, 0, 19, 4, 96, 181, 0, 19, 42, 180, 0, 19, 4]
abbrev dktX2_put_2 : List UInt8 := dkwX2_put_2 ++ dktX2_put_3
def dkwX2_put_1 : List UInt8 := [126, 104, 42, 180, 0, 19, 96, 79, 42, 180, 0, 13, 42, 180, 0, 19, 29, 79, 42, 180, 0, 16, 42]
abbrev dktX2_put_1 : List UInt8 := dkwX2_put_1 ++ dktX2_put_2
def dkwX2_put_0 : List UInt8 := [42, 180, 0, 19, 16, 64, 160, 0, 5, 2, 172, 42, 180, 0, 7, 42, 180, 0, 19, 16, 64, 28, 18, 23]
abbrev dktX2_put_0 : List UInt8 := dkwX2_put_0 ++ dktX2_put_1
theorem dksX2_put_0 : cX2_put.data.toList.drop 0 = dktX2_put_0 := by decide +kernel
theorem dksX2_put_1 : cX2_put.data.toList.drop 24 = dktX2_put_1 := dk_seg dksX2_put_0 24 rfl rfl
theorem dksX2_put_2 : cX2_put.data.toList.drop 47 = dktX2_put_2 := dk_seg dksX2_put_1 23 rfl rfl
theorem dksX2_put_3 : cX2_put.data.toList.drop 71 = dktX2_put_3 := dk_seg dksX2_put_2 24 rfl rfl
theorem dX2_put_0 : decode cX2_put 0 = .ok (.aload_n 0, 1) := dk_42 (dk_at dksX2_put_0 0 rfl rfl)
theorem dX2_put_1 : decode cX2_put 1 = .ok (.getfield 19, 3) := dk_180 0 19 (dk_at dksX2_put_0 1 rfl rfl)
theorem dX2_put_4 : decode cX2_put 4 = .ok (.bipush 64, 2) := dk_16 64 (dk_at dksX2_put_0 4 rfl rfl)
theorem dX2_put_6 : decode cX2_put 6 = .ok (.if_icmp .ne 5, 3) := dk_160 0 5 (dk_at dksX2_put_0 6 rfl rfl)
theorem dX2_put_9 : decode cX2_put 9 = .ok (.iconst (-1), 1) := dk_2 (dk_at dksX2_put_0 9 rfl rfl)
theorem dX2_put_10 : decode cX2_put 10 = .ok (.ireturn, 1) := dk_172 (dk_at dksX2_put_0 10 rfl rfl)
theorem dX2_put_11 : decode cX2_put 11 = .ok (.aload_n 0, 1) := dk_42 (dk_at dksX2_put_0 11 rfl rfl)
theorem dX2_put_12 : decode cX2_put 12 = .ok (.getfield 7, 3) := dk_180 0 7 (dk_at dksX2_put_0 12 rfl rfl)
theorem dX2_put_15 : decode cX2_put 15 = .ok (.aload_n 0, 1) := dk_42 (dk_at dksX2_put_0 15 rfl rfl)
theorem dX2_put_16 : decode cX2_put 16 = .ok (.getfield 19, 3) := dk_180 0 19 (dk_at dksX2_put_0 16 rfl rfl)
theorem dX2_put_19 : decode cX2_put 19 = .ok (.bipush 64, 2) := dk_16 64 (dk_at dksX2_put_0 19 rfl rfl)
theorem dX2_put_21 : decode cX2_put 21 = .ok (.iload_n 2, 1) := dk_28 (dk_at dksX2_put_0 21 rfl rfl)
theorem dX2_put_22 : decode cX2_put 22 = .ok (.ldc 23, 2) := dk_18 23 (dk_at dksX2_put_0 22 rfl rfl)
theorem dX2_put_24 : decode cX2_put 24 = .ok (.iand, 1) := dk_126 (dk_at dksX2_put_1 0 rfl rfl)
theorem dX2_put_25 : decode cX2_put 25 = .ok (.imul, 1) := dk_104 (dk_at dksX2_put_1 1 rfl rfl)
theorem dX2_put_26 : decode cX2_put 26 = .ok (.aload_n 0, 1) := dk_42 (dk_at dksX2_put_1 2 rfl rfl)
theorem dX2_put_27 : decode cX2_put 27 = .ok (.getfield 19, 3) := dk_180 0 19 (dk_at dksX2_put_1 3 rfl rfl)
theorem dX2_put_30 : decode cX2_put 30 = .ok (.iadd, 1) := dk_96 (dk_at dksX2_put_1 6 rfl rfl)
theorem dX2_put_31 : decode cX2_put 31 = .ok (.iastore, 1) := dk_79 (dk_at dksX2_put_1 7 rfl rfl)
theorem dX2_put_32 : decode cX2_put 32 = .ok (.aload_n 0, 1) := dk_42 (dk_at dksX2_put_1 8 rfl rfl)
theorem dX2_put_33 : decode cX2_put 33 = .ok (.getfield 13, 3) := dk_180 0 13 (dk_at dksX2_put_1 9 rfl rfl)
theorem dX2_put_36 : decode cX2_put 36 = .ok (.aload_n 0, 1) := dk_42 (dk_at dksX2_put_1 12 rfl rfl)
theorem dX2_put_37 : decode cX2_put 37 = .ok (.getfield 19, 3) := dk_180 0 19 (dk_at dksX2_put_1 13 rfl rfl)
theorem dX2_put_40 : decode cX2_put 40 = .ok (.iload_n 3, 1) := dk_29 (dk_at dksX2_put_1 16 rfl rfl)
theorem dX2_put_41 : decode cX2_put 41 = .ok (.iastore, 1) := dk_79 (dk_at dksX2_put_1 17 rfl rfl)
theorem dX2_put_42 : decode cX2_put 42 = .ok (.aload_n 0, 1) := dk_42 (dk_at dksX2_put_1 18 rfl rfl)
theorem dX2_put_43 : decode cX2_put 43 = .ok (.getfield 16, 3) := dk_180 0 16 (dk_at dksX2_put_1 19 rfl rfl)
theorem dX2_put_46 : decode cX2_put 46 = .ok (.aload_n 0, 1) := dk_42 (dk_at dksX2_put_1 22 rfl rfl)
theorem dX2_put_47 : decode cX2_put 47 = .ok (.getfield 19, 3) := dk_180 0 19 (dk_at dksX2_put_2 0 rfl rfl)
theorem dX2_put_50 : decode cX2_put 50 = .ok (.iconst 1, 1) := dk_4 (dk_at dksX2_put_2 3 rfl rfl)
theorem dX2_put_51 : decode cX2_put 51 = .ok (.iload_n 1, 1) := dk_27 (dk_at dksX2_put_2 4 rfl rfl)
theorem dX2_put_52 : decode cX2_put 52 = .ok (.iconst 3, 1) := dk_6 (dk_at dksX2_put_2 5 rfl rfl)
theorem dX2_put_53 : decode cX2_put 53 = .ok (.iand, 1) := dk_126 (dk_at dksX2_put_2 6 rfl rfl)
theorem dX2_put_54 : decode cX2_put 54 = .ok (.iadd, 1) := dk_96 (dk_at dksX2_put_2 7 rfl rfl)
theorem dX2_put_55 : decode cX2_put 55 = .ok (.iastore, 1) := dk_79 (dk_at dksX2_put_2 8 rfl rfl)
theorem dX2_put_56 : decode cX2_put 56 = .ok (.aload_n 0, 1) := dk_42 (dk_at dksX2_put_2 9 rfl rfl)
theorem dX2_put_57 : decode cX2_put 57 = .ok (.aload_n 0, 1) := dk_42 (dk_at dksX2_put_2 10 rfl rfl)
theorem dX2_put_58 : decode cX2_put 58 = .ok (.getfield 19, 3) := dk_180 0 19 (dk_at dksX2_put_2 11 rfl rfl)
theorem dX2_put_61 : decode cX2_put 61 = .ok (.iconst 1, 1) := dk_4 (dk_at dksX2_put_2 14 rfl rfl)
theorem dX2_put_62 : decode cX2_put 62 = .ok (.iadd, 1) := dk_96 (dk_at dksX2_put_2 15 rfl rfl)
theorem dX2_put_63 : decode cX2_put 63 = .ok (.putfield 19, 3) := dk_181 0 19 (dk_at dksX2_put_2 16 rfl rfl)
theorem dX2_put_66 : decode cX2_put 66 = .ok (.aload_n 0, 1) := dk_42 (dk_at dksX2_put_2 19 rfl rfl)
theorem dX2_put_67 : decode cX2_put 67 = .ok (.getfield 19, 3) := dk_180 0 19 (dk_at dksX2_put_2 20 rfl rfl)
theorem dX2_put_70 : decode cX2_put 70 = .ok (.iconst 1, 1) := dk_4 (dk_at dksX2_put_2 23 rfl rfl)
theorem dX2_put_71 : decode cX2_put 71 = .ok (.isub, 1) := dk_100 (dk_at dksX2_put_3 0 rfl rfl)
theorem dX2_put_72 : decode cX2_put 72 = .ok (.ireturn, 1) := dk_172 (dk_at dksX2_put_3 1 rfl rfl)
abbrev cX2_least : ByteArray := prog_8_method_4_code
def yX2_least : MethodName := ⟨RX2, "least", "(I)I"⟩
def dkwX2_least_0 : List UInt8 := [42, 27, 182, 0, 24, 61, 28, 156, 0, 7, 2, 167, 0, 9, 42, 180, 0, 7, 28, 46, 172]
abbrev dktX2_least_0 : List UInt8 := dkwX2_least_0 ++ []
theorem dksX2_least_0 : cX2_least.data.toList.drop 0 = dktX2_least_0 := by decide +kernel
theorem dX2_least_0 : decode cX2_least 0 = .ok (.aload_n 0, 1) := dk_42 (dk_at dksX2_least_0 0 rfl rfl)
theorem dX2_least_1 : decode cX2_least 1 = .ok (.iload_n 1, 1) := dk_27 (dk_at dksX2_least_0 1 rfl rfl)
theorem dX2_least_2 : decode cX2_least 2 = .ok (.invokevirtual 24, 3) := dk_182 0 24 (dk_at dksX2_least_0 2 rfl rfl)
theorem dX2_least_5 : decode cX2_least 5 = .ok (.istore_n 2, 1) := dk_61 (dk_at dksX2_least_0 5 rfl rfl)
theorem dX2_least_6 : decode cX2_least 6 = .ok (.iload_n 2, 1) := dk_28 (dk_at dksX2_least_0 6 rfl rfl)
theorem dX2_least_7 : decode cX2_least 7 = .ok (.ifCond .ge 7, 3) := dk_156 0 7 (dk_at dksX2_least_0 7 rfl rfl)
theorem dX2_least_10 : decode cX2_least 10 = .ok (.iconst (-1), 1) := dk_2 (dk_at dksX2_least_0 10 rfl rfl)
theorem dX2_least_11 : decode cX2_least 11 = .ok (.goto 9, 3) := dk_167 0 9 (dk_at dksX2_least_0 11 rfl rfl)
theorem dX2_least_14 : decode cX2_least 14 = .ok (.aload_n 0, 1) := dk_42 (dk_at dksX2_least_0 14 rfl rfl)
theorem dX2_least_15 : decode cX2_least 15 = .ok (.getfield 7, 3) := dk_180 0 7 (dk_at dksX2_least_0 15 rfl rfl)
theorem dX2_least_18 : decode cX2_least 18 = .ok (.iload_n 2, 1) := dk_28 (dk_at dksX2_least_0 18 rfl rfl)
theorem dX2_least_19 : decode cX2_least 19 = .ok (.iaload, 1) := dk_46 (dk_at dksX2_least_0 19 rfl rfl)
theorem dX2_least_20 : decode cX2_least 20 = .ok (.ireturn, 1) := dk_172 (dk_at dksX2_least_0 20 rfl rfl)
abbrev cX2_first : ByteArray := prog_8_method_2_code
def yX2_first : MethodName := ⟨RX2, "first", "(I)I"⟩
def dkwX2_first_3 : List UInt8 := [61, 132, 3, 1, 167, 255, 185, 28, 172]
abbrev dktX2_first_3 : List UInt8 := dkwX2_first_3 ++ []
def dkwX2_first_2 : List UInt8 := [28, 46, 162, 0, 23, 167, 0, 18, 42, 180, 0, 7, 29, 46, 42, 180, 0, 7, 28, 46, 164, 0, 5, 29]
abbrev dktX2_first_2 : List UInt8 := dkwX2_first_2 ++ dktX2_first_3
def dkwX2_first_1 : List UInt8 := [160, 0, 49, 28, 155, 0, 43, 27, 6, 126, 5, 162, 0, 21, 42, 180, 0, 7, 29, 46, 42, 180, 0, 7]
abbrev dktX2_first_1 : List UInt8 := dkwX2_first_1 ++ dktX2_first_2
def dkwX2_first_0 : List UInt8 := [2, 61, 3, 62, 29, 42, 180, 0, 19, 162, 0, 69, 42, 180, 0, 16, 29, 46, 4, 27, 6, 126, 96]
abbrev dktX2_first_0 : List UInt8 := dkwX2_first_0 ++ dktX2_first_1
theorem dksX2_first_0 : cX2_first.data.toList.drop 0 = dktX2_first_0 := by decide +kernel
theorem dksX2_first_1 : cX2_first.data.toList.drop 23 = dktX2_first_1 := dk_seg dksX2_first_0 23 rfl rfl
theorem dksX2_first_2 : cX2_first.data.toList.drop 47 = dktX2_first_2 := dk_seg dksX2_first_1 24 rfl rfl
theorem dksX2_first_3 : cX2_first.data.toList.drop 71 = dktX2_first_3 := dk_seg dksX2_first_2 24 rfl rfl
theorem dX2_first_0 : decode cX2_first 0 = .ok (.iconst (-1), 1) := dk_2 (dk_at dksX2_first_0 0 rfl rfl)
theorem dX2_first_1 : decode cX2_first 1 = .ok (.istore_n 2, 1) := dk_61 (dk_at dksX2_first_0 1 rfl rfl)
theorem dX2_first_2 : decode cX2_first 2 = .ok (.iconst 0, 1) := dk_3 (dk_at dksX2_first_0 2 rfl rfl)
theorem dX2_first_3 : decode cX2_first 3 = .ok (.istore_n 3, 1) := dk_62 (dk_at dksX2_first_0 3 rfl rfl)
theorem dX2_first_4 : decode cX2_first 4 = .ok (.iload_n 3, 1) := dk_29 (dk_at dksX2_first_0 4 rfl rfl)
theorem dX2_first_5 : decode cX2_first 5 = .ok (.aload_n 0, 1) := dk_42 (dk_at dksX2_first_0 5 rfl rfl)
theorem dX2_first_6 : decode cX2_first 6 = .ok (.getfield 19, 3) := dk_180 0 19 (dk_at dksX2_first_0 6 rfl rfl)
theorem dX2_first_9 : decode cX2_first 9 = .ok (.if_icmp .ge 69, 3) := dk_162 0 69 (dk_at dksX2_first_0 9 rfl rfl)
theorem dX2_first_12 : decode cX2_first 12 = .ok (.aload_n 0, 1) := dk_42 (dk_at dksX2_first_0 12 rfl rfl)
theorem dX2_first_13 : decode cX2_first 13 = .ok (.getfield 16, 3) := dk_180 0 16 (dk_at dksX2_first_0 13 rfl rfl)
theorem dX2_first_16 : decode cX2_first 16 = .ok (.iload_n 3, 1) := dk_29 (dk_at dksX2_first_0 16 rfl rfl)
theorem dX2_first_17 : decode cX2_first 17 = .ok (.iaload, 1) := dk_46 (dk_at dksX2_first_0 17 rfl rfl)
theorem dX2_first_18 : decode cX2_first 18 = .ok (.iconst 1, 1) := dk_4 (dk_at dksX2_first_0 18 rfl rfl)
theorem dX2_first_19 : decode cX2_first 19 = .ok (.iload_n 1, 1) := dk_27 (dk_at dksX2_first_0 19 rfl rfl)
theorem dX2_first_20 : decode cX2_first 20 = .ok (.iconst 3, 1) := dk_6 (dk_at dksX2_first_0 20 rfl rfl)
theorem dX2_first_21 : decode cX2_first 21 = .ok (.iand, 1) := dk_126 (dk_at dksX2_first_0 21 rfl rfl)
theorem dX2_first_22 : decode cX2_first 22 = .ok (.iadd, 1) := dk_96 (dk_at dksX2_first_0 22 rfl rfl)
theorem dX2_first_23 : decode cX2_first 23 = .ok (.if_icmp .ne 49, 3) := dk_160 0 49 (dk_at dksX2_first_1 0 rfl rfl)
theorem dX2_first_26 : decode cX2_first 26 = .ok (.iload_n 2, 1) := dk_28 (dk_at dksX2_first_1 3 rfl rfl)
theorem dX2_first_27 : decode cX2_first 27 = .ok (.ifCond .lt 43, 3) := dk_155 0 43 (dk_at dksX2_first_1 4 rfl rfl)
theorem dX2_first_30 : decode cX2_first 30 = .ok (.iload_n 1, 1) := dk_27 (dk_at dksX2_first_1 7 rfl rfl)
theorem dX2_first_31 : decode cX2_first 31 = .ok (.iconst 3, 1) := dk_6 (dk_at dksX2_first_1 8 rfl rfl)
theorem dX2_first_32 : decode cX2_first 32 = .ok (.iand, 1) := dk_126 (dk_at dksX2_first_1 9 rfl rfl)
theorem dX2_first_33 : decode cX2_first 33 = .ok (.iconst 2, 1) := dk_5 (dk_at dksX2_first_1 10 rfl rfl)
theorem dX2_first_34 : decode cX2_first 34 = .ok (.if_icmp .ge 21, 3) := dk_162 0 21 (dk_at dksX2_first_1 11 rfl rfl)
theorem dX2_first_37 : decode cX2_first 37 = .ok (.aload_n 0, 1) := dk_42 (dk_at dksX2_first_1 14 rfl rfl)
theorem dX2_first_38 : decode cX2_first 38 = .ok (.getfield 7, 3) := dk_180 0 7 (dk_at dksX2_first_1 15 rfl rfl)
theorem dX2_first_41 : decode cX2_first 41 = .ok (.iload_n 3, 1) := dk_29 (dk_at dksX2_first_1 18 rfl rfl)
theorem dX2_first_42 : decode cX2_first 42 = .ok (.iaload, 1) := dk_46 (dk_at dksX2_first_1 19 rfl rfl)
theorem dX2_first_43 : decode cX2_first 43 = .ok (.aload_n 0, 1) := dk_42 (dk_at dksX2_first_1 20 rfl rfl)
theorem dX2_first_44 : decode cX2_first 44 = .ok (.getfield 7, 3) := dk_180 0 7 (dk_at dksX2_first_1 21 rfl rfl)
theorem dX2_first_47 : decode cX2_first 47 = .ok (.iload_n 2, 1) := dk_28 (dk_at dksX2_first_2 0 rfl rfl)
theorem dX2_first_48 : decode cX2_first 48 = .ok (.iaload, 1) := dk_46 (dk_at dksX2_first_2 1 rfl rfl)
theorem dX2_first_49 : decode cX2_first 49 = .ok (.if_icmp .ge 23, 3) := dk_162 0 23 (dk_at dksX2_first_2 2 rfl rfl)
theorem dX2_first_52 : decode cX2_first 52 = .ok (.goto 18, 3) := dk_167 0 18 (dk_at dksX2_first_2 5 rfl rfl)
theorem dX2_first_55 : decode cX2_first 55 = .ok (.aload_n 0, 1) := dk_42 (dk_at dksX2_first_2 8 rfl rfl)
theorem dX2_first_56 : decode cX2_first 56 = .ok (.getfield 7, 3) := dk_180 0 7 (dk_at dksX2_first_2 9 rfl rfl)
theorem dX2_first_59 : decode cX2_first 59 = .ok (.iload_n 3, 1) := dk_29 (dk_at dksX2_first_2 12 rfl rfl)
theorem dX2_first_60 : decode cX2_first 60 = .ok (.iaload, 1) := dk_46 (dk_at dksX2_first_2 13 rfl rfl)
theorem dX2_first_61 : decode cX2_first 61 = .ok (.aload_n 0, 1) := dk_42 (dk_at dksX2_first_2 14 rfl rfl)
theorem dX2_first_62 : decode cX2_first 62 = .ok (.getfield 7, 3) := dk_180 0 7 (dk_at dksX2_first_2 15 rfl rfl)
theorem dX2_first_65 : decode cX2_first 65 = .ok (.iload_n 2, 1) := dk_28 (dk_at dksX2_first_2 18 rfl rfl)
theorem dX2_first_66 : decode cX2_first 66 = .ok (.iaload, 1) := dk_46 (dk_at dksX2_first_2 19 rfl rfl)
theorem dX2_first_67 : decode cX2_first 67 = .ok (.if_icmp .le 5, 3) := dk_164 0 5 (dk_at dksX2_first_2 20 rfl rfl)
theorem dX2_first_70 : decode cX2_first 70 = .ok (.iload_n 3, 1) := dk_29 (dk_at dksX2_first_2 23 rfl rfl)
theorem dX2_first_71 : decode cX2_first 71 = .ok (.istore_n 2, 1) := dk_61 (dk_at dksX2_first_3 0 rfl rfl)
theorem dX2_first_72 : decode cX2_first 72 = .ok (.iinc 3 1, 3) := dk_132 3 1 (dk_at dksX2_first_3 1 rfl rfl)
theorem dX2_first_75 : decode cX2_first 75 = .ok (.goto (-71), 3) := dk_167 255 185 (dk_at dksX2_first_3 4 rfl rfl)
theorem dX2_first_78 : decode cX2_first 78 = .ok (.iload_n 2, 1) := dk_28 (dk_at dksX2_first_3 7 rfl rfl)
theorem dX2_first_79 : decode cX2_first 79 = .ok (.ireturn, 1) := dk_172 (dk_at dksX2_first_3 8 rfl rfl)
abbrev cX2_valueOfLeast : ByteArray := prog_8_method_5_code
def yX2_valueOfLeast : MethodName := ⟨RX2, "valueOfLeast", "(I)I"⟩
def dkwX2_valueOfLeast_0 : List UInt8 := [42, 27, 182, 0, 24, 61, 28, 156, 0, 7, 2, 167, 0, 9, 42, 180, 0, 13, 28, 46, 172]
abbrev dktX2_valueOfLeast_0 : List UInt8 := dkwX2_valueOfLeast_0 ++ []
theorem dksX2_valueOfLeast_0 : cX2_valueOfLeast.data.toList.drop 0 = dktX2_valueOfLeast_0 := by decide +kernel
theorem dX2_valueOfLeast_0 : decode cX2_valueOfLeast 0 = .ok (.aload_n 0, 1) := dk_42 (dk_at dksX2_valueOfLeast_0 0 rfl rfl)
theorem dX2_valueOfLeast_1 : decode cX2_valueOfLeast 1 = .ok (.iload_n 1, 1) := dk_27 (dk_at dksX2_valueOfLeast_0 1 rfl rfl)
theorem dX2_valueOfLeast_2 : decode cX2_valueOfLeast 2 = .ok (.invokevirtual 24, 3) := dk_182 0 24 (dk_at dksX2_valueOfLeast_0 2 rfl rfl)
theorem dX2_valueOfLeast_5 : decode cX2_valueOfLeast 5 = .ok (.istore_n 2, 1) := dk_61 (dk_at dksX2_valueOfLeast_0 5 rfl rfl)
theorem dX2_valueOfLeast_6 : decode cX2_valueOfLeast 6 = .ok (.iload_n 2, 1) := dk_28 (dk_at dksX2_valueOfLeast_0 6 rfl rfl)
theorem dX2_valueOfLeast_7 : decode cX2_valueOfLeast 7 = .ok (.ifCond .ge 7, 3) := dk_156 0 7 (dk_at dksX2_valueOfLeast_0 7 rfl rfl)
theorem dX2_valueOfLeast_10 : decode cX2_valueOfLeast 10 = .ok (.iconst (-1), 1) := dk_2 (dk_at dksX2_valueOfLeast_0 10 rfl rfl)
theorem dX2_valueOfLeast_11 : decode cX2_valueOfLeast 11 = .ok (.goto 9, 3) := dk_167 0 9 (dk_at dksX2_valueOfLeast_0 11 rfl rfl)
theorem dX2_valueOfLeast_14 : decode cX2_valueOfLeast 14 = .ok (.aload_n 0, 1) := dk_42 (dk_at dksX2_valueOfLeast_0 14 rfl rfl)
theorem dX2_valueOfLeast_15 : decode cX2_valueOfLeast 15 = .ok (.getfield 13, 3) := dk_180 0 13 (dk_at dksX2_valueOfLeast_0 15 rfl rfl)
theorem dX2_valueOfLeast_18 : decode cX2_valueOfLeast 18 = .ok (.iload_n 2, 1) := dk_28 (dk_at dksX2_valueOfLeast_0 18 rfl rfl)
theorem dX2_valueOfLeast_19 : decode cX2_valueOfLeast 19 = .ok (.iaload, 1) := dk_46 (dk_at dksX2_valueOfLeast_0 19 rfl rfl)
theorem dX2_valueOfLeast_20 : decode cX2_valueOfLeast 20 = .ok (.ireturn, 1) := dk_172 (dk_at dksX2_valueOfLeast_0 20 rfl rfl)
abbrev cX2_takeLeast : ByteArray := prog_8_method_6_code
def yX2_takeLeast : MethodName := ⟨RX2, "takeLeast", "(I)I"⟩
def dkwX2_takeLeast_1 : List UInt8 := [46, 172]
abbrev dktX2_takeLeast_1 : List UInt8 := dkwX2_takeLeast_1 ++ []
def dkwX2_takeLeast_0 : List UInt8 := [42, 27, 182, 0, 24, 61, 28, 156, 0, 5, 2, 172, 42, 180, 0, 16, 28, 3, 79, 42, 180, 0, 7, 28]
abbrev dktX2_takeLeast_0 : List UInt8 := dkwX2_takeLeast_0 ++ dktX2_takeLeast_1
theorem dksX2_takeLeast_0 : cX2_takeLeast.data.toList.drop 0 = dktX2_takeLeast_0 := by decide +kernel
theorem dksX2_takeLeast_1 : cX2_takeLeast.data.toList.drop 24 = dktX2_takeLeast_1 := dk_seg dksX2_takeLeast_0 24 rfl rfl
theorem dX2_takeLeast_0 : decode cX2_takeLeast 0 = .ok (.aload_n 0, 1) := dk_42 (dk_at dksX2_takeLeast_0 0 rfl rfl)
theorem dX2_takeLeast_1 : decode cX2_takeLeast 1 = .ok (.iload_n 1, 1) := dk_27 (dk_at dksX2_takeLeast_0 1 rfl rfl)
theorem dX2_takeLeast_2 : decode cX2_takeLeast 2 = .ok (.invokevirtual 24, 3) := dk_182 0 24 (dk_at dksX2_takeLeast_0 2 rfl rfl)
theorem dX2_takeLeast_5 : decode cX2_takeLeast 5 = .ok (.istore_n 2, 1) := dk_61 (dk_at dksX2_takeLeast_0 5 rfl rfl)
theorem dX2_takeLeast_6 : decode cX2_takeLeast 6 = .ok (.iload_n 2, 1) := dk_28 (dk_at dksX2_takeLeast_0 6 rfl rfl)
theorem dX2_takeLeast_7 : decode cX2_takeLeast 7 = .ok (.ifCond .ge 5, 3) := dk_156 0 5 (dk_at dksX2_takeLeast_0 7 rfl rfl)
theorem dX2_takeLeast_10 : decode cX2_takeLeast 10 = .ok (.iconst (-1), 1) := dk_2 (dk_at dksX2_takeLeast_0 10 rfl rfl)
theorem dX2_takeLeast_11 : decode cX2_takeLeast 11 = .ok (.ireturn, 1) := dk_172 (dk_at dksX2_takeLeast_0 11 rfl rfl)
theorem dX2_takeLeast_12 : decode cX2_takeLeast 12 = .ok (.aload_n 0, 1) := dk_42 (dk_at dksX2_takeLeast_0 12 rfl rfl)
theorem dX2_takeLeast_13 : decode cX2_takeLeast 13 = .ok (.getfield 16, 3) := dk_180 0 16 (dk_at dksX2_takeLeast_0 13 rfl rfl)
theorem dX2_takeLeast_16 : decode cX2_takeLeast 16 = .ok (.iload_n 2, 1) := dk_28 (dk_at dksX2_takeLeast_0 16 rfl rfl)
theorem dX2_takeLeast_17 : decode cX2_takeLeast 17 = .ok (.iconst 0, 1) := dk_3 (dk_at dksX2_takeLeast_0 17 rfl rfl)
theorem dX2_takeLeast_18 : decode cX2_takeLeast 18 = .ok (.iastore, 1) := dk_79 (dk_at dksX2_takeLeast_0 18 rfl rfl)
theorem dX2_takeLeast_19 : decode cX2_takeLeast 19 = .ok (.aload_n 0, 1) := dk_42 (dk_at dksX2_takeLeast_0 19 rfl rfl)
theorem dX2_takeLeast_20 : decode cX2_takeLeast 20 = .ok (.getfield 7, 3) := dk_180 0 7 (dk_at dksX2_takeLeast_0 20 rfl rfl)
theorem dX2_takeLeast_23 : decode cX2_takeLeast 23 = .ok (.iload_n 2, 1) := dk_28 (dk_at dksX2_takeLeast_0 23 rfl rfl)
theorem dX2_takeLeast_24 : decode cX2_takeLeast 24 = .ok (.iaload, 1) := dk_46 (dk_at dksX2_takeLeast_1 0 rfl rfl)
theorem dX2_takeLeast_25 : decode cX2_takeLeast 25 = .ok (.ireturn, 1) := dk_172 (dk_at dksX2_takeLeast_1 1 rfl rfl)
abbrev cX2_lower : ByteArray := prog_8_method_8_code
def yX2_lower : MethodName := ⟨RX2, "lower", "(II)Z"⟩
def dkwX2_lower_2 : List UInt8 := [21, 4, 42, 180, 0, 7, 29, 46, 162, 0, 5, 3, 172, 42, 180, 0, 7, 29, 21, 4, 79, 4, 172]
abbrev dktX2_lower_2 : List UInt8 := dkwX2_lower_2 ++ []
def dkwX2_lower_1 : List UInt8 := [180, 0, 16, 29, 46, 6, 162, 0, 17, 21, 4, 42, 180, 0, 7, 29, 46, 164, 0, 19, 167, 0, 14]
abbrev dktX2_lower_1 : List UInt8 := dkwX2_lower_1 ++ dktX2_lower_2
def dkwX2_lower_0 : List UInt8 := [42, 27, 182, 0, 29, 62, 29, 156, 0, 5, 3, 172, 16, 64, 28, 18, 23, 126, 104, 29, 96, 54, 4, 42]
abbrev dktX2_lower_0 : List UInt8 := dkwX2_lower_0 ++ dktX2_lower_1
theorem dksX2_lower_0 : cX2_lower.data.toList.drop 0 = dktX2_lower_0 := by decide +kernel
theorem dksX2_lower_1 : cX2_lower.data.toList.drop 24 = dktX2_lower_1 := dk_seg dksX2_lower_0 24 rfl rfl
theorem dksX2_lower_2 : cX2_lower.data.toList.drop 47 = dktX2_lower_2 := dk_seg dksX2_lower_1 23 rfl rfl
theorem dX2_lower_0 : decode cX2_lower 0 = .ok (.aload_n 0, 1) := dk_42 (dk_at dksX2_lower_0 0 rfl rfl)
theorem dX2_lower_1 : decode cX2_lower 1 = .ok (.iload_n 1, 1) := dk_27 (dk_at dksX2_lower_0 1 rfl rfl)
theorem dX2_lower_2 : decode cX2_lower 2 = .ok (.invokevirtual 29, 3) := dk_182 0 29 (dk_at dksX2_lower_0 2 rfl rfl)
theorem dX2_lower_5 : decode cX2_lower 5 = .ok (.istore_n 3, 1) := dk_62 (dk_at dksX2_lower_0 5 rfl rfl)
theorem dX2_lower_6 : decode cX2_lower 6 = .ok (.iload_n 3, 1) := dk_29 (dk_at dksX2_lower_0 6 rfl rfl)
theorem dX2_lower_7 : decode cX2_lower 7 = .ok (.ifCond .ge 5, 3) := dk_156 0 5 (dk_at dksX2_lower_0 7 rfl rfl)
theorem dX2_lower_10 : decode cX2_lower 10 = .ok (.iconst 0, 1) := dk_3 (dk_at dksX2_lower_0 10 rfl rfl)
theorem dX2_lower_11 : decode cX2_lower 11 = .ok (.ireturn, 1) := dk_172 (dk_at dksX2_lower_0 11 rfl rfl)
theorem dX2_lower_12 : decode cX2_lower 12 = .ok (.bipush 64, 2) := dk_16 64 (dk_at dksX2_lower_0 12 rfl rfl)
theorem dX2_lower_14 : decode cX2_lower 14 = .ok (.iload_n 2, 1) := dk_28 (dk_at dksX2_lower_0 14 rfl rfl)
theorem dX2_lower_15 : decode cX2_lower 15 = .ok (.ldc 23, 2) := dk_18 23 (dk_at dksX2_lower_0 15 rfl rfl)
theorem dX2_lower_17 : decode cX2_lower 17 = .ok (.iand, 1) := dk_126 (dk_at dksX2_lower_0 17 rfl rfl)
theorem dX2_lower_18 : decode cX2_lower 18 = .ok (.imul, 1) := dk_104 (dk_at dksX2_lower_0 18 rfl rfl)
theorem dX2_lower_19 : decode cX2_lower 19 = .ok (.iload_n 3, 1) := dk_29 (dk_at dksX2_lower_0 19 rfl rfl)
theorem dX2_lower_20 : decode cX2_lower 20 = .ok (.iadd, 1) := dk_96 (dk_at dksX2_lower_0 20 rfl rfl)
theorem dX2_lower_21 : decode cX2_lower 21 = .ok (.istore 4, 2) := dk_54 4 (dk_at dksX2_lower_0 21 rfl rfl)
theorem dX2_lower_23 : decode cX2_lower 23 = .ok (.aload_n 0, 1) := dk_42 (dk_at dksX2_lower_0 23 rfl rfl)
theorem dX2_lower_24 : decode cX2_lower 24 = .ok (.getfield 16, 3) := dk_180 0 16 (dk_at dksX2_lower_1 0 rfl rfl)
theorem dX2_lower_27 : decode cX2_lower 27 = .ok (.iload_n 3, 1) := dk_29 (dk_at dksX2_lower_1 3 rfl rfl)
theorem dX2_lower_28 : decode cX2_lower 28 = .ok (.iaload, 1) := dk_46 (dk_at dksX2_lower_1 4 rfl rfl)
theorem dX2_lower_29 : decode cX2_lower 29 = .ok (.iconst 3, 1) := dk_6 (dk_at dksX2_lower_1 5 rfl rfl)
theorem dX2_lower_30 : decode cX2_lower 30 = .ok (.if_icmp .ge 17, 3) := dk_162 0 17 (dk_at dksX2_lower_1 6 rfl rfl)
theorem dX2_lower_33 : decode cX2_lower 33 = .ok (.iload 4, 2) := dk_21 4 (dk_at dksX2_lower_1 9 rfl rfl)
theorem dX2_lower_35 : decode cX2_lower 35 = .ok (.aload_n 0, 1) := dk_42 (dk_at dksX2_lower_1 11 rfl rfl)
theorem dX2_lower_36 : decode cX2_lower 36 = .ok (.getfield 7, 3) := dk_180 0 7 (dk_at dksX2_lower_1 12 rfl rfl)
theorem dX2_lower_39 : decode cX2_lower 39 = .ok (.iload_n 3, 1) := dk_29 (dk_at dksX2_lower_1 15 rfl rfl)
theorem dX2_lower_40 : decode cX2_lower 40 = .ok (.iaload, 1) := dk_46 (dk_at dksX2_lower_1 16 rfl rfl)
theorem dX2_lower_41 : decode cX2_lower 41 = .ok (.if_icmp .le 19, 3) := dk_164 0 19 (dk_at dksX2_lower_1 17 rfl rfl)
theorem dX2_lower_44 : decode cX2_lower 44 = .ok (.goto 14, 3) := dk_167 0 14 (dk_at dksX2_lower_1 20 rfl rfl)
theorem dX2_lower_47 : decode cX2_lower 47 = .ok (.iload 4, 2) := dk_21 4 (dk_at dksX2_lower_2 0 rfl rfl)
theorem dX2_lower_49 : decode cX2_lower 49 = .ok (.aload_n 0, 1) := dk_42 (dk_at dksX2_lower_2 2 rfl rfl)
theorem dX2_lower_50 : decode cX2_lower 50 = .ok (.getfield 7, 3) := dk_180 0 7 (dk_at dksX2_lower_2 3 rfl rfl)
theorem dX2_lower_53 : decode cX2_lower 53 = .ok (.iload_n 3, 1) := dk_29 (dk_at dksX2_lower_2 6 rfl rfl)
theorem dX2_lower_54 : decode cX2_lower 54 = .ok (.iaload, 1) := dk_46 (dk_at dksX2_lower_2 7 rfl rfl)
theorem dX2_lower_55 : decode cX2_lower 55 = .ok (.if_icmp .ge 5, 3) := dk_162 0 5 (dk_at dksX2_lower_2 8 rfl rfl)
theorem dX2_lower_58 : decode cX2_lower 58 = .ok (.iconst 0, 1) := dk_3 (dk_at dksX2_lower_2 11 rfl rfl)
theorem dX2_lower_59 : decode cX2_lower 59 = .ok (.ireturn, 1) := dk_172 (dk_at dksX2_lower_2 12 rfl rfl)
theorem dX2_lower_60 : decode cX2_lower 60 = .ok (.aload_n 0, 1) := dk_42 (dk_at dksX2_lower_2 13 rfl rfl)
theorem dX2_lower_61 : decode cX2_lower 61 = .ok (.getfield 7, 3) := dk_180 0 7 (dk_at dksX2_lower_2 14 rfl rfl)
theorem dX2_lower_64 : decode cX2_lower 64 = .ok (.iload_n 3, 1) := dk_29 (dk_at dksX2_lower_2 17 rfl rfl)
theorem dX2_lower_65 : decode cX2_lower 65 = .ok (.iload 4, 2) := dk_21 4 (dk_at dksX2_lower_2 18 rfl rfl)
theorem dX2_lower_67 : decode cX2_lower 67 = .ok (.iastore, 1) := dk_79 (dk_at dksX2_lower_2 20 rfl rfl)
theorem dX2_lower_68 : decode cX2_lower 68 = .ok (.iconst 1, 1) := dk_4 (dk_at dksX2_lower_2 21 rfl rfl)
theorem dX2_lower_69 : decode cX2_lower 69 = .ok (.ireturn, 1) := dk_172 (dk_at dksX2_lower_2 22 rfl rfl)
abbrev cX2_there : ByteArray := prog_8_method_7_code
def yX2_there : MethodName := ⟨RX2, "there", "(I)I"⟩
def dkwX2_there_1 : List UInt8 := [46, 154, 0, 7, 2, 167, 0, 4, 28, 172]
abbrev dktX2_there_1 : List UInt8 := dkwX2_there_1 ++ []
def dkwX2_there_0 : List UInt8 := [42, 180, 0, 19, 154, 0, 5, 2, 172, 27, 18, 28, 126, 42, 180, 0, 19, 112, 61, 42, 180, 0, 16, 28]
abbrev dktX2_there_0 : List UInt8 := dkwX2_there_0 ++ dktX2_there_1
theorem dksX2_there_0 : cX2_there.data.toList.drop 0 = dktX2_there_0 := by decide +kernel
theorem dksX2_there_1 : cX2_there.data.toList.drop 24 = dktX2_there_1 := dk_seg dksX2_there_0 24 rfl rfl
theorem dX2_there_0 : decode cX2_there 0 = .ok (.aload_n 0, 1) := dk_42 (dk_at dksX2_there_0 0 rfl rfl)
theorem dX2_there_1 : decode cX2_there 1 = .ok (.getfield 19, 3) := dk_180 0 19 (dk_at dksX2_there_0 1 rfl rfl)
theorem dX2_there_4 : decode cX2_there 4 = .ok (.ifCond .ne 5, 3) := dk_154 0 5 (dk_at dksX2_there_0 4 rfl rfl)
theorem dX2_there_7 : decode cX2_there 7 = .ok (.iconst (-1), 1) := dk_2 (dk_at dksX2_there_0 7 rfl rfl)
theorem dX2_there_8 : decode cX2_there 8 = .ok (.ireturn, 1) := dk_172 (dk_at dksX2_there_0 8 rfl rfl)
theorem dX2_there_9 : decode cX2_there 9 = .ok (.iload_n 1, 1) := dk_27 (dk_at dksX2_there_0 9 rfl rfl)
theorem dX2_there_10 : decode cX2_there 10 = .ok (.ldc 28, 2) := dk_18 28 (dk_at dksX2_there_0 10 rfl rfl)
theorem dX2_there_12 : decode cX2_there 12 = .ok (.iand, 1) := dk_126 (dk_at dksX2_there_0 12 rfl rfl)
theorem dX2_there_13 : decode cX2_there 13 = .ok (.aload_n 0, 1) := dk_42 (dk_at dksX2_there_0 13 rfl rfl)
theorem dX2_there_14 : decode cX2_there 14 = .ok (.getfield 19, 3) := dk_180 0 19 (dk_at dksX2_there_0 14 rfl rfl)
theorem dX2_there_17 : decode cX2_there 17 = .ok (.irem, 1) := dk_112 (dk_at dksX2_there_0 17 rfl rfl)
theorem dX2_there_18 : decode cX2_there 18 = .ok (.istore_n 2, 1) := dk_61 (dk_at dksX2_there_0 18 rfl rfl)
theorem dX2_there_19 : decode cX2_there 19 = .ok (.aload_n 0, 1) := dk_42 (dk_at dksX2_there_0 19 rfl rfl)
theorem dX2_there_20 : decode cX2_there 20 = .ok (.getfield 16, 3) := dk_180 0 16 (dk_at dksX2_there_0 20 rfl rfl)
theorem dX2_there_23 : decode cX2_there 23 = .ok (.iload_n 2, 1) := dk_28 (dk_at dksX2_there_0 23 rfl rfl)
theorem dX2_there_24 : decode cX2_there 24 = .ok (.iaload, 1) := dk_46 (dk_at dksX2_there_1 0 rfl rfl)
theorem dX2_there_25 : decode cX2_there 25 = .ok (.ifCond .ne 7, 3) := dk_154 0 7 (dk_at dksX2_there_1 1 rfl rfl)
theorem dX2_there_28 : decode cX2_there 28 = .ok (.iconst (-1), 1) := dk_2 (dk_at dksX2_there_1 4 rfl rfl)
theorem dX2_there_29 : decode cX2_there 29 = .ok (.goto 4, 3) := dk_167 0 4 (dk_at dksX2_there_1 5 rfl rfl)
theorem dX2_there_32 : decode cX2_there 32 = .ok (.iload_n 2, 1) := dk_28 (dk_at dksX2_there_1 8 rfl rfl)
theorem dX2_there_33 : decode cX2_there 33 = .ok (.ireturn, 1) := dk_172 (dk_at dksX2_there_1 9 rfl rfl)
abbrev cX2_drop : ByteArray := prog_8_method_9_code
def yX2_drop : MethodName := ⟨RX2, "drop", "(I)Z"⟩
def dkwX2_drop_0 : List UInt8 := [42, 27, 182, 0, 29, 61, 28, 156, 0, 5, 3, 172, 42, 180, 0, 16, 28, 3, 79, 4, 172]
abbrev dktX2_drop_0 : List UInt8 := dkwX2_drop_0 ++ []
theorem dksX2_drop_0 : cX2_drop.data.toList.drop 0 = dktX2_drop_0 := by decide +kernel
theorem dX2_drop_0 : decode cX2_drop 0 = .ok (.aload_n 0, 1) := dk_42 (dk_at dksX2_drop_0 0 rfl rfl)
theorem dX2_drop_1 : decode cX2_drop 1 = .ok (.iload_n 1, 1) := dk_27 (dk_at dksX2_drop_0 1 rfl rfl)
theorem dX2_drop_2 : decode cX2_drop 2 = .ok (.invokevirtual 29, 3) := dk_182 0 29 (dk_at dksX2_drop_0 2 rfl rfl)
theorem dX2_drop_5 : decode cX2_drop 5 = .ok (.istore_n 2, 1) := dk_61 (dk_at dksX2_drop_0 5 rfl rfl)
theorem dX2_drop_6 : decode cX2_drop 6 = .ok (.iload_n 2, 1) := dk_28 (dk_at dksX2_drop_0 6 rfl rfl)
theorem dX2_drop_7 : decode cX2_drop 7 = .ok (.ifCond .ge 5, 3) := dk_156 0 5 (dk_at dksX2_drop_0 7 rfl rfl)
theorem dX2_drop_10 : decode cX2_drop 10 = .ok (.iconst 0, 1) := dk_3 (dk_at dksX2_drop_0 10 rfl rfl)
theorem dX2_drop_11 : decode cX2_drop 11 = .ok (.ireturn, 1) := dk_172 (dk_at dksX2_drop_0 11 rfl rfl)
theorem dX2_drop_12 : decode cX2_drop 12 = .ok (.aload_n 0, 1) := dk_42 (dk_at dksX2_drop_0 12 rfl rfl)
theorem dX2_drop_13 : decode cX2_drop 13 = .ok (.getfield 16, 3) := dk_180 0 16 (dk_at dksX2_drop_0 13 rfl rfl)
theorem dX2_drop_16 : decode cX2_drop 16 = .ok (.iload_n 2, 1) := dk_28 (dk_at dksX2_drop_0 16 rfl rfl)
theorem dX2_drop_17 : decode cX2_drop 17 = .ok (.iconst 0, 1) := dk_3 (dk_at dksX2_drop_0 17 rfl rfl)
theorem dX2_drop_18 : decode cX2_drop 18 = .ok (.iastore, 1) := dk_79 (dk_at dksX2_drop_0 18 rfl rfl)
theorem dX2_drop_19 : decode cX2_drop 19 = .ok (.iconst 1, 1) := dk_4 (dk_at dksX2_drop_0 19 rfl rfl)
theorem dX2_drop_20 : decode cX2_drop 20 = .ok (.ireturn, 1) := dk_172 (dk_at dksX2_drop_0 20 rfl rfl)
abbrev cX2_change : ByteArray := prog_8_method_10_code
def yX2_change : MethodName := ⟨RX2, "change", "(II)Z"⟩
def dkwX2_change_0 : List UInt8 := [42, 27, 182, 0, 29, 62, 29, 156, 0, 5, 3, 172, 42, 180, 0, 13, 29, 28, 79, 4, 172]
abbrev dktX2_change_0 : List UInt8 := dkwX2_change_0 ++ []
theorem dksX2_change_0 : cX2_change.data.toList.drop 0 = dktX2_change_0 := by decide +kernel
theorem dX2_change_0 : decode cX2_change 0 = .ok (.aload_n 0, 1) := dk_42 (dk_at dksX2_change_0 0 rfl rfl)
theorem dX2_change_1 : decode cX2_change 1 = .ok (.iload_n 1, 1) := dk_27 (dk_at dksX2_change_0 1 rfl rfl)
theorem dX2_change_2 : decode cX2_change 2 = .ok (.invokevirtual 29, 3) := dk_182 0 29 (dk_at dksX2_change_0 2 rfl rfl)
theorem dX2_change_5 : decode cX2_change 5 = .ok (.istore_n 3, 1) := dk_62 (dk_at dksX2_change_0 5 rfl rfl)
theorem dX2_change_6 : decode cX2_change 6 = .ok (.iload_n 3, 1) := dk_29 (dk_at dksX2_change_0 6 rfl rfl)
theorem dX2_change_7 : decode cX2_change 7 = .ok (.ifCond .ge 5, 3) := dk_156 0 5 (dk_at dksX2_change_0 7 rfl rfl)
theorem dX2_change_10 : decode cX2_change 10 = .ok (.iconst 0, 1) := dk_3 (dk_at dksX2_change_0 10 rfl rfl)
theorem dX2_change_11 : decode cX2_change 11 = .ok (.ireturn, 1) := dk_172 (dk_at dksX2_change_0 11 rfl rfl)
theorem dX2_change_12 : decode cX2_change 12 = .ok (.aload_n 0, 1) := dk_42 (dk_at dksX2_change_0 12 rfl rfl)
theorem dX2_change_13 : decode cX2_change 13 = .ok (.getfield 13, 3) := dk_180 0 13 (dk_at dksX2_change_0 13 rfl rfl)
theorem dX2_change_16 : decode cX2_change 16 = .ok (.iload_n 3, 1) := dk_29 (dk_at dksX2_change_0 16 rfl rfl)
theorem dX2_change_17 : decode cX2_change 17 = .ok (.iload_n 2, 1) := dk_28 (dk_at dksX2_change_0 17 rfl rfl)
theorem dX2_change_18 : decode cX2_change 18 = .ok (.iastore, 1) := dk_79 (dk_at dksX2_change_0 18 rfl rfl)
theorem dX2_change_19 : decode cX2_change 19 = .ok (.iconst 1, 1) := dk_4 (dk_at dksX2_change_0 19 rfl rfl)
theorem dX2_change_20 : decode cX2_change 20 = .ok (.ireturn, 1) := dk_172 (dk_at dksX2_change_0 20 rfl rfl)
abbrev cX2_key : ByteArray := prog_8_method_11_code
def yX2_key : MethodName := ⟨RX2, "key", "(I)I"⟩
def dkwX2_key_0 : List UInt8 := [42, 27, 182, 0, 29, 61, 28, 156, 0, 7, 2, 167, 0, 9, 42, 180, 0, 7, 28, 46, 172]
abbrev dktX2_key_0 : List UInt8 := dkwX2_key_0 ++ []
theorem dksX2_key_0 : cX2_key.data.toList.drop 0 = dktX2_key_0 := by decide +kernel
theorem dX2_key_0 : decode cX2_key 0 = .ok (.aload_n 0, 1) := dk_42 (dk_at dksX2_key_0 0 rfl rfl)
theorem dX2_key_1 : decode cX2_key 1 = .ok (.iload_n 1, 1) := dk_27 (dk_at dksX2_key_0 1 rfl rfl)
theorem dX2_key_2 : decode cX2_key 2 = .ok (.invokevirtual 29, 3) := dk_182 0 29 (dk_at dksX2_key_0 2 rfl rfl)
theorem dX2_key_5 : decode cX2_key 5 = .ok (.istore_n 2, 1) := dk_61 (dk_at dksX2_key_0 5 rfl rfl)
theorem dX2_key_6 : decode cX2_key 6 = .ok (.iload_n 2, 1) := dk_28 (dk_at dksX2_key_0 6 rfl rfl)
theorem dX2_key_7 : decode cX2_key 7 = .ok (.ifCond .ge 7, 3) := dk_156 0 7 (dk_at dksX2_key_0 7 rfl rfl)
theorem dX2_key_10 : decode cX2_key 10 = .ok (.iconst (-1), 1) := dk_2 (dk_at dksX2_key_0 10 rfl rfl)
theorem dX2_key_11 : decode cX2_key 11 = .ok (.goto 9, 3) := dk_167 0 9 (dk_at dksX2_key_0 11 rfl rfl)
theorem dX2_key_14 : decode cX2_key 14 = .ok (.aload_n 0, 1) := dk_42 (dk_at dksX2_key_0 14 rfl rfl)
theorem dX2_key_15 : decode cX2_key 15 = .ok (.getfield 7, 3) := dk_180 0 7 (dk_at dksX2_key_0 15 rfl rfl)
theorem dX2_key_18 : decode cX2_key 18 = .ok (.iload_n 2, 1) := dk_28 (dk_at dksX2_key_0 18 rfl rfl)
theorem dX2_key_19 : decode cX2_key 19 = .ok (.iaload, 1) := dk_46 (dk_at dksX2_key_0 19 rfl rfl)
theorem dX2_key_20 : decode cX2_key 20 = .ok (.ireturn, 1) := dk_172 (dk_at dksX2_key_0 20 rfl rfl)
abbrev cX2_size : ByteArray := prog_8_method_12_code
def yX2_size : MethodName := ⟨RX2, "size", "(I)I"⟩
def dkwX2_size_1 : List UInt8 := [160, 0, 7, 4, 167, 0, 4, 3, 96, 61, 132, 3, 1, 167, 255, 223, 28, 172]
abbrev dktX2_size_1 : List UInt8 := dkwX2_size_1 ++ []
def dkwX2_size_0 : List UInt8 := [3, 61, 3, 62, 29, 42, 180, 0, 19, 162, 0, 31, 28, 42, 180, 0, 16, 29, 46, 4, 27, 6, 126, 96]
abbrev dktX2_size_0 : List UInt8 := dkwX2_size_0 ++ dktX2_size_1
theorem dksX2_size_0 : cX2_size.data.toList.drop 0 = dktX2_size_0 := by decide +kernel
theorem dksX2_size_1 : cX2_size.data.toList.drop 24 = dktX2_size_1 := dk_seg dksX2_size_0 24 rfl rfl
theorem dX2_size_0 : decode cX2_size 0 = .ok (.iconst 0, 1) := dk_3 (dk_at dksX2_size_0 0 rfl rfl)
theorem dX2_size_1 : decode cX2_size 1 = .ok (.istore_n 2, 1) := dk_61 (dk_at dksX2_size_0 1 rfl rfl)
theorem dX2_size_2 : decode cX2_size 2 = .ok (.iconst 0, 1) := dk_3 (dk_at dksX2_size_0 2 rfl rfl)
theorem dX2_size_3 : decode cX2_size 3 = .ok (.istore_n 3, 1) := dk_62 (dk_at dksX2_size_0 3 rfl rfl)
theorem dX2_size_4 : decode cX2_size 4 = .ok (.iload_n 3, 1) := dk_29 (dk_at dksX2_size_0 4 rfl rfl)
theorem dX2_size_5 : decode cX2_size 5 = .ok (.aload_n 0, 1) := dk_42 (dk_at dksX2_size_0 5 rfl rfl)
theorem dX2_size_6 : decode cX2_size 6 = .ok (.getfield 19, 3) := dk_180 0 19 (dk_at dksX2_size_0 6 rfl rfl)
theorem dX2_size_9 : decode cX2_size 9 = .ok (.if_icmp .ge 31, 3) := dk_162 0 31 (dk_at dksX2_size_0 9 rfl rfl)
theorem dX2_size_12 : decode cX2_size 12 = .ok (.iload_n 2, 1) := dk_28 (dk_at dksX2_size_0 12 rfl rfl)
theorem dX2_size_13 : decode cX2_size 13 = .ok (.aload_n 0, 1) := dk_42 (dk_at dksX2_size_0 13 rfl rfl)
theorem dX2_size_14 : decode cX2_size 14 = .ok (.getfield 16, 3) := dk_180 0 16 (dk_at dksX2_size_0 14 rfl rfl)
theorem dX2_size_17 : decode cX2_size 17 = .ok (.iload_n 3, 1) := dk_29 (dk_at dksX2_size_0 17 rfl rfl)
theorem dX2_size_18 : decode cX2_size 18 = .ok (.iaload, 1) := dk_46 (dk_at dksX2_size_0 18 rfl rfl)
theorem dX2_size_19 : decode cX2_size 19 = .ok (.iconst 1, 1) := dk_4 (dk_at dksX2_size_0 19 rfl rfl)
theorem dX2_size_20 : decode cX2_size 20 = .ok (.iload_n 1, 1) := dk_27 (dk_at dksX2_size_0 20 rfl rfl)
theorem dX2_size_21 : decode cX2_size 21 = .ok (.iconst 3, 1) := dk_6 (dk_at dksX2_size_0 21 rfl rfl)
theorem dX2_size_22 : decode cX2_size 22 = .ok (.iand, 1) := dk_126 (dk_at dksX2_size_0 22 rfl rfl)
theorem dX2_size_23 : decode cX2_size 23 = .ok (.iadd, 1) := dk_96 (dk_at dksX2_size_0 23 rfl rfl)
theorem dX2_size_24 : decode cX2_size 24 = .ok (.if_icmp .ne 7, 3) := dk_160 0 7 (dk_at dksX2_size_1 0 rfl rfl)
theorem dX2_size_27 : decode cX2_size 27 = .ok (.iconst 1, 1) := dk_4 (dk_at dksX2_size_1 3 rfl rfl)
theorem dX2_size_28 : decode cX2_size 28 = .ok (.goto 4, 3) := dk_167 0 4 (dk_at dksX2_size_1 4 rfl rfl)
theorem dX2_size_31 : decode cX2_size 31 = .ok (.iconst 0, 1) := dk_3 (dk_at dksX2_size_1 7 rfl rfl)
theorem dX2_size_32 : decode cX2_size 32 = .ok (.iadd, 1) := dk_96 (dk_at dksX2_size_1 8 rfl rfl)
theorem dX2_size_33 : decode cX2_size 33 = .ok (.istore_n 2, 1) := dk_61 (dk_at dksX2_size_1 9 rfl rfl)
theorem dX2_size_34 : decode cX2_size 34 = .ok (.iinc 3 1, 3) := dk_132 3 1 (dk_at dksX2_size_1 10 rfl rfl)
theorem dX2_size_37 : decode cX2_size 37 = .ok (.goto (-33), 3) := dk_167 255 223 (dk_at dksX2_size_1 13 rfl rfl)
theorem dX2_size_40 : decode cX2_size 40 = .ok (.iload_n 2, 1) := dk_28 (dk_at dksX2_size_1 16 rfl rfl)
theorem dX2_size_41 : decode cX2_size 41 = .ok (.ireturn, 1) := dk_172 (dk_at dksX2_size_1 17 rfl rfl)
abbrev cX2_clear : ByteArray := prog_8_method_13_code
def yX2_clear : MethodName := ⟨RX2, "clear", "(I)V"⟩
def dkwX2_clear_1 : List UInt8 := [42, 180, 0, 16, 28, 3, 79, 132, 2, 1, 167, 255, 224, 177]
abbrev dktX2_clear_1 : List UInt8 := dkwX2_clear_1 ++ []
def dkwX2_clear_0 : List UInt8 := [3, 61, 28, 42, 180, 0, 19, 162, 0, 30, 42, 180, 0, 16, 28, 46, 4, 27, 6, 126, 96, 160, 0, 10]
abbrev dktX2_clear_0 : List UInt8 := dkwX2_clear_0 ++ dktX2_clear_1
theorem dksX2_clear_0 : cX2_clear.data.toList.drop 0 = dktX2_clear_0 := by decide +kernel
theorem dksX2_clear_1 : cX2_clear.data.toList.drop 24 = dktX2_clear_1 := dk_seg dksX2_clear_0 24 rfl rfl
theorem dX2_clear_0 : decode cX2_clear 0 = .ok (.iconst 0, 1) := dk_3 (dk_at dksX2_clear_0 0 rfl rfl)
theorem dX2_clear_1 : decode cX2_clear 1 = .ok (.istore_n 2, 1) := dk_61 (dk_at dksX2_clear_0 1 rfl rfl)
theorem dX2_clear_2 : decode cX2_clear 2 = .ok (.iload_n 2, 1) := dk_28 (dk_at dksX2_clear_0 2 rfl rfl)
theorem dX2_clear_3 : decode cX2_clear 3 = .ok (.aload_n 0, 1) := dk_42 (dk_at dksX2_clear_0 3 rfl rfl)
theorem dX2_clear_4 : decode cX2_clear 4 = .ok (.getfield 19, 3) := dk_180 0 19 (dk_at dksX2_clear_0 4 rfl rfl)
theorem dX2_clear_7 : decode cX2_clear 7 = .ok (.if_icmp .ge 30, 3) := dk_162 0 30 (dk_at dksX2_clear_0 7 rfl rfl)
theorem dX2_clear_10 : decode cX2_clear 10 = .ok (.aload_n 0, 1) := dk_42 (dk_at dksX2_clear_0 10 rfl rfl)
theorem dX2_clear_11 : decode cX2_clear 11 = .ok (.getfield 16, 3) := dk_180 0 16 (dk_at dksX2_clear_0 11 rfl rfl)
theorem dX2_clear_14 : decode cX2_clear 14 = .ok (.iload_n 2, 1) := dk_28 (dk_at dksX2_clear_0 14 rfl rfl)
theorem dX2_clear_15 : decode cX2_clear 15 = .ok (.iaload, 1) := dk_46 (dk_at dksX2_clear_0 15 rfl rfl)
theorem dX2_clear_16 : decode cX2_clear 16 = .ok (.iconst 1, 1) := dk_4 (dk_at dksX2_clear_0 16 rfl rfl)
theorem dX2_clear_17 : decode cX2_clear 17 = .ok (.iload_n 1, 1) := dk_27 (dk_at dksX2_clear_0 17 rfl rfl)
theorem dX2_clear_18 : decode cX2_clear 18 = .ok (.iconst 3, 1) := dk_6 (dk_at dksX2_clear_0 18 rfl rfl)
theorem dX2_clear_19 : decode cX2_clear 19 = .ok (.iand, 1) := dk_126 (dk_at dksX2_clear_0 19 rfl rfl)
theorem dX2_clear_20 : decode cX2_clear 20 = .ok (.iadd, 1) := dk_96 (dk_at dksX2_clear_0 20 rfl rfl)
theorem dX2_clear_21 : decode cX2_clear 21 = .ok (.if_icmp .ne 10, 3) := dk_160 0 10 (dk_at dksX2_clear_0 21 rfl rfl)
theorem dX2_clear_24 : decode cX2_clear 24 = .ok (.aload_n 0, 1) := dk_42 (dk_at dksX2_clear_1 0 rfl rfl)
theorem dX2_clear_25 : decode cX2_clear 25 = .ok (.getfield 16, 3) := dk_180 0 16 (dk_at dksX2_clear_1 1 rfl rfl)
theorem dX2_clear_28 : decode cX2_clear 28 = .ok (.iload_n 2, 1) := dk_28 (dk_at dksX2_clear_1 4 rfl rfl)
theorem dX2_clear_29 : decode cX2_clear 29 = .ok (.iconst 0, 1) := dk_3 (dk_at dksX2_clear_1 5 rfl rfl)
theorem dX2_clear_30 : decode cX2_clear 30 = .ok (.iastore, 1) := dk_79 (dk_at dksX2_clear_1 6 rfl rfl)
theorem dX2_clear_31 : decode cX2_clear 31 = .ok (.iinc 2 1, 3) := dk_132 2 1 (dk_at dksX2_clear_1 7 rfl rfl)
theorem dX2_clear_34 : decode cX2_clear 34 = .ok (.goto (-32), 3) := dk_167 255 224 (dk_at dksX2_clear_1 10 rfl rfl)
theorem dX2_clear_37 : decode cX2_clear 37 = .ok (.return_, 1) := dk_177 (dk_at dksX2_clear_1 13 rfl rfl)
theorem q15 : (Jvm.Cond.initialized "BinaryTreeAddressableHeapDeskModel") ∈ lw_all := lw_g (lw_at lw_m1 3 rfl) rfl
theorem q490 : (Jvm.Cond.instantiable "BinaryTreeAddressableHeapDeskModel" (4 : Nat)) ∈ lw_all := lw_g (lw_at lw_m2 238 rfl) rfl
theorem q492 : (Jvm.Cond.instanceMethod ({ cls := "BinaryTreeAddressableHeapDeskModel", name := "<init>", desc := "()V" } : Jvm.MethodName)) ∈ lw_all := lw_g (lw_at lw_m3 0 rfl) rfl
theorem q493 : (Jvm.Cond.code ({ cls := "BinaryTreeAddressableHeapDeskModel", name := "<init>", desc := "()V" } : Jvm.MethodName) prog_8_method_1_code (1 : Nat) (Option.none : Option Jvm.ClassFile.FieldType)) ∈ lw_all := lw_g (lw_at lw_m3 1 rfl) rfl
theorem q494 : (Jvm.Cond.methodLink "BinaryTreeAddressableHeapDeskModel" (1 : Nat) ({ cls := "java/lang/Object", name := "<init>", desc := "()V" } : Jvm.MethodName)) ∈ lw_all := lw_g (lw_at lw_m3 2 rfl) rfl
theorem q495 : (Jvm.Cond.fieldLink "BinaryTreeAddressableHeapDeskModel" (7 : Nat) "BinaryTreeAddressableHeapDeskModel" "keys" "[I") ∈ lw_all := lw_g (lw_at lw_m3 3 rfl) rfl
theorem q496 : (Jvm.Cond.fieldLink "BinaryTreeAddressableHeapDeskModel" (13 : Nat) "BinaryTreeAddressableHeapDeskModel" "values" "[I") ∈ lw_all := lw_g (lw_at lw_m3 4 rfl) rfl
theorem q497 : (Jvm.Cond.fieldLink "BinaryTreeAddressableHeapDeskModel" (16 : Nat) "BinaryTreeAddressableHeapDeskModel" "home" "[I") ∈ lw_all := lw_g (lw_at lw_m3 5 rfl) rfl
theorem q498 : (Jvm.Cond.fieldLink "BinaryTreeAddressableHeapDeskModel" (19 : Nat) "BinaryTreeAddressableHeapDeskModel" "next" "I") ∈ lw_all := lw_g (lw_at lw_m3 6 rfl) rfl
theorem q499 : (Jvm.Cond.laysFinal "BinaryTreeAddressableHeapDeskModel" "BinaryTreeAddressableHeapDeskModel" "keys" "[I") ∈ lw_all := lw_g (lw_at lw_m3 7 rfl) rfl
theorem q500 : (Jvm.Cond.soleField "BinaryTreeAddressableHeapDeskModel" "keys") ∈ lw_all := lw_g (lw_at lw_m3 8 rfl) rfl
theorem q501 : (Jvm.Cond.laysFinal "BinaryTreeAddressableHeapDeskModel" "BinaryTreeAddressableHeapDeskModel" "values" "[I") ∈ lw_all := lw_g (lw_at lw_m3 9 rfl) rfl
theorem q502 : (Jvm.Cond.soleField "BinaryTreeAddressableHeapDeskModel" "values") ∈ lw_all := lw_g (lw_at lw_m3 10 rfl) rfl
theorem q503 : (Jvm.Cond.laysFinal "BinaryTreeAddressableHeapDeskModel" "BinaryTreeAddressableHeapDeskModel" "home" "[I") ∈ lw_all := lw_g (lw_at lw_m3 11 rfl) rfl
theorem q504 : (Jvm.Cond.soleField "BinaryTreeAddressableHeapDeskModel" "home") ∈ lw_all := lw_g (lw_at lw_m3 12 rfl) rfl
theorem q505 : (Jvm.Cond.lays "BinaryTreeAddressableHeapDeskModel" "BinaryTreeAddressableHeapDeskModel" "next" "I") ∈ lw_all := lw_g (lw_at lw_m3 13 rfl) rfl
theorem q506 : (Jvm.Cond.soleField "BinaryTreeAddressableHeapDeskModel" "next") ∈ lw_all := lw_g (lw_at lw_m3 14 rfl) rfl
theorem q507 : (Jvm.Cond.superclass "BinaryTreeAddressableHeapDeskModel" "java/lang/Object") ∈ lw_all := lw_g (lw_at lw_m3 15 rfl) rfl
theorem q509 : (Jvm.Cond.instanceMethod ({ cls := "BinaryTreeAddressableHeapDeskModel", name := "put", desc := "(III)I" } : Jvm.MethodName)) ∈ lw_all := lw_g (lw_at lw_m3 17 rfl) rfl
theorem q510 : (Jvm.Cond.selects "BinaryTreeAddressableHeapDeskModel" ({ cls := "BinaryTreeAddressableHeapDeskModel", name := "put", desc := "(III)I" } : Jvm.MethodName) ({ cls := "BinaryTreeAddressableHeapDeskModel", name := "put", desc := "(III)I" } : Jvm.MethodName)) ∈ lw_all := lw_g (lw_at lw_m3 18 rfl) rfl
theorem q511 : (Jvm.Cond.code ({ cls := "BinaryTreeAddressableHeapDeskModel", name := "put", desc := "(III)I" } : Jvm.MethodName) prog_8_method_3_code (4 : Nat) (Option.some Jvm.ClassFile.FieldType.int)) ∈ lw_all := lw_g (lw_at lw_m3 19 rfl) rfl
theorem q512 : (Jvm.Cond.constant "BinaryTreeAddressableHeapDeskModel" (23 : Nat) (65535 : Int32)) ∈ lw_all := lw_g (lw_at lw_m3 20 rfl) rfl
theorem q514 : (Jvm.Cond.instanceMethod ({ cls := "BinaryTreeAddressableHeapDeskModel", name := "least", desc := "(I)I" } : Jvm.MethodName)) ∈ lw_all := lw_g (lw_at lw_m3 22 rfl) rfl
theorem q515 : (Jvm.Cond.selects "BinaryTreeAddressableHeapDeskModel" ({ cls := "BinaryTreeAddressableHeapDeskModel", name := "least", desc := "(I)I" } : Jvm.MethodName) ({ cls := "BinaryTreeAddressableHeapDeskModel", name := "least", desc := "(I)I" } : Jvm.MethodName)) ∈ lw_all := lw_g (lw_at lw_m3 23 rfl) rfl
theorem q516 : (Jvm.Cond.code ({ cls := "BinaryTreeAddressableHeapDeskModel", name := "least", desc := "(I)I" } : Jvm.MethodName) prog_8_method_4_code (3 : Nat) (Option.some Jvm.ClassFile.FieldType.int)) ∈ lw_all := lw_g (lw_at lw_m3 24 rfl) rfl
theorem q517 : (Jvm.Cond.methodLink "BinaryTreeAddressableHeapDeskModel" (24 : Nat) ({ cls := "BinaryTreeAddressableHeapDeskModel", name := "first", desc := "(I)I" } : Jvm.MethodName)) ∈ lw_all := lw_g (lw_at lw_m3 25 rfl) rfl
theorem q518 : (Jvm.Cond.privateMethod ({ cls := "BinaryTreeAddressableHeapDeskModel", name := "first", desc := "(I)I" } : Jvm.MethodName)) ∈ lw_tbl := lw_at lw_m3 26 rfl
theorem q519 : (Jvm.Cond.instanceMethod ({ cls := "BinaryTreeAddressableHeapDeskModel", name := "first", desc := "(I)I" } : Jvm.MethodName)) ∈ lw_all := lw_g (lw_at lw_m3 27 rfl) rfl
theorem q520 : (Jvm.Cond.code ({ cls := "BinaryTreeAddressableHeapDeskModel", name := "first", desc := "(I)I" } : Jvm.MethodName) prog_8_method_2_code (4 : Nat) (Option.some Jvm.ClassFile.FieldType.int)) ∈ lw_all := lw_g (lw_at lw_m3 28 rfl) rfl
theorem q522 : (Jvm.Cond.instanceMethod ({ cls := "BinaryTreeAddressableHeapDeskModel", name := "valueOfLeast", desc := "(I)I" } : Jvm.MethodName)) ∈ lw_all := lw_g (lw_at lw_m3 30 rfl) rfl
theorem q523 : (Jvm.Cond.selects "BinaryTreeAddressableHeapDeskModel" ({ cls := "BinaryTreeAddressableHeapDeskModel", name := "valueOfLeast", desc := "(I)I" } : Jvm.MethodName) ({ cls := "BinaryTreeAddressableHeapDeskModel", name := "valueOfLeast", desc := "(I)I" } : Jvm.MethodName)) ∈ lw_all := lw_g (lw_at lw_m3 31 rfl) rfl
theorem q524 : (Jvm.Cond.code ({ cls := "BinaryTreeAddressableHeapDeskModel", name := "valueOfLeast", desc := "(I)I" } : Jvm.MethodName) prog_8_method_5_code (3 : Nat) (Option.some Jvm.ClassFile.FieldType.int)) ∈ lw_all := lw_g (lw_at lw_m3 32 rfl) rfl
theorem q526 : (Jvm.Cond.instanceMethod ({ cls := "BinaryTreeAddressableHeapDeskModel", name := "takeLeast", desc := "(I)I" } : Jvm.MethodName)) ∈ lw_all := lw_g (lw_at lw_m3 34 rfl) rfl
theorem q527 : (Jvm.Cond.selects "BinaryTreeAddressableHeapDeskModel" ({ cls := "BinaryTreeAddressableHeapDeskModel", name := "takeLeast", desc := "(I)I" } : Jvm.MethodName) ({ cls := "BinaryTreeAddressableHeapDeskModel", name := "takeLeast", desc := "(I)I" } : Jvm.MethodName)) ∈ lw_all := lw_g (lw_at lw_m3 35 rfl) rfl
theorem q528 : (Jvm.Cond.code ({ cls := "BinaryTreeAddressableHeapDeskModel", name := "takeLeast", desc := "(I)I" } : Jvm.MethodName) prog_8_method_6_code (3 : Nat) (Option.some Jvm.ClassFile.FieldType.int)) ∈ lw_all := lw_g (lw_at lw_m3 36 rfl) rfl
theorem q530 : (Jvm.Cond.instanceMethod ({ cls := "BinaryTreeAddressableHeapDeskModel", name := "lower", desc := "(II)Z" } : Jvm.MethodName)) ∈ lw_all := lw_g (lw_at lw_m3 38 rfl) rfl
theorem q531 : (Jvm.Cond.selects "BinaryTreeAddressableHeapDeskModel" ({ cls := "BinaryTreeAddressableHeapDeskModel", name := "lower", desc := "(II)Z" } : Jvm.MethodName) ({ cls := "BinaryTreeAddressableHeapDeskModel", name := "lower", desc := "(II)Z" } : Jvm.MethodName)) ∈ lw_all := lw_g (lw_at lw_m3 39 rfl) rfl
theorem q532 : (Jvm.Cond.code ({ cls := "BinaryTreeAddressableHeapDeskModel", name := "lower", desc := "(II)Z" } : Jvm.MethodName) prog_8_method_8_code (5 : Nat) (Option.some Jvm.ClassFile.FieldType.boolean)) ∈ lw_all := lw_g (lw_at lw_m3 40 rfl) rfl
theorem q533 : (Jvm.Cond.methodLink "BinaryTreeAddressableHeapDeskModel" (29 : Nat) ({ cls := "BinaryTreeAddressableHeapDeskModel", name := "there", desc := "(I)I" } : Jvm.MethodName)) ∈ lw_all := lw_g (lw_at lw_m3 41 rfl) rfl
theorem q534 : (Jvm.Cond.privateMethod ({ cls := "BinaryTreeAddressableHeapDeskModel", name := "there", desc := "(I)I" } : Jvm.MethodName)) ∈ lw_tbl := lw_at lw_m3 42 rfl
theorem q535 : (Jvm.Cond.instanceMethod ({ cls := "BinaryTreeAddressableHeapDeskModel", name := "there", desc := "(I)I" } : Jvm.MethodName)) ∈ lw_all := lw_g (lw_at lw_m3 43 rfl) rfl
theorem q536 : (Jvm.Cond.code ({ cls := "BinaryTreeAddressableHeapDeskModel", name := "there", desc := "(I)I" } : Jvm.MethodName) prog_8_method_7_code (3 : Nat) (Option.some Jvm.ClassFile.FieldType.int)) ∈ lw_all := lw_g (lw_at lw_m3 44 rfl) rfl
theorem q537 : (Jvm.Cond.constant "BinaryTreeAddressableHeapDeskModel" (28 : Nat) (2147483647 : Int32)) ∈ lw_all := lw_g (lw_at lw_m3 45 rfl) rfl
theorem q539 : (Jvm.Cond.instanceMethod ({ cls := "BinaryTreeAddressableHeapDeskModel", name := "drop", desc := "(I)Z" } : Jvm.MethodName)) ∈ lw_all := lw_g (lw_at lw_m3 47 rfl) rfl
theorem q540 : (Jvm.Cond.selects "BinaryTreeAddressableHeapDeskModel" ({ cls := "BinaryTreeAddressableHeapDeskModel", name := "drop", desc := "(I)Z" } : Jvm.MethodName) ({ cls := "BinaryTreeAddressableHeapDeskModel", name := "drop", desc := "(I)Z" } : Jvm.MethodName)) ∈ lw_all := lw_g (lw_at lw_m3 48 rfl) rfl
theorem q541 : (Jvm.Cond.code ({ cls := "BinaryTreeAddressableHeapDeskModel", name := "drop", desc := "(I)Z" } : Jvm.MethodName) prog_8_method_9_code (3 : Nat) (Option.some Jvm.ClassFile.FieldType.boolean)) ∈ lw_all := lw_g (lw_at lw_m3 49 rfl) rfl
theorem q543 : (Jvm.Cond.instanceMethod ({ cls := "BinaryTreeAddressableHeapDeskModel", name := "change", desc := "(II)Z" } : Jvm.MethodName)) ∈ lw_all := lw_g (lw_at lw_m3 51 rfl) rfl
theorem q544 : (Jvm.Cond.selects "BinaryTreeAddressableHeapDeskModel" ({ cls := "BinaryTreeAddressableHeapDeskModel", name := "change", desc := "(II)Z" } : Jvm.MethodName) ({ cls := "BinaryTreeAddressableHeapDeskModel", name := "change", desc := "(II)Z" } : Jvm.MethodName)) ∈ lw_all := lw_g (lw_at lw_m3 52 rfl) rfl
theorem q545 : (Jvm.Cond.code ({ cls := "BinaryTreeAddressableHeapDeskModel", name := "change", desc := "(II)Z" } : Jvm.MethodName) prog_8_method_10_code (4 : Nat) (Option.some Jvm.ClassFile.FieldType.boolean)) ∈ lw_all := lw_g (lw_at lw_m3 53 rfl) rfl
theorem q547 : (Jvm.Cond.instanceMethod ({ cls := "BinaryTreeAddressableHeapDeskModel", name := "key", desc := "(I)I" } : Jvm.MethodName)) ∈ lw_all := lw_g (lw_at lw_m3 55 rfl) rfl
theorem q548 : (Jvm.Cond.selects "BinaryTreeAddressableHeapDeskModel" ({ cls := "BinaryTreeAddressableHeapDeskModel", name := "key", desc := "(I)I" } : Jvm.MethodName) ({ cls := "BinaryTreeAddressableHeapDeskModel", name := "key", desc := "(I)I" } : Jvm.MethodName)) ∈ lw_all := lw_g (lw_at lw_m3 56 rfl) rfl
theorem q549 : (Jvm.Cond.code ({ cls := "BinaryTreeAddressableHeapDeskModel", name := "key", desc := "(I)I" } : Jvm.MethodName) prog_8_method_11_code (3 : Nat) (Option.some Jvm.ClassFile.FieldType.int)) ∈ lw_all := lw_g (lw_at lw_m3 57 rfl) rfl
theorem q551 : (Jvm.Cond.instanceMethod ({ cls := "BinaryTreeAddressableHeapDeskModel", name := "size", desc := "(I)I" } : Jvm.MethodName)) ∈ lw_all := lw_g (lw_at lw_m3 59 rfl) rfl
theorem q552 : (Jvm.Cond.selects "BinaryTreeAddressableHeapDeskModel" ({ cls := "BinaryTreeAddressableHeapDeskModel", name := "size", desc := "(I)I" } : Jvm.MethodName) ({ cls := "BinaryTreeAddressableHeapDeskModel", name := "size", desc := "(I)I" } : Jvm.MethodName)) ∈ lw_all := lw_g (lw_at lw_m3 60 rfl) rfl
theorem q553 : (Jvm.Cond.code ({ cls := "BinaryTreeAddressableHeapDeskModel", name := "size", desc := "(I)I" } : Jvm.MethodName) prog_8_method_12_code (4 : Nat) (Option.some Jvm.ClassFile.FieldType.int)) ∈ lw_all := lw_g (lw_at lw_m3 61 rfl) rfl
theorem q555 : (Jvm.Cond.instanceMethod ({ cls := "BinaryTreeAddressableHeapDeskModel", name := "clear", desc := "(I)V" } : Jvm.MethodName)) ∈ lw_all := lw_g (lw_at lw_m3 63 rfl) rfl
theorem q556 : (Jvm.Cond.selects "BinaryTreeAddressableHeapDeskModel" ({ cls := "BinaryTreeAddressableHeapDeskModel", name := "clear", desc := "(I)V" } : Jvm.MethodName) ({ cls := "BinaryTreeAddressableHeapDeskModel", name := "clear", desc := "(I)V" } : Jvm.MethodName)) ∈ lw_all := lw_g (lw_at lw_m3 64 rfl) rfl
theorem q557 : (Jvm.Cond.code ({ cls := "BinaryTreeAddressableHeapDeskModel", name := "clear", desc := "(I)V" } : Jvm.MethodName) prog_8_method_13_code (3 : Nat) (Option.none : Option Jvm.ClassFile.FieldType)) ∈ lw_all := lw_g (lw_at lw_m3 65 rfl) rfl
theorem q566 : (Jvm.Cond.castable "BinaryTreeAddressableHeapDeskModel" "java/lang/Object") ∈ lw_tbl := lw_at lw_m3 74 rfl
theorem in_X2 : ∀ w ∈ wsX20, w ∈ lw_all := lw_in wsX20 [499, 501, 503, 505] (by decide +kernel) (by decide +kernel)
end
section
/-! BinaryTreeAddressableHeap$Node -/
set_option maxRecDepth 100000
def RX3 : String := "BinaryTreeAddressableHeap$Node"
def TX3 : u_T := fun k => match k with
  | 0 => ("BinaryTreeAddressableHeap$Node", "key", "Ljava/lang/Object;", false)
  | 1 => ("BinaryTreeAddressableHeap$Node", "value", "Ljava/lang/Object;", false)
  | 2 => ("BinaryTreeAddressableHeap$Node", "o_c", "LBinaryTreeAddressableHeap$Node;", false)
  | 3 => ("BinaryTreeAddressableHeap$Node", "y_s", "LBinaryTreeAddressableHeap$Node;", false)
  | _ => ("BinaryTreeAddressableHeap$Node", "this$0", "LBinaryTreeAddressableHeap;", true)
def tyX3 : Nat → FieldType := fun k => match k with
  | 0 => .object "java/lang/Object"
  | 1 => .object "java/lang/Object"
  | 2 => .object "BinaryTreeAddressableHeap$Node"
  | 3 => .object "BinaryTreeAddressableHeap$Node"
  | _ => .object "BinaryTreeAddressableHeap"
abbrev wsX30 : List Cond := u_ws RX3 TX3 5
theorem nmX3 : ∀ a, a < 5 → ∀ b, b < 5 → a ≠ b → (TX3 a).2.1 ≠ (TX3 b).2.1 := by decide +kernel
theorem tyX3_ok : ∀ k, k < 5 → parseFieldDescriptor (TX3 k).2.2.1 = some (tyX3 k) := by decide +kernel
abbrev cX3_init : ByteArray := prog_4_method_1_code
def yX3_init : MethodName := ⟨RX3, "<init>", "(LBinaryTreeAddressableHeap;Ljava/lang/Object;Ljava/lang/Object;)V"⟩
def dkwX3_init_1 : List UInt8 := [42, 1, 181, 0, 24, 177]
abbrev dktX3_init_1 : List UInt8 := dkwX3_init_1 ++ []
def dkwX3_init_0 : List UInt8 := [42, 43, 181, 0, 1, 42, 183, 0, 7, 42, 44, 181, 0, 13, 42, 45, 181, 0, 17, 42, 1, 181, 0, 20]
abbrev dktX3_init_0 : List UInt8 := dkwX3_init_0 ++ dktX3_init_1
theorem dksX3_init_0 : cX3_init.data.toList.drop 0 = dktX3_init_0 := by decide +kernel
theorem dksX3_init_1 : cX3_init.data.toList.drop 24 = dktX3_init_1 := dk_seg dksX3_init_0 24 rfl rfl
theorem dX3_init_0 : decode cX3_init 0 = .ok (.aload_n 0, 1) := dk_42 (dk_at dksX3_init_0 0 rfl rfl)
theorem dX3_init_1 : decode cX3_init 1 = .ok (.aload_n 1, 1) := dk_43 (dk_at dksX3_init_0 1 rfl rfl)
theorem dX3_init_2 : decode cX3_init 2 = .ok (.putfield 1, 3) := dk_181 0 1 (dk_at dksX3_init_0 2 rfl rfl)
theorem dX3_init_5 : decode cX3_init 5 = .ok (.aload_n 0, 1) := dk_42 (dk_at dksX3_init_0 5 rfl rfl)
theorem dX3_init_6 : decode cX3_init 6 = .ok (.invokespecial 7, 3) := dk_183 0 7 (dk_at dksX3_init_0 6 rfl rfl)
theorem dX3_init_9 : decode cX3_init 9 = .ok (.aload_n 0, 1) := dk_42 (dk_at dksX3_init_0 9 rfl rfl)
theorem dX3_init_10 : decode cX3_init 10 = .ok (.aload_n 2, 1) := dk_44 (dk_at dksX3_init_0 10 rfl rfl)
theorem dX3_init_11 : decode cX3_init 11 = .ok (.putfield 13, 3) := dk_181 0 13 (dk_at dksX3_init_0 11 rfl rfl)
theorem dX3_init_14 : decode cX3_init 14 = .ok (.aload_n 0, 1) := dk_42 (dk_at dksX3_init_0 14 rfl rfl)
theorem dX3_init_15 : decode cX3_init 15 = .ok (.aload_n 3, 1) := dk_45 (dk_at dksX3_init_0 15 rfl rfl)
theorem dX3_init_16 : decode cX3_init 16 = .ok (.putfield 17, 3) := dk_181 0 17 (dk_at dksX3_init_0 16 rfl rfl)
theorem dX3_init_19 : decode cX3_init 19 = .ok (.aload_n 0, 1) := dk_42 (dk_at dksX3_init_0 19 rfl rfl)
theorem dX3_init_20 : decode cX3_init 20 = .ok (.aconst_null, 1) := dk_1 (dk_at dksX3_init_0 20 rfl rfl)
theorem dX3_init_21 : decode cX3_init 21 = .ok (.putfield 20, 3) := dk_181 0 20 (dk_at dksX3_init_0 21 rfl rfl)
theorem dX3_init_24 : decode cX3_init 24 = .ok (.aload_n 0, 1) := dk_42 (dk_at dksX3_init_1 0 rfl rfl)
theorem dX3_init_25 : decode cX3_init 25 = .ok (.aconst_null, 1) := dk_1 (dk_at dksX3_init_1 1 rfl rfl)
theorem dX3_init_26 : decode cX3_init 26 = .ok (.putfield 24, 3) := dk_181 0 24 (dk_at dksX3_init_1 2 rfl rfl)
theorem dX3_init_29 : decode cX3_init 29 = .ok (.return_, 1) := dk_177 (dk_at dksX3_init_1 5 rfl rfl)
abbrev cX3_getKey : ByteArray := prog_4_method_2_code
def yX3_getKey : MethodName := ⟨RX3, "getKey", "()Ljava/lang/Object;"⟩
theorem dX3_getKey_0 : decode cX3_getKey 0 = .ok (.aload_n 0, 1) := by decide +kernel
theorem dX3_getKey_1 : decode cX3_getKey 1 = .ok (.getfield 13, 3) := by decide +kernel
theorem dX3_getKey_4 : decode cX3_getKey 4 = .ok (.areturn, 1) := by decide +kernel
abbrev cX3_getValue : ByteArray := prog_4_method_3_code
def yX3_getValue : MethodName := ⟨RX3, "getValue", "()Ljava/lang/Object;"⟩
theorem dX3_getValue_0 : decode cX3_getValue 0 = .ok (.aload_n 0, 1) := by decide +kernel
theorem dX3_getValue_1 : decode cX3_getValue 1 = .ok (.getfield 17, 3) := by decide +kernel
theorem dX3_getValue_4 : decode cX3_getValue 4 = .ok (.areturn, 1) := by decide +kernel
abbrev cX3_decreaseKey : ByteArray := prog_4_method_5_code
def yX3_decreaseKey : MethodName := ⟨RX3, "decreaseKey", "(Ljava/lang/Object;)V"⟩
def dkwX3_decreaseKey_4 : List UInt8 := [42, 180, 0, 1, 180, 0, 27, 42, 166, 0, 4, 177, 42, 180, 0, 1, 42, 182, 0, 58, 177]
abbrev dktX3_decreaseKey_4 : List UInt8 := dkwX3_decreaseKey_4 ++ []
def dkwX3_decreaseKey_3 : List UInt8 := [61, 28, 158, 0, 13, 187, 0, 32, 89, 18, 56, 183, 0, 36, 191, 42, 43, 181, 0, 13, 28, 153, 0, 14]
abbrev dktX3_decreaseKey_3 : List UInt8 := dkwX3_decreaseKey_3 ++ dktX3_decreaseKey_4
def dkwX3_decreaseKey_2 : List UInt8 := [184, 0, 45, 61, 167, 0, 21, 42, 180, 0, 1, 180, 0, 39, 43, 42, 180, 0, 13, 185, 0, 51, 3, 0]
abbrev dktX3_decreaseKey_2 : List UInt8 := dkwX3_decreaseKey_2 ++ dktX3_decreaseKey_3
def dkwX3_decreaseKey_1 : List UInt8 := [183, 0, 36, 191, 42, 180, 0, 1, 180, 0, 39, 199, 0, 18, 43, 192, 0, 43, 42, 180, 0, 13]
abbrev dktX3_decreaseKey_1 : List UInt8 := dkwX3_decreaseKey_1 ++ dktX3_decreaseKey_2
def dkwX3_decreaseKey_0 : List UInt8 := [42, 42, 180, 0, 1, 180, 0, 27, 165, 0, 20, 42, 180, 0, 24, 199, 0, 13, 187, 0, 32, 89, 18, 34]
abbrev dktX3_decreaseKey_0 : List UInt8 := dkwX3_decreaseKey_0 ++ dktX3_decreaseKey_1
theorem dksX3_decreaseKey_0 : cX3_decreaseKey.data.toList.drop 0 = dktX3_decreaseKey_0 := by decide +kernel
theorem dksX3_decreaseKey_1 : cX3_decreaseKey.data.toList.drop 24 = dktX3_decreaseKey_1 := dk_seg dksX3_decreaseKey_0 24 rfl rfl
theorem dksX3_decreaseKey_2 : cX3_decreaseKey.data.toList.drop 46 = dktX3_decreaseKey_2 := dk_seg dksX3_decreaseKey_1 22 rfl rfl
theorem dksX3_decreaseKey_3 : cX3_decreaseKey.data.toList.drop 70 = dktX3_decreaseKey_3 := dk_seg dksX3_decreaseKey_2 24 rfl rfl
theorem dksX3_decreaseKey_4 : cX3_decreaseKey.data.toList.drop 94 = dktX3_decreaseKey_4 := dk_seg dksX3_decreaseKey_3 24 rfl rfl
theorem dX3_decreaseKey_0 : decode cX3_decreaseKey 0 = .ok (.aload_n 0, 1) := dk_42 (dk_at dksX3_decreaseKey_0 0 rfl rfl)
theorem dX3_decreaseKey_1 : decode cX3_decreaseKey 1 = .ok (.aload_n 0, 1) := dk_42 (dk_at dksX3_decreaseKey_0 1 rfl rfl)
theorem dX3_decreaseKey_2 : decode cX3_decreaseKey 2 = .ok (.getfield 1, 3) := dk_180 0 1 (dk_at dksX3_decreaseKey_0 2 rfl rfl)
theorem dX3_decreaseKey_5 : decode cX3_decreaseKey 5 = .ok (.getfield 27, 3) := dk_180 0 27 (dk_at dksX3_decreaseKey_0 5 rfl rfl)
theorem dX3_decreaseKey_8 : decode cX3_decreaseKey 8 = .ok (.if_acmp .eq 20, 3) := dk_165 0 20 (dk_at dksX3_decreaseKey_0 8 rfl rfl)
theorem dX3_decreaseKey_11 : decode cX3_decreaseKey 11 = .ok (.aload_n 0, 1) := dk_42 (dk_at dksX3_decreaseKey_0 11 rfl rfl)
theorem dX3_decreaseKey_12 : decode cX3_decreaseKey 12 = .ok (.getfield 24, 3) := dk_180 0 24 (dk_at dksX3_decreaseKey_0 12 rfl rfl)
theorem dX3_decreaseKey_15 : decode cX3_decreaseKey 15 = .ok (.ifnonnull 13, 3) := dk_199 0 13 (dk_at dksX3_decreaseKey_0 15 rfl rfl)
theorem dX3_decreaseKey_18 : decode cX3_decreaseKey 18 = .ok (.new 32, 3) := dk_187 0 32 (dk_at dksX3_decreaseKey_0 18 rfl rfl)
theorem dX3_decreaseKey_21 : decode cX3_decreaseKey 21 = .ok (.dup, 1) := dk_89 (dk_at dksX3_decreaseKey_0 21 rfl rfl)
theorem dX3_decreaseKey_22 : decode cX3_decreaseKey 22 = .ok (.ldc 34, 2) := dk_18 34 (dk_at dksX3_decreaseKey_0 22 rfl rfl)
theorem dX3_decreaseKey_24 : decode cX3_decreaseKey 24 = .ok (.invokespecial 36, 3) := dk_183 0 36 (dk_at dksX3_decreaseKey_1 0 rfl rfl)
theorem dX3_decreaseKey_27 : decode cX3_decreaseKey 27 = .ok (.athrow, 1) := dk_191 (dk_at dksX3_decreaseKey_1 3 rfl rfl)
theorem dX3_decreaseKey_28 : decode cX3_decreaseKey 28 = .ok (.aload_n 0, 1) := dk_42 (dk_at dksX3_decreaseKey_1 4 rfl rfl)
theorem dX3_decreaseKey_29 : decode cX3_decreaseKey 29 = .ok (.getfield 1, 3) := dk_180 0 1 (dk_at dksX3_decreaseKey_1 5 rfl rfl)
theorem dX3_decreaseKey_32 : decode cX3_decreaseKey 32 = .ok (.getfield 39, 3) := dk_180 0 39 (dk_at dksX3_decreaseKey_1 8 rfl rfl)
theorem dX3_decreaseKey_35 : decode cX3_decreaseKey 35 = .ok (.ifnonnull 18, 3) := dk_199 0 18 (dk_at dksX3_decreaseKey_1 11 rfl rfl)
theorem dX3_decreaseKey_38 : decode cX3_decreaseKey 38 = .ok (.aload_n 1, 1) := dk_43 (dk_at dksX3_decreaseKey_1 14 rfl rfl)
theorem dX3_decreaseKey_39 : decode cX3_decreaseKey 39 = .ok (.checkcast 43, 3) := dk_192 0 43 (dk_at dksX3_decreaseKey_1 15 rfl rfl)
theorem dX3_decreaseKey_42 : decode cX3_decreaseKey 42 = .ok (.aload_n 0, 1) := dk_42 (dk_at dksX3_decreaseKey_1 18 rfl rfl)
theorem dX3_decreaseKey_43 : decode cX3_decreaseKey 43 = .ok (.getfield 13, 3) := dk_180 0 13 (dk_at dksX3_decreaseKey_1 19 rfl rfl)
theorem dX3_decreaseKey_46 : decode cX3_decreaseKey 46 = .ok (.invokestatic 45, 3) := dk_184 0 45 (dk_at dksX3_decreaseKey_2 0 rfl rfl)
theorem dX3_decreaseKey_49 : decode cX3_decreaseKey 49 = .ok (.istore_n 2, 1) := dk_61 (dk_at dksX3_decreaseKey_2 3 rfl rfl)
theorem dX3_decreaseKey_50 : decode cX3_decreaseKey 50 = .ok (.goto 21, 3) := dk_167 0 21 (dk_at dksX3_decreaseKey_2 4 rfl rfl)
theorem dX3_decreaseKey_53 : decode cX3_decreaseKey 53 = .ok (.aload_n 0, 1) := dk_42 (dk_at dksX3_decreaseKey_2 7 rfl rfl)
theorem dX3_decreaseKey_54 : decode cX3_decreaseKey 54 = .ok (.getfield 1, 3) := dk_180 0 1 (dk_at dksX3_decreaseKey_2 8 rfl rfl)
theorem dX3_decreaseKey_57 : decode cX3_decreaseKey 57 = .ok (.getfield 39, 3) := dk_180 0 39 (dk_at dksX3_decreaseKey_2 11 rfl rfl)
theorem dX3_decreaseKey_60 : decode cX3_decreaseKey 60 = .ok (.aload_n 1, 1) := dk_43 (dk_at dksX3_decreaseKey_2 14 rfl rfl)
theorem dX3_decreaseKey_61 : decode cX3_decreaseKey 61 = .ok (.aload_n 0, 1) := dk_42 (dk_at dksX3_decreaseKey_2 15 rfl rfl)
theorem dX3_decreaseKey_62 : decode cX3_decreaseKey 62 = .ok (.getfield 13, 3) := dk_180 0 13 (dk_at dksX3_decreaseKey_2 16 rfl rfl)
theorem dX3_decreaseKey_65 : decode cX3_decreaseKey 65 = .ok (.invokeinterface 51 3, 5) := by decide +kernel
theorem dX3_decreaseKey_70 : decode cX3_decreaseKey 70 = .ok (.istore_n 2, 1) := dk_61 (dk_at dksX3_decreaseKey_3 0 rfl rfl)
theorem dX3_decreaseKey_71 : decode cX3_decreaseKey 71 = .ok (.iload_n 2, 1) := dk_28 (dk_at dksX3_decreaseKey_3 1 rfl rfl)
theorem dX3_decreaseKey_72 : decode cX3_decreaseKey 72 = .ok (.ifCond .le 13, 3) := dk_158 0 13 (dk_at dksX3_decreaseKey_3 2 rfl rfl)
theorem dX3_decreaseKey_75 : decode cX3_decreaseKey 75 = .ok (.new 32, 3) := dk_187 0 32 (dk_at dksX3_decreaseKey_3 5 rfl rfl)
theorem dX3_decreaseKey_78 : decode cX3_decreaseKey 78 = .ok (.dup, 1) := dk_89 (dk_at dksX3_decreaseKey_3 8 rfl rfl)
theorem dX3_decreaseKey_79 : decode cX3_decreaseKey 79 = .ok (.ldc 56, 2) := dk_18 56 (dk_at dksX3_decreaseKey_3 9 rfl rfl)
theorem dX3_decreaseKey_81 : decode cX3_decreaseKey 81 = .ok (.invokespecial 36, 3) := dk_183 0 36 (dk_at dksX3_decreaseKey_3 11 rfl rfl)
theorem dX3_decreaseKey_84 : decode cX3_decreaseKey 84 = .ok (.athrow, 1) := dk_191 (dk_at dksX3_decreaseKey_3 14 rfl rfl)
theorem dX3_decreaseKey_85 : decode cX3_decreaseKey 85 = .ok (.aload_n 0, 1) := dk_42 (dk_at dksX3_decreaseKey_3 15 rfl rfl)
theorem dX3_decreaseKey_86 : decode cX3_decreaseKey 86 = .ok (.aload_n 1, 1) := dk_43 (dk_at dksX3_decreaseKey_3 16 rfl rfl)
theorem dX3_decreaseKey_87 : decode cX3_decreaseKey 87 = .ok (.putfield 13, 3) := dk_181 0 13 (dk_at dksX3_decreaseKey_3 17 rfl rfl)
theorem dX3_decreaseKey_90 : decode cX3_decreaseKey 90 = .ok (.iload_n 2, 1) := dk_28 (dk_at dksX3_decreaseKey_3 20 rfl rfl)
theorem dX3_decreaseKey_91 : decode cX3_decreaseKey 91 = .ok (.ifCond .eq 14, 3) := dk_153 0 14 (dk_at dksX3_decreaseKey_3 21 rfl rfl)
theorem dX3_decreaseKey_94 : decode cX3_decreaseKey 94 = .ok (.aload_n 0, 1) := dk_42 (dk_at dksX3_decreaseKey_4 0 rfl rfl)
theorem dX3_decreaseKey_95 : decode cX3_decreaseKey 95 = .ok (.getfield 1, 3) := dk_180 0 1 (dk_at dksX3_decreaseKey_4 1 rfl rfl)
theorem dX3_decreaseKey_98 : decode cX3_decreaseKey 98 = .ok (.getfield 27, 3) := dk_180 0 27 (dk_at dksX3_decreaseKey_4 4 rfl rfl)
theorem dX3_decreaseKey_101 : decode cX3_decreaseKey 101 = .ok (.aload_n 0, 1) := dk_42 (dk_at dksX3_decreaseKey_4 7 rfl rfl)
theorem dX3_decreaseKey_102 : decode cX3_decreaseKey 102 = .ok (.if_acmp .ne 4, 3) := dk_166 0 4 (dk_at dksX3_decreaseKey_4 8 rfl rfl)
theorem dX3_decreaseKey_105 : decode cX3_decreaseKey 105 = .ok (.return_, 1) := dk_177 (dk_at dksX3_decreaseKey_4 11 rfl rfl)
theorem dX3_decreaseKey_106 : decode cX3_decreaseKey 106 = .ok (.aload_n 0, 1) := dk_42 (dk_at dksX3_decreaseKey_4 12 rfl rfl)
theorem dX3_decreaseKey_107 : decode cX3_decreaseKey 107 = .ok (.getfield 1, 3) := dk_180 0 1 (dk_at dksX3_decreaseKey_4 13 rfl rfl)
theorem dX3_decreaseKey_110 : decode cX3_decreaseKey 110 = .ok (.aload_n 0, 1) := dk_42 (dk_at dksX3_decreaseKey_4 16 rfl rfl)
theorem dX3_decreaseKey_111 : decode cX3_decreaseKey 111 = .ok (.invokevirtual 58, 3) := dk_182 0 58 (dk_at dksX3_decreaseKey_4 17 rfl rfl)
theorem dX3_decreaseKey_114 : decode cX3_decreaseKey 114 = .ok (.return_, 1) := dk_177 (dk_at dksX3_decreaseKey_4 20 rfl rfl)
abbrev cX3_delete : ByteArray := prog_4_method_6_code
def yX3_delete : MethodName := ⟨RX3, "delete", "()V"⟩
def dkwX3_delete_3 : List UInt8 := [182, 0, 70, 87, 42, 1, 181, 0, 20, 42, 1, 181, 0, 24, 177]
abbrev dktX3_delete_3 : List UInt8 := dkwX3_delete_3 ++ []
def dkwX3_delete_2 : List UInt8 := [182, 0, 62, 77, 42, 180, 0, 1, 42, 43, 44, 182, 0, 66, 44, 76, 167, 255, 231, 42, 180, 0, 1]
abbrev dktX3_delete_2 : List UInt8 := dkwX3_delete_2 ++ dktX3_delete_3
def dkwX3_delete_1 : List UInt8 := [183, 0, 36, 191, 42, 180, 0, 1, 42, 182, 0, 62, 76, 43, 198, 0, 27, 42, 180, 0, 1, 43]
abbrev dktX3_delete_1 : List UInt8 := dkwX3_delete_1 ++ dktX3_delete_2
def dkwX3_delete_0 : List UInt8 := [42, 42, 180, 0, 1, 180, 0, 27, 165, 0, 20, 42, 180, 0, 24, 199, 0, 13, 187, 0, 32, 89, 18, 34]
abbrev dktX3_delete_0 : List UInt8 := dkwX3_delete_0 ++ dktX3_delete_1
theorem dksX3_delete_0 : cX3_delete.data.toList.drop 0 = dktX3_delete_0 := by decide +kernel
theorem dksX3_delete_1 : cX3_delete.data.toList.drop 24 = dktX3_delete_1 := dk_seg dksX3_delete_0 24 rfl rfl
theorem dksX3_delete_2 : cX3_delete.data.toList.drop 46 = dktX3_delete_2 := dk_seg dksX3_delete_1 22 rfl rfl
theorem dksX3_delete_3 : cX3_delete.data.toList.drop 69 = dktX3_delete_3 := dk_seg dksX3_delete_2 23 rfl rfl
theorem dX3_delete_0 : decode cX3_delete 0 = .ok (.aload_n 0, 1) := dk_42 (dk_at dksX3_delete_0 0 rfl rfl)
theorem dX3_delete_1 : decode cX3_delete 1 = .ok (.aload_n 0, 1) := dk_42 (dk_at dksX3_delete_0 1 rfl rfl)
theorem dX3_delete_2 : decode cX3_delete 2 = .ok (.getfield 1, 3) := dk_180 0 1 (dk_at dksX3_delete_0 2 rfl rfl)
theorem dX3_delete_5 : decode cX3_delete 5 = .ok (.getfield 27, 3) := dk_180 0 27 (dk_at dksX3_delete_0 5 rfl rfl)
theorem dX3_delete_8 : decode cX3_delete 8 = .ok (.if_acmp .eq 20, 3) := dk_165 0 20 (dk_at dksX3_delete_0 8 rfl rfl)
theorem dX3_delete_11 : decode cX3_delete 11 = .ok (.aload_n 0, 1) := dk_42 (dk_at dksX3_delete_0 11 rfl rfl)
theorem dX3_delete_12 : decode cX3_delete 12 = .ok (.getfield 24, 3) := dk_180 0 24 (dk_at dksX3_delete_0 12 rfl rfl)
theorem dX3_delete_15 : decode cX3_delete 15 = .ok (.ifnonnull 13, 3) := dk_199 0 13 (dk_at dksX3_delete_0 15 rfl rfl)
theorem dX3_delete_18 : decode cX3_delete 18 = .ok (.new 32, 3) := dk_187 0 32 (dk_at dksX3_delete_0 18 rfl rfl)
theorem dX3_delete_21 : decode cX3_delete 21 = .ok (.dup, 1) := dk_89 (dk_at dksX3_delete_0 21 rfl rfl)
theorem dX3_delete_22 : decode cX3_delete 22 = .ok (.ldc 34, 2) := dk_18 34 (dk_at dksX3_delete_0 22 rfl rfl)
theorem dX3_delete_24 : decode cX3_delete 24 = .ok (.invokespecial 36, 3) := dk_183 0 36 (dk_at dksX3_delete_1 0 rfl rfl)
theorem dX3_delete_27 : decode cX3_delete 27 = .ok (.athrow, 1) := dk_191 (dk_at dksX3_delete_1 3 rfl rfl)
theorem dX3_delete_28 : decode cX3_delete 28 = .ok (.aload_n 0, 1) := dk_42 (dk_at dksX3_delete_1 4 rfl rfl)
theorem dX3_delete_29 : decode cX3_delete 29 = .ok (.getfield 1, 3) := dk_180 0 1 (dk_at dksX3_delete_1 5 rfl rfl)
theorem dX3_delete_32 : decode cX3_delete 32 = .ok (.aload_n 0, 1) := dk_42 (dk_at dksX3_delete_1 8 rfl rfl)
theorem dX3_delete_33 : decode cX3_delete 33 = .ok (.invokevirtual 62, 3) := dk_182 0 62 (dk_at dksX3_delete_1 9 rfl rfl)
theorem dX3_delete_36 : decode cX3_delete 36 = .ok (.astore_n 1, 1) := dk_76 (dk_at dksX3_delete_1 12 rfl rfl)
theorem dX3_delete_37 : decode cX3_delete 37 = .ok (.aload_n 1, 1) := dk_43 (dk_at dksX3_delete_1 13 rfl rfl)
theorem dX3_delete_38 : decode cX3_delete 38 = .ok (.ifnull 27, 3) := dk_198 0 27 (dk_at dksX3_delete_1 14 rfl rfl)
theorem dX3_delete_41 : decode cX3_delete 41 = .ok (.aload_n 0, 1) := dk_42 (dk_at dksX3_delete_1 17 rfl rfl)
theorem dX3_delete_42 : decode cX3_delete 42 = .ok (.getfield 1, 3) := dk_180 0 1 (dk_at dksX3_delete_1 18 rfl rfl)
theorem dX3_delete_45 : decode cX3_delete 45 = .ok (.aload_n 1, 1) := dk_43 (dk_at dksX3_delete_1 21 rfl rfl)
theorem dX3_delete_46 : decode cX3_delete 46 = .ok (.invokevirtual 62, 3) := dk_182 0 62 (dk_at dksX3_delete_2 0 rfl rfl)
theorem dX3_delete_49 : decode cX3_delete 49 = .ok (.astore_n 2, 1) := dk_77 (dk_at dksX3_delete_2 3 rfl rfl)
theorem dX3_delete_50 : decode cX3_delete 50 = .ok (.aload_n 0, 1) := dk_42 (dk_at dksX3_delete_2 4 rfl rfl)
theorem dX3_delete_51 : decode cX3_delete 51 = .ok (.getfield 1, 3) := dk_180 0 1 (dk_at dksX3_delete_2 5 rfl rfl)
theorem dX3_delete_54 : decode cX3_delete 54 = .ok (.aload_n 0, 1) := dk_42 (dk_at dksX3_delete_2 8 rfl rfl)
theorem dX3_delete_55 : decode cX3_delete 55 = .ok (.aload_n 1, 1) := dk_43 (dk_at dksX3_delete_2 9 rfl rfl)
theorem dX3_delete_56 : decode cX3_delete 56 = .ok (.aload_n 2, 1) := dk_44 (dk_at dksX3_delete_2 10 rfl rfl)
theorem dX3_delete_57 : decode cX3_delete 57 = .ok (.invokevirtual 66, 3) := dk_182 0 66 (dk_at dksX3_delete_2 11 rfl rfl)
theorem dX3_delete_60 : decode cX3_delete 60 = .ok (.aload_n 2, 1) := dk_44 (dk_at dksX3_delete_2 14 rfl rfl)
theorem dX3_delete_61 : decode cX3_delete 61 = .ok (.astore_n 1, 1) := dk_76 (dk_at dksX3_delete_2 15 rfl rfl)
theorem dX3_delete_62 : decode cX3_delete 62 = .ok (.goto (-25), 3) := dk_167 255 231 (dk_at dksX3_delete_2 16 rfl rfl)
theorem dX3_delete_65 : decode cX3_delete 65 = .ok (.aload_n 0, 1) := dk_42 (dk_at dksX3_delete_2 19 rfl rfl)
theorem dX3_delete_66 : decode cX3_delete 66 = .ok (.getfield 1, 3) := dk_180 0 1 (dk_at dksX3_delete_2 20 rfl rfl)
theorem dX3_delete_69 : decode cX3_delete 69 = .ok (.invokevirtual 70, 3) := dk_182 0 70 (dk_at dksX3_delete_3 0 rfl rfl)
theorem dX3_delete_72 : decode cX3_delete 72 = .ok (.pop, 1) := dk_87 (dk_at dksX3_delete_3 3 rfl rfl)
theorem dX3_delete_73 : decode cX3_delete 73 = .ok (.aload_n 0, 1) := dk_42 (dk_at dksX3_delete_3 4 rfl rfl)
theorem dX3_delete_74 : decode cX3_delete 74 = .ok (.aconst_null, 1) := dk_1 (dk_at dksX3_delete_3 5 rfl rfl)
theorem dX3_delete_75 : decode cX3_delete 75 = .ok (.putfield 20, 3) := dk_181 0 20 (dk_at dksX3_delete_3 6 rfl rfl)
theorem dX3_delete_78 : decode cX3_delete 78 = .ok (.aload_n 0, 1) := dk_42 (dk_at dksX3_delete_3 9 rfl rfl)
theorem dX3_delete_79 : decode cX3_delete 79 = .ok (.aconst_null, 1) := dk_1 (dk_at dksX3_delete_3 10 rfl rfl)
theorem dX3_delete_80 : decode cX3_delete 80 = .ok (.putfield 24, 3) := dk_181 0 24 (dk_at dksX3_delete_3 11 rfl rfl)
theorem dX3_delete_83 : decode cX3_delete 83 = .ok (.return_, 1) := dk_177 (dk_at dksX3_delete_3 14 rfl rfl)
abbrev cX3_setValue : ByteArray := prog_4_method_4_code
def yX3_setValue : MethodName := ⟨RX3, "setValue", "(Ljava/lang/Object;)V"⟩
def dkwX3_setValue_0 : List UInt8 := [42, 43, 181, 0, 17, 177]
abbrev dktX3_setValue_0 : List UInt8 := dkwX3_setValue_0 ++ []
theorem dksX3_setValue_0 : cX3_setValue.data.toList.drop 0 = dktX3_setValue_0 := by decide +kernel
theorem dX3_setValue_0 : decode cX3_setValue 0 = .ok (.aload_n 0, 1) := dk_42 (dk_at dksX3_setValue_0 0 rfl rfl)
theorem dX3_setValue_1 : decode cX3_setValue 1 = .ok (.aload_n 1, 1) := dk_43 (dk_at dksX3_setValue_0 1 rfl rfl)
theorem dX3_setValue_2 : decode cX3_setValue 2 = .ok (.putfield 17, 3) := dk_181 0 17 (dk_at dksX3_setValue_0 2 rfl rfl)
theorem dX3_setValue_5 : decode cX3_setValue 5 = .ok (.return_, 1) := dk_177 (dk_at dksX3_setValue_0 5 rfl rfl)
theorem q23 : (Jvm.Cond.initialized "BinaryTreeAddressableHeap$Node") ∈ lw_all := lw_g (lw_at lw_m1 11 rfl) rfl
theorem q56 : (Jvm.Cond.fieldLinkNest "BinaryTreeAddressableHeap$Node" (39 : Nat) "BinaryTreeAddressableHeap" "comparator" "Ljava/util/Comparator;" "BinaryTreeAddressableHeap") ∈ lw_tbl := lw_at lw_m1 44 rfl
theorem q59 : (Jvm.Cond.fieldLinkNest "BinaryTreeAddressableHeap$Node" (27 : Nat) "BinaryTreeAddressableHeap" "root" "LBinaryTreeAddressableHeap$Node;" "BinaryTreeAddressableHeap") ∈ lw_tbl := lw_at lw_m1 47 rfl
theorem q187 : (Jvm.Cond.instantiable "BinaryTreeAddressableHeap$Node" (5 : Nat)) ∈ lw_all := lw_g (lw_at lw_m1 175 rfl) rfl
theorem q189 : (Jvm.Cond.instanceMethod ({ cls := "BinaryTreeAddressableHeap$Node", name := "<init>", desc := "(LBinaryTreeAddressableHeap;Ljava/lang/Object;Ljava/lang/Object;)V" } : Jvm.MethodName)) ∈ lw_all := lw_g (lw_at lw_m1 177 rfl) rfl
theorem q190 : (Jvm.Cond.code ({ cls := "BinaryTreeAddressableHeap$Node", name := "<init>", desc := "(LBinaryTreeAddressableHeap;Ljava/lang/Object;Ljava/lang/Object;)V" } : Jvm.MethodName) prog_4_method_1_code (4 : Nat) (Option.none : Option Jvm.ClassFile.FieldType)) ∈ lw_all := lw_g (lw_at lw_m1 178 rfl) rfl
theorem q191 : (Jvm.Cond.methodLink "BinaryTreeAddressableHeap$Node" (7 : Nat) ({ cls := "java/lang/Object", name := "<init>", desc := "()V" } : Jvm.MethodName)) ∈ lw_all := lw_g (lw_at lw_m1 179 rfl) rfl
theorem q192 : (Jvm.Cond.fieldLink "BinaryTreeAddressableHeap$Node" (13 : Nat) "BinaryTreeAddressableHeap$Node" "key" "Ljava/lang/Object;") ∈ lw_all := lw_g (lw_at lw_m1 180 rfl) rfl
theorem q194 : (Jvm.Cond.fieldLink "BinaryTreeAddressableHeap$Node" (17 : Nat) "BinaryTreeAddressableHeap$Node" "value" "Ljava/lang/Object;") ∈ lw_all := lw_g (lw_at lw_m1 182 rfl) rfl
theorem q195 : (Jvm.Cond.fieldLink "BinaryTreeAddressableHeap$Node" (20 : Nat) "BinaryTreeAddressableHeap$Node" "o_c" "LBinaryTreeAddressableHeap$Node;") ∈ lw_all := lw_g (lw_at lw_m1 183 rfl) rfl
theorem q197 : (Jvm.Cond.fieldLink "BinaryTreeAddressableHeap$Node" (24 : Nat) "BinaryTreeAddressableHeap$Node" "y_s" "LBinaryTreeAddressableHeap$Node;") ∈ lw_all := lw_g (lw_at lw_m1 185 rfl) rfl
theorem q199 : (Jvm.Cond.fieldLink "BinaryTreeAddressableHeap$Node" (1 : Nat) "BinaryTreeAddressableHeap$Node" "this$0" "LBinaryTreeAddressableHeap;") ∈ lw_all := lw_g (lw_at lw_m1 187 rfl) rfl
theorem q200 : (Jvm.Cond.lays "BinaryTreeAddressableHeap$Node" "BinaryTreeAddressableHeap$Node" "key" "Ljava/lang/Object;") ∈ lw_all := lw_g (lw_at lw_m1 188 rfl) rfl
theorem q201 : (Jvm.Cond.soleField "BinaryTreeAddressableHeap$Node" "key") ∈ lw_all := lw_g (lw_at lw_m1 189 rfl) rfl
theorem q202 : (Jvm.Cond.lays "BinaryTreeAddressableHeap$Node" "BinaryTreeAddressableHeap$Node" "value" "Ljava/lang/Object;") ∈ lw_all := lw_g (lw_at lw_m1 190 rfl) rfl
theorem q203 : (Jvm.Cond.soleField "BinaryTreeAddressableHeap$Node" "value") ∈ lw_all := lw_g (lw_at lw_m1 191 rfl) rfl
theorem q204 : (Jvm.Cond.lays "BinaryTreeAddressableHeap$Node" "BinaryTreeAddressableHeap$Node" "o_c" "LBinaryTreeAddressableHeap$Node;") ∈ lw_all := lw_g (lw_at lw_m1 192 rfl) rfl
theorem q205 : (Jvm.Cond.soleField "BinaryTreeAddressableHeap$Node" "o_c") ∈ lw_all := lw_g (lw_at lw_m1 193 rfl) rfl
theorem q206 : (Jvm.Cond.lays "BinaryTreeAddressableHeap$Node" "BinaryTreeAddressableHeap$Node" "y_s" "LBinaryTreeAddressableHeap$Node;") ∈ lw_all := lw_g (lw_at lw_m1 194 rfl) rfl
theorem q207 : (Jvm.Cond.soleField "BinaryTreeAddressableHeap$Node" "y_s") ∈ lw_all := lw_g (lw_at lw_m1 195 rfl) rfl
theorem q208 : (Jvm.Cond.laysFinal "BinaryTreeAddressableHeap$Node" "BinaryTreeAddressableHeap$Node" "this$0" "LBinaryTreeAddressableHeap;") ∈ lw_all := lw_g (lw_at lw_m1 196 rfl) rfl
theorem q209 : (Jvm.Cond.soleField "BinaryTreeAddressableHeap$Node" "this$0") ∈ lw_all := lw_g (lw_at lw_m1 197 rfl) rfl
theorem q210 : (Jvm.Cond.superclass "BinaryTreeAddressableHeap$Node" "java/lang/Object") ∈ lw_all := lw_g (lw_at lw_m1 198 rfl) rfl
theorem q369 : (Jvm.Cond.castable "BinaryTreeAddressableHeap$Node" "AddressableHeap$Handle") ∈ lw_tbl := lw_at lw_m2 117 rfl
theorem q370 : (Jvm.Cond.selects "BinaryTreeAddressableHeap$Node" ({ cls := "AddressableHeap$Handle", name := "getKey", desc := "()Ljava/lang/Object;" } : Jvm.MethodName) ({ cls := "BinaryTreeAddressableHeap$Node", name := "getKey", desc := "()Ljava/lang/Object;" } : Jvm.MethodName)) ∈ lw_all := lw_g (lw_at lw_m2 118 rfl) rfl
theorem q371 : (Jvm.Cond.unhidden "BinaryTreeAddressableHeap$Node" "getKey" "()Ljava/lang/Object;") ∈ lw_tbl := lw_at lw_m2 119 rfl
theorem q372 : (Jvm.Cond.instanceMethod ({ cls := "BinaryTreeAddressableHeap$Node", name := "getKey", desc := "()Ljava/lang/Object;" } : Jvm.MethodName)) ∈ lw_all := lw_g (lw_at lw_m2 120 rfl) rfl
theorem q373 : (Jvm.Cond.publicMethod ({ cls := "BinaryTreeAddressableHeap$Node", name := "getKey", desc := "()Ljava/lang/Object;" } : Jvm.MethodName)) ∈ lw_tbl := lw_at lw_m2 121 rfl
theorem q374 : (Jvm.Cond.code ({ cls := "BinaryTreeAddressableHeap$Node", name := "getKey", desc := "()Ljava/lang/Object;" } : Jvm.MethodName) prog_4_method_2_code (1 : Nat) (Option.some (Jvm.ClassFile.FieldType.object "java/lang/Object"))) ∈ lw_all := lw_g (lw_at lw_m2 122 rfl) rfl
theorem q383 : (Jvm.Cond.selects "BinaryTreeAddressableHeap$Node" ({ cls := "AddressableHeap$Handle", name := "getValue", desc := "()Ljava/lang/Object;" } : Jvm.MethodName) ({ cls := "BinaryTreeAddressableHeap$Node", name := "getValue", desc := "()Ljava/lang/Object;" } : Jvm.MethodName)) ∈ lw_all := lw_g (lw_at lw_m2 131 rfl) rfl
theorem q384 : (Jvm.Cond.unhidden "BinaryTreeAddressableHeap$Node" "getValue" "()Ljava/lang/Object;") ∈ lw_tbl := lw_at lw_m2 132 rfl
theorem q385 : (Jvm.Cond.instanceMethod ({ cls := "BinaryTreeAddressableHeap$Node", name := "getValue", desc := "()Ljava/lang/Object;" } : Jvm.MethodName)) ∈ lw_all := lw_g (lw_at lw_m2 133 rfl) rfl
theorem q386 : (Jvm.Cond.publicMethod ({ cls := "BinaryTreeAddressableHeap$Node", name := "getValue", desc := "()Ljava/lang/Object;" } : Jvm.MethodName)) ∈ lw_tbl := lw_at lw_m2 134 rfl
theorem q387 : (Jvm.Cond.code ({ cls := "BinaryTreeAddressableHeap$Node", name := "getValue", desc := "()Ljava/lang/Object;" } : Jvm.MethodName) prog_4_method_3_code (1 : Nat) (Option.some (Jvm.ClassFile.FieldType.object "java/lang/Object"))) ∈ lw_all := lw_g (lw_at lw_m2 135 rfl) rfl
theorem q413 : (Jvm.Cond.selects "BinaryTreeAddressableHeap$Node" ({ cls := "AddressableHeap$Handle", name := "decreaseKey", desc := "(Ljava/lang/Object;)V" } : Jvm.MethodName) ({ cls := "BinaryTreeAddressableHeap$Node", name := "decreaseKey", desc := "(Ljava/lang/Object;)V" } : Jvm.MethodName)) ∈ lw_all := lw_g (lw_at lw_m2 161 rfl) rfl
theorem q414 : (Jvm.Cond.unhidden "BinaryTreeAddressableHeap$Node" "decreaseKey" "(Ljava/lang/Object;)V") ∈ lw_tbl := lw_at lw_m2 162 rfl
theorem q415 : (Jvm.Cond.instanceMethod ({ cls := "BinaryTreeAddressableHeap$Node", name := "decreaseKey", desc := "(Ljava/lang/Object;)V" } : Jvm.MethodName)) ∈ lw_all := lw_g (lw_at lw_m2 163 rfl) rfl
theorem q416 : (Jvm.Cond.publicMethod ({ cls := "BinaryTreeAddressableHeap$Node", name := "decreaseKey", desc := "(Ljava/lang/Object;)V" } : Jvm.MethodName)) ∈ lw_tbl := lw_at lw_m2 164 rfl
theorem q417 : (Jvm.Cond.code ({ cls := "BinaryTreeAddressableHeap$Node", name := "decreaseKey", desc := "(Ljava/lang/Object;)V" } : Jvm.MethodName) prog_4_method_5_code (3 : Nat) (Option.none : Option Jvm.ClassFile.FieldType)) ∈ lw_all := lw_g (lw_at lw_m2 165 rfl) rfl
theorem q418 : (Jvm.Cond.classLink "BinaryTreeAddressableHeap$Node" (32 : Nat) "java/lang/IllegalArgumentException") ∈ lw_all := lw_g (lw_at lw_m2 166 rfl) rfl
theorem q428 : (Jvm.Cond.methodLink "BinaryTreeAddressableHeap$Node" (36 : Nat) ({ cls := "java/lang/IllegalArgumentException", name := "<init>", desc := "(Ljava/lang/String;)V" } : Jvm.MethodName)) ∈ lw_all := lw_g (lw_at lw_m2 176 rfl) rfl
theorem q434 : (Jvm.Cond.classLink "BinaryTreeAddressableHeap$Node" (43 : Nat) "java/lang/Comparable") ∈ lw_all := lw_g (lw_at lw_m2 182 rfl) rfl
theorem q435 : (Jvm.Cond.methodLink "BinaryTreeAddressableHeap$Node" (45 : Nat) ({ cls := "BinaryTreeAddressableHeapDesk", name := "order", desc := "(Ljava/lang/Object;Ljava/lang/Object;)I" } : Jvm.MethodName)) ∈ lw_all := lw_g (lw_at lw_m2 183 rfl) rfl
theorem q436 : (Jvm.Cond.interfaceEntry "BinaryTreeAddressableHeap$Node" (51 : Nat)) ∈ lw_tbl := lw_at lw_m2 184 rfl
theorem q437 : (Jvm.Cond.methodLink "BinaryTreeAddressableHeap$Node" (51 : Nat) ({ cls := "java/util/Comparator", name := "compare", desc := "(Ljava/lang/Object;Ljava/lang/Object;)I" } : Jvm.MethodName)) ∈ lw_all := lw_g (lw_at lw_m2 185 rfl) rfl
theorem q439 : (Jvm.Cond.methodLinkNest "BinaryTreeAddressableHeap$Node" (58 : Nat) ({ cls := "BinaryTreeAddressableHeap", name := "fixup", desc := "(LBinaryTreeAddressableHeap$Node;)V" } : Jvm.MethodName) "BinaryTreeAddressableHeap") ∈ lw_tbl := lw_at lw_m2 187 rfl
theorem q448 : (Jvm.Cond.selects "BinaryTreeAddressableHeap$Node" ({ cls := "AddressableHeap$Handle", name := "delete", desc := "()V" } : Jvm.MethodName) ({ cls := "BinaryTreeAddressableHeap$Node", name := "delete", desc := "()V" } : Jvm.MethodName)) ∈ lw_all := lw_g (lw_at lw_m2 196 rfl) rfl
theorem q449 : (Jvm.Cond.unhidden "BinaryTreeAddressableHeap$Node" "delete" "()V") ∈ lw_tbl := lw_at lw_m2 197 rfl
theorem q450 : (Jvm.Cond.instanceMethod ({ cls := "BinaryTreeAddressableHeap$Node", name := "delete", desc := "()V" } : Jvm.MethodName)) ∈ lw_all := lw_g (lw_at lw_m2 198 rfl) rfl
theorem q451 : (Jvm.Cond.publicMethod ({ cls := "BinaryTreeAddressableHeap$Node", name := "delete", desc := "()V" } : Jvm.MethodName)) ∈ lw_tbl := lw_at lw_m2 199 rfl
theorem q452 : (Jvm.Cond.code ({ cls := "BinaryTreeAddressableHeap$Node", name := "delete", desc := "()V" } : Jvm.MethodName) prog_4_method_6_code (3 : Nat) (Option.none : Option Jvm.ClassFile.FieldType)) ∈ lw_all := lw_g (lw_at lw_m2 200 rfl) rfl
theorem q453 : (Jvm.Cond.methodLinkNest "BinaryTreeAddressableHeap$Node" (62 : Nat) ({ cls := "BinaryTreeAddressableHeap", name := "getParent", desc := "(LBinaryTreeAddressableHeap$Node;)LBinaryTreeAddressableHeap$Node;" } : Jvm.MethodName) "BinaryTreeAddressableHeap") ∈ lw_tbl := lw_at lw_m2 201 rfl
theorem q454 : (Jvm.Cond.methodLinkNest "BinaryTreeAddressableHeap$Node" (66 : Nat) ({ cls := "BinaryTreeAddressableHeap", name := "swap", desc := "(LBinaryTreeAddressableHeap$Node;LBinaryTreeAddressableHeap$Node;LBinaryTreeAddressableHeap$Node;)V" } : Jvm.MethodName) "BinaryTreeAddressableHeap") ∈ lw_tbl := lw_at lw_m2 202 rfl
theorem q455 : (Jvm.Cond.methodLink "BinaryTreeAddressableHeap$Node" (70 : Nat) ({ cls := "BinaryTreeAddressableHeap", name := "deleteMin", desc := "()LAddressableHeap$Handle;" } : Jvm.MethodName)) ∈ lw_all := lw_g (lw_at lw_m2 203 rfl) rfl
theorem q464 : (Jvm.Cond.selects "BinaryTreeAddressableHeap$Node" ({ cls := "AddressableHeap$Handle", name := "setValue", desc := "(Ljava/lang/Object;)V" } : Jvm.MethodName) ({ cls := "BinaryTreeAddressableHeap$Node", name := "setValue", desc := "(Ljava/lang/Object;)V" } : Jvm.MethodName)) ∈ lw_all := lw_g (lw_at lw_m2 212 rfl) rfl
theorem q465 : (Jvm.Cond.unhidden "BinaryTreeAddressableHeap$Node" "setValue" "(Ljava/lang/Object;)V") ∈ lw_tbl := lw_at lw_m2 213 rfl
theorem q466 : (Jvm.Cond.instanceMethod ({ cls := "BinaryTreeAddressableHeap$Node", name := "setValue", desc := "(Ljava/lang/Object;)V" } : Jvm.MethodName)) ∈ lw_all := lw_g (lw_at lw_m2 214 rfl) rfl
theorem q467 : (Jvm.Cond.publicMethod ({ cls := "BinaryTreeAddressableHeap$Node", name := "setValue", desc := "(Ljava/lang/Object;)V" } : Jvm.MethodName)) ∈ lw_tbl := lw_at lw_m2 215 rfl
theorem q468 : (Jvm.Cond.code ({ cls := "BinaryTreeAddressableHeap$Node", name := "setValue", desc := "(Ljava/lang/Object;)V" } : Jvm.MethodName) prog_4_method_4_code (2 : Nat) (Option.none : Option Jvm.ClassFile.FieldType)) ∈ lw_all := lw_g (lw_at lw_m2 216 rfl) rfl
theorem q569 : (Jvm.Cond.castable "BinaryTreeAddressableHeap$Node" "java/lang/Object") ∈ lw_tbl := lw_at lw_m3 77 rfl
theorem in_X3 : ∀ w ∈ wsX30, w ∈ lw_all := lw_in wsX30 [200, 202, 204, 206, 208] (by decide +kernel) (by decide +kernel)
/-! BinaryTreeAddressableHeapDesk$Down -/
set_option maxRecDepth 100000
def RX4 : String := "BinaryTreeAddressableHeapDesk$Down"
abbrev cX4_compare : ByteArray := prog_6_method_5_code
def yX4_compare : MethodName := ⟨RX4, "compare", "(Ljava/lang/Object;Ljava/lang/Object;)I"⟩
def dkwX4_compare_0 : List UInt8 := [42, 43, 192, 0, 8, 44, 192, 0, 8, 182, 0, 15, 172]
abbrev dktX4_compare_0 : List UInt8 := dkwX4_compare_0 ++ []
theorem dksX4_compare_0 : cX4_compare.data.toList.drop 0 = dktX4_compare_0 := by decide +kernel
theorem dX4_compare_0 : decode cX4_compare 0 = .ok (.aload_n 0, 1) := dk_42 (dk_at dksX4_compare_0 0 rfl rfl)
theorem dX4_compare_1 : decode cX4_compare 1 = .ok (.aload_n 1, 1) := dk_43 (dk_at dksX4_compare_0 1 rfl rfl)
theorem dX4_compare_2 : decode cX4_compare 2 = .ok (.checkcast 8, 3) := dk_192 0 8 (dk_at dksX4_compare_0 2 rfl rfl)
theorem dX4_compare_5 : decode cX4_compare 5 = .ok (.aload_n 2, 1) := dk_44 (dk_at dksX4_compare_0 5 rfl rfl)
theorem dX4_compare_6 : decode cX4_compare 6 = .ok (.checkcast 8, 3) := dk_192 0 8 (dk_at dksX4_compare_0 6 rfl rfl)
theorem dX4_compare_9 : decode cX4_compare 9 = .ok (.invokevirtual 15, 3) := dk_182 0 15 (dk_at dksX4_compare_0 9 rfl rfl)
theorem dX4_compare_12 : decode cX4_compare 12 = .ok (.ireturn, 1) := dk_172 (dk_at dksX4_compare_0 12 rfl rfl)
abbrev cX4_compare_2 : ByteArray := prog_6_method_2_code
def yX4_compare_2 : MethodName := ⟨RX4, "compare", "(Ljava/lang/Integer;Ljava/lang/Integer;)I"⟩
def dkwX4_compare_2_1 : List UInt8 := [164, 0, 7, 2, 167, 0, 4, 3, 172]
abbrev dktX4_compare_2_1 : List UInt8 := dkwX4_compare_2_1 ++ []
def dkwX4_compare_2_0 : List UInt8 := [43, 182, 0, 7, 62, 44, 182, 0, 7, 54, 4, 29, 21, 4, 162, 0, 7, 4, 167, 0, 14, 29, 21, 4]
abbrev dktX4_compare_2_0 : List UInt8 := dkwX4_compare_2_0 ++ dktX4_compare_2_1
theorem dksX4_compare_2_0 : cX4_compare_2.data.toList.drop 0 = dktX4_compare_2_0 := by decide +kernel
theorem dksX4_compare_2_1 : cX4_compare_2.data.toList.drop 24 = dktX4_compare_2_1 := dk_seg dksX4_compare_2_0 24 rfl rfl
theorem dX4_compare_2_0 : decode cX4_compare_2 0 = .ok (.aload_n 1, 1) := dk_43 (dk_at dksX4_compare_2_0 0 rfl rfl)
theorem dX4_compare_2_1 : decode cX4_compare_2 1 = .ok (.invokevirtual 7, 3) := dk_182 0 7 (dk_at dksX4_compare_2_0 1 rfl rfl)
theorem dX4_compare_2_4 : decode cX4_compare_2 4 = .ok (.istore_n 3, 1) := dk_62 (dk_at dksX4_compare_2_0 4 rfl rfl)
theorem dX4_compare_2_5 : decode cX4_compare_2 5 = .ok (.aload_n 2, 1) := dk_44 (dk_at dksX4_compare_2_0 5 rfl rfl)
theorem dX4_compare_2_6 : decode cX4_compare_2 6 = .ok (.invokevirtual 7, 3) := dk_182 0 7 (dk_at dksX4_compare_2_0 6 rfl rfl)
theorem dX4_compare_2_9 : decode cX4_compare_2 9 = .ok (.istore 4, 2) := dk_54 4 (dk_at dksX4_compare_2_0 9 rfl rfl)
theorem dX4_compare_2_11 : decode cX4_compare_2 11 = .ok (.iload_n 3, 1) := dk_29 (dk_at dksX4_compare_2_0 11 rfl rfl)
theorem dX4_compare_2_12 : decode cX4_compare_2 12 = .ok (.iload 4, 2) := dk_21 4 (dk_at dksX4_compare_2_0 12 rfl rfl)
theorem dX4_compare_2_14 : decode cX4_compare_2 14 = .ok (.if_icmp .ge 7, 3) := dk_162 0 7 (dk_at dksX4_compare_2_0 14 rfl rfl)
theorem dX4_compare_2_17 : decode cX4_compare_2 17 = .ok (.iconst 1, 1) := dk_4 (dk_at dksX4_compare_2_0 17 rfl rfl)
theorem dX4_compare_2_18 : decode cX4_compare_2 18 = .ok (.goto 14, 3) := dk_167 0 14 (dk_at dksX4_compare_2_0 18 rfl rfl)
theorem dX4_compare_2_21 : decode cX4_compare_2 21 = .ok (.iload_n 3, 1) := dk_29 (dk_at dksX4_compare_2_0 21 rfl rfl)
theorem dX4_compare_2_22 : decode cX4_compare_2 22 = .ok (.iload 4, 2) := dk_21 4 (dk_at dksX4_compare_2_0 22 rfl rfl)
theorem dX4_compare_2_24 : decode cX4_compare_2 24 = .ok (.if_icmp .le 7, 3) := dk_164 0 7 (dk_at dksX4_compare_2_1 0 rfl rfl)
theorem dX4_compare_2_27 : decode cX4_compare_2 27 = .ok (.iconst (-1), 1) := dk_2 (dk_at dksX4_compare_2_1 3 rfl rfl)
theorem dX4_compare_2_28 : decode cX4_compare_2 28 = .ok (.goto 4, 3) := dk_167 0 4 (dk_at dksX4_compare_2_1 4 rfl rfl)
theorem dX4_compare_2_31 : decode cX4_compare_2 31 = .ok (.iconst 0, 1) := dk_3 (dk_at dksX4_compare_2_1 7 rfl rfl)
theorem dX4_compare_2_32 : decode cX4_compare_2 32 = .ok (.ireturn, 1) := dk_172 (dk_at dksX4_compare_2_1 8 rfl rfl)
theorem q224 : (Jvm.Cond.castable "BinaryTreeAddressableHeapDesk$Down" "java/util/Comparator") ∈ lw_tbl := lw_at lw_m1 212 rfl
theorem q225 : (Jvm.Cond.selects "BinaryTreeAddressableHeapDesk$Down" ({ cls := "java/util/Comparator", name := "compare", desc := "(Ljava/lang/Object;Ljava/lang/Object;)I" } : Jvm.MethodName) ({ cls := "BinaryTreeAddressableHeapDesk$Down", name := "compare", desc := "(Ljava/lang/Object;Ljava/lang/Object;)I" } : Jvm.MethodName)) ∈ lw_all := lw_g (lw_at lw_m1 213 rfl) rfl
theorem q226 : (Jvm.Cond.unhidden "BinaryTreeAddressableHeapDesk$Down" "compare" "(Ljava/lang/Object;Ljava/lang/Object;)I") ∈ lw_tbl := lw_at lw_m1 214 rfl
theorem q227 : (Jvm.Cond.instanceMethod ({ cls := "BinaryTreeAddressableHeapDesk$Down", name := "compare", desc := "(Ljava/lang/Object;Ljava/lang/Object;)I" } : Jvm.MethodName)) ∈ lw_all := lw_g (lw_at lw_m1 215 rfl) rfl
theorem q228 : (Jvm.Cond.publicMethod ({ cls := "BinaryTreeAddressableHeapDesk$Down", name := "compare", desc := "(Ljava/lang/Object;Ljava/lang/Object;)I" } : Jvm.MethodName)) ∈ lw_tbl := lw_at lw_m1 216 rfl
theorem q229 : (Jvm.Cond.code ({ cls := "BinaryTreeAddressableHeapDesk$Down", name := "compare", desc := "(Ljava/lang/Object;Ljava/lang/Object;)I" } : Jvm.MethodName) prog_6_method_5_code (3 : Nat) (Option.some Jvm.ClassFile.FieldType.int)) ∈ lw_all := lw_g (lw_at lw_m1 217 rfl) rfl
theorem q230 : (Jvm.Cond.classLink "BinaryTreeAddressableHeapDesk$Down" (8 : Nat) "java/lang/Integer") ∈ lw_all := lw_g (lw_at lw_m1 218 rfl) rfl
theorem q231 : (Jvm.Cond.methodLink "BinaryTreeAddressableHeapDesk$Down" (15 : Nat) ({ cls := "BinaryTreeAddressableHeapDesk$Down", name := "compare", desc := "(Ljava/lang/Integer;Ljava/lang/Integer;)I" } : Jvm.MethodName)) ∈ lw_all := lw_g (lw_at lw_m1 219 rfl) rfl
theorem q232 : (Jvm.Cond.instanceMethod ({ cls := "BinaryTreeAddressableHeapDesk$Down", name := "compare", desc := "(Ljava/lang/Integer;Ljava/lang/Integer;)I" } : Jvm.MethodName)) ∈ lw_all := lw_g (lw_at lw_m1 220 rfl) rfl
theorem q233 : (Jvm.Cond.selects "BinaryTreeAddressableHeapDesk$Down" ({ cls := "BinaryTreeAddressableHeapDesk$Down", name := "compare", desc := "(Ljava/lang/Integer;Ljava/lang/Integer;)I" } : Jvm.MethodName) ({ cls := "BinaryTreeAddressableHeapDesk$Down", name := "compare", desc := "(Ljava/lang/Integer;Ljava/lang/Integer;)I" } : Jvm.MethodName)) ∈ lw_all := lw_g (lw_at lw_m1 221 rfl) rfl
theorem q234 : (Jvm.Cond.code ({ cls := "BinaryTreeAddressableHeapDesk$Down", name := "compare", desc := "(Ljava/lang/Integer;Ljava/lang/Integer;)I" } : Jvm.MethodName) prog_6_method_2_code (5 : Nat) (Option.some Jvm.ClassFile.FieldType.int)) ∈ lw_all := lw_g (lw_at lw_m1 222 rfl) rfl
theorem q235 : (Jvm.Cond.methodLink "BinaryTreeAddressableHeapDesk$Down" (7 : Nat) ({ cls := "java/lang/Integer", name := "intValue", desc := "()I" } : Jvm.MethodName)) ∈ lw_all := lw_g (lw_at lw_m1 223 rfl) rfl
theorem q560 : (Jvm.Cond.initialized "BinaryTreeAddressableHeapDesk$Down") ∈ lw_all := lw_g (lw_at lw_m3 68 rfl) rfl
theorem q565 : (Jvm.Cond.castable "BinaryTreeAddressableHeapDesk$Down" "java/lang/Object") ∈ lw_tbl := lw_at lw_m3 73 rfl
end
section
/-! java/lang/Number -/
set_option maxRecDepth 100000
def RJ0 : String := "java/lang/Number"
abbrev cJ0_init : ByteArray := prog_19_method_1_code
def yJ0_init : MethodName := ⟨RJ0, "<init>", "()V"⟩
theorem dJ0_init_0 : decode cJ0_init 0 = .ok (.aload_n 0, 1) := by decide +kernel
theorem dJ0_init_1 : decode cJ0_init 1 = .ok (.invokespecial 1, 3) := by decide +kernel
theorem dJ0_init_4 : decode cJ0_init 4 = .ok (.return_, 1) := by decide +kernel
theorem q16 : (Jvm.Cond.initialized "java/lang/Number") ∈ lw_all := lw_g (lw_at lw_m1 4 rfl) rfl
theorem q107 : (Jvm.Cond.instanceMethod ({ cls := "java/lang/Number", name := "<init>", desc := "()V" } : Jvm.MethodName)) ∈ lw_all := lw_g (lw_at lw_m1 95 rfl) rfl
theorem q108 : (Jvm.Cond.code ({ cls := "java/lang/Number", name := "<init>", desc := "()V" } : Jvm.MethodName) prog_19_method_1_code (1 : Nat) (Option.none : Option Jvm.ClassFile.FieldType)) ∈ lw_all := lw_g (lw_at lw_m1 96 rfl) rfl
theorem q109 : (Jvm.Cond.methodLink "java/lang/Number" (1 : Nat) ({ cls := "java/lang/Object", name := "<init>", desc := "()V" } : Jvm.MethodName)) ∈ lw_all := lw_g (lw_at lw_m1 97 rfl) rfl
/-! java/lang/Integer -/
set_option maxRecDepth 100000
def RJ1 : String := "java/lang/Integer"
def TJ1 : u_T := fun k => match k with
  | _ => ("java/lang/Integer", "value", "I", true)
def tyJ1 : Nat → FieldType := fun k => match k with
  | _ => .int
abbrev wsJ10 : List Cond := u_ws RJ1 TJ1 1
theorem nmJ1 : ∀ a, a < 1 → ∀ b, b < 1 → a ≠ b → (TJ1 a).2.1 ≠ (TJ1 b).2.1 := by decide +kernel
theorem tyJ1_ok : ∀ k, k < 1 → parseFieldDescriptor (TJ1 k).2.2.1 = some (tyJ1 k) := by decide +kernel
abbrev cJ1_valueOf : ByteArray := prog_14_method_22_code
def yJ1_valueOf : MethodName := ⟨RJ1, "valueOf", "(I)Ljava/lang/Integer;"⟩
def dkwJ1_valueOf_1 : List UInt8 := [187, 0, 1, 89, 26, 183, 0, 199, 176]
abbrev dktJ1_valueOf_1 : List UInt8 := dkwJ1_valueOf_1 ++ []
def dkwJ1_valueOf_0 : List UInt8 := [26, 16, 128, 161, 0, 20, 26, 178, 0, 191, 163, 0, 13, 178, 0, 195, 26, 17, 0, 128, 96, 50, 176]
abbrev dktJ1_valueOf_0 : List UInt8 := dkwJ1_valueOf_0 ++ dktJ1_valueOf_1
theorem dksJ1_valueOf_0 : cJ1_valueOf.data.toList.drop 0 = dktJ1_valueOf_0 := by decide +kernel
theorem dksJ1_valueOf_1 : cJ1_valueOf.data.toList.drop 23 = dktJ1_valueOf_1 := dk_seg dksJ1_valueOf_0 23 rfl rfl
theorem dJ1_valueOf_0 : decode cJ1_valueOf 0 = .ok (.iload_n 0, 1) := dk_26 (dk_at dksJ1_valueOf_0 0 rfl rfl)
theorem dJ1_valueOf_1 : decode cJ1_valueOf 1 = .ok (.bipush (-128), 2) := dk_16 128 (dk_at dksJ1_valueOf_0 1 rfl rfl)
theorem dJ1_valueOf_3 : decode cJ1_valueOf 3 = .ok (.if_icmp .lt 20, 3) := dk_161 0 20 (dk_at dksJ1_valueOf_0 3 rfl rfl)
theorem dJ1_valueOf_6 : decode cJ1_valueOf 6 = .ok (.iload_n 0, 1) := dk_26 (dk_at dksJ1_valueOf_0 6 rfl rfl)
theorem dJ1_valueOf_7 : decode cJ1_valueOf 7 = .ok (.getstatic 191, 3) := dk_178 0 191 (dk_at dksJ1_valueOf_0 7 rfl rfl)
theorem dJ1_valueOf_10 : decode cJ1_valueOf 10 = .ok (.if_icmp .gt 13, 3) := dk_163 0 13 (dk_at dksJ1_valueOf_0 10 rfl rfl)
theorem dJ1_valueOf_13 : decode cJ1_valueOf 13 = .ok (.getstatic 195, 3) := dk_178 0 195 (dk_at dksJ1_valueOf_0 13 rfl rfl)
theorem dJ1_valueOf_16 : decode cJ1_valueOf 16 = .ok (.iload_n 0, 1) := dk_26 (dk_at dksJ1_valueOf_0 16 rfl rfl)
theorem dJ1_valueOf_17 : decode cJ1_valueOf 17 = .ok (.sipush 128, 3) := dk_17 0 128 (dk_at dksJ1_valueOf_0 17 rfl rfl)
theorem dJ1_valueOf_20 : decode cJ1_valueOf 20 = .ok (.iadd, 1) := dk_96 (dk_at dksJ1_valueOf_0 20 rfl rfl)
theorem dJ1_valueOf_21 : decode cJ1_valueOf 21 = .ok (.aaload, 1) := dk_50 (dk_at dksJ1_valueOf_0 21 rfl rfl)
theorem dJ1_valueOf_22 : decode cJ1_valueOf 22 = .ok (.areturn, 1) := dk_176 (dk_at dksJ1_valueOf_0 22 rfl rfl)
theorem dJ1_valueOf_23 : decode cJ1_valueOf 23 = .ok (.new 1, 3) := dk_187 0 1 (dk_at dksJ1_valueOf_1 0 rfl rfl)
theorem dJ1_valueOf_26 : decode cJ1_valueOf 26 = .ok (.dup, 1) := dk_89 (dk_at dksJ1_valueOf_1 3 rfl rfl)
theorem dJ1_valueOf_27 : decode cJ1_valueOf 27 = .ok (.iload_n 0, 1) := dk_26 (dk_at dksJ1_valueOf_1 4 rfl rfl)
theorem dJ1_valueOf_28 : decode cJ1_valueOf 28 = .ok (.invokespecial 199, 3) := dk_183 0 199 (dk_at dksJ1_valueOf_1 5 rfl rfl)
theorem dJ1_valueOf_31 : decode cJ1_valueOf 31 = .ok (.areturn, 1) := dk_176 (dk_at dksJ1_valueOf_1 8 rfl rfl)
abbrev cJ1_init : ByteArray := prog_14_method_23_code
def yJ1_init : MethodName := ⟨RJ1, "<init>", "(I)V"⟩
def dkwJ1_init_0 : List UInt8 := [42, 183, 0, 202, 42, 27, 181, 0, 205, 177]
abbrev dktJ1_init_0 : List UInt8 := dkwJ1_init_0 ++ []
theorem dksJ1_init_0 : cJ1_init.data.toList.drop 0 = dktJ1_init_0 := by decide +kernel
theorem dJ1_init_0 : decode cJ1_init 0 = .ok (.aload_n 0, 1) := dk_42 (dk_at dksJ1_init_0 0 rfl rfl)
theorem dJ1_init_1 : decode cJ1_init 1 = .ok (.invokespecial 202, 3) := dk_183 0 202 (dk_at dksJ1_init_0 1 rfl rfl)
theorem dJ1_init_4 : decode cJ1_init 4 = .ok (.aload_n 0, 1) := dk_42 (dk_at dksJ1_init_0 4 rfl rfl)
theorem dJ1_init_5 : decode cJ1_init 5 = .ok (.iload_n 1, 1) := dk_27 (dk_at dksJ1_init_0 5 rfl rfl)
theorem dJ1_init_6 : decode cJ1_init 6 = .ok (.putfield 205, 3) := dk_181 0 205 (dk_at dksJ1_init_0 6 rfl rfl)
theorem dJ1_init_9 : decode cJ1_init 9 = .ok (.return_, 1) := dk_177 (dk_at dksJ1_init_0 9 rfl rfl)
abbrev cJ1_intValue : ByteArray := prog_14_method_27_code
def yJ1_intValue : MethodName := ⟨RJ1, "intValue", "()I"⟩
theorem dJ1_intValue_0 : decode cJ1_intValue 0 = .ok (.aload_n 0, 1) := by decide +kernel
theorem dJ1_intValue_1 : decode cJ1_intValue 1 = .ok (.getfield 205, 3) := by decide +kernel
theorem dJ1_intValue_4 : decode cJ1_intValue 4 = .ok (.ireturn, 1) := by decide +kernel
abbrev cJ1_numberOfLeadingZeros : ByteArray := prog_14_method_47_code
def yJ1_numberOfLeadingZeros : MethodName := ⟨RJ1, "numberOfLeadingZeros", "(I)I"⟩
def dkwJ1_numberOfLeadingZeros_3 : List UInt8 := [5, 124, 59, 27, 26, 4, 124, 100, 172]
abbrev dktJ1_numberOfLeadingZeros_3 : List UInt8 := dkwJ1_numberOfLeadingZeros_3 ++ []
def dkwJ1_numberOfLeadingZeros_2 : List UInt8 := [124, 59, 26, 16, 16, 161, 0, 10, 132, 1, 252, 26, 7, 124, 59, 26, 7, 161, 0, 10, 132, 1, 254, 26]
abbrev dktJ1_numberOfLeadingZeros_2 : List UInt8 := dkwJ1_numberOfLeadingZeros_2 ++ dktJ1_numberOfLeadingZeros_3
def dkwJ1_numberOfLeadingZeros_1 : List UInt8 := [161, 0, 11, 132, 1, 240, 26, 16, 16, 124, 59, 26, 17, 1, 0, 161, 0, 11, 132, 1, 248, 26, 16, 8]
abbrev dktJ1_numberOfLeadingZeros_1 : List UInt8 := dkwJ1_numberOfLeadingZeros_1 ++ dktJ1_numberOfLeadingZeros_2
def dkwJ1_numberOfLeadingZeros_0 : List UInt8 := [26, 157, 0, 14, 26, 154, 0, 8, 16, 32, 167, 0, 4, 3, 172, 16, 31, 60, 26, 19, 1, 8]
abbrev dktJ1_numberOfLeadingZeros_0 : List UInt8 := dkwJ1_numberOfLeadingZeros_0 ++ dktJ1_numberOfLeadingZeros_1
theorem dksJ1_numberOfLeadingZeros_0 : cJ1_numberOfLeadingZeros.data.toList.drop 0 = dktJ1_numberOfLeadingZeros_0 := by decide +kernel
theorem dksJ1_numberOfLeadingZeros_1 : cJ1_numberOfLeadingZeros.data.toList.drop 22 = dktJ1_numberOfLeadingZeros_1 := dk_seg dksJ1_numberOfLeadingZeros_0 22 rfl rfl
theorem dksJ1_numberOfLeadingZeros_2 : cJ1_numberOfLeadingZeros.data.toList.drop 46 = dktJ1_numberOfLeadingZeros_2 := dk_seg dksJ1_numberOfLeadingZeros_1 24 rfl rfl
theorem dksJ1_numberOfLeadingZeros_3 : cJ1_numberOfLeadingZeros.data.toList.drop 70 = dktJ1_numberOfLeadingZeros_3 := dk_seg dksJ1_numberOfLeadingZeros_2 24 rfl rfl
theorem dJ1_numberOfLeadingZeros_0 : decode cJ1_numberOfLeadingZeros 0 = .ok (.iload_n 0, 1) := dk_26 (dk_at dksJ1_numberOfLeadingZeros_0 0 rfl rfl)
theorem dJ1_numberOfLeadingZeros_1 : decode cJ1_numberOfLeadingZeros 1 = .ok (.ifCond .gt 14, 3) := dk_157 0 14 (dk_at dksJ1_numberOfLeadingZeros_0 1 rfl rfl)
theorem dJ1_numberOfLeadingZeros_4 : decode cJ1_numberOfLeadingZeros 4 = .ok (.iload_n 0, 1) := dk_26 (dk_at dksJ1_numberOfLeadingZeros_0 4 rfl rfl)
theorem dJ1_numberOfLeadingZeros_5 : decode cJ1_numberOfLeadingZeros 5 = .ok (.ifCond .ne 8, 3) := dk_154 0 8 (dk_at dksJ1_numberOfLeadingZeros_0 5 rfl rfl)
theorem dJ1_numberOfLeadingZeros_8 : decode cJ1_numberOfLeadingZeros 8 = .ok (.bipush 32, 2) := dk_16 32 (dk_at dksJ1_numberOfLeadingZeros_0 8 rfl rfl)
theorem dJ1_numberOfLeadingZeros_10 : decode cJ1_numberOfLeadingZeros 10 = .ok (.goto 4, 3) := dk_167 0 4 (dk_at dksJ1_numberOfLeadingZeros_0 10 rfl rfl)
theorem dJ1_numberOfLeadingZeros_13 : decode cJ1_numberOfLeadingZeros 13 = .ok (.iconst 0, 1) := dk_3 (dk_at dksJ1_numberOfLeadingZeros_0 13 rfl rfl)
theorem dJ1_numberOfLeadingZeros_14 : decode cJ1_numberOfLeadingZeros 14 = .ok (.ireturn, 1) := dk_172 (dk_at dksJ1_numberOfLeadingZeros_0 14 rfl rfl)
theorem dJ1_numberOfLeadingZeros_15 : decode cJ1_numberOfLeadingZeros 15 = .ok (.bipush 31, 2) := dk_16 31 (dk_at dksJ1_numberOfLeadingZeros_0 15 rfl rfl)
theorem dJ1_numberOfLeadingZeros_17 : decode cJ1_numberOfLeadingZeros 17 = .ok (.istore_n 1, 1) := dk_60 (dk_at dksJ1_numberOfLeadingZeros_0 17 rfl rfl)
theorem dJ1_numberOfLeadingZeros_18 : decode cJ1_numberOfLeadingZeros 18 = .ok (.iload_n 0, 1) := dk_26 (dk_at dksJ1_numberOfLeadingZeros_0 18 rfl rfl)
theorem dJ1_numberOfLeadingZeros_19 : decode cJ1_numberOfLeadingZeros 19 = .ok (.ldc_w 264, 3) := dk_19 1 8 (dk_at dksJ1_numberOfLeadingZeros_0 19 rfl rfl)
theorem dJ1_numberOfLeadingZeros_22 : decode cJ1_numberOfLeadingZeros 22 = .ok (.if_icmp .lt 11, 3) := dk_161 0 11 (dk_at dksJ1_numberOfLeadingZeros_1 0 rfl rfl)
theorem dJ1_numberOfLeadingZeros_25 : decode cJ1_numberOfLeadingZeros 25 = .ok (.iinc 1 (-16), 3) := dk_132 1 240 (dk_at dksJ1_numberOfLeadingZeros_1 3 rfl rfl)
theorem dJ1_numberOfLeadingZeros_28 : decode cJ1_numberOfLeadingZeros 28 = .ok (.iload_n 0, 1) := dk_26 (dk_at dksJ1_numberOfLeadingZeros_1 6 rfl rfl)
theorem dJ1_numberOfLeadingZeros_29 : decode cJ1_numberOfLeadingZeros 29 = .ok (.bipush 16, 2) := dk_16 16 (dk_at dksJ1_numberOfLeadingZeros_1 7 rfl rfl)
theorem dJ1_numberOfLeadingZeros_31 : decode cJ1_numberOfLeadingZeros 31 = .ok (.iushr, 1) := dk_124 (dk_at dksJ1_numberOfLeadingZeros_1 9 rfl rfl)
theorem dJ1_numberOfLeadingZeros_32 : decode cJ1_numberOfLeadingZeros 32 = .ok (.istore_n 0, 1) := dk_59 (dk_at dksJ1_numberOfLeadingZeros_1 10 rfl rfl)
theorem dJ1_numberOfLeadingZeros_33 : decode cJ1_numberOfLeadingZeros 33 = .ok (.iload_n 0, 1) := dk_26 (dk_at dksJ1_numberOfLeadingZeros_1 11 rfl rfl)
theorem dJ1_numberOfLeadingZeros_34 : decode cJ1_numberOfLeadingZeros 34 = .ok (.sipush 256, 3) := dk_17 1 0 (dk_at dksJ1_numberOfLeadingZeros_1 12 rfl rfl)
theorem dJ1_numberOfLeadingZeros_37 : decode cJ1_numberOfLeadingZeros 37 = .ok (.if_icmp .lt 11, 3) := dk_161 0 11 (dk_at dksJ1_numberOfLeadingZeros_1 15 rfl rfl)
theorem dJ1_numberOfLeadingZeros_40 : decode cJ1_numberOfLeadingZeros 40 = .ok (.iinc 1 (-8), 3) := dk_132 1 248 (dk_at dksJ1_numberOfLeadingZeros_1 18 rfl rfl)
theorem dJ1_numberOfLeadingZeros_43 : decode cJ1_numberOfLeadingZeros 43 = .ok (.iload_n 0, 1) := dk_26 (dk_at dksJ1_numberOfLeadingZeros_1 21 rfl rfl)
theorem dJ1_numberOfLeadingZeros_44 : decode cJ1_numberOfLeadingZeros 44 = .ok (.bipush 8, 2) := dk_16 8 (dk_at dksJ1_numberOfLeadingZeros_1 22 rfl rfl)
theorem dJ1_numberOfLeadingZeros_46 : decode cJ1_numberOfLeadingZeros 46 = .ok (.iushr, 1) := dk_124 (dk_at dksJ1_numberOfLeadingZeros_2 0 rfl rfl)
theorem dJ1_numberOfLeadingZeros_47 : decode cJ1_numberOfLeadingZeros 47 = .ok (.istore_n 0, 1) := dk_59 (dk_at dksJ1_numberOfLeadingZeros_2 1 rfl rfl)
theorem dJ1_numberOfLeadingZeros_48 : decode cJ1_numberOfLeadingZeros 48 = .ok (.iload_n 0, 1) := dk_26 (dk_at dksJ1_numberOfLeadingZeros_2 2 rfl rfl)
theorem dJ1_numberOfLeadingZeros_49 : decode cJ1_numberOfLeadingZeros 49 = .ok (.bipush 16, 2) := dk_16 16 (dk_at dksJ1_numberOfLeadingZeros_2 3 rfl rfl)
theorem dJ1_numberOfLeadingZeros_51 : decode cJ1_numberOfLeadingZeros 51 = .ok (.if_icmp .lt 10, 3) := dk_161 0 10 (dk_at dksJ1_numberOfLeadingZeros_2 5 rfl rfl)
theorem dJ1_numberOfLeadingZeros_54 : decode cJ1_numberOfLeadingZeros 54 = .ok (.iinc 1 (-4), 3) := dk_132 1 252 (dk_at dksJ1_numberOfLeadingZeros_2 8 rfl rfl)
theorem dJ1_numberOfLeadingZeros_57 : decode cJ1_numberOfLeadingZeros 57 = .ok (.iload_n 0, 1) := dk_26 (dk_at dksJ1_numberOfLeadingZeros_2 11 rfl rfl)
theorem dJ1_numberOfLeadingZeros_58 : decode cJ1_numberOfLeadingZeros 58 = .ok (.iconst 4, 1) := dk_7 (dk_at dksJ1_numberOfLeadingZeros_2 12 rfl rfl)
theorem dJ1_numberOfLeadingZeros_59 : decode cJ1_numberOfLeadingZeros 59 = .ok (.iushr, 1) := dk_124 (dk_at dksJ1_numberOfLeadingZeros_2 13 rfl rfl)
theorem dJ1_numberOfLeadingZeros_60 : decode cJ1_numberOfLeadingZeros 60 = .ok (.istore_n 0, 1) := dk_59 (dk_at dksJ1_numberOfLeadingZeros_2 14 rfl rfl)
theorem dJ1_numberOfLeadingZeros_61 : decode cJ1_numberOfLeadingZeros 61 = .ok (.iload_n 0, 1) := dk_26 (dk_at dksJ1_numberOfLeadingZeros_2 15 rfl rfl)
theorem dJ1_numberOfLeadingZeros_62 : decode cJ1_numberOfLeadingZeros 62 = .ok (.iconst 4, 1) := dk_7 (dk_at dksJ1_numberOfLeadingZeros_2 16 rfl rfl)
theorem dJ1_numberOfLeadingZeros_63 : decode cJ1_numberOfLeadingZeros 63 = .ok (.if_icmp .lt 10, 3) := dk_161 0 10 (dk_at dksJ1_numberOfLeadingZeros_2 17 rfl rfl)
theorem dJ1_numberOfLeadingZeros_66 : decode cJ1_numberOfLeadingZeros 66 = .ok (.iinc 1 (-2), 3) := dk_132 1 254 (dk_at dksJ1_numberOfLeadingZeros_2 20 rfl rfl)
theorem dJ1_numberOfLeadingZeros_69 : decode cJ1_numberOfLeadingZeros 69 = .ok (.iload_n 0, 1) := dk_26 (dk_at dksJ1_numberOfLeadingZeros_2 23 rfl rfl)
theorem dJ1_numberOfLeadingZeros_70 : decode cJ1_numberOfLeadingZeros 70 = .ok (.iconst 2, 1) := dk_5 (dk_at dksJ1_numberOfLeadingZeros_3 0 rfl rfl)
theorem dJ1_numberOfLeadingZeros_71 : decode cJ1_numberOfLeadingZeros 71 = .ok (.iushr, 1) := dk_124 (dk_at dksJ1_numberOfLeadingZeros_3 1 rfl rfl)
theorem dJ1_numberOfLeadingZeros_72 : decode cJ1_numberOfLeadingZeros 72 = .ok (.istore_n 0, 1) := dk_59 (dk_at dksJ1_numberOfLeadingZeros_3 2 rfl rfl)
theorem dJ1_numberOfLeadingZeros_73 : decode cJ1_numberOfLeadingZeros 73 = .ok (.iload_n 1, 1) := dk_27 (dk_at dksJ1_numberOfLeadingZeros_3 3 rfl rfl)
theorem dJ1_numberOfLeadingZeros_74 : decode cJ1_numberOfLeadingZeros 74 = .ok (.iload_n 0, 1) := dk_26 (dk_at dksJ1_numberOfLeadingZeros_3 4 rfl rfl)
theorem dJ1_numberOfLeadingZeros_75 : decode cJ1_numberOfLeadingZeros 75 = .ok (.iconst 1, 1) := dk_4 (dk_at dksJ1_numberOfLeadingZeros_3 5 rfl rfl)
theorem dJ1_numberOfLeadingZeros_76 : decode cJ1_numberOfLeadingZeros 76 = .ok (.iushr, 1) := dk_124 (dk_at dksJ1_numberOfLeadingZeros_3 6 rfl rfl)
theorem dJ1_numberOfLeadingZeros_77 : decode cJ1_numberOfLeadingZeros 77 = .ok (.isub, 1) := dk_100 (dk_at dksJ1_numberOfLeadingZeros_3 7 rfl rfl)
theorem dJ1_numberOfLeadingZeros_78 : decode cJ1_numberOfLeadingZeros 78 = .ok (.ireturn, 1) := dk_172 (dk_at dksJ1_numberOfLeadingZeros_3 8 rfl rfl)
theorem q17 : (Jvm.Cond.initialized "java/lang/Integer") ∈ lw_all := lw_g (lw_at lw_m1 5 rfl) rfl
theorem q95 : (Jvm.Cond.static ({ cls := "java/lang/Integer", name := "valueOf", desc := "(I)Ljava/lang/Integer;" } : Jvm.MethodName)) ∈ lw_all := lw_g (lw_at lw_m1 83 rfl) rfl
theorem q96 : (Jvm.Cond.code ({ cls := "java/lang/Integer", name := "valueOf", desc := "(I)Ljava/lang/Integer;" } : Jvm.MethodName) prog_14_method_22_code (1 : Nat) (Option.some (Jvm.ClassFile.FieldType.object "java/lang/Integer"))) ∈ lw_all := lw_g (lw_at lw_m1 84 rfl) rfl
theorem q97 : (Jvm.Cond.fieldLink "java/lang/Integer" (191 : Nat) "java/lang/Integer$IntegerCache" "high" "I") ∈ lw_all := lw_g (lw_at lw_m1 85 rfl) rfl
theorem q99 : (Jvm.Cond.fieldLink "java/lang/Integer" (195 : Nat) "java/lang/Integer$IntegerCache" "cache" "[Ljava/lang/Integer;") ∈ lw_all := lw_g (lw_at lw_m1 87 rfl) rfl
theorem q101 : (Jvm.Cond.classLink "java/lang/Integer" (1 : Nat) "java/lang/Integer") ∈ lw_all := lw_g (lw_at lw_m1 89 rfl) rfl
theorem q102 : (Jvm.Cond.instantiable "java/lang/Integer" (1 : Nat)) ∈ lw_all := lw_g (lw_at lw_m1 90 rfl) rfl
theorem q103 : (Jvm.Cond.methodLink "java/lang/Integer" (199 : Nat) ({ cls := "java/lang/Integer", name := "<init>", desc := "(I)V" } : Jvm.MethodName)) ∈ lw_all := lw_g (lw_at lw_m1 91 rfl) rfl
theorem q104 : (Jvm.Cond.instanceMethod ({ cls := "java/lang/Integer", name := "<init>", desc := "(I)V" } : Jvm.MethodName)) ∈ lw_all := lw_g (lw_at lw_m1 92 rfl) rfl
theorem q105 : (Jvm.Cond.code ({ cls := "java/lang/Integer", name := "<init>", desc := "(I)V" } : Jvm.MethodName) prog_14_method_23_code (2 : Nat) (Option.none : Option Jvm.ClassFile.FieldType)) ∈ lw_all := lw_g (lw_at lw_m1 93 rfl) rfl
theorem q106 : (Jvm.Cond.methodLink "java/lang/Integer" (202 : Nat) ({ cls := "java/lang/Number", name := "<init>", desc := "()V" } : Jvm.MethodName)) ∈ lw_all := lw_g (lw_at lw_m1 94 rfl) rfl
theorem q110 : (Jvm.Cond.fieldLink "java/lang/Integer" (205 : Nat) "java/lang/Integer" "value" "I") ∈ lw_all := lw_g (lw_at lw_m1 98 rfl) rfl
theorem q111 : (Jvm.Cond.laysFinal "java/lang/Integer" "java/lang/Integer" "value" "I") ∈ lw_all := lw_g (lw_at lw_m1 99 rfl) rfl
theorem q112 : (Jvm.Cond.soleField "java/lang/Integer" "value") ∈ lw_all := lw_g (lw_at lw_m1 100 rfl) rfl
theorem q113 : (Jvm.Cond.superclass "java/lang/Integer" "java/lang/Number") ∈ lw_all := lw_g (lw_at lw_m1 101 rfl) rfl
theorem q217 : (Jvm.Cond.instanceMethod ({ cls := "java/lang/Integer", name := "intValue", desc := "()I" } : Jvm.MethodName)) ∈ lw_all := lw_g (lw_at lw_m1 205 rfl) rfl
theorem q218 : (Jvm.Cond.selects "java/lang/Integer" ({ cls := "java/lang/Integer", name := "intValue", desc := "()I" } : Jvm.MethodName) ({ cls := "java/lang/Integer", name := "intValue", desc := "()I" } : Jvm.MethodName)) ∈ lw_all := lw_g (lw_at lw_m1 206 rfl) rfl
theorem q219 : (Jvm.Cond.code ({ cls := "java/lang/Integer", name := "intValue", desc := "()I" } : Jvm.MethodName) prog_14_method_27_code (1 : Nat) (Option.some Jvm.ClassFile.FieldType.int)) ∈ lw_all := lw_g (lw_at lw_m1 207 rfl) rfl
theorem q291 : (Jvm.Cond.static ({ cls := "java/lang/Integer", name := "numberOfLeadingZeros", desc := "(I)I" } : Jvm.MethodName)) ∈ lw_all := lw_g (lw_at lw_m2 39 rfl) rfl
theorem q292 : (Jvm.Cond.code ({ cls := "java/lang/Integer", name := "numberOfLeadingZeros", desc := "(I)I" } : Jvm.MethodName) prog_14_method_47_code (2 : Nat) (Option.some Jvm.ClassFile.FieldType.int)) ∈ lw_all := lw_g (lw_at lw_m2 40 rfl) rfl
theorem q293 : (Jvm.Cond.constant "java/lang/Integer" (264 : Nat) (65536 : Int32)) ∈ lw_all := lw_g (lw_at lw_m2 41 rfl) rfl
theorem q561 : (Jvm.Cond.castable "java/lang/Integer" "java/lang/Comparable") ∈ lw_tbl := lw_at lw_m3 69 rfl
theorem q567 : (Jvm.Cond.castable "java/lang/Integer" "java/lang/Object") ∈ lw_tbl := lw_at lw_m3 75 rfl
theorem in_J1 : ∀ w ∈ wsJ10, w ∈ lw_all := lw_in wsJ10 [111] (by decide +kernel) (by decide +kernel)
/-! java/util/BitSet -/
set_option maxRecDepth 100000
def RJ6 : String := "java/util/BitSet"
def TJ6 : u_T := fun k => match k with
  | 0 => ("java/util/BitSet", "words", "[J", false)
  | 1 => ("java/util/BitSet", "wordsInUse", "I", false)
  | _ => ("java/util/BitSet", "sizeIsSticky", "Z", false)
def tyJ6 : Nat → FieldType := fun k => match k with
  | 0 => .array .long
  | 1 => .int
  | _ => .boolean
abbrev wsJ60 : List Cond := u_ws RJ6 TJ6 3
theorem nmJ6 : ∀ a, a < 3 → ∀ b, b < 3 → a ≠ b → (TJ6 a).2.1 ≠ (TJ6 b).2.1 := by decide +kernel
theorem tyJ6_ok : ∀ k, k < 3 → parseFieldDescriptor (TJ6 k).2.2.1 = some (tyJ6 k) := by decide +kernel
abbrev cJ6_valueOf : ByteArray := prog_27_method_8_code
def yJ6_valueOf : MethodName := ⟨RJ6, "valueOf", "([J)Ljava/util/BitSet;"⟩
def dkwJ6_valueOf_1 : List UInt8 := [187, 0, 1, 89, 42, 27, 184, 0, 59, 183, 0, 65, 176]
abbrev dktJ6_valueOf_1 : List UInt8 := dkwJ6_valueOf_1 ++ []
def dkwJ6_valueOf_0 : List UInt8 := [42, 190, 60, 27, 158, 0, 19, 42, 27, 4, 100, 47, 9, 148, 154, 0, 9, 132, 1, 255, 167, 255, 239]
abbrev dktJ6_valueOf_0 : List UInt8 := dkwJ6_valueOf_0 ++ dktJ6_valueOf_1
theorem dksJ6_valueOf_0 : cJ6_valueOf.data.toList.drop 0 = dktJ6_valueOf_0 := by decide +kernel
theorem dksJ6_valueOf_1 : cJ6_valueOf.data.toList.drop 23 = dktJ6_valueOf_1 := dk_seg dksJ6_valueOf_0 23 rfl rfl
theorem dJ6_valueOf_0 : decode cJ6_valueOf 0 = .ok (.aload_n 0, 1) := dk_42 (dk_at dksJ6_valueOf_0 0 rfl rfl)
theorem dJ6_valueOf_1 : decode cJ6_valueOf 1 = .ok (.arraylength, 1) := dk_190 (dk_at dksJ6_valueOf_0 1 rfl rfl)
theorem dJ6_valueOf_2 : decode cJ6_valueOf 2 = .ok (.istore_n 1, 1) := dk_60 (dk_at dksJ6_valueOf_0 2 rfl rfl)
theorem dJ6_valueOf_3 : decode cJ6_valueOf 3 = .ok (.iload_n 1, 1) := dk_27 (dk_at dksJ6_valueOf_0 3 rfl rfl)
theorem dJ6_valueOf_4 : decode cJ6_valueOf 4 = .ok (.ifCond .le 19, 3) := dk_158 0 19 (dk_at dksJ6_valueOf_0 4 rfl rfl)
theorem dJ6_valueOf_7 : decode cJ6_valueOf 7 = .ok (.aload_n 0, 1) := dk_42 (dk_at dksJ6_valueOf_0 7 rfl rfl)
theorem dJ6_valueOf_8 : decode cJ6_valueOf 8 = .ok (.iload_n 1, 1) := dk_27 (dk_at dksJ6_valueOf_0 8 rfl rfl)
theorem dJ6_valueOf_9 : decode cJ6_valueOf 9 = .ok (.iconst 1, 1) := dk_4 (dk_at dksJ6_valueOf_0 9 rfl rfl)
theorem dJ6_valueOf_10 : decode cJ6_valueOf 10 = .ok (.isub, 1) := dk_100 (dk_at dksJ6_valueOf_0 10 rfl rfl)
theorem dJ6_valueOf_11 : decode cJ6_valueOf 11 = .ok (.laload, 1) := dk_47 (dk_at dksJ6_valueOf_0 11 rfl rfl)
theorem dJ6_valueOf_12 : decode cJ6_valueOf 12 = .ok (.lconst 0, 1) := dk_9 (dk_at dksJ6_valueOf_0 12 rfl rfl)
theorem dJ6_valueOf_13 : decode cJ6_valueOf 13 = .ok (.lcmp, 1) := dk_148 (dk_at dksJ6_valueOf_0 13 rfl rfl)
theorem dJ6_valueOf_14 : decode cJ6_valueOf 14 = .ok (.ifCond .ne 9, 3) := dk_154 0 9 (dk_at dksJ6_valueOf_0 14 rfl rfl)
theorem dJ6_valueOf_17 : decode cJ6_valueOf 17 = .ok (.iinc 1 (-1), 3) := dk_132 1 255 (dk_at dksJ6_valueOf_0 17 rfl rfl)
theorem dJ6_valueOf_20 : decode cJ6_valueOf 20 = .ok (.goto (-17), 3) := dk_167 255 239 (dk_at dksJ6_valueOf_0 20 rfl rfl)
theorem dJ6_valueOf_23 : decode cJ6_valueOf 23 = .ok (.new 1, 3) := dk_187 0 1 (dk_at dksJ6_valueOf_1 0 rfl rfl)
theorem dJ6_valueOf_26 : decode cJ6_valueOf 26 = .ok (.dup, 1) := dk_89 (dk_at dksJ6_valueOf_1 3 rfl rfl)
theorem dJ6_valueOf_27 : decode cJ6_valueOf 27 = .ok (.aload_n 0, 1) := dk_42 (dk_at dksJ6_valueOf_1 4 rfl rfl)
theorem dJ6_valueOf_28 : decode cJ6_valueOf 28 = .ok (.iload_n 1, 1) := dk_27 (dk_at dksJ6_valueOf_1 5 rfl rfl)
theorem dJ6_valueOf_29 : decode cJ6_valueOf 29 = .ok (.invokestatic 59, 3) := dk_184 0 59 (dk_at dksJ6_valueOf_1 6 rfl rfl)
theorem dJ6_valueOf_32 : decode cJ6_valueOf 32 = .ok (.invokespecial 65, 3) := dk_183 0 65 (dk_at dksJ6_valueOf_1 9 rfl rfl)
theorem dJ6_valueOf_35 : decode cJ6_valueOf 35 = .ok (.areturn, 1) := dk_176 (dk_at dksJ6_valueOf_1 12 rfl rfl)
abbrev cJ6_init : ByteArray := prog_27_method_7_code
def yJ6_init : MethodName := ⟨RJ6, "<init>", "([J)V"⟩
def dkwJ6_init_1 : List UInt8 := [181, 0, 7, 42, 182, 0, 56, 177]
abbrev dktJ6_init_1 : List UInt8 := dkwJ6_init_1 ++ []
def dkwJ6_init_0 : List UInt8 := [42, 183, 0, 21, 42, 3, 181, 0, 7, 42, 3, 181, 0, 24, 42, 43, 181, 0, 11, 42, 43, 190]
abbrev dktJ6_init_0 : List UInt8 := dkwJ6_init_0 ++ dktJ6_init_1
theorem dksJ6_init_0 : cJ6_init.data.toList.drop 0 = dktJ6_init_0 := by decide +kernel
theorem dksJ6_init_1 : cJ6_init.data.toList.drop 22 = dktJ6_init_1 := dk_seg dksJ6_init_0 22 rfl rfl
theorem dJ6_init_0 : decode cJ6_init 0 = .ok (.aload_n 0, 1) := dk_42 (dk_at dksJ6_init_0 0 rfl rfl)
theorem dJ6_init_1 : decode cJ6_init 1 = .ok (.invokespecial 21, 3) := dk_183 0 21 (dk_at dksJ6_init_0 1 rfl rfl)
theorem dJ6_init_4 : decode cJ6_init 4 = .ok (.aload_n 0, 1) := dk_42 (dk_at dksJ6_init_0 4 rfl rfl)
theorem dJ6_init_5 : decode cJ6_init 5 = .ok (.iconst 0, 1) := dk_3 (dk_at dksJ6_init_0 5 rfl rfl)
theorem dJ6_init_6 : decode cJ6_init 6 = .ok (.putfield 7, 3) := dk_181 0 7 (dk_at dksJ6_init_0 6 rfl rfl)
theorem dJ6_init_9 : decode cJ6_init 9 = .ok (.aload_n 0, 1) := dk_42 (dk_at dksJ6_init_0 9 rfl rfl)
theorem dJ6_init_10 : decode cJ6_init 10 = .ok (.iconst 0, 1) := dk_3 (dk_at dksJ6_init_0 10 rfl rfl)
theorem dJ6_init_11 : decode cJ6_init 11 = .ok (.putfield 24, 3) := dk_181 0 24 (dk_at dksJ6_init_0 11 rfl rfl)
theorem dJ6_init_14 : decode cJ6_init 14 = .ok (.aload_n 0, 1) := dk_42 (dk_at dksJ6_init_0 14 rfl rfl)
theorem dJ6_init_15 : decode cJ6_init 15 = .ok (.aload_n 1, 1) := dk_43 (dk_at dksJ6_init_0 15 rfl rfl)
theorem dJ6_init_16 : decode cJ6_init 16 = .ok (.putfield 11, 3) := dk_181 0 11 (dk_at dksJ6_init_0 16 rfl rfl)
theorem dJ6_init_19 : decode cJ6_init 19 = .ok (.aload_n 0, 1) := dk_42 (dk_at dksJ6_init_0 19 rfl rfl)
theorem dJ6_init_20 : decode cJ6_init 20 = .ok (.aload_n 1, 1) := dk_43 (dk_at dksJ6_init_0 20 rfl rfl)
theorem dJ6_init_21 : decode cJ6_init 21 = .ok (.arraylength, 1) := dk_190 (dk_at dksJ6_init_0 21 rfl rfl)
theorem dJ6_init_22 : decode cJ6_init 22 = .ok (.putfield 7, 3) := dk_181 0 7 (dk_at dksJ6_init_1 0 rfl rfl)
theorem dJ6_init_25 : decode cJ6_init 25 = .ok (.aload_n 0, 1) := dk_42 (dk_at dksJ6_init_1 3 rfl rfl)
theorem dJ6_init_26 : decode cJ6_init 26 = .ok (.invokevirtual 56, 3) := dk_182 0 56 (dk_at dksJ6_init_1 4 rfl rfl)
theorem dJ6_init_29 : decode cJ6_init 29 = .ok (.return_, 1) := dk_177 (dk_at dksJ6_init_1 7 rfl rfl)
abbrev cJ6_checkInvariants : ByteArray := prog_27_method_2_code
def yJ6_checkInvariants : MethodName := ⟨RJ6, "checkInvariants", "()V"⟩
def dkwJ6_checkInvariants_4 : List UInt8 := [180, 0, 7, 47, 9, 148, 153, 0, 11, 187, 0, 15, 89, 183, 0, 17, 191, 177]
abbrev dktJ6_checkInvariants_4 : List UInt8 := dkwJ6_checkInvariants_4 ++ []
def dkwJ6_checkInvariants_3 : List UInt8 := [178, 0, 3, 154, 0, 37, 42, 180, 0, 7, 42, 180, 0, 11, 190, 159, 0, 25, 42, 180, 0, 11, 42]
abbrev dktJ6_checkInvariants_3 : List UInt8 := dkwJ6_checkInvariants_3 ++ dktJ6_checkInvariants_4
def dkwJ6_checkInvariants_2 : List UInt8 := [155, 0, 15, 42, 180, 0, 7, 42, 180, 0, 11, 190, 164, 0, 11, 187, 0, 15, 89, 183, 0, 17, 191]
abbrev dktJ6_checkInvariants_2 : List UInt8 := dkwJ6_checkInvariants_2 ++ dktJ6_checkInvariants_3
def dkwJ6_checkInvariants_1 : List UInt8 := [9, 148, 154, 0, 11, 187, 0, 15, 89, 183, 0, 17, 191, 178, 0, 3, 154, 0, 30, 42, 180, 0, 7]
abbrev dktJ6_checkInvariants_1 : List UInt8 := dkwJ6_checkInvariants_1 ++ dktJ6_checkInvariants_2
def dkwJ6_checkInvariants_0 : List UInt8 := [178, 0, 3, 154, 0, 34, 42, 180, 0, 7, 153, 0, 27, 42, 180, 0, 11, 42, 180, 0, 7, 4, 100, 47]
abbrev dktJ6_checkInvariants_0 : List UInt8 := dkwJ6_checkInvariants_0 ++ dktJ6_checkInvariants_1
theorem dksJ6_checkInvariants_0 : cJ6_checkInvariants.data.toList.drop 0 = dktJ6_checkInvariants_0 := by decide +kernel
theorem dksJ6_checkInvariants_1 : cJ6_checkInvariants.data.toList.drop 24 = dktJ6_checkInvariants_1 := dk_seg dksJ6_checkInvariants_0 24 rfl rfl
theorem dksJ6_checkInvariants_2 : cJ6_checkInvariants.data.toList.drop 47 = dktJ6_checkInvariants_2 := dk_seg dksJ6_checkInvariants_1 23 rfl rfl
theorem dksJ6_checkInvariants_3 : cJ6_checkInvariants.data.toList.drop 70 = dktJ6_checkInvariants_3 := dk_seg dksJ6_checkInvariants_2 23 rfl rfl
theorem dksJ6_checkInvariants_4 : cJ6_checkInvariants.data.toList.drop 93 = dktJ6_checkInvariants_4 := dk_seg dksJ6_checkInvariants_3 23 rfl rfl
theorem dJ6_checkInvariants_0 : decode cJ6_checkInvariants 0 = .ok (.getstatic 3, 3) := dk_178 0 3 (dk_at dksJ6_checkInvariants_0 0 rfl rfl)
theorem dJ6_checkInvariants_3 : decode cJ6_checkInvariants 3 = .ok (.ifCond .ne 34, 3) := dk_154 0 34 (dk_at dksJ6_checkInvariants_0 3 rfl rfl)
theorem dJ6_checkInvariants_6 : decode cJ6_checkInvariants 6 = .ok (.aload_n 0, 1) := dk_42 (dk_at dksJ6_checkInvariants_0 6 rfl rfl)
theorem dJ6_checkInvariants_7 : decode cJ6_checkInvariants 7 = .ok (.getfield 7, 3) := dk_180 0 7 (dk_at dksJ6_checkInvariants_0 7 rfl rfl)
theorem dJ6_checkInvariants_10 : decode cJ6_checkInvariants 10 = .ok (.ifCond .eq 27, 3) := dk_153 0 27 (dk_at dksJ6_checkInvariants_0 10 rfl rfl)
theorem dJ6_checkInvariants_13 : decode cJ6_checkInvariants 13 = .ok (.aload_n 0, 1) := dk_42 (dk_at dksJ6_checkInvariants_0 13 rfl rfl)
theorem dJ6_checkInvariants_14 : decode cJ6_checkInvariants 14 = .ok (.getfield 11, 3) := dk_180 0 11 (dk_at dksJ6_checkInvariants_0 14 rfl rfl)
theorem dJ6_checkInvariants_17 : decode cJ6_checkInvariants 17 = .ok (.aload_n 0, 1) := dk_42 (dk_at dksJ6_checkInvariants_0 17 rfl rfl)
theorem dJ6_checkInvariants_18 : decode cJ6_checkInvariants 18 = .ok (.getfield 7, 3) := dk_180 0 7 (dk_at dksJ6_checkInvariants_0 18 rfl rfl)
theorem dJ6_checkInvariants_21 : decode cJ6_checkInvariants 21 = .ok (.iconst 1, 1) := dk_4 (dk_at dksJ6_checkInvariants_0 21 rfl rfl)
theorem dJ6_checkInvariants_22 : decode cJ6_checkInvariants 22 = .ok (.isub, 1) := dk_100 (dk_at dksJ6_checkInvariants_0 22 rfl rfl)
theorem dJ6_checkInvariants_23 : decode cJ6_checkInvariants 23 = .ok (.laload, 1) := dk_47 (dk_at dksJ6_checkInvariants_0 23 rfl rfl)
theorem dJ6_checkInvariants_24 : decode cJ6_checkInvariants 24 = .ok (.lconst 0, 1) := dk_9 (dk_at dksJ6_checkInvariants_1 0 rfl rfl)
theorem dJ6_checkInvariants_25 : decode cJ6_checkInvariants 25 = .ok (.lcmp, 1) := dk_148 (dk_at dksJ6_checkInvariants_1 1 rfl rfl)
theorem dJ6_checkInvariants_26 : decode cJ6_checkInvariants 26 = .ok (.ifCond .ne 11, 3) := dk_154 0 11 (dk_at dksJ6_checkInvariants_1 2 rfl rfl)
theorem dJ6_checkInvariants_29 : decode cJ6_checkInvariants 29 = .ok (.new 15, 3) := dk_187 0 15 (dk_at dksJ6_checkInvariants_1 5 rfl rfl)
theorem dJ6_checkInvariants_32 : decode cJ6_checkInvariants 32 = .ok (.dup, 1) := dk_89 (dk_at dksJ6_checkInvariants_1 8 rfl rfl)
theorem dJ6_checkInvariants_33 : decode cJ6_checkInvariants 33 = .ok (.invokespecial 17, 3) := dk_183 0 17 (dk_at dksJ6_checkInvariants_1 9 rfl rfl)
theorem dJ6_checkInvariants_36 : decode cJ6_checkInvariants 36 = .ok (.athrow, 1) := dk_191 (dk_at dksJ6_checkInvariants_1 12 rfl rfl)
theorem dJ6_checkInvariants_37 : decode cJ6_checkInvariants 37 = .ok (.getstatic 3, 3) := dk_178 0 3 (dk_at dksJ6_checkInvariants_1 13 rfl rfl)
theorem dJ6_checkInvariants_40 : decode cJ6_checkInvariants 40 = .ok (.ifCond .ne 30, 3) := dk_154 0 30 (dk_at dksJ6_checkInvariants_1 16 rfl rfl)
theorem dJ6_checkInvariants_43 : decode cJ6_checkInvariants 43 = .ok (.aload_n 0, 1) := dk_42 (dk_at dksJ6_checkInvariants_1 19 rfl rfl)
theorem dJ6_checkInvariants_44 : decode cJ6_checkInvariants 44 = .ok (.getfield 7, 3) := dk_180 0 7 (dk_at dksJ6_checkInvariants_1 20 rfl rfl)
theorem dJ6_checkInvariants_47 : decode cJ6_checkInvariants 47 = .ok (.ifCond .lt 15, 3) := dk_155 0 15 (dk_at dksJ6_checkInvariants_2 0 rfl rfl)
theorem dJ6_checkInvariants_50 : decode cJ6_checkInvariants 50 = .ok (.aload_n 0, 1) := dk_42 (dk_at dksJ6_checkInvariants_2 3 rfl rfl)
theorem dJ6_checkInvariants_51 : decode cJ6_checkInvariants 51 = .ok (.getfield 7, 3) := dk_180 0 7 (dk_at dksJ6_checkInvariants_2 4 rfl rfl)
theorem dJ6_checkInvariants_54 : decode cJ6_checkInvariants 54 = .ok (.aload_n 0, 1) := dk_42 (dk_at dksJ6_checkInvariants_2 7 rfl rfl)
theorem dJ6_checkInvariants_55 : decode cJ6_checkInvariants 55 = .ok (.getfield 11, 3) := dk_180 0 11 (dk_at dksJ6_checkInvariants_2 8 rfl rfl)
theorem dJ6_checkInvariants_58 : decode cJ6_checkInvariants 58 = .ok (.arraylength, 1) := dk_190 (dk_at dksJ6_checkInvariants_2 11 rfl rfl)
theorem dJ6_checkInvariants_59 : decode cJ6_checkInvariants 59 = .ok (.if_icmp .le 11, 3) := dk_164 0 11 (dk_at dksJ6_checkInvariants_2 12 rfl rfl)
theorem dJ6_checkInvariants_62 : decode cJ6_checkInvariants 62 = .ok (.new 15, 3) := dk_187 0 15 (dk_at dksJ6_checkInvariants_2 15 rfl rfl)
theorem dJ6_checkInvariants_65 : decode cJ6_checkInvariants 65 = .ok (.dup, 1) := dk_89 (dk_at dksJ6_checkInvariants_2 18 rfl rfl)
theorem dJ6_checkInvariants_66 : decode cJ6_checkInvariants 66 = .ok (.invokespecial 17, 3) := dk_183 0 17 (dk_at dksJ6_checkInvariants_2 19 rfl rfl)
theorem dJ6_checkInvariants_69 : decode cJ6_checkInvariants 69 = .ok (.athrow, 1) := dk_191 (dk_at dksJ6_checkInvariants_2 22 rfl rfl)
theorem dJ6_checkInvariants_70 : decode cJ6_checkInvariants 70 = .ok (.getstatic 3, 3) := dk_178 0 3 (dk_at dksJ6_checkInvariants_3 0 rfl rfl)
theorem dJ6_checkInvariants_73 : decode cJ6_checkInvariants 73 = .ok (.ifCond .ne 37, 3) := dk_154 0 37 (dk_at dksJ6_checkInvariants_3 3 rfl rfl)
theorem dJ6_checkInvariants_76 : decode cJ6_checkInvariants 76 = .ok (.aload_n 0, 1) := dk_42 (dk_at dksJ6_checkInvariants_3 6 rfl rfl)
theorem dJ6_checkInvariants_77 : decode cJ6_checkInvariants 77 = .ok (.getfield 7, 3) := dk_180 0 7 (dk_at dksJ6_checkInvariants_3 7 rfl rfl)
theorem dJ6_checkInvariants_80 : decode cJ6_checkInvariants 80 = .ok (.aload_n 0, 1) := dk_42 (dk_at dksJ6_checkInvariants_3 10 rfl rfl)
theorem dJ6_checkInvariants_81 : decode cJ6_checkInvariants 81 = .ok (.getfield 11, 3) := dk_180 0 11 (dk_at dksJ6_checkInvariants_3 11 rfl rfl)
theorem dJ6_checkInvariants_84 : decode cJ6_checkInvariants 84 = .ok (.arraylength, 1) := dk_190 (dk_at dksJ6_checkInvariants_3 14 rfl rfl)
theorem dJ6_checkInvariants_85 : decode cJ6_checkInvariants 85 = .ok (.if_icmp .eq 25, 3) := dk_159 0 25 (dk_at dksJ6_checkInvariants_3 15 rfl rfl)
theorem dJ6_checkInvariants_88 : decode cJ6_checkInvariants 88 = .ok (.aload_n 0, 1) := dk_42 (dk_at dksJ6_checkInvariants_3 18 rfl rfl)
theorem dJ6_checkInvariants_89 : decode cJ6_checkInvariants 89 = .ok (.getfield 11, 3) := dk_180 0 11 (dk_at dksJ6_checkInvariants_3 19 rfl rfl)
theorem dJ6_checkInvariants_92 : decode cJ6_checkInvariants 92 = .ok (.aload_n 0, 1) := dk_42 (dk_at dksJ6_checkInvariants_3 22 rfl rfl)
theorem dJ6_checkInvariants_93 : decode cJ6_checkInvariants 93 = .ok (.getfield 7, 3) := dk_180 0 7 (dk_at dksJ6_checkInvariants_4 0 rfl rfl)
theorem dJ6_checkInvariants_96 : decode cJ6_checkInvariants 96 = .ok (.laload, 1) := dk_47 (dk_at dksJ6_checkInvariants_4 3 rfl rfl)
theorem dJ6_checkInvariants_97 : decode cJ6_checkInvariants 97 = .ok (.lconst 0, 1) := dk_9 (dk_at dksJ6_checkInvariants_4 4 rfl rfl)
theorem dJ6_checkInvariants_98 : decode cJ6_checkInvariants 98 = .ok (.lcmp, 1) := dk_148 (dk_at dksJ6_checkInvariants_4 5 rfl rfl)
theorem dJ6_checkInvariants_99 : decode cJ6_checkInvariants 99 = .ok (.ifCond .eq 11, 3) := dk_153 0 11 (dk_at dksJ6_checkInvariants_4 6 rfl rfl)
theorem dJ6_checkInvariants_102 : decode cJ6_checkInvariants 102 = .ok (.new 15, 3) := dk_187 0 15 (dk_at dksJ6_checkInvariants_4 9 rfl rfl)
theorem dJ6_checkInvariants_105 : decode cJ6_checkInvariants 105 = .ok (.dup, 1) := dk_89 (dk_at dksJ6_checkInvariants_4 12 rfl rfl)
theorem dJ6_checkInvariants_106 : decode cJ6_checkInvariants 106 = .ok (.invokespecial 17, 3) := dk_183 0 17 (dk_at dksJ6_checkInvariants_4 13 rfl rfl)
theorem dJ6_checkInvariants_109 : decode cJ6_checkInvariants 109 = .ok (.athrow, 1) := dk_191 (dk_at dksJ6_checkInvariants_4 16 rfl rfl)
theorem dJ6_checkInvariants_110 : decode cJ6_checkInvariants 110 = .ok (.return_, 1) := dk_177 (dk_at dksJ6_checkInvariants_4 17 rfl rfl)
abbrev cJ6_length : ByteArray := prog_27_method_32_code
def yJ6_length : MethodName := ⟨RJ6, "length", "()I"⟩
def dkwJ6_length_1 : List UInt8 := [42, 180, 0, 7, 4, 100, 47, 184, 0, 190, 100, 96, 172]
abbrev dktJ6_length_1 : List UInt8 := dkwJ6_length_1 ++ []
def dkwJ6_length_0 : List UInt8 := [42, 180, 0, 7, 154, 0, 5, 3, 172, 16, 64, 42, 180, 0, 7, 4, 100, 104, 16, 64, 42, 180, 0, 11]
abbrev dktJ6_length_0 : List UInt8 := dkwJ6_length_0 ++ dktJ6_length_1
theorem dksJ6_length_0 : cJ6_length.data.toList.drop 0 = dktJ6_length_0 := by decide +kernel
theorem dksJ6_length_1 : cJ6_length.data.toList.drop 24 = dktJ6_length_1 := dk_seg dksJ6_length_0 24 rfl rfl
theorem dJ6_length_0 : decode cJ6_length 0 = .ok (.aload_n 0, 1) := dk_42 (dk_at dksJ6_length_0 0 rfl rfl)
theorem dJ6_length_1 : decode cJ6_length 1 = .ok (.getfield 7, 3) := dk_180 0 7 (dk_at dksJ6_length_0 1 rfl rfl)
theorem dJ6_length_4 : decode cJ6_length 4 = .ok (.ifCond .ne 5, 3) := dk_154 0 5 (dk_at dksJ6_length_0 4 rfl rfl)
theorem dJ6_length_7 : decode cJ6_length 7 = .ok (.iconst 0, 1) := dk_3 (dk_at dksJ6_length_0 7 rfl rfl)
theorem dJ6_length_8 : decode cJ6_length 8 = .ok (.ireturn, 1) := dk_172 (dk_at dksJ6_length_0 8 rfl rfl)
theorem dJ6_length_9 : decode cJ6_length 9 = .ok (.bipush 64, 2) := dk_16 64 (dk_at dksJ6_length_0 9 rfl rfl)
theorem dJ6_length_11 : decode cJ6_length 11 = .ok (.aload_n 0, 1) := dk_42 (dk_at dksJ6_length_0 11 rfl rfl)
theorem dJ6_length_12 : decode cJ6_length 12 = .ok (.getfield 7, 3) := dk_180 0 7 (dk_at dksJ6_length_0 12 rfl rfl)
theorem dJ6_length_15 : decode cJ6_length 15 = .ok (.iconst 1, 1) := dk_4 (dk_at dksJ6_length_0 15 rfl rfl)
theorem dJ6_length_16 : decode cJ6_length 16 = .ok (.isub, 1) := dk_100 (dk_at dksJ6_length_0 16 rfl rfl)
theorem dJ6_length_17 : decode cJ6_length 17 = .ok (.imul, 1) := dk_104 (dk_at dksJ6_length_0 17 rfl rfl)
theorem dJ6_length_18 : decode cJ6_length 18 = .ok (.bipush 64, 2) := dk_16 64 (dk_at dksJ6_length_0 18 rfl rfl)
theorem dJ6_length_20 : decode cJ6_length 20 = .ok (.aload_n 0, 1) := dk_42 (dk_at dksJ6_length_0 20 rfl rfl)
theorem dJ6_length_21 : decode cJ6_length 21 = .ok (.getfield 11, 3) := dk_180 0 11 (dk_at dksJ6_length_0 21 rfl rfl)
theorem dJ6_length_24 : decode cJ6_length 24 = .ok (.aload_n 0, 1) := dk_42 (dk_at dksJ6_length_1 0 rfl rfl)
theorem dJ6_length_25 : decode cJ6_length 25 = .ok (.getfield 7, 3) := dk_180 0 7 (dk_at dksJ6_length_1 1 rfl rfl)
theorem dJ6_length_28 : decode cJ6_length 28 = .ok (.iconst 1, 1) := dk_4 (dk_at dksJ6_length_1 4 rfl rfl)
theorem dJ6_length_29 : decode cJ6_length 29 = .ok (.isub, 1) := dk_100 (dk_at dksJ6_length_1 5 rfl rfl)
theorem dJ6_length_30 : decode cJ6_length 30 = .ok (.laload, 1) := dk_47 (dk_at dksJ6_length_1 6 rfl rfl)
theorem dJ6_length_31 : decode cJ6_length 31 = .ok (.invokestatic 190, 3) := dk_184 0 190 (dk_at dksJ6_length_1 7 rfl rfl)
theorem dJ6_length_34 : decode cJ6_length 34 = .ok (.isub, 1) := dk_100 (dk_at dksJ6_length_1 10 rfl rfl)
theorem dJ6_length_35 : decode cJ6_length 35 = .ok (.iadd, 1) := dk_96 (dk_at dksJ6_length_1 11 rfl rfl)
theorem dJ6_length_36 : decode cJ6_length 36 = .ok (.ireturn, 1) := dk_172 (dk_at dksJ6_length_1 12 rfl rfl)
abbrev cJ6_get : ByteArray := prog_27_method_26_code
def yJ6_get : MethodName := ⟨RJ6, "get", "(I)Z"⟩
def dkwJ6_get_2 : List UInt8 := [42, 180, 0, 11, 28, 47, 10, 27, 121, 127, 9, 148, 153, 0, 7, 4, 167, 0, 4, 3, 172]
abbrev dktJ6_get_2 : List UInt8 := dkwJ6_get_2 ++ []
def dkwJ6_get_1 : List UInt8 := [182, 0, 45, 183, 0, 146, 191, 42, 182, 0, 56, 27, 184, 0, 52, 61, 28, 42, 180, 0, 7, 162, 0, 22]
abbrev dktJ6_get_1 : List UInt8 := dkwJ6_get_1 ++ dktJ6_get_2
def dkwJ6_get_0 : List UInt8 := [27, 156, 0, 30, 187, 0, 142, 89, 187, 0, 33, 89, 183, 0, 35, 18, 153, 182, 0, 38, 27, 182, 0, 42]
abbrev dktJ6_get_0 : List UInt8 := dkwJ6_get_0 ++ dktJ6_get_1
theorem dksJ6_get_0 : cJ6_get.data.toList.drop 0 = dktJ6_get_0 := by decide +kernel
theorem dksJ6_get_1 : cJ6_get.data.toList.drop 24 = dktJ6_get_1 := dk_seg dksJ6_get_0 24 rfl rfl
theorem dksJ6_get_2 : cJ6_get.data.toList.drop 48 = dktJ6_get_2 := dk_seg dksJ6_get_1 24 rfl rfl
theorem dJ6_get_0 : decode cJ6_get 0 = .ok (.iload_n 1, 1) := dk_27 (dk_at dksJ6_get_0 0 rfl rfl)
theorem dJ6_get_1 : decode cJ6_get 1 = .ok (.ifCond .ge 30, 3) := dk_156 0 30 (dk_at dksJ6_get_0 1 rfl rfl)
theorem dJ6_get_4 : decode cJ6_get 4 = .ok (.new 142, 3) := dk_187 0 142 (dk_at dksJ6_get_0 4 rfl rfl)
theorem dJ6_get_7 : decode cJ6_get 7 = .ok (.dup, 1) := dk_89 (dk_at dksJ6_get_0 7 rfl rfl)
theorem dJ6_get_8 : decode cJ6_get 8 = .ok (.new 33, 3) := dk_187 0 33 (dk_at dksJ6_get_0 8 rfl rfl)
theorem dJ6_get_11 : decode cJ6_get 11 = .ok (.dup, 1) := dk_89 (dk_at dksJ6_get_0 11 rfl rfl)
theorem dJ6_get_12 : decode cJ6_get 12 = .ok (.invokespecial 35, 3) := dk_183 0 35 (dk_at dksJ6_get_0 12 rfl rfl)
theorem dJ6_get_15 : decode cJ6_get 15 = .ok (.ldc 153, 2) := dk_18 153 (dk_at dksJ6_get_0 15 rfl rfl)
theorem dJ6_get_17 : decode cJ6_get 17 = .ok (.invokevirtual 38, 3) := dk_182 0 38 (dk_at dksJ6_get_0 17 rfl rfl)
theorem dJ6_get_20 : decode cJ6_get 20 = .ok (.iload_n 1, 1) := dk_27 (dk_at dksJ6_get_0 20 rfl rfl)
theorem dJ6_get_21 : decode cJ6_get 21 = .ok (.invokevirtual 42, 3) := dk_182 0 42 (dk_at dksJ6_get_0 21 rfl rfl)
theorem dJ6_get_24 : decode cJ6_get 24 = .ok (.invokevirtual 45, 3) := dk_182 0 45 (dk_at dksJ6_get_1 0 rfl rfl)
theorem dJ6_get_27 : decode cJ6_get 27 = .ok (.invokespecial 146, 3) := dk_183 0 146 (dk_at dksJ6_get_1 3 rfl rfl)
theorem dJ6_get_30 : decode cJ6_get 30 = .ok (.athrow, 1) := dk_191 (dk_at dksJ6_get_1 6 rfl rfl)
theorem dJ6_get_31 : decode cJ6_get 31 = .ok (.aload_n 0, 1) := dk_42 (dk_at dksJ6_get_1 7 rfl rfl)
theorem dJ6_get_32 : decode cJ6_get 32 = .ok (.invokevirtual 56, 3) := dk_182 0 56 (dk_at dksJ6_get_1 8 rfl rfl)
theorem dJ6_get_35 : decode cJ6_get 35 = .ok (.iload_n 1, 1) := dk_27 (dk_at dksJ6_get_1 11 rfl rfl)
theorem dJ6_get_36 : decode cJ6_get 36 = .ok (.invokestatic 52, 3) := dk_184 0 52 (dk_at dksJ6_get_1 12 rfl rfl)
theorem dJ6_get_39 : decode cJ6_get 39 = .ok (.istore_n 2, 1) := dk_61 (dk_at dksJ6_get_1 15 rfl rfl)
theorem dJ6_get_40 : decode cJ6_get 40 = .ok (.iload_n 2, 1) := dk_28 (dk_at dksJ6_get_1 16 rfl rfl)
theorem dJ6_get_41 : decode cJ6_get 41 = .ok (.aload_n 0, 1) := dk_42 (dk_at dksJ6_get_1 17 rfl rfl)
theorem dJ6_get_42 : decode cJ6_get 42 = .ok (.getfield 7, 3) := dk_180 0 7 (dk_at dksJ6_get_1 18 rfl rfl)
theorem dJ6_get_45 : decode cJ6_get 45 = .ok (.if_icmp .ge 22, 3) := dk_162 0 22 (dk_at dksJ6_get_1 21 rfl rfl)
theorem dJ6_get_48 : decode cJ6_get 48 = .ok (.aload_n 0, 1) := dk_42 (dk_at dksJ6_get_2 0 rfl rfl)
theorem dJ6_get_49 : decode cJ6_get 49 = .ok (.getfield 11, 3) := dk_180 0 11 (dk_at dksJ6_get_2 1 rfl rfl)
theorem dJ6_get_52 : decode cJ6_get 52 = .ok (.iload_n 2, 1) := dk_28 (dk_at dksJ6_get_2 4 rfl rfl)
theorem dJ6_get_53 : decode cJ6_get 53 = .ok (.laload, 1) := dk_47 (dk_at dksJ6_get_2 5 rfl rfl)
theorem dJ6_get_54 : decode cJ6_get 54 = .ok (.lconst 1, 1) := dk_10 (dk_at dksJ6_get_2 6 rfl rfl)
theorem dJ6_get_55 : decode cJ6_get 55 = .ok (.iload_n 1, 1) := dk_27 (dk_at dksJ6_get_2 7 rfl rfl)
theorem dJ6_get_56 : decode cJ6_get 56 = .ok (.lshl, 1) := dk_121 (dk_at dksJ6_get_2 8 rfl rfl)
theorem dJ6_get_57 : decode cJ6_get 57 = .ok (.land, 1) := dk_127 (dk_at dksJ6_get_2 9 rfl rfl)
theorem dJ6_get_58 : decode cJ6_get 58 = .ok (.lconst 0, 1) := dk_9 (dk_at dksJ6_get_2 10 rfl rfl)
theorem dJ6_get_59 : decode cJ6_get 59 = .ok (.lcmp, 1) := dk_148 (dk_at dksJ6_get_2 11 rfl rfl)
theorem dJ6_get_60 : decode cJ6_get 60 = .ok (.ifCond .eq 7, 3) := dk_153 0 7 (dk_at dksJ6_get_2 12 rfl rfl)
theorem dJ6_get_63 : decode cJ6_get 63 = .ok (.iconst 1, 1) := dk_4 (dk_at dksJ6_get_2 15 rfl rfl)
theorem dJ6_get_64 : decode cJ6_get 64 = .ok (.goto 4, 3) := dk_167 0 4 (dk_at dksJ6_get_2 16 rfl rfl)
theorem dJ6_get_67 : decode cJ6_get 67 = .ok (.iconst 0, 1) := dk_3 (dk_at dksJ6_get_2 19 rfl rfl)
theorem dJ6_get_68 : decode cJ6_get 68 = .ok (.ireturn, 1) := dk_172 (dk_at dksJ6_get_2 20 rfl rfl)
abbrev cJ6_wordIndex : ByteArray := prog_27_method_1_code
def yJ6_wordIndex : MethodName := ⟨RJ6, "wordIndex", "(I)I"⟩
def dkwJ6_wordIndex_0 : List UInt8 := [26, 16, 6, 122, 172]
abbrev dktJ6_wordIndex_0 : List UInt8 := dkwJ6_wordIndex_0 ++ []
theorem dksJ6_wordIndex_0 : cJ6_wordIndex.data.toList.drop 0 = dktJ6_wordIndex_0 := by decide +kernel
theorem dJ6_wordIndex_0 : decode cJ6_wordIndex 0 = .ok (.iload_n 0, 1) := dk_26 (dk_at dksJ6_wordIndex_0 0 rfl rfl)
theorem dJ6_wordIndex_1 : decode cJ6_wordIndex 1 = .ok (.bipush 6, 2) := dk_16 6 (dk_at dksJ6_wordIndex_0 1 rfl rfl)
theorem dJ6_wordIndex_3 : decode cJ6_wordIndex 3 = .ok (.ishr, 1) := dk_122 (dk_at dksJ6_wordIndex_0 3 rfl rfl)
theorem dJ6_wordIndex_4 : decode cJ6_wordIndex 4 = .ok (.ireturn, 1) := dk_172 (dk_at dksJ6_wordIndex_0 4 rfl rfl)
theorem q24 : (Jvm.Cond.initialized "java/util/BitSet") ∈ lw_all := lw_g (lw_at lw_m1 12 rfl) rfl
theorem q242 : (Jvm.Cond.static ({ cls := "java/util/BitSet", name := "valueOf", desc := "([J)Ljava/util/BitSet;" } : Jvm.MethodName)) ∈ lw_all := lw_g (lw_at lw_m1 230 rfl) rfl
theorem q243 : (Jvm.Cond.code ({ cls := "java/util/BitSet", name := "valueOf", desc := "([J)Ljava/util/BitSet;" } : Jvm.MethodName) prog_27_method_8_code (2 : Nat) (Option.some (Jvm.ClassFile.FieldType.object "java/util/BitSet"))) ∈ lw_all := lw_g (lw_at lw_m1 231 rfl) rfl
theorem q244 : (Jvm.Cond.classLink "java/util/BitSet" (1 : Nat) "java/util/BitSet") ∈ lw_all := lw_g (lw_at lw_m1 232 rfl) rfl
theorem q245 : (Jvm.Cond.instantiable "java/util/BitSet" (3 : Nat)) ∈ lw_all := lw_g (lw_at lw_m1 233 rfl) rfl
theorem q246 : (Jvm.Cond.methodLink "java/util/BitSet" (59 : Nat) ({ cls := "java/util/Arrays", name := "copyOf", desc := "([JI)[J" } : Jvm.MethodName)) ∈ lw_all := lw_g (lw_at lw_m1 234 rfl) rfl
theorem q262 : (Jvm.Cond.methodLink "java/util/BitSet" (65 : Nat) ({ cls := "java/util/BitSet", name := "<init>", desc := "([J)V" } : Jvm.MethodName)) ∈ lw_all := lw_g (lw_at lw_m2 10 rfl) rfl
theorem q263 : (Jvm.Cond.instanceMethod ({ cls := "java/util/BitSet", name := "<init>", desc := "([J)V" } : Jvm.MethodName)) ∈ lw_all := lw_g (lw_at lw_m2 11 rfl) rfl
theorem q264 : (Jvm.Cond.code ({ cls := "java/util/BitSet", name := "<init>", desc := "([J)V" } : Jvm.MethodName) prog_27_method_7_code (2 : Nat) (Option.none : Option Jvm.ClassFile.FieldType)) ∈ lw_all := lw_g (lw_at lw_m2 12 rfl) rfl
theorem q265 : (Jvm.Cond.methodLink "java/util/BitSet" (21 : Nat) ({ cls := "java/lang/Object", name := "<init>", desc := "()V" } : Jvm.MethodName)) ∈ lw_all := lw_g (lw_at lw_m2 13 rfl) rfl
theorem q266 : (Jvm.Cond.methodLink "java/util/BitSet" (56 : Nat) ({ cls := "java/util/BitSet", name := "checkInvariants", desc := "()V" } : Jvm.MethodName)) ∈ lw_all := lw_g (lw_at lw_m2 14 rfl) rfl
theorem q267 : (Jvm.Cond.privateMethod ({ cls := "java/util/BitSet", name := "checkInvariants", desc := "()V" } : Jvm.MethodName)) ∈ lw_tbl := lw_at lw_m2 15 rfl
theorem q268 : (Jvm.Cond.instanceMethod ({ cls := "java/util/BitSet", name := "checkInvariants", desc := "()V" } : Jvm.MethodName)) ∈ lw_all := lw_g (lw_at lw_m2 16 rfl) rfl
theorem q269 : (Jvm.Cond.code ({ cls := "java/util/BitSet", name := "checkInvariants", desc := "()V" } : Jvm.MethodName) prog_27_method_2_code (1 : Nat) (Option.none : Option Jvm.ClassFile.FieldType)) ∈ lw_all := lw_g (lw_at lw_m2 17 rfl) rfl
theorem q270 : (Jvm.Cond.fieldLink "java/util/BitSet" (3 : Nat) "java/util/BitSet" "$assertionsDisabled" "Z") ∈ lw_all := lw_g (lw_at lw_m2 18 rfl) rfl
theorem q271 : (Jvm.Cond.laysStatic "java/util/BitSet" "$assertionsDisabled" "Z") ∈ lw_tbl := lw_at lw_m2 19 rfl
theorem q272 : (Jvm.Cond.fieldLink "java/util/BitSet" (11 : Nat) "java/util/BitSet" "words" "[J") ∈ lw_all := lw_g (lw_at lw_m2 20 rfl) rfl
theorem q273 : (Jvm.Cond.fieldLink "java/util/BitSet" (7 : Nat) "java/util/BitSet" "wordsInUse" "I") ∈ lw_all := lw_g (lw_at lw_m2 21 rfl) rfl
theorem q274 : (Jvm.Cond.fieldLink "java/util/BitSet" (24 : Nat) "java/util/BitSet" "sizeIsSticky" "Z") ∈ lw_all := lw_g (lw_at lw_m2 22 rfl) rfl
theorem q275 : (Jvm.Cond.lays "java/util/BitSet" "java/util/BitSet" "words" "[J") ∈ lw_all := lw_g (lw_at lw_m2 23 rfl) rfl
theorem q276 : (Jvm.Cond.soleField "java/util/BitSet" "words") ∈ lw_all := lw_g (lw_at lw_m2 24 rfl) rfl
theorem q277 : (Jvm.Cond.lays "java/util/BitSet" "java/util/BitSet" "wordsInUse" "I") ∈ lw_all := lw_g (lw_at lw_m2 25 rfl) rfl
theorem q278 : (Jvm.Cond.soleField "java/util/BitSet" "wordsInUse") ∈ lw_all := lw_g (lw_at lw_m2 26 rfl) rfl
theorem q279 : (Jvm.Cond.lays "java/util/BitSet" "java/util/BitSet" "sizeIsSticky" "Z") ∈ lw_all := lw_g (lw_at lw_m2 27 rfl) rfl
theorem q280 : (Jvm.Cond.soleField "java/util/BitSet" "sizeIsSticky") ∈ lw_all := lw_g (lw_at lw_m2 28 rfl) rfl
theorem q281 : (Jvm.Cond.superclass "java/util/BitSet" "java/lang/Object") ∈ lw_all := lw_g (lw_at lw_m2 29 rfl) rfl
theorem q284 : (Jvm.Cond.instanceMethod ({ cls := "java/util/BitSet", name := "length", desc := "()I" } : Jvm.MethodName)) ∈ lw_all := lw_g (lw_at lw_m2 32 rfl) rfl
theorem q285 : (Jvm.Cond.selects "java/util/BitSet" ({ cls := "java/util/BitSet", name := "length", desc := "()I" } : Jvm.MethodName) ({ cls := "java/util/BitSet", name := "length", desc := "()I" } : Jvm.MethodName)) ∈ lw_all := lw_g (lw_at lw_m2 33 rfl) rfl
theorem q286 : (Jvm.Cond.code ({ cls := "java/util/BitSet", name := "length", desc := "()I" } : Jvm.MethodName) prog_27_method_32_code (1 : Nat) (Option.some Jvm.ClassFile.FieldType.int)) ∈ lw_all := lw_g (lw_at lw_m2 34 rfl) rfl
theorem q287 : (Jvm.Cond.methodLink "java/util/BitSet" (190 : Nat) ({ cls := "java/lang/Long", name := "numberOfLeadingZeros", desc := "(J)I" } : Jvm.MethodName)) ∈ lw_all := lw_g (lw_at lw_m2 35 rfl) rfl
theorem q295 : (Jvm.Cond.instanceMethod ({ cls := "java/util/BitSet", name := "get", desc := "(I)Z" } : Jvm.MethodName)) ∈ lw_all := lw_g (lw_at lw_m2 43 rfl) rfl
theorem q296 : (Jvm.Cond.selects "java/util/BitSet" ({ cls := "java/util/BitSet", name := "get", desc := "(I)Z" } : Jvm.MethodName) ({ cls := "java/util/BitSet", name := "get", desc := "(I)Z" } : Jvm.MethodName)) ∈ lw_all := lw_g (lw_at lw_m2 44 rfl) rfl
theorem q297 : (Jvm.Cond.code ({ cls := "java/util/BitSet", name := "get", desc := "(I)Z" } : Jvm.MethodName) prog_27_method_26_code (3 : Nat) (Option.some Jvm.ClassFile.FieldType.boolean)) ∈ lw_all := lw_g (lw_at lw_m2 45 rfl) rfl
theorem q298 : (Jvm.Cond.methodLink "java/util/BitSet" (52 : Nat) ({ cls := "java/util/BitSet", name := "wordIndex", desc := "(I)I" } : Jvm.MethodName)) ∈ lw_all := lw_g (lw_at lw_m2 46 rfl) rfl
theorem q299 : (Jvm.Cond.static ({ cls := "java/util/BitSet", name := "wordIndex", desc := "(I)I" } : Jvm.MethodName)) ∈ lw_all := lw_g (lw_at lw_m2 47 rfl) rfl
theorem q300 : (Jvm.Cond.code ({ cls := "java/util/BitSet", name := "wordIndex", desc := "(I)I" } : Jvm.MethodName) prog_27_method_1_code (1 : Nat) (Option.some Jvm.ClassFile.FieldType.int)) ∈ lw_all := lw_g (lw_at lw_m2 48 rfl) rfl
theorem q570 : (Jvm.Cond.castable "java/util/BitSet" "java/lang/Object") ∈ lw_tbl := lw_at lw_m3 78 rfl
theorem in_J6 : ∀ w ∈ wsJ60, w ∈ lw_all := lw_in wsJ60 [275, 277, 279] (by decide +kernel) (by decide +kernel)
/-! java/util/Arrays -/
set_option maxRecDepth 100000
def RJ7 : String := "java/util/Arrays"
abbrev cJ7_copyOf : ByteArray := prog_26_method_124_code
def yJ7_copyOf : MethodName := ⟨RJ7, "copyOf", "([JI)[J"⟩
def dkwJ7_copyOf_1 : List UInt8 := [27, 184, 1, 48, 184, 0, 150, 44, 176]
abbrev dktJ7_copyOf_1 : List UInt8 := dkwJ7_copyOf_1 ++ []
def dkwJ7_copyOf_0 : List UInt8 := [27, 42, 190, 160, 0, 11, 42, 182, 1, 63, 192, 1, 64, 176, 27, 188, 11, 77, 42, 3, 44, 3, 42, 190]
abbrev dktJ7_copyOf_0 : List UInt8 := dkwJ7_copyOf_0 ++ dktJ7_copyOf_1
theorem dksJ7_copyOf_0 : cJ7_copyOf.data.toList.drop 0 = dktJ7_copyOf_0 := by decide +kernel
theorem dksJ7_copyOf_1 : cJ7_copyOf.data.toList.drop 24 = dktJ7_copyOf_1 := dk_seg dksJ7_copyOf_0 24 rfl rfl
theorem dJ7_copyOf_0 : decode cJ7_copyOf 0 = .ok (.iload_n 1, 1) := dk_27 (dk_at dksJ7_copyOf_0 0 rfl rfl)
theorem dJ7_copyOf_1 : decode cJ7_copyOf 1 = .ok (.aload_n 0, 1) := dk_42 (dk_at dksJ7_copyOf_0 1 rfl rfl)
theorem dJ7_copyOf_2 : decode cJ7_copyOf 2 = .ok (.arraylength, 1) := dk_190 (dk_at dksJ7_copyOf_0 2 rfl rfl)
theorem dJ7_copyOf_3 : decode cJ7_copyOf 3 = .ok (.if_icmp .ne 11, 3) := dk_160 0 11 (dk_at dksJ7_copyOf_0 3 rfl rfl)
theorem dJ7_copyOf_6 : decode cJ7_copyOf 6 = .ok (.aload_n 0, 1) := dk_42 (dk_at dksJ7_copyOf_0 6 rfl rfl)
theorem dJ7_copyOf_7 : decode cJ7_copyOf 7 = .ok (.invokevirtual 319, 3) := dk_182 1 63 (dk_at dksJ7_copyOf_0 7 rfl rfl)
theorem dJ7_copyOf_10 : decode cJ7_copyOf 10 = .ok (.checkcast 320, 3) := dk_192 1 64 (dk_at dksJ7_copyOf_0 10 rfl rfl)
theorem dJ7_copyOf_13 : decode cJ7_copyOf 13 = .ok (.areturn, 1) := dk_176 (dk_at dksJ7_copyOf_0 13 rfl rfl)
theorem dJ7_copyOf_14 : decode cJ7_copyOf 14 = .ok (.iload_n 1, 1) := dk_27 (dk_at dksJ7_copyOf_0 14 rfl rfl)
theorem dJ7_copyOf_15 : decode cJ7_copyOf 15 = .ok (.newarray .long, 2) := dk_188_11 (dk_at dksJ7_copyOf_0 15 rfl rfl)
theorem dJ7_copyOf_17 : decode cJ7_copyOf 17 = .ok (.astore_n 2, 1) := dk_77 (dk_at dksJ7_copyOf_0 17 rfl rfl)
theorem dJ7_copyOf_18 : decode cJ7_copyOf 18 = .ok (.aload_n 0, 1) := dk_42 (dk_at dksJ7_copyOf_0 18 rfl rfl)
theorem dJ7_copyOf_19 : decode cJ7_copyOf 19 = .ok (.iconst 0, 1) := dk_3 (dk_at dksJ7_copyOf_0 19 rfl rfl)
theorem dJ7_copyOf_20 : decode cJ7_copyOf 20 = .ok (.aload_n 2, 1) := dk_44 (dk_at dksJ7_copyOf_0 20 rfl rfl)
theorem dJ7_copyOf_21 : decode cJ7_copyOf 21 = .ok (.iconst 0, 1) := dk_3 (dk_at dksJ7_copyOf_0 21 rfl rfl)
theorem dJ7_copyOf_22 : decode cJ7_copyOf 22 = .ok (.aload_n 0, 1) := dk_42 (dk_at dksJ7_copyOf_0 22 rfl rfl)
theorem dJ7_copyOf_23 : decode cJ7_copyOf 23 = .ok (.arraylength, 1) := dk_190 (dk_at dksJ7_copyOf_0 23 rfl rfl)
theorem dJ7_copyOf_24 : decode cJ7_copyOf 24 = .ok (.iload_n 1, 1) := dk_27 (dk_at dksJ7_copyOf_1 0 rfl rfl)
theorem dJ7_copyOf_25 : decode cJ7_copyOf 25 = .ok (.invokestatic 304, 3) := dk_184 1 48 (dk_at dksJ7_copyOf_1 1 rfl rfl)
theorem dJ7_copyOf_28 : decode cJ7_copyOf 28 = .ok (.invokestatic 150, 3) := dk_184 0 150 (dk_at dksJ7_copyOf_1 4 rfl rfl)
theorem dJ7_copyOf_31 : decode cJ7_copyOf 31 = .ok (.aload_n 2, 1) := dk_44 (dk_at dksJ7_copyOf_1 7 rfl rfl)
theorem dJ7_copyOf_32 : decode cJ7_copyOf 32 = .ok (.areturn, 1) := dk_176 (dk_at dksJ7_copyOf_1 8 rfl rfl)
theorem q25 : (Jvm.Cond.initialized "java/util/Arrays") ∈ lw_all := lw_g (lw_at lw_m1 13 rfl) rfl
theorem q247 : (Jvm.Cond.static ({ cls := "java/util/Arrays", name := "copyOf", desc := "([JI)[J" } : Jvm.MethodName)) ∈ lw_all := lw_g (lw_at lw_m1 235 rfl) rfl
theorem q248 : (Jvm.Cond.code ({ cls := "java/util/Arrays", name := "copyOf", desc := "([JI)[J" } : Jvm.MethodName) prog_26_method_124_code (3 : Nat) (Option.some (Jvm.ClassFile.FieldType.array Jvm.ClassFile.FieldType.long))) ∈ lw_all := lw_g (lw_at lw_m1 236 rfl) rfl
theorem q249 : (Jvm.Cond.methodLink "java/util/Arrays" (319 : Nat) ({ cls := "[J", name := "clone", desc := "()Ljava/lang/Object;" } : Jvm.MethodName)) ∈ lw_all := lw_g (lw_at lw_m1 237 rfl) rfl
theorem q255 : (Jvm.Cond.classLink "java/util/Arrays" (320 : Nat) "[J") ∈ lw_all := lw_g (lw_at lw_m2 3 rfl) rfl
theorem q256 : (Jvm.Cond.methodLink "java/util/Arrays" (304 : Nat) ({ cls := "java/lang/Math", name := "min", desc := "(II)I" } : Jvm.MethodName)) ∈ lw_all := lw_g (lw_at lw_m2 4 rfl) rfl
theorem q259 : (Jvm.Cond.methodLink "java/util/Arrays" (150 : Nat) ({ cls := "java/lang/System", name := "arraycopy", desc := "(Ljava/lang/Object;ILjava/lang/Object;II)V" } : Jvm.MethodName)) ∈ lw_all := lw_g (lw_at lw_m2 7 rfl) rfl
/-! java/lang/Math -/
set_option maxRecDepth 100000
def RJ8 : String := "java/lang/Math"
abbrev cJ8_min : ByteArray := prog_17_method_69_code
def yJ8_min : MethodName := ⟨RJ8, "min", "(II)I"⟩
def dkwJ8_min_0 : List UInt8 := [26, 27, 163, 0, 7, 26, 167, 0, 4, 27, 172]
abbrev dktJ8_min_0 : List UInt8 := dkwJ8_min_0 ++ []
theorem dksJ8_min_0 : cJ8_min.data.toList.drop 0 = dktJ8_min_0 := by decide +kernel
theorem dJ8_min_0 : decode cJ8_min 0 = .ok (.iload_n 0, 1) := dk_26 (dk_at dksJ8_min_0 0 rfl rfl)
theorem dJ8_min_1 : decode cJ8_min 1 = .ok (.iload_n 1, 1) := dk_27 (dk_at dksJ8_min_0 1 rfl rfl)
theorem dJ8_min_2 : decode cJ8_min 2 = .ok (.if_icmp .gt 7, 3) := dk_163 0 7 (dk_at dksJ8_min_0 2 rfl rfl)
theorem dJ8_min_5 : decode cJ8_min 5 = .ok (.iload_n 0, 1) := dk_26 (dk_at dksJ8_min_0 5 rfl rfl)
theorem dJ8_min_6 : decode cJ8_min 6 = .ok (.goto 4, 3) := dk_167 0 4 (dk_at dksJ8_min_0 6 rfl rfl)
theorem dJ8_min_9 : decode cJ8_min 9 = .ok (.iload_n 1, 1) := dk_27 (dk_at dksJ8_min_0 9 rfl rfl)
theorem dJ8_min_10 : decode cJ8_min 10 = .ok (.ireturn, 1) := dk_172 (dk_at dksJ8_min_0 10 rfl rfl)
theorem q26 : (Jvm.Cond.initialized "java/lang/Math") ∈ lw_all := lw_g (lw_at lw_m1 14 rfl) rfl
theorem q257 : (Jvm.Cond.static ({ cls := "java/lang/Math", name := "min", desc := "(II)I" } : Jvm.MethodName)) ∈ lw_all := lw_g (lw_at lw_m2 5 rfl) rfl
theorem q258 : (Jvm.Cond.code ({ cls := "java/lang/Math", name := "min", desc := "(II)I" } : Jvm.MethodName) prog_17_method_69_code (2 : Nat) (Option.some Jvm.ClassFile.FieldType.int)) ∈ lw_all := lw_g (lw_at lw_m2 6 rfl) rfl
/-! java/lang/Long -/
set_option maxRecDepth 100000
def RJ9 : String := "java/lang/Long"
abbrev cJ9_numberOfLeadingZeros : ByteArray := prog_16_method_48_code
def yJ9_numberOfLeadingZeros : MethodName := ⟨RJ9, "numberOfLeadingZeros", "(J)I"⟩
def dkwJ9_numberOfLeadingZeros_1 : List UInt8 := [184, 1, 52, 172]
abbrev dktJ9_numberOfLeadingZeros_1 : List UInt8 := dkwJ9_numberOfLeadingZeros_1 ++ []
def dkwJ9_numberOfLeadingZeros_0 : List UInt8 := [30, 16, 32, 125, 136, 61, 28, 154, 0, 14, 16, 32, 30, 136, 184, 1, 52, 96, 167, 0, 7, 28]
abbrev dktJ9_numberOfLeadingZeros_0 : List UInt8 := dkwJ9_numberOfLeadingZeros_0 ++ dktJ9_numberOfLeadingZeros_1
theorem dksJ9_numberOfLeadingZeros_0 : cJ9_numberOfLeadingZeros.data.toList.drop 0 = dktJ9_numberOfLeadingZeros_0 := by decide +kernel
theorem dksJ9_numberOfLeadingZeros_1 : cJ9_numberOfLeadingZeros.data.toList.drop 22 = dktJ9_numberOfLeadingZeros_1 := dk_seg dksJ9_numberOfLeadingZeros_0 22 rfl rfl
theorem dJ9_numberOfLeadingZeros_0 : decode cJ9_numberOfLeadingZeros 0 = .ok (.lload_n 0, 1) := dk_30 (dk_at dksJ9_numberOfLeadingZeros_0 0 rfl rfl)
theorem dJ9_numberOfLeadingZeros_1 : decode cJ9_numberOfLeadingZeros 1 = .ok (.bipush 32, 2) := dk_16 32 (dk_at dksJ9_numberOfLeadingZeros_0 1 rfl rfl)
theorem dJ9_numberOfLeadingZeros_3 : decode cJ9_numberOfLeadingZeros 3 = .ok (.lushr, 1) := dk_125 (dk_at dksJ9_numberOfLeadingZeros_0 3 rfl rfl)
theorem dJ9_numberOfLeadingZeros_4 : decode cJ9_numberOfLeadingZeros 4 = .ok (.l2i, 1) := dk_136 (dk_at dksJ9_numberOfLeadingZeros_0 4 rfl rfl)
theorem dJ9_numberOfLeadingZeros_5 : decode cJ9_numberOfLeadingZeros 5 = .ok (.istore_n 2, 1) := dk_61 (dk_at dksJ9_numberOfLeadingZeros_0 5 rfl rfl)
theorem dJ9_numberOfLeadingZeros_6 : decode cJ9_numberOfLeadingZeros 6 = .ok (.iload_n 2, 1) := dk_28 (dk_at dksJ9_numberOfLeadingZeros_0 6 rfl rfl)
theorem dJ9_numberOfLeadingZeros_7 : decode cJ9_numberOfLeadingZeros 7 = .ok (.ifCond .ne 14, 3) := dk_154 0 14 (dk_at dksJ9_numberOfLeadingZeros_0 7 rfl rfl)
theorem dJ9_numberOfLeadingZeros_10 : decode cJ9_numberOfLeadingZeros 10 = .ok (.bipush 32, 2) := dk_16 32 (dk_at dksJ9_numberOfLeadingZeros_0 10 rfl rfl)
theorem dJ9_numberOfLeadingZeros_12 : decode cJ9_numberOfLeadingZeros 12 = .ok (.lload_n 0, 1) := dk_30 (dk_at dksJ9_numberOfLeadingZeros_0 12 rfl rfl)
theorem dJ9_numberOfLeadingZeros_13 : decode cJ9_numberOfLeadingZeros 13 = .ok (.l2i, 1) := dk_136 (dk_at dksJ9_numberOfLeadingZeros_0 13 rfl rfl)
theorem dJ9_numberOfLeadingZeros_14 : decode cJ9_numberOfLeadingZeros 14 = .ok (.invokestatic 308, 3) := dk_184 1 52 (dk_at dksJ9_numberOfLeadingZeros_0 14 rfl rfl)
theorem dJ9_numberOfLeadingZeros_17 : decode cJ9_numberOfLeadingZeros 17 = .ok (.iadd, 1) := dk_96 (dk_at dksJ9_numberOfLeadingZeros_0 17 rfl rfl)
theorem dJ9_numberOfLeadingZeros_18 : decode cJ9_numberOfLeadingZeros 18 = .ok (.goto 7, 3) := dk_167 0 7 (dk_at dksJ9_numberOfLeadingZeros_0 18 rfl rfl)
theorem dJ9_numberOfLeadingZeros_21 : decode cJ9_numberOfLeadingZeros 21 = .ok (.iload_n 2, 1) := dk_28 (dk_at dksJ9_numberOfLeadingZeros_0 21 rfl rfl)
theorem dJ9_numberOfLeadingZeros_22 : decode cJ9_numberOfLeadingZeros 22 = .ok (.invokestatic 308, 3) := dk_184 1 52 (dk_at dksJ9_numberOfLeadingZeros_1 0 rfl rfl)
theorem dJ9_numberOfLeadingZeros_25 : decode cJ9_numberOfLeadingZeros 25 = .ok (.ireturn, 1) := dk_172 (dk_at dksJ9_numberOfLeadingZeros_1 3 rfl rfl)
theorem q28 : (Jvm.Cond.initialized "java/lang/Long") ∈ lw_all := lw_g (lw_at lw_m1 16 rfl) rfl
theorem q288 : (Jvm.Cond.static ({ cls := "java/lang/Long", name := "numberOfLeadingZeros", desc := "(J)I" } : Jvm.MethodName)) ∈ lw_all := lw_g (lw_at lw_m2 36 rfl) rfl
theorem q289 : (Jvm.Cond.code ({ cls := "java/lang/Long", name := "numberOfLeadingZeros", desc := "(J)I" } : Jvm.MethodName) prog_16_method_48_code (3 : Nat) (Option.some Jvm.ClassFile.FieldType.int)) ∈ lw_all := lw_g (lw_at lw_m2 37 rfl) rfl
theorem q290 : (Jvm.Cond.methodLink "java/lang/Long" (308 : Nat) ({ cls := "java/lang/Integer", name := "numberOfLeadingZeros", desc := "(I)I" } : Jvm.MethodName)) ∈ lw_all := lw_g (lw_at lw_m2 38 rfl) rfl
/-! java/lang/Object -/
set_option maxRecDepth 100000
def RJ12 : String := "java/lang/Object"
abbrev cJ12_init : ByteArray := object_method_1_code
def yJ12_init : MethodName := ⟨RJ12, "<init>", "()V"⟩
theorem dJ12_init_0 : decode cJ12_init 0 = .ok (.return_, 1) := by decide +kernel
theorem q37 : (Jvm.Cond.instanceMethod ({ cls := "java/lang/Object", name := "<init>", desc := "()V" } : Jvm.MethodName)) ∈ lw_all := lw_g (lw_at lw_m1 25 rfl) rfl
theorem q38 : (Jvm.Cond.code ({ cls := "java/lang/Object", name := "<init>", desc := "()V" } : Jvm.MethodName) object_method_1_code (1 : Nat) (Option.none : Option Jvm.ClassFile.FieldType)) ∈ lw_all := lw_g (lw_at lw_m1 26 rfl) rfl
theorem q251 : (Jvm.Cond.native ({ cls := "java/lang/Object", name := "clone", desc := "()Ljava/lang/Object;" } : Jvm.MethodName)) ∈ lw_all := lw_g (lw_at lw_m1 239 rfl) rfl
theorem q252 : (Jvm.Cond.instanceMethod ({ cls := "java/lang/Object", name := "clone", desc := "()Ljava/lang/Object;" } : Jvm.MethodName)) ∈ lw_all := lw_g (lw_at lw_m2 0 rfl) rfl
theorem q559 : (Jvm.Cond.initialized "java/lang/Object") ∈ lw_all := lw_g (lw_at lw_m3 67 rfl) rfl
end
section
/-! the law's own entry -/
set_option maxRecDepth 100000
abbrev cL_law : ByteArray := code
def dkwL_law_14 : List UInt8 := [182, 0, 57, 167, 0, 3, 132, 3, 6, 167, 254, 171, 4, 172]
abbrev dktL_law_14 : List UInt8 := dkwL_law_14 ++ []
def dkwL_law_13 : List UInt8 := [182, 0, 52, 159, 0, 26, 3, 172, 43, 42, 29, 4, 96, 46, 182, 0, 53, 44, 42, 29, 4, 96, 46]
abbrev dktL_law_13 : List UInt8 := dkwL_law_13 ++ dktL_law_14
def dkwL_law_12 : List UInt8 := [46, 182, 0, 48, 159, 0, 49, 3, 172, 43, 42, 29, 4, 96, 46, 182, 0, 49, 44, 42, 29, 4, 96, 46]
abbrev dktL_law_12 : List UInt8 := dkwL_law_12 ++ dktL_law_13
def dkwL_law_11 : List UInt8 := [96, 46, 182, 0, 44, 159, 0, 72, 3, 172, 43, 42, 29, 4, 96, 46, 182, 0, 45, 44, 42, 29, 4, 96]
abbrev dktL_law_11 : List UInt8 := dkwL_law_11 ++ dktL_law_12
def dkwL_law_10 : List UInt8 := [172, 43, 42, 29, 4, 96, 46, 42, 29, 5, 96, 46, 182, 0, 41, 44, 42, 29, 4, 96, 46, 42, 29, 5]
abbrev dktL_law_10 : List UInt8 := dkwL_law_10 ++ dktL_law_11
def dkwL_law_9 : List UInt8 := [3, 172, 43, 42, 29, 4, 96, 46, 182, 0, 36, 44, 42, 29, 4, 96, 46, 182, 0, 40, 159, 0, 105, 3]
abbrev dktL_law_9 : List UInt8 := dkwL_law_9 ++ dktL_law_10
def dkwL_law_8 : List UInt8 := [29, 5, 96, 46, 182, 0, 31, 44, 42, 29, 4, 96, 46, 42, 29, 5, 96, 46, 182, 0, 35, 159, 0, 128]
abbrev dktL_law_8 : List UInt8 := dkwL_law_8 ++ dktL_law_9
def dkwL_law_7 : List UInt8 := [182, 0, 27, 44, 42, 29, 4, 96, 46, 182, 0, 30, 159, 0, 161, 3, 172, 43, 42, 29, 4, 96, 46, 42]
abbrev dktL_law_7 : List UInt8 := dkwL_law_7 ++ dktL_law_8
def dkwL_law_6 : List UInt8 := [182, 0, 23, 44, 42, 29, 4, 96, 46, 182, 0, 26, 159, 0, 184, 3, 172, 43, 42, 29, 4, 96, 46]
abbrev dktL_law_6 : List UInt8 := dkwL_law_6 ++ dktL_law_7
def dkwL_law_5 : List UInt8 := [46, 182, 0, 18, 44, 42, 29, 4, 96, 46, 182, 0, 22, 159, 0, 207, 3, 172, 43, 42, 29, 4, 96, 46]
abbrev dktL_law_5 : List UInt8 := dkwL_law_5 ++ dktL_law_6
def dkwL_law_4 : List UInt8 := [46, 42, 29, 5, 96, 46, 42, 29, 6, 96, 46, 182, 0, 17, 159, 0, 230, 3, 172, 43, 42, 29, 4, 96]
abbrev dktL_law_4 : List UInt8 := dkwL_law_4 ++ dktL_law_5
def dkwL_law_3 : List UInt8 := [43, 42, 29, 4, 96, 46, 42, 29, 5, 96, 46, 42, 29, 6, 96, 46, 182, 0, 13, 44, 42, 29, 4, 96]
abbrev dktL_law_3 : List UInt8 := dkwL_law_3 ++ dktL_law_4
def dkwL_law_2 : List UInt8 := [170, 0, 0, 0, 0, 1, 67, 0, 0, 0, 0, 0, 0, 0, 9, 0, 0, 0, 55, 0, 0, 0, 98, 0, 0, 0, 121, 0, 0, 0, 144, 0, 0, 0, 167, 0, 0, 0, 200, 0, 0, 0, 223, 0, 0, 1, 0, 0, 0, 1, 23, 0, 0, 1, 46]
abbrev dktL_law_2 : List UInt8 := dkwL_law_2 ++ dktL_law_3
def dkwL_law_1 : List UInt8 := [163, 1, 82, 42, 29, 46, 16, 15, 126]
abbrev dktL_law_1 : List UInt8 := dkwL_law_1 ++ dktL_law_2
def dkwL_law_0 : List UInt8 := [187, 0, 7, 89, 183, 0, 9, 76, 187, 0, 10, 89, 183, 0, 12, 77, 3, 62, 29, 42, 190, 16, 6, 100]
abbrev dktL_law_0 : List UInt8 := dkwL_law_0 ++ dktL_law_1
theorem dksL_law_0 : cL_law.data.toList.drop 0 = dktL_law_0 := by decide +kernel
theorem dksL_law_1 : cL_law.data.toList.drop 24 = dktL_law_1 := dk_seg dksL_law_0 24 rfl rfl
theorem dksL_law_2 : cL_law.data.toList.drop 33 = dktL_law_2 := dk_seg dksL_law_1 9 rfl rfl
theorem dksL_law_3 : cL_law.data.toList.drop 88 = dktL_law_3 := dk_seg dksL_law_2 55 rfl rfl
theorem dksL_law_4 : cL_law.data.toList.drop 112 = dktL_law_4 := dk_seg dksL_law_3 24 rfl rfl
theorem dksL_law_5 : cL_law.data.toList.drop 136 = dktL_law_5 := dk_seg dksL_law_4 24 rfl rfl
theorem dksL_law_6 : cL_law.data.toList.drop 160 = dktL_law_6 := dk_seg dksL_law_5 24 rfl rfl
theorem dksL_law_7 : cL_law.data.toList.drop 183 = dktL_law_7 := dk_seg dksL_law_6 23 rfl rfl
theorem dksL_law_8 : cL_law.data.toList.drop 207 = dktL_law_8 := dk_seg dksL_law_7 24 rfl rfl
theorem dksL_law_9 : cL_law.data.toList.drop 231 = dktL_law_9 := dk_seg dksL_law_8 24 rfl rfl
theorem dksL_law_10 : cL_law.data.toList.drop 255 = dktL_law_10 := dk_seg dksL_law_9 24 rfl rfl
theorem dksL_law_11 : cL_law.data.toList.drop 279 = dktL_law_11 := dk_seg dksL_law_10 24 rfl rfl
theorem dksL_law_12 : cL_law.data.toList.drop 303 = dktL_law_12 := dk_seg dksL_law_11 24 rfl rfl
theorem dksL_law_13 : cL_law.data.toList.drop 327 = dktL_law_13 := dk_seg dksL_law_12 24 rfl rfl
theorem dksL_law_14 : cL_law.data.toList.drop 350 = dktL_law_14 := dk_seg dksL_law_13 23 rfl rfl
theorem dL_law_0 : decode cL_law 0 = .ok (.new 7, 3) := dk_187 0 7 (dk_at dksL_law_0 0 rfl rfl)
theorem dL_law_3 : decode cL_law 3 = .ok (.dup, 1) := dk_89 (dk_at dksL_law_0 3 rfl rfl)
theorem dL_law_4 : decode cL_law 4 = .ok (.invokespecial 9, 3) := dk_183 0 9 (dk_at dksL_law_0 4 rfl rfl)
theorem dL_law_7 : decode cL_law 7 = .ok (.astore_n 1, 1) := dk_76 (dk_at dksL_law_0 7 rfl rfl)
theorem dL_law_8 : decode cL_law 8 = .ok (.new 10, 3) := dk_187 0 10 (dk_at dksL_law_0 8 rfl rfl)
theorem dL_law_11 : decode cL_law 11 = .ok (.dup, 1) := dk_89 (dk_at dksL_law_0 11 rfl rfl)
theorem dL_law_12 : decode cL_law 12 = .ok (.invokespecial 12, 3) := dk_183 0 12 (dk_at dksL_law_0 12 rfl rfl)
theorem dL_law_15 : decode cL_law 15 = .ok (.astore_n 2, 1) := dk_77 (dk_at dksL_law_0 15 rfl rfl)
theorem dL_law_16 : decode cL_law 16 = .ok (.iconst 0, 1) := dk_3 (dk_at dksL_law_0 16 rfl rfl)
theorem dL_law_17 : decode cL_law 17 = .ok (.istore_n 3, 1) := dk_62 (dk_at dksL_law_0 17 rfl rfl)
theorem dL_law_18 : decode cL_law 18 = .ok (.iload_n 3, 1) := dk_29 (dk_at dksL_law_0 18 rfl rfl)
theorem dL_law_19 : decode cL_law 19 = .ok (.aload_n 0, 1) := dk_42 (dk_at dksL_law_0 19 rfl rfl)
theorem dL_law_20 : decode cL_law 20 = .ok (.arraylength, 1) := dk_190 (dk_at dksL_law_0 20 rfl rfl)
theorem dL_law_21 : decode cL_law 21 = .ok (.bipush 6, 2) := dk_16 6 (dk_at dksL_law_0 21 rfl rfl)
theorem dL_law_23 : decode cL_law 23 = .ok (.isub, 1) := dk_100 (dk_at dksL_law_0 23 rfl rfl)
theorem dL_law_24 : decode cL_law 24 = .ok (.if_icmp .gt 338, 3) := dk_163 1 82 (dk_at dksL_law_1 0 rfl rfl)
theorem dL_law_27 : decode cL_law 27 = .ok (.aload_n 0, 1) := dk_42 (dk_at dksL_law_1 3 rfl rfl)
theorem dL_law_28 : decode cL_law 28 = .ok (.iload_n 3, 1) := dk_29 (dk_at dksL_law_1 4 rfl rfl)
theorem dL_law_29 : decode cL_law 29 = .ok (.iaload, 1) := dk_46 (dk_at dksL_law_1 5 rfl rfl)
theorem dL_law_30 : decode cL_law 30 = .ok (.bipush 15, 2) := dk_16 15 (dk_at dksL_law_1 6 rfl rfl)
theorem dL_law_32 : decode cL_law 32 = .ok (.iand, 1) := dk_126 (dk_at dksL_law_1 8 rfl rfl)
theorem dL_law_33 : decode cL_law 33 = .ok (.tableswitch 323 0 9 #[55, 98, 121, 144, 167, 200, 223, 256, 279, 302], 55) := by decide +kernel
theorem dL_law_88 : decode cL_law 88 = .ok (.aload_n 1, 1) := dk_43 (dk_at dksL_law_3 0 rfl rfl)
theorem dL_law_89 : decode cL_law 89 = .ok (.aload_n 0, 1) := dk_42 (dk_at dksL_law_3 1 rfl rfl)
theorem dL_law_90 : decode cL_law 90 = .ok (.iload_n 3, 1) := dk_29 (dk_at dksL_law_3 2 rfl rfl)
theorem dL_law_91 : decode cL_law 91 = .ok (.iconst 1, 1) := dk_4 (dk_at dksL_law_3 3 rfl rfl)
theorem dL_law_92 : decode cL_law 92 = .ok (.iadd, 1) := dk_96 (dk_at dksL_law_3 4 rfl rfl)
theorem dL_law_93 : decode cL_law 93 = .ok (.iaload, 1) := dk_46 (dk_at dksL_law_3 5 rfl rfl)
theorem dL_law_94 : decode cL_law 94 = .ok (.aload_n 0, 1) := dk_42 (dk_at dksL_law_3 6 rfl rfl)
theorem dL_law_95 : decode cL_law 95 = .ok (.iload_n 3, 1) := dk_29 (dk_at dksL_law_3 7 rfl rfl)
theorem dL_law_96 : decode cL_law 96 = .ok (.iconst 2, 1) := dk_5 (dk_at dksL_law_3 8 rfl rfl)
theorem dL_law_97 : decode cL_law 97 = .ok (.iadd, 1) := dk_96 (dk_at dksL_law_3 9 rfl rfl)
theorem dL_law_98 : decode cL_law 98 = .ok (.iaload, 1) := dk_46 (dk_at dksL_law_3 10 rfl rfl)
theorem dL_law_99 : decode cL_law 99 = .ok (.aload_n 0, 1) := dk_42 (dk_at dksL_law_3 11 rfl rfl)
theorem dL_law_100 : decode cL_law 100 = .ok (.iload_n 3, 1) := dk_29 (dk_at dksL_law_3 12 rfl rfl)
theorem dL_law_101 : decode cL_law 101 = .ok (.iconst 3, 1) := dk_6 (dk_at dksL_law_3 13 rfl rfl)
theorem dL_law_102 : decode cL_law 102 = .ok (.iadd, 1) := dk_96 (dk_at dksL_law_3 14 rfl rfl)
theorem dL_law_103 : decode cL_law 103 = .ok (.iaload, 1) := dk_46 (dk_at dksL_law_3 15 rfl rfl)
theorem dL_law_104 : decode cL_law 104 = .ok (.invokevirtual 13, 3) := dk_182 0 13 (dk_at dksL_law_3 16 rfl rfl)
theorem dL_law_107 : decode cL_law 107 = .ok (.aload_n 2, 1) := dk_44 (dk_at dksL_law_3 19 rfl rfl)
theorem dL_law_108 : decode cL_law 108 = .ok (.aload_n 0, 1) := dk_42 (dk_at dksL_law_3 20 rfl rfl)
theorem dL_law_109 : decode cL_law 109 = .ok (.iload_n 3, 1) := dk_29 (dk_at dksL_law_3 21 rfl rfl)
theorem dL_law_110 : decode cL_law 110 = .ok (.iconst 1, 1) := dk_4 (dk_at dksL_law_3 22 rfl rfl)
theorem dL_law_111 : decode cL_law 111 = .ok (.iadd, 1) := dk_96 (dk_at dksL_law_3 23 rfl rfl)
theorem dL_law_112 : decode cL_law 112 = .ok (.iaload, 1) := dk_46 (dk_at dksL_law_4 0 rfl rfl)
theorem dL_law_113 : decode cL_law 113 = .ok (.aload_n 0, 1) := dk_42 (dk_at dksL_law_4 1 rfl rfl)
theorem dL_law_114 : decode cL_law 114 = .ok (.iload_n 3, 1) := dk_29 (dk_at dksL_law_4 2 rfl rfl)
theorem dL_law_115 : decode cL_law 115 = .ok (.iconst 2, 1) := dk_5 (dk_at dksL_law_4 3 rfl rfl)
theorem dL_law_116 : decode cL_law 116 = .ok (.iadd, 1) := dk_96 (dk_at dksL_law_4 4 rfl rfl)
theorem dL_law_117 : decode cL_law 117 = .ok (.iaload, 1) := dk_46 (dk_at dksL_law_4 5 rfl rfl)
theorem dL_law_118 : decode cL_law 118 = .ok (.aload_n 0, 1) := dk_42 (dk_at dksL_law_4 6 rfl rfl)
theorem dL_law_119 : decode cL_law 119 = .ok (.iload_n 3, 1) := dk_29 (dk_at dksL_law_4 7 rfl rfl)
theorem dL_law_120 : decode cL_law 120 = .ok (.iconst 3, 1) := dk_6 (dk_at dksL_law_4 8 rfl rfl)
theorem dL_law_121 : decode cL_law 121 = .ok (.iadd, 1) := dk_96 (dk_at dksL_law_4 9 rfl rfl)
theorem dL_law_122 : decode cL_law 122 = .ok (.iaload, 1) := dk_46 (dk_at dksL_law_4 10 rfl rfl)
theorem dL_law_123 : decode cL_law 123 = .ok (.invokevirtual 17, 3) := dk_182 0 17 (dk_at dksL_law_4 11 rfl rfl)
theorem dL_law_126 : decode cL_law 126 = .ok (.if_icmp .eq 230, 3) := dk_159 0 230 (dk_at dksL_law_4 14 rfl rfl)
theorem dL_law_129 : decode cL_law 129 = .ok (.iconst 0, 1) := dk_3 (dk_at dksL_law_4 17 rfl rfl)
theorem dL_law_130 : decode cL_law 130 = .ok (.ireturn, 1) := dk_172 (dk_at dksL_law_4 18 rfl rfl)
theorem dL_law_131 : decode cL_law 131 = .ok (.aload_n 1, 1) := dk_43 (dk_at dksL_law_4 19 rfl rfl)
theorem dL_law_132 : decode cL_law 132 = .ok (.aload_n 0, 1) := dk_42 (dk_at dksL_law_4 20 rfl rfl)
theorem dL_law_133 : decode cL_law 133 = .ok (.iload_n 3, 1) := dk_29 (dk_at dksL_law_4 21 rfl rfl)
theorem dL_law_134 : decode cL_law 134 = .ok (.iconst 1, 1) := dk_4 (dk_at dksL_law_4 22 rfl rfl)
theorem dL_law_135 : decode cL_law 135 = .ok (.iadd, 1) := dk_96 (dk_at dksL_law_4 23 rfl rfl)
theorem dL_law_136 : decode cL_law 136 = .ok (.iaload, 1) := dk_46 (dk_at dksL_law_5 0 rfl rfl)
theorem dL_law_137 : decode cL_law 137 = .ok (.invokevirtual 18, 3) := dk_182 0 18 (dk_at dksL_law_5 1 rfl rfl)
theorem dL_law_140 : decode cL_law 140 = .ok (.aload_n 2, 1) := dk_44 (dk_at dksL_law_5 4 rfl rfl)
theorem dL_law_141 : decode cL_law 141 = .ok (.aload_n 0, 1) := dk_42 (dk_at dksL_law_5 5 rfl rfl)
theorem dL_law_142 : decode cL_law 142 = .ok (.iload_n 3, 1) := dk_29 (dk_at dksL_law_5 6 rfl rfl)
theorem dL_law_143 : decode cL_law 143 = .ok (.iconst 1, 1) := dk_4 (dk_at dksL_law_5 7 rfl rfl)
theorem dL_law_144 : decode cL_law 144 = .ok (.iadd, 1) := dk_96 (dk_at dksL_law_5 8 rfl rfl)
theorem dL_law_145 : decode cL_law 145 = .ok (.iaload, 1) := dk_46 (dk_at dksL_law_5 9 rfl rfl)
theorem dL_law_146 : decode cL_law 146 = .ok (.invokevirtual 22, 3) := dk_182 0 22 (dk_at dksL_law_5 10 rfl rfl)
theorem dL_law_149 : decode cL_law 149 = .ok (.if_icmp .eq 207, 3) := dk_159 0 207 (dk_at dksL_law_5 13 rfl rfl)
theorem dL_law_152 : decode cL_law 152 = .ok (.iconst 0, 1) := dk_3 (dk_at dksL_law_5 16 rfl rfl)
theorem dL_law_153 : decode cL_law 153 = .ok (.ireturn, 1) := dk_172 (dk_at dksL_law_5 17 rfl rfl)
theorem dL_law_154 : decode cL_law 154 = .ok (.aload_n 1, 1) := dk_43 (dk_at dksL_law_5 18 rfl rfl)
theorem dL_law_155 : decode cL_law 155 = .ok (.aload_n 0, 1) := dk_42 (dk_at dksL_law_5 19 rfl rfl)
theorem dL_law_156 : decode cL_law 156 = .ok (.iload_n 3, 1) := dk_29 (dk_at dksL_law_5 20 rfl rfl)
theorem dL_law_157 : decode cL_law 157 = .ok (.iconst 1, 1) := dk_4 (dk_at dksL_law_5 21 rfl rfl)
theorem dL_law_158 : decode cL_law 158 = .ok (.iadd, 1) := dk_96 (dk_at dksL_law_5 22 rfl rfl)
theorem dL_law_159 : decode cL_law 159 = .ok (.iaload, 1) := dk_46 (dk_at dksL_law_5 23 rfl rfl)
theorem dL_law_160 : decode cL_law 160 = .ok (.invokevirtual 23, 3) := dk_182 0 23 (dk_at dksL_law_6 0 rfl rfl)
theorem dL_law_163 : decode cL_law 163 = .ok (.aload_n 2, 1) := dk_44 (dk_at dksL_law_6 3 rfl rfl)
theorem dL_law_164 : decode cL_law 164 = .ok (.aload_n 0, 1) := dk_42 (dk_at dksL_law_6 4 rfl rfl)
theorem dL_law_165 : decode cL_law 165 = .ok (.iload_n 3, 1) := dk_29 (dk_at dksL_law_6 5 rfl rfl)
theorem dL_law_166 : decode cL_law 166 = .ok (.iconst 1, 1) := dk_4 (dk_at dksL_law_6 6 rfl rfl)
theorem dL_law_167 : decode cL_law 167 = .ok (.iadd, 1) := dk_96 (dk_at dksL_law_6 7 rfl rfl)
theorem dL_law_168 : decode cL_law 168 = .ok (.iaload, 1) := dk_46 (dk_at dksL_law_6 8 rfl rfl)
theorem dL_law_169 : decode cL_law 169 = .ok (.invokevirtual 26, 3) := dk_182 0 26 (dk_at dksL_law_6 9 rfl rfl)
theorem dL_law_172 : decode cL_law 172 = .ok (.if_icmp .eq 184, 3) := dk_159 0 184 (dk_at dksL_law_6 12 rfl rfl)
theorem dL_law_175 : decode cL_law 175 = .ok (.iconst 0, 1) := dk_3 (dk_at dksL_law_6 15 rfl rfl)
theorem dL_law_176 : decode cL_law 176 = .ok (.ireturn, 1) := dk_172 (dk_at dksL_law_6 16 rfl rfl)
theorem dL_law_177 : decode cL_law 177 = .ok (.aload_n 1, 1) := dk_43 (dk_at dksL_law_6 17 rfl rfl)
theorem dL_law_178 : decode cL_law 178 = .ok (.aload_n 0, 1) := dk_42 (dk_at dksL_law_6 18 rfl rfl)
theorem dL_law_179 : decode cL_law 179 = .ok (.iload_n 3, 1) := dk_29 (dk_at dksL_law_6 19 rfl rfl)
theorem dL_law_180 : decode cL_law 180 = .ok (.iconst 1, 1) := dk_4 (dk_at dksL_law_6 20 rfl rfl)
theorem dL_law_181 : decode cL_law 181 = .ok (.iadd, 1) := dk_96 (dk_at dksL_law_6 21 rfl rfl)
theorem dL_law_182 : decode cL_law 182 = .ok (.iaload, 1) := dk_46 (dk_at dksL_law_6 22 rfl rfl)
theorem dL_law_183 : decode cL_law 183 = .ok (.invokevirtual 27, 3) := dk_182 0 27 (dk_at dksL_law_7 0 rfl rfl)
theorem dL_law_186 : decode cL_law 186 = .ok (.aload_n 2, 1) := dk_44 (dk_at dksL_law_7 3 rfl rfl)
theorem dL_law_187 : decode cL_law 187 = .ok (.aload_n 0, 1) := dk_42 (dk_at dksL_law_7 4 rfl rfl)
theorem dL_law_188 : decode cL_law 188 = .ok (.iload_n 3, 1) := dk_29 (dk_at dksL_law_7 5 rfl rfl)
theorem dL_law_189 : decode cL_law 189 = .ok (.iconst 1, 1) := dk_4 (dk_at dksL_law_7 6 rfl rfl)
theorem dL_law_190 : decode cL_law 190 = .ok (.iadd, 1) := dk_96 (dk_at dksL_law_7 7 rfl rfl)
theorem dL_law_191 : decode cL_law 191 = .ok (.iaload, 1) := dk_46 (dk_at dksL_law_7 8 rfl rfl)
theorem dL_law_192 : decode cL_law 192 = .ok (.invokevirtual 30, 3) := dk_182 0 30 (dk_at dksL_law_7 9 rfl rfl)
theorem dL_law_195 : decode cL_law 195 = .ok (.if_icmp .eq 161, 3) := dk_159 0 161 (dk_at dksL_law_7 12 rfl rfl)
theorem dL_law_198 : decode cL_law 198 = .ok (.iconst 0, 1) := dk_3 (dk_at dksL_law_7 15 rfl rfl)
theorem dL_law_199 : decode cL_law 199 = .ok (.ireturn, 1) := dk_172 (dk_at dksL_law_7 16 rfl rfl)
theorem dL_law_200 : decode cL_law 200 = .ok (.aload_n 1, 1) := dk_43 (dk_at dksL_law_7 17 rfl rfl)
theorem dL_law_201 : decode cL_law 201 = .ok (.aload_n 0, 1) := dk_42 (dk_at dksL_law_7 18 rfl rfl)
theorem dL_law_202 : decode cL_law 202 = .ok (.iload_n 3, 1) := dk_29 (dk_at dksL_law_7 19 rfl rfl)
theorem dL_law_203 : decode cL_law 203 = .ok (.iconst 1, 1) := dk_4 (dk_at dksL_law_7 20 rfl rfl)
theorem dL_law_204 : decode cL_law 204 = .ok (.iadd, 1) := dk_96 (dk_at dksL_law_7 21 rfl rfl)
theorem dL_law_205 : decode cL_law 205 = .ok (.iaload, 1) := dk_46 (dk_at dksL_law_7 22 rfl rfl)
theorem dL_law_206 : decode cL_law 206 = .ok (.aload_n 0, 1) := dk_42 (dk_at dksL_law_7 23 rfl rfl)
theorem dL_law_207 : decode cL_law 207 = .ok (.iload_n 3, 1) := dk_29 (dk_at dksL_law_8 0 rfl rfl)
theorem dL_law_208 : decode cL_law 208 = .ok (.iconst 2, 1) := dk_5 (dk_at dksL_law_8 1 rfl rfl)
theorem dL_law_209 : decode cL_law 209 = .ok (.iadd, 1) := dk_96 (dk_at dksL_law_8 2 rfl rfl)
theorem dL_law_210 : decode cL_law 210 = .ok (.iaload, 1) := dk_46 (dk_at dksL_law_8 3 rfl rfl)
theorem dL_law_211 : decode cL_law 211 = .ok (.invokevirtual 31, 3) := dk_182 0 31 (dk_at dksL_law_8 4 rfl rfl)
theorem dL_law_214 : decode cL_law 214 = .ok (.aload_n 2, 1) := dk_44 (dk_at dksL_law_8 7 rfl rfl)
theorem dL_law_215 : decode cL_law 215 = .ok (.aload_n 0, 1) := dk_42 (dk_at dksL_law_8 8 rfl rfl)
theorem dL_law_216 : decode cL_law 216 = .ok (.iload_n 3, 1) := dk_29 (dk_at dksL_law_8 9 rfl rfl)
theorem dL_law_217 : decode cL_law 217 = .ok (.iconst 1, 1) := dk_4 (dk_at dksL_law_8 10 rfl rfl)
theorem dL_law_218 : decode cL_law 218 = .ok (.iadd, 1) := dk_96 (dk_at dksL_law_8 11 rfl rfl)
theorem dL_law_219 : decode cL_law 219 = .ok (.iaload, 1) := dk_46 (dk_at dksL_law_8 12 rfl rfl)
theorem dL_law_220 : decode cL_law 220 = .ok (.aload_n 0, 1) := dk_42 (dk_at dksL_law_8 13 rfl rfl)
theorem dL_law_221 : decode cL_law 221 = .ok (.iload_n 3, 1) := dk_29 (dk_at dksL_law_8 14 rfl rfl)
theorem dL_law_222 : decode cL_law 222 = .ok (.iconst 2, 1) := dk_5 (dk_at dksL_law_8 15 rfl rfl)
theorem dL_law_223 : decode cL_law 223 = .ok (.iadd, 1) := dk_96 (dk_at dksL_law_8 16 rfl rfl)
theorem dL_law_224 : decode cL_law 224 = .ok (.iaload, 1) := dk_46 (dk_at dksL_law_8 17 rfl rfl)
theorem dL_law_225 : decode cL_law 225 = .ok (.invokevirtual 35, 3) := dk_182 0 35 (dk_at dksL_law_8 18 rfl rfl)
theorem dL_law_228 : decode cL_law 228 = .ok (.if_icmp .eq 128, 3) := dk_159 0 128 (dk_at dksL_law_8 21 rfl rfl)
theorem dL_law_231 : decode cL_law 231 = .ok (.iconst 0, 1) := dk_3 (dk_at dksL_law_9 0 rfl rfl)
theorem dL_law_232 : decode cL_law 232 = .ok (.ireturn, 1) := dk_172 (dk_at dksL_law_9 1 rfl rfl)
theorem dL_law_233 : decode cL_law 233 = .ok (.aload_n 1, 1) := dk_43 (dk_at dksL_law_9 2 rfl rfl)
theorem dL_law_234 : decode cL_law 234 = .ok (.aload_n 0, 1) := dk_42 (dk_at dksL_law_9 3 rfl rfl)
theorem dL_law_235 : decode cL_law 235 = .ok (.iload_n 3, 1) := dk_29 (dk_at dksL_law_9 4 rfl rfl)
theorem dL_law_236 : decode cL_law 236 = .ok (.iconst 1, 1) := dk_4 (dk_at dksL_law_9 5 rfl rfl)
theorem dL_law_237 : decode cL_law 237 = .ok (.iadd, 1) := dk_96 (dk_at dksL_law_9 6 rfl rfl)
theorem dL_law_238 : decode cL_law 238 = .ok (.iaload, 1) := dk_46 (dk_at dksL_law_9 7 rfl rfl)
theorem dL_law_239 : decode cL_law 239 = .ok (.invokevirtual 36, 3) := dk_182 0 36 (dk_at dksL_law_9 8 rfl rfl)
theorem dL_law_242 : decode cL_law 242 = .ok (.aload_n 2, 1) := dk_44 (dk_at dksL_law_9 11 rfl rfl)
theorem dL_law_243 : decode cL_law 243 = .ok (.aload_n 0, 1) := dk_42 (dk_at dksL_law_9 12 rfl rfl)
theorem dL_law_244 : decode cL_law 244 = .ok (.iload_n 3, 1) := dk_29 (dk_at dksL_law_9 13 rfl rfl)
theorem dL_law_245 : decode cL_law 245 = .ok (.iconst 1, 1) := dk_4 (dk_at dksL_law_9 14 rfl rfl)
theorem dL_law_246 : decode cL_law 246 = .ok (.iadd, 1) := dk_96 (dk_at dksL_law_9 15 rfl rfl)
theorem dL_law_247 : decode cL_law 247 = .ok (.iaload, 1) := dk_46 (dk_at dksL_law_9 16 rfl rfl)
theorem dL_law_248 : decode cL_law 248 = .ok (.invokevirtual 40, 3) := dk_182 0 40 (dk_at dksL_law_9 17 rfl rfl)
theorem dL_law_251 : decode cL_law 251 = .ok (.if_icmp .eq 105, 3) := dk_159 0 105 (dk_at dksL_law_9 20 rfl rfl)
theorem dL_law_254 : decode cL_law 254 = .ok (.iconst 0, 1) := dk_3 (dk_at dksL_law_9 23 rfl rfl)
theorem dL_law_255 : decode cL_law 255 = .ok (.ireturn, 1) := dk_172 (dk_at dksL_law_10 0 rfl rfl)
theorem dL_law_256 : decode cL_law 256 = .ok (.aload_n 1, 1) := dk_43 (dk_at dksL_law_10 1 rfl rfl)
theorem dL_law_257 : decode cL_law 257 = .ok (.aload_n 0, 1) := dk_42 (dk_at dksL_law_10 2 rfl rfl)
theorem dL_law_258 : decode cL_law 258 = .ok (.iload_n 3, 1) := dk_29 (dk_at dksL_law_10 3 rfl rfl)
theorem dL_law_259 : decode cL_law 259 = .ok (.iconst 1, 1) := dk_4 (dk_at dksL_law_10 4 rfl rfl)
theorem dL_law_260 : decode cL_law 260 = .ok (.iadd, 1) := dk_96 (dk_at dksL_law_10 5 rfl rfl)
theorem dL_law_261 : decode cL_law 261 = .ok (.iaload, 1) := dk_46 (dk_at dksL_law_10 6 rfl rfl)
theorem dL_law_262 : decode cL_law 262 = .ok (.aload_n 0, 1) := dk_42 (dk_at dksL_law_10 7 rfl rfl)
theorem dL_law_263 : decode cL_law 263 = .ok (.iload_n 3, 1) := dk_29 (dk_at dksL_law_10 8 rfl rfl)
theorem dL_law_264 : decode cL_law 264 = .ok (.iconst 2, 1) := dk_5 (dk_at dksL_law_10 9 rfl rfl)
theorem dL_law_265 : decode cL_law 265 = .ok (.iadd, 1) := dk_96 (dk_at dksL_law_10 10 rfl rfl)
theorem dL_law_266 : decode cL_law 266 = .ok (.iaload, 1) := dk_46 (dk_at dksL_law_10 11 rfl rfl)
theorem dL_law_267 : decode cL_law 267 = .ok (.invokevirtual 41, 3) := dk_182 0 41 (dk_at dksL_law_10 12 rfl rfl)
theorem dL_law_270 : decode cL_law 270 = .ok (.aload_n 2, 1) := dk_44 (dk_at dksL_law_10 15 rfl rfl)
theorem dL_law_271 : decode cL_law 271 = .ok (.aload_n 0, 1) := dk_42 (dk_at dksL_law_10 16 rfl rfl)
theorem dL_law_272 : decode cL_law 272 = .ok (.iload_n 3, 1) := dk_29 (dk_at dksL_law_10 17 rfl rfl)
theorem dL_law_273 : decode cL_law 273 = .ok (.iconst 1, 1) := dk_4 (dk_at dksL_law_10 18 rfl rfl)
theorem dL_law_274 : decode cL_law 274 = .ok (.iadd, 1) := dk_96 (dk_at dksL_law_10 19 rfl rfl)
theorem dL_law_275 : decode cL_law 275 = .ok (.iaload, 1) := dk_46 (dk_at dksL_law_10 20 rfl rfl)
theorem dL_law_276 : decode cL_law 276 = .ok (.aload_n 0, 1) := dk_42 (dk_at dksL_law_10 21 rfl rfl)
theorem dL_law_277 : decode cL_law 277 = .ok (.iload_n 3, 1) := dk_29 (dk_at dksL_law_10 22 rfl rfl)
theorem dL_law_278 : decode cL_law 278 = .ok (.iconst 2, 1) := dk_5 (dk_at dksL_law_10 23 rfl rfl)
theorem dL_law_279 : decode cL_law 279 = .ok (.iadd, 1) := dk_96 (dk_at dksL_law_11 0 rfl rfl)
theorem dL_law_280 : decode cL_law 280 = .ok (.iaload, 1) := dk_46 (dk_at dksL_law_11 1 rfl rfl)
theorem dL_law_281 : decode cL_law 281 = .ok (.invokevirtual 44, 3) := dk_182 0 44 (dk_at dksL_law_11 2 rfl rfl)
theorem dL_law_284 : decode cL_law 284 = .ok (.if_icmp .eq 72, 3) := dk_159 0 72 (dk_at dksL_law_11 5 rfl rfl)
theorem dL_law_287 : decode cL_law 287 = .ok (.iconst 0, 1) := dk_3 (dk_at dksL_law_11 8 rfl rfl)
theorem dL_law_288 : decode cL_law 288 = .ok (.ireturn, 1) := dk_172 (dk_at dksL_law_11 9 rfl rfl)
theorem dL_law_289 : decode cL_law 289 = .ok (.aload_n 1, 1) := dk_43 (dk_at dksL_law_11 10 rfl rfl)
theorem dL_law_290 : decode cL_law 290 = .ok (.aload_n 0, 1) := dk_42 (dk_at dksL_law_11 11 rfl rfl)
theorem dL_law_291 : decode cL_law 291 = .ok (.iload_n 3, 1) := dk_29 (dk_at dksL_law_11 12 rfl rfl)
theorem dL_law_292 : decode cL_law 292 = .ok (.iconst 1, 1) := dk_4 (dk_at dksL_law_11 13 rfl rfl)
theorem dL_law_293 : decode cL_law 293 = .ok (.iadd, 1) := dk_96 (dk_at dksL_law_11 14 rfl rfl)
theorem dL_law_294 : decode cL_law 294 = .ok (.iaload, 1) := dk_46 (dk_at dksL_law_11 15 rfl rfl)
theorem dL_law_295 : decode cL_law 295 = .ok (.invokevirtual 45, 3) := dk_182 0 45 (dk_at dksL_law_11 16 rfl rfl)
theorem dL_law_298 : decode cL_law 298 = .ok (.aload_n 2, 1) := dk_44 (dk_at dksL_law_11 19 rfl rfl)
theorem dL_law_299 : decode cL_law 299 = .ok (.aload_n 0, 1) := dk_42 (dk_at dksL_law_11 20 rfl rfl)
theorem dL_law_300 : decode cL_law 300 = .ok (.iload_n 3, 1) := dk_29 (dk_at dksL_law_11 21 rfl rfl)
theorem dL_law_301 : decode cL_law 301 = .ok (.iconst 1, 1) := dk_4 (dk_at dksL_law_11 22 rfl rfl)
theorem dL_law_302 : decode cL_law 302 = .ok (.iadd, 1) := dk_96 (dk_at dksL_law_11 23 rfl rfl)
theorem dL_law_303 : decode cL_law 303 = .ok (.iaload, 1) := dk_46 (dk_at dksL_law_12 0 rfl rfl)
theorem dL_law_304 : decode cL_law 304 = .ok (.invokevirtual 48, 3) := dk_182 0 48 (dk_at dksL_law_12 1 rfl rfl)
theorem dL_law_307 : decode cL_law 307 = .ok (.if_icmp .eq 49, 3) := dk_159 0 49 (dk_at dksL_law_12 4 rfl rfl)
theorem dL_law_310 : decode cL_law 310 = .ok (.iconst 0, 1) := dk_3 (dk_at dksL_law_12 7 rfl rfl)
theorem dL_law_311 : decode cL_law 311 = .ok (.ireturn, 1) := dk_172 (dk_at dksL_law_12 8 rfl rfl)
theorem dL_law_312 : decode cL_law 312 = .ok (.aload_n 1, 1) := dk_43 (dk_at dksL_law_12 9 rfl rfl)
theorem dL_law_313 : decode cL_law 313 = .ok (.aload_n 0, 1) := dk_42 (dk_at dksL_law_12 10 rfl rfl)
theorem dL_law_314 : decode cL_law 314 = .ok (.iload_n 3, 1) := dk_29 (dk_at dksL_law_12 11 rfl rfl)
theorem dL_law_315 : decode cL_law 315 = .ok (.iconst 1, 1) := dk_4 (dk_at dksL_law_12 12 rfl rfl)
theorem dL_law_316 : decode cL_law 316 = .ok (.iadd, 1) := dk_96 (dk_at dksL_law_12 13 rfl rfl)
theorem dL_law_317 : decode cL_law 317 = .ok (.iaload, 1) := dk_46 (dk_at dksL_law_12 14 rfl rfl)
theorem dL_law_318 : decode cL_law 318 = .ok (.invokevirtual 49, 3) := dk_182 0 49 (dk_at dksL_law_12 15 rfl rfl)
theorem dL_law_321 : decode cL_law 321 = .ok (.aload_n 2, 1) := dk_44 (dk_at dksL_law_12 18 rfl rfl)
theorem dL_law_322 : decode cL_law 322 = .ok (.aload_n 0, 1) := dk_42 (dk_at dksL_law_12 19 rfl rfl)
theorem dL_law_323 : decode cL_law 323 = .ok (.iload_n 3, 1) := dk_29 (dk_at dksL_law_12 20 rfl rfl)
theorem dL_law_324 : decode cL_law 324 = .ok (.iconst 1, 1) := dk_4 (dk_at dksL_law_12 21 rfl rfl)
theorem dL_law_325 : decode cL_law 325 = .ok (.iadd, 1) := dk_96 (dk_at dksL_law_12 22 rfl rfl)
theorem dL_law_326 : decode cL_law 326 = .ok (.iaload, 1) := dk_46 (dk_at dksL_law_12 23 rfl rfl)
theorem dL_law_327 : decode cL_law 327 = .ok (.invokevirtual 52, 3) := dk_182 0 52 (dk_at dksL_law_13 0 rfl rfl)
theorem dL_law_330 : decode cL_law 330 = .ok (.if_icmp .eq 26, 3) := dk_159 0 26 (dk_at dksL_law_13 3 rfl rfl)
theorem dL_law_333 : decode cL_law 333 = .ok (.iconst 0, 1) := dk_3 (dk_at dksL_law_13 6 rfl rfl)
theorem dL_law_334 : decode cL_law 334 = .ok (.ireturn, 1) := dk_172 (dk_at dksL_law_13 7 rfl rfl)
theorem dL_law_335 : decode cL_law 335 = .ok (.aload_n 1, 1) := dk_43 (dk_at dksL_law_13 8 rfl rfl)
theorem dL_law_336 : decode cL_law 336 = .ok (.aload_n 0, 1) := dk_42 (dk_at dksL_law_13 9 rfl rfl)
theorem dL_law_337 : decode cL_law 337 = .ok (.iload_n 3, 1) := dk_29 (dk_at dksL_law_13 10 rfl rfl)
theorem dL_law_338 : decode cL_law 338 = .ok (.iconst 1, 1) := dk_4 (dk_at dksL_law_13 11 rfl rfl)
theorem dL_law_339 : decode cL_law 339 = .ok (.iadd, 1) := dk_96 (dk_at dksL_law_13 12 rfl rfl)
theorem dL_law_340 : decode cL_law 340 = .ok (.iaload, 1) := dk_46 (dk_at dksL_law_13 13 rfl rfl)
theorem dL_law_341 : decode cL_law 341 = .ok (.invokevirtual 53, 3) := dk_182 0 53 (dk_at dksL_law_13 14 rfl rfl)
theorem dL_law_344 : decode cL_law 344 = .ok (.aload_n 2, 1) := dk_44 (dk_at dksL_law_13 17 rfl rfl)
theorem dL_law_345 : decode cL_law 345 = .ok (.aload_n 0, 1) := dk_42 (dk_at dksL_law_13 18 rfl rfl)
theorem dL_law_346 : decode cL_law 346 = .ok (.iload_n 3, 1) := dk_29 (dk_at dksL_law_13 19 rfl rfl)
theorem dL_law_347 : decode cL_law 347 = .ok (.iconst 1, 1) := dk_4 (dk_at dksL_law_13 20 rfl rfl)
theorem dL_law_348 : decode cL_law 348 = .ok (.iadd, 1) := dk_96 (dk_at dksL_law_13 21 rfl rfl)
theorem dL_law_349 : decode cL_law 349 = .ok (.iaload, 1) := dk_46 (dk_at dksL_law_13 22 rfl rfl)
theorem dL_law_350 : decode cL_law 350 = .ok (.invokevirtual 57, 3) := dk_182 0 57 (dk_at dksL_law_14 0 rfl rfl)
theorem dL_law_353 : decode cL_law 353 = .ok (.goto 3, 3) := dk_167 0 3 (dk_at dksL_law_14 3 rfl rfl)
theorem dL_law_356 : decode cL_law 356 = .ok (.iinc 3 6, 3) := dk_132 3 6 (dk_at dksL_law_14 6 rfl rfl)
theorem dL_law_359 : decode cL_law 359 = .ok (.goto (-341), 3) := dk_167 254 171 (dk_at dksL_law_14 9 rfl rfl)
theorem dL_law_362 : decode cL_law 362 = .ok (.iconst 1, 1) := dk_4 (dk_at dksL_law_14 12 rfl rfl)
theorem dL_law_363 : decode cL_law 363 = .ok (.ireturn, 1) := dk_172 (dk_at dksL_law_14 13 rfl rfl)
theorem q367 : (Jvm.Cond.interfaceMethod "AddressableHeap$Handle" "AddressableHeap$Handle" "getKey" "()Ljava/lang/Object;") ∈ lw_tbl := lw_at lw_m2 115 rfl
set_option maxRecDepth 100000
theorem q368 : (Jvm.Cond.declares ({ cls := "AddressableHeap$Handle", name := "getKey", desc := "()Ljava/lang/Object;" } : Jvm.MethodName)) ∈ lw_tbl := lw_at lw_m2 116 rfl
theorem q381 : (Jvm.Cond.interfaceMethod "AddressableHeap$Handle" "AddressableHeap$Handle" "getValue" "()Ljava/lang/Object;") ∈ lw_tbl := lw_at lw_m2 129 rfl
theorem q382 : (Jvm.Cond.declares ({ cls := "AddressableHeap$Handle", name := "getValue", desc := "()Ljava/lang/Object;" } : Jvm.MethodName)) ∈ lw_tbl := lw_at lw_m2 130 rfl
theorem q411 : (Jvm.Cond.interfaceMethod "AddressableHeap$Handle" "AddressableHeap$Handle" "decreaseKey" "(Ljava/lang/Object;)V") ∈ lw_tbl := lw_at lw_m2 159 rfl
theorem q412 : (Jvm.Cond.declares ({ cls := "AddressableHeap$Handle", name := "decreaseKey", desc := "(Ljava/lang/Object;)V" } : Jvm.MethodName)) ∈ lw_tbl := lw_at lw_m2 160 rfl
theorem q446 : (Jvm.Cond.interfaceMethod "AddressableHeap$Handle" "AddressableHeap$Handle" "delete" "()V") ∈ lw_tbl := lw_at lw_m2 194 rfl
theorem q447 : (Jvm.Cond.declares ({ cls := "AddressableHeap$Handle", name := "delete", desc := "()V" } : Jvm.MethodName)) ∈ lw_tbl := lw_at lw_m2 195 rfl
theorem q462 : (Jvm.Cond.interfaceMethod "AddressableHeap$Handle" "AddressableHeap$Handle" "setValue" "(Ljava/lang/Object;)V") ∈ lw_tbl := lw_at lw_m2 210 rfl
theorem q463 : (Jvm.Cond.declares ({ cls := "AddressableHeap$Handle", name := "setValue", desc := "(Ljava/lang/Object;)V" } : Jvm.MethodName)) ∈ lw_tbl := lw_at lw_m2 211 rfl
theorem q12 : (Jvm.Cond.initialized "BinaryTreeAddressableHeapDeskLaw") ∈ lw_all := lw_g (lw_at lw_m1 0 rfl) rfl
set_option maxRecDepth 100000
theorem q31 : (Jvm.Cond.classLink "BinaryTreeAddressableHeapDeskLaw" (7 : Nat) "BinaryTreeAddressableHeapDesk") ∈ lw_all := lw_g (lw_at lw_m1 19 rfl) rfl
theorem q33 : (Jvm.Cond.methodLink "BinaryTreeAddressableHeapDeskLaw" (9 : Nat) ({ cls := "BinaryTreeAddressableHeapDesk", name := "<init>", desc := "()V" } : Jvm.MethodName)) ∈ lw_all := lw_g (lw_at lw_m1 21 rfl) rfl
theorem q89 : (Jvm.Cond.methodLink "BinaryTreeAddressableHeapDeskLaw" (13 : Nat) ({ cls := "BinaryTreeAddressableHeapDesk", name := "put", desc := "(III)I" } : Jvm.MethodName)) ∈ lw_all := lw_g (lw_at lw_m1 77 rfl) rfl
theorem q317 : (Jvm.Cond.methodLink "BinaryTreeAddressableHeapDeskLaw" (18 : Nat) ({ cls := "BinaryTreeAddressableHeapDesk", name := "least", desc := "(I)I" } : Jvm.MethodName)) ∈ lw_all := lw_g (lw_at lw_m2 65 rfl) rfl
theorem q375 : (Jvm.Cond.methodLink "BinaryTreeAddressableHeapDeskLaw" (23 : Nat) ({ cls := "BinaryTreeAddressableHeapDesk", name := "valueOfLeast", desc := "(I)I" } : Jvm.MethodName)) ∈ lw_all := lw_g (lw_at lw_m2 123 rfl) rfl
theorem q388 : (Jvm.Cond.methodLink "BinaryTreeAddressableHeapDeskLaw" (27 : Nat) ({ cls := "BinaryTreeAddressableHeapDesk", name := "takeLeast", desc := "(I)I" } : Jvm.MethodName)) ∈ lw_all := lw_g (lw_at lw_m2 136 rfl) rfl
theorem q400 : (Jvm.Cond.methodLink "BinaryTreeAddressableHeapDeskLaw" (31 : Nat) ({ cls := "BinaryTreeAddressableHeapDesk", name := "lower", desc := "(II)Z" } : Jvm.MethodName)) ∈ lw_all := lw_g (lw_at lw_m2 148 rfl) rfl
theorem q440 : (Jvm.Cond.methodLink "BinaryTreeAddressableHeapDeskLaw" (36 : Nat) ({ cls := "BinaryTreeAddressableHeapDesk", name := "drop", desc := "(I)Z" } : Jvm.MethodName)) ∈ lw_all := lw_g (lw_at lw_m2 188 rfl) rfl
theorem q456 : (Jvm.Cond.methodLink "BinaryTreeAddressableHeapDeskLaw" (41 : Nat) ({ cls := "BinaryTreeAddressableHeapDesk", name := "change", desc := "(II)Z" } : Jvm.MethodName)) ∈ lw_all := lw_g (lw_at lw_m2 204 rfl) rfl
theorem q469 : (Jvm.Cond.methodLink "BinaryTreeAddressableHeapDeskLaw" (45 : Nat) ({ cls := "BinaryTreeAddressableHeapDesk", name := "key", desc := "(I)I" } : Jvm.MethodName)) ∈ lw_all := lw_g (lw_at lw_m2 217 rfl) rfl
theorem q473 : (Jvm.Cond.methodLink "BinaryTreeAddressableHeapDeskLaw" (49 : Nat) ({ cls := "BinaryTreeAddressableHeapDesk", name := "size", desc := "(I)I" } : Jvm.MethodName)) ∈ lw_all := lw_g (lw_at lw_m2 221 rfl) rfl
theorem q481 : (Jvm.Cond.methodLink "BinaryTreeAddressableHeapDeskLaw" (53 : Nat) ({ cls := "BinaryTreeAddressableHeapDesk", name := "clear", desc := "(I)V" } : Jvm.MethodName)) ∈ lw_all := lw_g (lw_at lw_m2 229 rfl) rfl
theorem q489 : (Jvm.Cond.classLink "BinaryTreeAddressableHeapDeskLaw" (10 : Nat) "BinaryTreeAddressableHeapDeskModel") ∈ lw_all := lw_g (lw_at lw_m2 237 rfl) rfl
theorem q491 : (Jvm.Cond.methodLink "BinaryTreeAddressableHeapDeskLaw" (12 : Nat) ({ cls := "BinaryTreeAddressableHeapDeskModel", name := "<init>", desc := "()V" } : Jvm.MethodName)) ∈ lw_all := lw_g (lw_at lw_m2 239 rfl) rfl
theorem q508 : (Jvm.Cond.methodLink "BinaryTreeAddressableHeapDeskLaw" (17 : Nat) ({ cls := "BinaryTreeAddressableHeapDeskModel", name := "put", desc := "(III)I" } : Jvm.MethodName)) ∈ lw_all := lw_g (lw_at lw_m3 16 rfl) rfl
theorem q513 : (Jvm.Cond.methodLink "BinaryTreeAddressableHeapDeskLaw" (22 : Nat) ({ cls := "BinaryTreeAddressableHeapDeskModel", name := "least", desc := "(I)I" } : Jvm.MethodName)) ∈ lw_all := lw_g (lw_at lw_m3 21 rfl) rfl
theorem q521 : (Jvm.Cond.methodLink "BinaryTreeAddressableHeapDeskLaw" (26 : Nat) ({ cls := "BinaryTreeAddressableHeapDeskModel", name := "valueOfLeast", desc := "(I)I" } : Jvm.MethodName)) ∈ lw_all := lw_g (lw_at lw_m3 29 rfl) rfl
theorem q525 : (Jvm.Cond.methodLink "BinaryTreeAddressableHeapDeskLaw" (30 : Nat) ({ cls := "BinaryTreeAddressableHeapDeskModel", name := "takeLeast", desc := "(I)I" } : Jvm.MethodName)) ∈ lw_all := lw_g (lw_at lw_m3 33 rfl) rfl
theorem q529 : (Jvm.Cond.methodLink "BinaryTreeAddressableHeapDeskLaw" (35 : Nat) ({ cls := "BinaryTreeAddressableHeapDeskModel", name := "lower", desc := "(II)Z" } : Jvm.MethodName)) ∈ lw_all := lw_g (lw_at lw_m3 37 rfl) rfl
theorem q538 : (Jvm.Cond.methodLink "BinaryTreeAddressableHeapDeskLaw" (40 : Nat) ({ cls := "BinaryTreeAddressableHeapDeskModel", name := "drop", desc := "(I)Z" } : Jvm.MethodName)) ∈ lw_all := lw_g (lw_at lw_m3 46 rfl) rfl
theorem q542 : (Jvm.Cond.methodLink "BinaryTreeAddressableHeapDeskLaw" (44 : Nat) ({ cls := "BinaryTreeAddressableHeapDeskModel", name := "change", desc := "(II)Z" } : Jvm.MethodName)) ∈ lw_all := lw_g (lw_at lw_m3 50 rfl) rfl
theorem q546 : (Jvm.Cond.methodLink "BinaryTreeAddressableHeapDeskLaw" (48 : Nat) ({ cls := "BinaryTreeAddressableHeapDeskModel", name := "key", desc := "(I)I" } : Jvm.MethodName)) ∈ lw_all := lw_g (lw_at lw_m3 54 rfl) rfl
theorem q550 : (Jvm.Cond.methodLink "BinaryTreeAddressableHeapDeskLaw" (52 : Nat) ({ cls := "BinaryTreeAddressableHeapDeskModel", name := "size", desc := "(I)I" } : Jvm.MethodName)) ∈ lw_all := lw_g (lw_at lw_m3 58 rfl) rfl
theorem q554 : (Jvm.Cond.methodLink "BinaryTreeAddressableHeapDeskLaw" (57 : Nat) ({ cls := "BinaryTreeAddressableHeapDeskModel", name := "clear", desc := "(I)V" } : Jvm.MethodName)) ∈ lw_all := lw_g (lw_at lw_m3 62 rfl) rfl
theorem q250 : (Jvm.Cond.sameMethod "[J" "java/lang/Object" "clone" "()Ljava/lang/Object;") ∈ lw_all := lw_g (lw_at lw_m1 238 rfl) rfl
set_option maxRecDepth 100000
theorem q253 : (Jvm.Cond.selects "[J" ({ cls := "[J", name := "clone", desc := "()Ljava/lang/Object;" } : Jvm.MethodName) ({ cls := "java/lang/Object", name := "clone", desc := "()Ljava/lang/Object;" } : Jvm.MethodName)) ∈ lw_all := lw_g (lw_at lw_m2 1 rfl) rfl
theorem q254 : (Jvm.Cond.castable "[J" "java/lang/Cloneable") ∈ lw_tbl := lw_at lw_m2 2 rfl
theorem q18 : (Jvm.Cond.initialized "java/lang/Integer$IntegerCache") ∈ lw_all := lw_g (lw_at lw_m1 6 rfl) rfl
set_option maxRecDepth 100000
theorem q98 : (Jvm.Cond.laysStatic "java/lang/Integer$IntegerCache" "high" "I") ∈ lw_tbl := lw_at lw_m1 86 rfl
theorem q100 : (Jvm.Cond.laysStatic "java/lang/Integer$IntegerCache" "cache" "[Ljava/lang/Integer;") ∈ lw_tbl := lw_at lw_m1 88 rfl
theorem q562 : (Jvm.Cond.castable "java/lang/String" "java/lang/Comparable") ∈ lw_tbl := lw_at lw_m3 70 rfl
set_option maxRecDepth 100000
theorem q574 : (Jvm.Cond.castable "java/lang/String" "java/lang/Object") ∈ lw_tbl := lw_at lw_m3 82 rfl
theorem q27 : (Jvm.Cond.initialized "java/lang/System") ∈ lw_all := lw_g (lw_at lw_m1 15 rfl) rfl
set_option maxRecDepth 100000
theorem q260 : (Jvm.Cond.static ({ cls := "java/lang/System", name := "arraycopy", desc := "(Ljava/lang/Object;ILjava/lang/Object;II)V" } : Jvm.MethodName)) ∈ lw_all := lw_g (lw_at lw_m2 8 rfl) rfl
theorem q261 : (Jvm.Cond.native ({ cls := "java/lang/System", name := "arraycopy", desc := "(Ljava/lang/Object;ILjava/lang/Object;II)V" } : Jvm.MethodName)) ∈ lw_all := lw_g (lw_at lw_m2 9 rfl) rfl
theorem q222 : (Jvm.Cond.interfaceMethod "java/util/Comparator" "java/util/Comparator" "compare" "(Ljava/lang/Object;Ljava/lang/Object;)I") ∈ lw_tbl := lw_at lw_m1 210 rfl
set_option maxRecDepth 100000
theorem q223 : (Jvm.Cond.declares ({ cls := "java/util/Comparator", name := "compare", desc := "(Ljava/lang/Object;Ljava/lang/Object;)I" } : Jvm.MethodName)) ∈ lw_tbl := lw_at lw_m1 211 rfl
theorem q43 : (Jvm.Cond.arrayOver (Jvm.ClassFile.FieldType.object "BinaryTreeAddressableHeap")) ∈ lw_tbl := lw_at lw_m1 31 rfl
set_option maxRecDepth 100000
theorem q74 : (Jvm.Cond.arrayOver (Jvm.ClassFile.FieldType.object "AddressableHeap$Handle")) ∈ lw_tbl := lw_at lw_m1 62 rfl
theorem q88 : (Jvm.Cond.arrayClass Jvm.ClassFile.FieldType.int) ∈ lw_all := lw_g (lw_at lw_m1 76 rfl) rfl
theorem q185 : (Jvm.Cond.arrayClass Jvm.ClassFile.FieldType.byte) ∈ lw_all := lw_g (lw_at lw_m1 173 rfl) rfl
theorem q282 : (Jvm.Cond.arrayClass Jvm.ClassFile.FieldType.long) ∈ lw_all := lw_g (lw_at lw_m2 30 rfl) rfl
end
section
/-! THE WORLD AS A FUNCTION: address -> picture of the cell; every contract takes the whole world, writes at addresses from the base on alone -/
set_option maxRecDepth 100000
abbrev fW : Type := Nat → Option va_E
/-- classes; base; array classes (0 int, 1 long, 2 heaps, 3 handles); the cache's array, DOWN; the cache's boxes -/
abbrev fG : Type := va_G × Nat × (Nat → ClassId) × (Nat × Nat) × (Nat → Nat)
/-- 0 Desk, 1 Heap, 2 Model, 3 Node, 4 Integer, 5 BitSet -/
abbrev fcl : List vw_C := [(RX0, TX0, 4), (RX1, TX1, 3), (RX2, TX2, 4), (RX3, TX3, 5), (RJ1, TJ1, 1), (RJ6, TJ6, 3)]
abbrev ftys (g : fG) : List (ClassId × FieldType) := [(g.2.2.1 0, .int), (g.2.2.1 1, .long), (g.2.2.1 2, .object "BinaryTreeAddressableHeap"), (g.2.2.1 3, .object "AddressableHeap$Handle")]
def fA (g : fG) : Nat → Prop := fun q => g.2.1 ≤ q
def HP (g : fG) (w : fW) (H : Heap) : Prop := ∀ (a : Nat) (e : va_E), w a = some e → va_at g.1 fcl (a, e) H
def fset (w : fW) (a : Nat) (e : va_E) : fW := fun x => if x = a then some e else w x
theorem fset_s {w : fW} {a : Nat} {e : va_E} : fset w a e a = some e := if_pos rfl
theorem fset_n {w : fW} {a x : Nat} {e : va_E} (h : x ≠ a) : fset w a e x = w x := if_neg h
theorem HP.one {g : fG} {w : fW} {H : Heap} {a : Nat} {e : va_E} (h : HP g w H) (hw : w a = some e) : va_P g.1 fcl [(a, e)] H := by
  intro k q hk
  have hz : k < 1 := (List.getElem?_eq_some_iff.mp hk).1
  rw [show k = 0 by omega] at hk
  cases hk
  exact h a e hw
theorem HP.lt {g : fG} {w : fW} {H : Heap} {a : Nat} {e : va_E} (h : HP g w H) (hw : w a = some e) : a < H.size := (h a e hw).lt
def fLs (g : fG) (w : fW) (ws : va_W) : Prop := (∀ (a : Nat) (e : va_E), fA g a → w a = some e → ∃ k : Nat, ws[k]? = some (a, e)) ∧ ∀ (k : Nat) (q : Nat × va_E), ws[k]? = some q → w q.1 = some q.2
theorem fw_list {g : fG} {w : fW} {H : Heap} (h : HP g w H) : ∃ ws : va_W, va_P g.1 fcl ws H ∧ va_D (fA g) ws ∧ fLs g w ws := by
  have hmem : ∀ q : Nat × va_E, q ∈ (List.range H.size).filterMap (fun a => if g.2.1 ≤ a then (w a).map (fun e => (a, e)) else none) ↔ (g.2.1 ≤ q.1 ∧ w q.1 = some q.2) := by
    intro q
    rw [List.mem_filterMap]
    constructor
    · rintro ⟨a, -, ha⟩
      split at ha
      · rename_i hle
        cases hw : w a with
        | none => rw [hw] at ha; cases ha
        | some e =>
          rw [hw] at ha
          cases ha
          exact ⟨hle, hw⟩
      · cases ha
    · rintro ⟨h1, h2⟩
      exact ⟨q.1, List.mem_range.mpr (h.lt h2), by rw [if_pos h1, h2]; rfl⟩
  have hpw : ((List.range H.size).filterMap (fun a => if g.2.1 ≤ a then (w a).map (fun e => (a, e)) else none)).Pairwise (fun p q => p.1 < q.1) := by
    rw [List.pairwise_filterMap]
    refine List.Pairwise.imp ?_ List.pairwise_lt_range
    intro a b hab p hp q hq
    have h1 : p.1 = a := by
      split at hp
      · cases hw : w a with
        | none => rw [hw] at hp; cases hp
        | some e => rw [hw] at hp; cases hp; rfl
      · cases hp
    have h2 : q.1 = b := by
      split at hq
      · cases hw : w b with
        | none => rw [hw] at hq; cases hq
        | some e => rw [hw] at hq; cases hq; rfl
      · cases hq
    rw [h1, h2]; exact hab
  generalize (List.range H.size).filterMap (fun a => if g.2.1 ≤ a then (w a).map (fun e => (a, e)) else none) = ws at hmem hpw
  refine ⟨ws, fun k q hk => h q.1 q.2 ((hmem q).mp (List.mem_of_getElem? hk)).2, ⟨?_, fun k q hk => ((hmem q).mp (List.mem_of_getElem? hk)).1⟩, fun a e h1 h2 => List.getElem?_of_mem ((hmem (a, e)).mpr ⟨h1, h2⟩), fun k q hk => ((hmem q).mp (List.mem_of_getElem? hk)).2⟩
  intro i j p q hi hj hpq
  rw [List.pairwise_iff_getElem] at hpw
  obtain ⟨i1, i2⟩ := List.getElem?_eq_some_iff.mp hi
  obtain ⟨j1, j2⟩ := List.getElem?_eq_some_iff.mp hj
  rcases Nat.lt_trichotomy i j with h1 | h1 | h1
  · have := hpw i j i1 j1 h1
    rw [i2, j2] at this
    omega
  · exact h1
  · have := hpw j i j1 i1 h1
    rw [i2, j2] at this
    omega
theorem fw_low {g : fG} {H0 H H1 : Heap} {locs locs1 : List Loc} (hb : g.2.1 ≤ H0.size) (hS : va_S (fA g) H0 H locs) (hS1 : va_S (fA g) H0 H1 locs1) {x : Nat} (hx : ¬ g.2.1 ≤ x) : H1[x]? = H[x]? := by
  have h1 : x < H0.size := by omega
  rw [hS1.2.1 x h1 hx, hS.2.1 x h1 hx]
theorem fw_bset {g : fG} {w : fW} {H0 H H1 : Heap} {locs locs1 : List Loc} {ws : va_W} {q0 a : Nat} {e0 e : va_E} (hb : g.2.1 ≤ H0.size) (hP : HP g w H) (hL : fLs g w ws) (hq : ws[q0]? = some (a, e0)) (hS : va_S (fA g) H0 H locs) (hS1 : va_S (fA g) H0 H1 locs1) (hP1 : va_P g.1 fcl (ws.set q0 (a, e)) H1) : HP g (fset w a e) H1 := by
  intro x e' hx
  by_cases hxa : x = a
  · subst hxa
    rw [fset_s] at hx
    cases hx
    exact hP1 q0 _ (List.getElem?_set_self (List.getElem?_eq_some_iff.mp hq).1)
  · rw [fset_n hxa] at hx
    by_cases hlo : g.2.1 ≤ x
    · obtain ⟨k, hk⟩ := hL.1 x e' hlo hx
      refine hP1 k _ ?_
      rw [List.getElem?_set_ne (fun hkq => ?_)]
      · exact hk
      · rw [hkq, hk] at hq
        cases hq
        exact hxa rfl
    · exact (hP x e' hx).kept (fw_low hb hS hS1 hlo)
theorem fw_bpush {g : fG} {w : fW} {H0 H H1 : Heap} {locs locs1 : List Loc} {ws : va_W} {a : Nat} {e : va_E} (hb : g.2.1 ≤ H0.size) (hP : HP g w H) (hL : fLs g w ws) (hS : va_S (fA g) H0 H locs) (hS1 : va_S (fA g) H0 H1 locs1) (hP1 : va_P g.1 fcl (ws ++ [(a, e)]) H1) (hD1 : va_D (fA g) (ws ++ [(a, e)])) : HP g (fset w a e) H1 ∧ w a = none ∧ g.2.1 ≤ a := by
  have hlast : (ws ++ [(a, e)])[ws.length]? = some (a, e) := by simp
  have hA : g.2.1 ≤ a := hD1.2 _ _ hlast
  refine ⟨?_, ?_, hA⟩
  · intro x e' hx
    by_cases hxa : x = a
    · subst hxa
      rw [fset_s] at hx
      cases hx
      exact hP1 _ _ hlast
    · rw [fset_n hxa] at hx
      by_cases hlo : g.2.1 ≤ x
      · obtain ⟨k, hk⟩ := hL.1 x e' hlo hx
        exact hP1 k _ (by rw [List.getElem?_append_left (List.getElem?_eq_some_iff.mp hk).1]; exact hk)
      · exact (hP x e' hx).kept (fw_low hb hS hS1 hlo)
  · cases hw : w a with
    | none => rfl
    | some e' =>
      obtain ⟨k, hk⟩ := hL.1 a e' hA hw
      have hl := (List.getElem?_eq_some_iff.mp hk).1
      have := hD1.1 k ws.length (a, e') (a, e) (by rw [List.getElem?_append_left hl]; exact hk) hlast rfl
      omega
/-- the tables' words that don't ride in the lists -/
def fN (U : State) : Prop :=
  va_Nw (.castable "java/lang/Integer" "java/lang/Comparable") U ∧ va_Nw (.castable "[J" "java/lang/Cloneable") U ∧ va_Nw (.castable "BinaryTreeAddressableHeap$Node" "AddressableHeap$Handle") U ∧
  va_Nw (.fieldLinkNest "BinaryTreeAddressableHeap$Node" 39 "BinaryTreeAddressableHeap" "comparator" "Ljava/util/Comparator;" "BinaryTreeAddressableHeap") U ∧
  va_Nw (.fieldLinkNest "BinaryTreeAddressableHeap$Node" 27 "BinaryTreeAddressableHeap" "root" "LBinaryTreeAddressableHeap$Node;" "BinaryTreeAddressableHeap") U ∧
  va_Nw (.methodLinkNest "BinaryTreeAddressableHeap$Node" 58 yX1_fixup "BinaryTreeAddressableHeap") U ∧
  va_Nw (.methodLinkNest "BinaryTreeAddressableHeap$Node" 62 yX1_getParent "BinaryTreeAddressableHeap") U ∧
  va_Nw (.methodLinkNest "BinaryTreeAddressableHeap$Node" 66 yX1_swap "BinaryTreeAddressableHeap") U ∧
  va_AO "BinaryTreeAddressableHeap" U ∧ va_AO "AddressableHeap$Handle" U ∧
  va_Fw "BinaryTreeAddressableHeapDesk$Down" ⟨"java/util/Comparator", "compare", "(Ljava/lang/Object;Ljava/lang/Object;)I"⟩ yX4_compare U ∧
  va_Fw RX3 ⟨"AddressableHeap$Handle", "getKey", "()Ljava/lang/Object;"⟩ yX3_getKey U ∧
  va_Fw RX3 ⟨"AddressableHeap$Handle", "getValue", "()Ljava/lang/Object;"⟩ yX3_getValue U ∧
  va_Fw RX3 ⟨"AddressableHeap$Handle", "setValue", "(Ljava/lang/Object;)V"⟩ yX3_setValue U ∧
  va_Fw RX3 ⟨"AddressableHeap$Handle", "decreaseKey", "(Ljava/lang/Object;)V"⟩ yX3_decreaseKey U ∧
  va_Fw RX3 ⟨"AddressableHeap$Handle", "delete", "()V"⟩ yX3_delete U
theorem fN.moved {s U : State} (hW : s.WarmedH U.vm) (h : fN s) : fN U := by
  obtain ⟨h1, h2, h3, h4, h5, h6, h7, h8, h9, h10, h11, h12, h13, h14, h15, h16⟩ := h
  exact ⟨va_Nw.warmC hW h1, va_Nw.warmC hW h2, va_Nw.warmC hW h3, va_Nw.warmF hW h4, va_Nw.warmF hW h5, va_Nw.warmM hW h6, va_Nw.warmM hW h7, va_Nw.warmM hW h8, va_AO.moved hW.alike h9, va_AO.moved hW.alike h10, va_Fw.moved ⟨by decide, by decide⟩ hW.alike h11, va_Fw.moved ⟨by decide, by decide⟩ hW.alike h12, va_Fw.moved ⟨by decide, by decide⟩ hW.alike h13, va_Fw.moved ⟨by decide, by decide⟩ hW.alike h14, va_Fw.moved ⟨by decide, by decide⟩ hW.alike h15, va_Fw.moved ⟨by decide, by decide⟩ hW.alike h16⟩
/-- what holds at every method's start beside the world -/
def fE (g : fG) (U : State) : Prop :=
  va_K g.1 fcl (ftys g) U ∧ g.2.1 ≤ U.heap.size ∧ fN U ∧
  va_Z "java/lang/Integer$IntegerCache" "high" "I" (.int 127) (fA g) U U.heap ∧
  va_Z "java/lang/Integer$IntegerCache" "cache" "[Ljava/lang/Integer;" (.ref g.2.2.2.1.1) (fA g) U U.heap ∧
  va_T (.object "java/lang/Integer") g.2.2.2.1.1 256 (fun j => .ref (g.2.2.2.2 j)) (fA g) U U.heap ∧
  va_Z "java/util/BitSet" "$assertionsDisabled" "Z" (.int 1) (fA g) U U.heap ∧
  va_Z "BinaryTreeAddressableHeapDesk" "DOWN" "LBinaryTreeAddressableHeapDesk$Down;" (.ref g.2.2.2.1.2) (fA g) U U.heap ∧
  va_O "BinaryTreeAddressableHeapDesk$Down" g.2.2.2.1.2 (fA g) U U.heap
theorem fE.to {g : fG} {s U : State} (hz : s.heap.size ≤ U.heap.size) (hk : ∀ q : Nat, q < s.heap.size → ¬ fA g q → U.heap[q]? = s.heap[q]?) (hW : s.WarmedH U.vm) (h : fE g s) : fE g U := by
  obtain ⟨h1, h2, h3, h4, h5, h6, h7, h8, h9⟩ := h
  exact ⟨va_K.moved hW.alike h1, Nat.le_trans h2 hz, h3.moved hW, (va_Z.moved hW.alike h4).kept hk, (va_Z.moved hW.alike h5).kept hk, (va_T.moved hW.alike h6).kept hk, (va_Z.moved hW.alike h7).kept hk, (va_Z.moved hW.alike h8).kept hk, (va_O.moved hW.alike h9).kept hk⟩
def fP (g : fG) (w : fW) (U : State) : Prop := fE g U ∧ HP g w U.heap
theorem fP.to {g : fG} {w : fW} {s U : State} {H : Heap} {locs : List Loc} (hE : fE g s) (hP : HP g w H) (hS : va_S (fA g) s.heap H locs) (hU : U.heap = H) (hW : s.WarmedH U.vm) : fP g w U := by
  subst hU
  exact ⟨hE.to hS.1 hS.2.1 hW, hP⟩
theorem fP.blind {g : fG} {w : fW} {av : List Value} : FrameBlind (va_Pc av (fP g w)) := by
  intro a U fr mk h
  obtain ⟨h1, hE, hP⟩ := h
  exact ⟨h1, hE.to (Nat.le_refl _) (fun _ _ _ => rfl) (State.WarmedH.refl U), hP⟩
/-- a contract's end: the answer v and the world w with P -/
def fQ (g : fG) (P : Option Value → fW → Prop) : Array Value → State → Outcome → State → Prop := fun _ st oc t => ∃ (v : Option Value) (w : fW), oc = .returned v ∧ P v w ∧ HP g w t.heap ∧ va_F (fA g) st t
abbrev fRm (fr lo mc ms : Nat) : Room := { frames := fr, cells := mc, slots := ms, locals := lo }
/-- a contract: frames fr, locals' words lo, at most mc new cells of ms slots; from the world w, with the arguments av -/
abbrev fMet (l : Launch) (g : fG) (y : MethodName) (code : ByteArray) (nl : Nat) (ret : Option FieldType) (fr lo mc ms : Nat) (av : List Value) (w : fW) (P : Option Value → fW → Prop) : Prop :=
  Met l y (ws_ y code nl ret) (fRm fr lo mc ms) (va_Pc av (fP g w)) (fQ g P) mc ms (fA g)
/-- what a body has in hand -/
abbrev fC (g : fG) (p : Program) (s : State) (m : MethodId) (args : Array Value) (meth : Method) (c : Code) (own : String) (code : ByteArray) (nl : Nat) (ret : Option FieldType) : Prop :=
  p.tables.exec = Jvm.exec ∧ c.code = code ∧ meth.sig.returnType = ret ∧ meth.locks = false ∧ c.maxLocals = nl ∧ s.vm.findClass own = some m.cls ∧ (∀ w ∈ lw_all, w.before args s = true) ∧ fE g s
theorem fw_of {l : Launch} {g : fG} {y : MethodName} {code : ByteArray} {nl : Nat} {ret : Option FieldType} {fr lo mc ms : Nat} {av : List Value} {w : fW} {P : Option Value → fW → Prop} (hy : plainName y.cls = true) (hn : (lg_sl av).length ≤ nl)
    (body : ∀ (p : Program) (e : Env) (s : State) (m : MethodId) (below : List Frame) (meth : Method) (c : Code) (ls : Array Slot), fC g p s m av.toArray meth c y.cls code nl ret → meth.name = y.name → HP g w s.heap → lv_has ls nl (lv_args 0 av) →
      W p l e (fRm fr lo mc ms) s m av.toArray below meth c s.heap [] 0 0 (MQ below (fQ g P) av.toArray s mc ms (fA g)) (F0 m 0 ls [])) : fMet l g y code nl ret fr lo mc ms av w P := by
  refine Met.ofW (cc := code) (maxL := nl) (ret := ret) hy rfl ?_
  intro p e s m args below meth c s₁ B hml hv
  obtain ⟨rfl, hE, hP⟩ := hv
  have hts := atoms_spec (ws := ws_ y code nl ret) B.pre
  have hts : ∀ w ∈ lw_all, w.before _ s = true := fun w h => hts w (List.mem_cons_of_mem _ h)
  rw [lg_entry_eq]
  exact body p e s m below meth c _ ⟨B.exec, B.bytes, B.returns, B.notSynchronized, hml, findClass_of_methodNamed B.named, hts, hE⟩ (name_of_methodNamed B.named B.method).1 hP (lv_entry av hn)
end
section
/-! ROWS over the world as a function -/
set_option maxRecDepth 100000
section FROWS
variable {p : Program} {l : Launch} {e : Env} {R : Room} {s : State} {m : MethodId} {args : Array Value} {below : List Frame} {meth : Method} {c : Code} {H : Heap} {locs : List Loc} {cells slots : Nat} {Q : State → Prop}
variable {g : fG} {own : String} {cc : ByteArray} {nl : Nat} {rt : Option FieldType} {w : fW} {pc a : Nat} {ls : Array Slot} {rest : List Value}
theorem fv_aload_n (C : fC g p s m args meth c own cc nl rt) {k : Fin 4} {i : Nat} {r : Option Nat} (hdg : decode cc pc = .ok (.aload_n k, 1)) (hi : (k : Nat) = i) (hl : ls[i]? = some (.val (va_rf r)))
    (kk : W p l e R s m args below meth c H locs cells slots Q (F0 m (pc + 1) ls (va_rf r :: rest))) : W p l e R s m args below meth c H locs cells slots Q (F0 m pc ls rest) := by
  cases r with
  | none => exact lv_aload_nN C.1 C.2.1 hdg hi hl kk
  | some x => exact lv_aload_n C.1 C.2.1 hdg hi hl kk
theorem fv_aload (C : fC g p s m args meth c own cc nl rt) {i : Nat} {r : Option Nat} (hdg : decode cc pc = .ok (.aload i, 2)) (hl : ls[i]? = some (.val (va_rf r)))
    (kk : W p l e R s m args below meth c H locs cells slots Q (F0 m (pc + 2) ls (va_rf r :: rest))) : W p l e R s m args below meth c H locs cells slots Q (F0 m pc ls rest) := by
  cases r with
  | none => exact lv_aloadN C.1 C.2.1 hdg hl kk
  | some x => exact lv_aload C.1 C.2.1 hdg hl kk
theorem fv_astore_n (C : fC g p s m args meth c own cc nl rt) {k : Fin 4} {i nL : Nat} {r : Option Nat} {lv lv' : List (Nat × Value)} (hdg : decode cc pc = .ok (.astore_n k, 1)) (hi : (k : Nat) = i) (h : lv_has ls nL lv) (hn : i < nL) (hl : (i, va_rf r) :: lv.filter (fun q => !(q.1 == i) && !(q.1 + 1 == i && q.2.category == 2)) = lv')
    (kk : ∀ ls' : Array Slot, lv_has ls' nL lv' → W p l e R s m args below meth c H locs cells slots Q (F0 m (pc + 1) ls' rest)) : W p l e R s m args below meth c H locs cells slots Q (F0 m pc ls (va_rf r :: rest)) := by
  cases r with
  | none => exact lv_astore_nN C.1 C.2.1 hdg hi h hn hl kk
  | some x => exact lv_astore_n C.1 C.2.1 hdg hi h hn hl kk
theorem fv_astore (C : fC g p s m args meth c own cc nl rt) {i nL : Nat} {r : Option Nat} {lv lv' : List (Nat × Value)} (hdg : decode cc pc = .ok (.astore i, 2)) (h : lv_has ls nL lv) (hn : i < nL) (hl : (i, va_rf r) :: lv.filter (fun q => !(q.1 == i) && !(q.1 + 1 == i && q.2.category == 2)) = lv')
    (kk : ∀ ls' : Array Slot, lv_has ls' nL lv' → W p l e R s m args below meth c H locs cells slots Q (F0 m (pc + 2) ls' rest)) : W p l e R s m args below meth c H locs cells slots Q (F0 m pc ls (va_rf r :: rest)) := by
  cases r with
  | none => exact lv_astoreN C.1 C.2.1 hdg h hn hl kk
  | some x => exact lv_astore C.1 C.2.1 hdg h hn hl kk
theorem fw_get (C : fC g p s m args meth c own cc nl rt) {ref Cn : String} {T : u_T} {N ci index : Nat} (hin : ∀ w ∈ u_ws Cn T N, w ∈ lw_all) (hP : HP g w H) {fs : List Value} (he : w a = some (.inr (ci, fs))) (hc : fcl[ci]? = some (Cn, T, N)) (k : Nat) (hk : k < N) (hlink : Cond.fieldLink own index ref (T k).2.1 (T k).2.2.1 ∈ lw_all) (hsame : (T k).1 = ref) {v : Value} (hv : fs[k]? = some v) (hdg : decode cc pc = .ok (.getfield index, 3))
    (kk : W p l e R s m args below meth c H locs cells slots Q (F0 m (pc + 3) ls (v :: rest))) : W p l e R s m args below meth c H locs cells slots Q (F0 m pc ls (.ref a :: rest)) :=
  va_get C.1 C.2.1 C.2.2.2.2.2.2.1 hin C.2.2.2.2.2.1 C.2.2.2.2.2.2.2.1 (hP.one he) 0 rfl hc k hk (C.2.2.2.2.2.2.1 _ hlink) (by rw [hsame]; exact fun _ h => h) hv hdg kk
theorem fw_getN (C : fC g p s m args meth c own cc nl rt) {ref Cn host : String} {T : u_T} {N ci index : Nat} (hin : ∀ w ∈ u_ws Cn T N, w ∈ lw_all) (hP : HP g w H) {fs : List Value} (he : w a = some (.inr (ci, fs))) (hc : fcl[ci]? = some (Cn, T, N)) (k : Nat) (hk : k < N) (hlink : va_Nw (.fieldLinkNest own index ref (T k).2.1 (T k).2.2.1 host) s) (hsame : (T k).1 = ref) {v : Value} (hv : fs[k]? = some v) (hdg : decode cc pc = .ok (.getfield index, 3))
    (kk : W p l e R s m args below meth c H locs cells slots Q (F0 m (pc + 3) ls (v :: rest))) : W p l e R s m args below meth c H locs cells slots Q (F0 m pc ls (.ref a :: rest)) :=
  va_getN C.1 C.2.1 C.2.2.2.2.2.2.1 hin C.2.2.2.2.2.1 C.2.2.2.2.2.2.2.1 (hP.one he) 0 rfl hc k hk (va_Nw.use rfl hlink) (by rw [hsame]; exact fun _ h => h) hv hdg kk
theorem fw_put (C : fC g p s m args meth c own cc nl rt) {ref Cn : String} {T : u_T} {N ci index : Nat} (hin : ∀ w ∈ u_ws Cn T N, w ∈ lw_all) (ty0 : Nat → FieldType) (hty : ∀ k, k < N → parseFieldDescriptor (T k).2.2.1 = some (ty0 k)) (hnm : ∀ a, a < N → ∀ b, b < N → a ≠ b → (T a).2.1 ≠ (T b).2.1) (hP : HP g w H) (hS : va_S (fA g) s.heap H locs) (hA : g.2.1 ≤ a) {fs : List Value} (he : w a = some (.inr (ci, fs))) (hc : fcl[ci]? = some (Cn, T, N)) (k : Nat) (hk : k < N) (hlink : Cond.fieldLink own index ref (T k).2.1 (T k).2.2.1 ∈ lw_all) (hsame : (T k).1 = ref) (hfin : (T k).2.2.2 = false) {v : Value} (hn : narrow (ty0 k) v = v) (hfit : fits (ty0 k) v = true) (hl : k < fs.length) (hdg : decode cc pc = .ok (.putfield index, 3))
    (kk : ∀ (H1 : Heap) (locs1 : List Loc), HP g (fset w a (.inr (ci, fs.set k v))) H1 → va_S (fA g) s.heap H1 locs1 → W p l e R s m args below meth c H1 locs1 cells slots Q (F0 m (pc + 3) ls rest)) : W p l e R s m args below meth c H locs cells slots Q (F0 m pc ls (v :: .ref a :: rest)) := by
  obtain ⟨ws, hPl, hD, hL⟩ := fw_list hP
  obtain ⟨q0, hq⟩ := hL.1 a _ hA he
  exact va_put C.1 C.2.1 C.2.2.2.2.2.2.1 hin ty0 hty hnm C.2.2.2.2.2.1 C.2.2.2.2.2.2.2.1 hPl hD hS q0 hq hc k hk (C.2.2.2.2.2.2.1 _ hlink) (by rw [hsame]; exact fun _ h => h) hfin (hty k hk) hn hfit hl hdg (fun H1 locs1 h1 _ h3 => kk H1 locs1 (fw_bset C.2.2.2.2.2.2.2.2.1 hP hL hq hS h3 h1) h3)
theorem fw_putF (C : fC g p s m args meth c own cc nl rt) {ref Cn : String} {T : u_T} {N ci index : Nat} (hin : ∀ w ∈ u_ws Cn T N, w ∈ lw_all) (ty0 : Nat → FieldType) (hty : ∀ k, k < N → parseFieldDescriptor (T k).2.2.1 = some (ty0 k)) (hnm : ∀ a, a < N → ∀ b, b < N → a ≠ b → (T a).2.1 ≠ (T b).2.1) (hP : HP g w H) (hS : va_S (fA g) s.heap H locs) (hA : g.2.1 ≤ a) {fs : List Value} (he : w a = some (.inr (ci, fs))) (hc : fcl[ci]? = some (Cn, T, N)) (k : Nat) (hk : k < N) (hlink : Cond.fieldLink own index ref (T k).2.1 (T k).2.2.1 ∈ lw_all) (hsame : (T k).1 = ref) (hfin : (T k).2.2.2 = true) (hnm2 : meth.name = "<init>") (hdecl : (T k).1 = own) {v : Value} (hn : narrow (ty0 k) v = v) (hfit : fits (ty0 k) v = true) (hl : k < fs.length) (hdg : decode cc pc = .ok (.putfield index, 3))
    (kk : ∀ (H1 : Heap) (locs1 : List Loc), HP g (fset w a (.inr (ci, fs.set k v))) H1 → va_S (fA g) s.heap H1 locs1 → W p l e R s m args below meth c H1 locs1 cells slots Q (F0 m (pc + 3) ls rest)) : W p l e R s m args below meth c H locs cells slots Q (F0 m pc ls (v :: .ref a :: rest)) := by
  obtain ⟨ws, hPl, hD, hL⟩ := fw_list hP
  obtain ⟨q0, hq⟩ := hL.1 a _ hA he
  exact va_putF C.1 C.2.1 C.2.2.2.2.2.2.1 hin ty0 hty hnm C.2.2.2.2.2.1 C.2.2.2.2.2.2.2.1 hPl hD hS q0 hq hc k hk (C.2.2.2.2.2.2.1 _ hlink) (by rw [hsame]; exact fun _ h => h) hfin hnm2 hdecl (hty k hk) hn hfit hl hdg (fun H1 locs1 h1 _ h3 => kk H1 locs1 (fw_bset C.2.2.2.2.2.2.2.2.1 hP hL hq hS h3 h1) h3)
theorem fw_new (C : fC g p s m args meth c own cc nl rt) {Cn : String} {T : u_T} {N ci index : Nat} (hin : ∀ w ∈ u_ws Cn T N, w ∈ lw_all) (ty : Nat → FieldType) (hty : ∀ k, k < N → parseFieldDescriptor (T k).2.2.1 = some (ty k)) (hcl : Cond.classLink own index Cn ∈ lw_all) (hinst : Cond.instantiable Cn N ∈ lw_all) (hini : Cond.initialized Cn ∈ lw_all) (hP : HP g w H) (hS : va_S (fA g) s.heap H locs) (hc : fcl[ci]? = some (Cn, T, N)) {fs : List Value} (hfs : ∀ j, j < N → defaultValue (ty j) = vp_V fs j) (hcells : cells + 1 ≤ R.cells) (hslots : slots + N ≤ R.slots) (hdg : decode cc pc = .ok (.new index, 3))
    (kk : ∀ (q : Nat) (H1 : Heap), HP g (fset w q (.inr (ci, fs))) H1 → w q = none → g.2.1 ≤ q → va_S (fA g) s.heap H1 locs → W p l e R s m args below meth c H1 locs (cells + 1) (slots + N) Q (F0 m (pc + 3) ls (.ref q :: rest))) : W p l e R s m args below meth c H locs cells slots Q (F0 m pc ls rest) := by
  obtain ⟨ws, hPl, hD, hL⟩ := fw_list hP
  refine va_new C.1 C.2.1 C.2.2.2.2.2.2.1 hin ty hty C.2.2.2.2.2.1 (C.2.2.2.2.2.2.1 _ hcl) (C.2.2.2.2.2.2.1 _ hinst) (C.2.2.2.2.2.2.1 _ hini) C.2.2.2.2.2.2.2.1 hPl hD hS (fun q h => Nat.le_trans C.2.2.2.2.2.2.2.2.1 h) hc hfs hcells hslots hdg (fun q H1 h1 h2 h3 => ?_)
  obtain ⟨k1, k2, k3⟩ := fw_bpush C.2.2.2.2.2.2.2.2.1 hP hL hS h3 h1 h2
  exact kk q H1 k1 k2 k3 h3
theorem fw_iald (C : fC g p s m args meth c own cc nl rt) (hP : HP g w H) {n : Nat} {f : Nat → Int32} (he : w a = some (.inl (g.2.2.1 0, n, .inl f))) {i : Int32} (hin : vp_in i n) (hdg : decode cc pc = .ok (.iaload, 1))
    (kk : W p l e R s m args below meth c H locs cells slots Q (F0 m (pc + 1) ls (.int (f i.toNatClampNeg) :: rest))) : W p l e R s m args below meth c H locs cells slots Q (F0 m pc ls (.int i :: .ref a :: rest)) :=
  va_iald C.1 C.2.1 C.2.2.2.2.2.2.2.1 (hP.one he) 0 0 rfl rfl hin hdg kk
theorem fw_lald (C : fC g p s m args meth c own cc nl rt) (hP : HP g w H) {n : Nat} {f : Nat → Int64} (he : w a = some (.inl (g.2.2.1 1, n, .inr (.inl f)))) {i : Int32} (hin : vp_in i n) (hdg : decode cc pc = .ok (.laload, 1))
    (kk : W p l e R s m args below meth c H locs cells slots Q (F0 m (pc + 1) ls (.long (f i.toNatClampNeg) :: rest))) : W p l e R s m args below meth c H locs cells slots Q (F0 m pc ls (.int i :: .ref a :: rest)) :=
  va_lald C.1 C.2.1 C.2.2.2.2.2.2.2.1 (hP.one he) 0 1 rfl rfl hin hdg kk
/-- a row of heaps (t0 = 2) or of handles (t0 = 3) -/
theorem fw_aldq (C : fC g p s m args meth c own cc nl rt) (hP : HP g w H) (t0 : Nat) {cA : ClassId} {E : String} {n : Nat} {f : Nat → Option Nat} (ht : (ftys g)[t0]? = some (cA, .object E)) (he : w a = some (.inl (cA, n, .inr (.inr (.inr (.inr f)))))) {i : Int32} (hin : vp_in i n) {v : Value} (hv : va_rf (f i.toNatClampNeg) = v) (hdg : decode cc pc = .ok (.aaload, 1))
    (kk : W p l e R s m args below meth c H locs cells slots Q (F0 m (pc + 1) ls (v :: rest))) : W p l e R s m args below meth c H locs cells slots Q (F0 m pc ls (.int i :: .ref a :: rest)) := by
  subst hv
  exact va_aldq C.1 C.2.1 C.2.2.2.2.2.2.2.1 (hP.one he) 0 t0 rfl ht hin hdg kk
theorem fw_alen (C : fC g p s m args meth c own cc nl rt) (hP : HP g w H) (t0 : Nat) {cA : ClassId} {ty : FieldType} {x : vp_A} (ht : (ftys g)[t0]? = some (cA, ty)) (he : w a = some (.inl (cA, x))) {v : Int32} (hv : Int32.ofNat x.1 = v) (hdg : decode cc pc = .ok (.arraylength, 1))
    (kk : W p l e R s m args below meth c H locs cells slots Q (F0 m (pc + 1) ls (.int v :: rest))) : W p l e R s m args below meth c H locs cells slots Q (F0 m pc ls (.ref a :: rest)) :=
  va_alen C.1 C.2.1 C.2.2.2.2.2.2.2.1 (hP.one he) 0 t0 rfl ht hv hdg kk
theorem fw_iast (C : fC g p s m args meth c own cc nl rt) (hP : HP g w H) (hS : va_S (fA g) s.heap H locs) (hA : g.2.1 ≤ a) {n : Nat} {f : Nat → Int32} (he : w a = some (.inl (g.2.2.1 0, n, .inl f))) {i x : Int32} (hin : vp_in i n) (hdg : decode cc pc = .ok (.iastore, 1))
    (kk : ∀ (H1 : Heap) (locs1 : List Loc), HP g (fset w a (.inl (g.2.2.1 0, n, .inl (upd f i.toNatClampNeg x)))) H1 → va_S (fA g) s.heap H1 locs1 → W p l e R s m args below meth c H1 locs1 cells slots Q (F0 m (pc + 1) ls rest)) : W p l e R s m args below meth c H locs cells slots Q (F0 m pc ls (.int x :: .int i :: .ref a :: rest)) := by
  obtain ⟨ws, hPl, hD, hL⟩ := fw_list hP
  obtain ⟨q0, hq⟩ := hL.1 a _ hA he
  exact va_iast C.1 C.2.1 C.2.2.2.2.2.2.2.1 hPl hD hS q0 0 hq rfl hin hdg (fun H1 locs1 h1 _ h3 => kk H1 locs1 (fw_bset C.2.2.2.2.2.2.2.2.1 hP hL hq hS h3 h1) h3)
theorem fw_last (C : fC g p s m args meth c own cc nl rt) (hP : HP g w H) (hS : va_S (fA g) s.heap H locs) (hA : g.2.1 ≤ a) {n : Nat} {f : Nat → Int64} (he : w a = some (.inl (g.2.2.1 1, n, .inr (.inl f)))) {i : Int32} {x : Int64} (hin : vp_in i n) (hdg : decode cc pc = .ok (.lastore, 1))
    (kk : ∀ (H1 : Heap) (locs1 : List Loc), HP g (fset w a (.inl (g.2.2.1 1, n, .inr (.inl (vp_updL f i.toNatClampNeg x))))) H1 → va_S (fA g) s.heap H1 locs1 → W p l e R s m args below meth c H1 locs1 cells slots Q (F0 m (pc + 1) ls rest)) : W p l e R s m args below meth c H locs cells slots Q (F0 m pc ls (.long x :: .int i :: .ref a :: rest)) := by
  obtain ⟨ws, hPl, hD, hL⟩ := fw_list hP
  obtain ⟨q0, hq⟩ := hL.1 a _ hA he
  exact va_last C.1 C.2.1 C.2.2.2.2.2.2.2.1 hPl hD hS q0 1 hq rfl hin hdg (fun H1 locs1 h1 _ h3 => kk H1 locs1 (fw_bset C.2.2.2.2.2.2.2.2.1 hP hL hq hS h3 h1) h3)
/-- a store into a row of references: the object v of class number ci, assignable to the row's -/
theorem fw_astq (C : fC g p s m args meth c own cc nl rt) (hP : HP g w H) (hS : va_S (fA g) s.heap H locs) (hA : g.2.1 ≤ a) (t0 : Nat) {cA : ClassId} {E : String} {n v ci : Nat} {r : vw_C} {fs : List Value} {f : Nat → Option Nat} (ht : (ftys g)[t0]? = some (cA, .object E)) (he : w a = some (.inl (cA, n, .inr (.inr (.inr (.inr f)))))) (hv : w v = some (.inr (ci, fs))) (hc : fcl[ci]? = some r) (hasg : ∀ comp c0 : ClassId, s.vm.findClass E = some comp → s.vm.findClass r.1 = some c0 → s.vm.assignable c0 comp = true) {i : Int32} (hin : vp_in i n) (hdg : decode cc pc = .ok (.aastore, 1))
    (kk : ∀ (H1 : Heap) (locs1 : List Loc), HP g (fset w a (.inl (cA, n, .inr (.inr (.inr (.inr (va_up f i.toNatClampNeg (some v)))))))) H1 → va_S (fA g) s.heap H1 locs1 → W p l e R s m args below meth c H1 locs1 cells slots Q (F0 m (pc + 1) ls rest)) : W p l e R s m args below meth c H locs cells slots Q (F0 m pc ls (.ref v :: .int i :: .ref a :: rest)) := by
  obtain ⟨ws, hPl, hD, hL⟩ := fw_list hP
  obtain ⟨q0, hq⟩ := hL.1 a _ hA he
  exact va_astqM C.1 C.2.1 C.2.2.2.2.2.2.2.1 hPl hD hS q0 t0 hq ht (va_rAny C.2.2.2.2.2.2.2.1 (hP.one hv) (q0 := 0) rfl hc hasg) hin hdg (fun H1 locs1 h1 _ h3 => kk H1 locs1 (fw_bset C.2.2.2.2.2.2.2.2.1 hP hL hq hS h3 h1) h3)
theorem fw_same {u : State} {cA cB : ClassId} {ty : FieldType} (h1 : va_RA u cA ty) (h2 : va_RA u cB ty) : cA = cB := by
  cases ty with
  | object Cn =>
    obtain ⟨_, _, -, -, -, k1⟩ := h1
    obtain ⟨_, _, -, -, -, k2⟩ := h2
    exact Option.some.inj (k1.symm.trans k2)
  | _ => exact Option.some.inj (Eq.trans (Eq.symm h1) h2)
theorem fw_newi (C : fC g p s m args meth c own cc nl rt) (harr : Cond.arrayClass .int ∈ lw_all) (hP : HP g w H) (hS : va_S (fA g) s.heap H locs) {n : Int32} {N' : Nat} (hn : ¬ n < 0) (hN : n.toNatClampNeg = N') (hbytes : N' * 4 ≤ 536870912) (hcells : cells + 1 ≤ R.cells) (hslots : slots + N' ≤ R.slots) (hdg : decode cc pc = .ok (.newarray .int, 2))
    (kk : ∀ (q : Nat) (H1 : Heap), HP g (fset w q (.inl (g.2.2.1 0, N', .inl (fun _ => 0)))) H1 → w q = none → g.2.1 ≤ q → va_S (fA g) s.heap H1 locs → W p l e R s m args below meth c H1 locs (cells + 1) (slots + N') Q (F0 m (pc + 2) ls (.ref q :: rest))) : W p l e R s m args below meth c H locs cells slots Q (F0 m pc ls (.int n :: rest)) := by
  obtain ⟨ws, hPl, hD, hL⟩ := fw_list hP
  refine va_newa (atype := .int) (ty := .int) (a0 := (N', .inl (fun _ => 0))) C.1 C.2.1 (C.2.2.2.2.2.2.1 _ harr) rfl C.2.2.2.2.2.2.2.1 hPl hD hS (fun q h => Nat.le_trans C.2.2.2.2.2.2.2.2.1 h) (fun _ => rfl) hn hN hbytes hcells hslots hdg (fun q cA H1 h0 h1 h2 h3 => ?_)
  have hcA : cA = g.2.2.1 0 := fw_same (ty := .int) (h0.2 4 _ rfl).2 (h0.2 0 _ rfl).2
  subst hcA
  obtain ⟨k1, k2, k3⟩ := fw_bpush C.2.2.2.2.2.2.2.2.1 hP hL hS h3 h1 h2
  exact kk q H1 k1 k2 k3 h3
theorem fw_newl (C : fC g p s m args meth c own cc nl rt) (harr : Cond.arrayClass .long ∈ lw_all) (hP : HP g w H) (hS : va_S (fA g) s.heap H locs) {n : Int32} {N' : Nat} (hn : ¬ n < 0) (hN : n.toNatClampNeg = N') (hbytes : N' * 8 ≤ 536870912) (hcells : cells + 1 ≤ R.cells) (hslots : slots + N' ≤ R.slots) (hdg : decode cc pc = .ok (.newarray .long, 2))
    (kk : ∀ (q : Nat) (H1 : Heap), HP g (fset w q (.inl (g.2.2.1 1, N', .inr (.inl (fun _ => 0))))) H1 → w q = none → g.2.1 ≤ q → va_S (fA g) s.heap H1 locs → W p l e R s m args below meth c H1 locs (cells + 1) (slots + N') Q (F0 m (pc + 2) ls (.ref q :: rest))) : W p l e R s m args below meth c H locs cells slots Q (F0 m pc ls (.int n :: rest)) := by
  obtain ⟨ws, hPl, hD, hL⟩ := fw_list hP
  refine va_newa (atype := .long) (ty := .long) (a0 := (N', .inr (.inl (fun _ => 0)))) C.1 C.2.1 (C.2.2.2.2.2.2.1 _ harr) rfl C.2.2.2.2.2.2.2.1 hPl hD hS (fun q h => Nat.le_trans C.2.2.2.2.2.2.2.2.1 h) (fun _ => rfl) hn hN hbytes hcells hslots hdg (fun q cA H1 h0 h1 h2 h3 => ?_)
  have hcA : cA = g.2.2.1 1 := fw_same (ty := .long) (h0.2 4 _ rfl).2 (h0.2 1 _ rfl).2
  subst hcA
  obtain ⟨k1, k2, k3⟩ := fw_bpush C.2.2.2.2.2.2.2.2.1 hP hL hS h3 h1 h2
  exact kk q H1 k1 k2 k3 h3
theorem fw_newq (C : fC g p s m args meth c own cc nl rt) (t0 : Nat) {cA : ClassId} {E : String} {index : Nat} (ht : (ftys g)[t0]? = some (cA, .object E)) (hcl : Cond.classLink own index E ∈ lw_all) (hover : va_AO E s) (hP : HP g w H) (hS : va_S (fA g) s.heap H locs) {n : Int32} {N' : Nat} (hn : ¬ n < 0) (hN : n.toNatClampNeg = N') (hbytes : N' * 4 ≤ 536870912) (hcells : cells + 1 ≤ R.cells) (hslots : slots + N' ≤ R.slots) (hdg : decode cc pc = .ok (.anewarray index, 3))
    (kk : ∀ (q : Nat) (H1 : Heap), HP g (fset w q (.inl (cA, N', .inr (.inr (.inr (.inr (fun _ => none))))))) H1 → w q = none → g.2.1 ≤ q → va_S (fA g) s.heap H1 locs → W p l e R s m args below meth c H1 locs (cells + 1) (slots + N') Q (F0 m (pc + 3) ls (.ref q :: rest))) : W p l e R s m args below meth c H locs cells slots Q (F0 m pc ls (.int n :: rest)) := by
  obtain ⟨ws, hPl, hD, hL⟩ := fw_list hP
  refine va_newq C.1 C.2.1 C.2.2.2.2.2.1 (C.2.2.2.2.2.2.1 _ hcl) hover C.2.2.2.2.2.2.2.1 hPl hD hS (fun q h => Nat.le_trans C.2.2.2.2.2.2.2.2.1 h) hn hN hbytes hcells hslots hdg (fun q cB H1 h0 h1 h2 h3 => ?_)
  have hcA : cB = cA := by
    have hlt : t0 < 4 := (List.getElem?_eq_some_iff.mp ht).1
    exact fw_same (ty := .object E) (h0.2 4 _ rfl).2 (h0.2 t0 _ (by rw [List.getElem?_append_left hlt]; exact ht)).2
  subst hcA
  obtain ⟨k1, k2, k3⟩ := fw_bpush C.2.2.2.2.2.2.2.2.1 hP hL hS h3 h1 h2
  exact kk q H1 k1 k2 k3 h3
/-- the receiver of a call, a cast's object -/
theorem fw_recv (C : fC g p s m args meth c own cc nl rt) (hP : HP g w H) {ci : Nat} {r : vw_C} {fs : List Value} (he : w a = some (.inr (ci, fs))) (hc : fcl[ci]? = some r) : ∃ cell : Cell, H[a]? = some cell ∧ cell.vm.isStatics = false ∧ s.vm.findClass r.1 = some cell.cls :=
  va_recv C.2.2.2.2.2.2.2.1 (hP.one he) (q0 := 0) hc rfl
/-- behind a call -/
theorem fw_call {mc ms : Nat} {P : Option Value → fW → Prop} {av : Array Value} {st0 : List Value} (hr : va_Run p l e R s m args below meth c H locs cells slots mc ms (F0 m pc ls st0) rest (fQ g P av) (fA g)) (hS : va_S (fA g) s.heap H locs)
    (kk : ∀ (v : Option Value) (w1 : fW) (H1 : Heap) (locs1 : List Loc), P v w1 → HP g w1 H1 → va_S (fA g) s.heap H1 locs1 → W p l e R s m args below meth c H1 locs1 (cells + mc) (slots + ms) Q (F0 m (pc + 3) ls (v.toList ++ rest))) : W p l e R s m args below meth c H locs cells slots Q (F0 m pc ls st0) := by
  intro T hT X
  obtain ⟨v, st₀, t, T', L, h0, X', hL, e1, e2, ⟨v', w1, hv, hp, hw, hz, hk⟩, st⟩ := hr T hT X
  cases hv
  rw [h0] at hz hk
  obtain ⟨t2, a1, b1⟩ := kk v w1 T'.heap (locs ++ L) hp (by rw [e1]; exact hw)
    ⟨Nat.le_trans hS.1 (by rw [e1]; exact hz), fun q h1 h2 => by rw [e1, hk q (Nat.lt_of_lt_of_le h1 hS.1) h2]; exact hS.2.1 q h1 h2, fun q hq => by
      rcases List.mem_append.mp hq with h | h
      · exact hS.2.2 q h
      · exact hL q h⟩ T' rfl X'
  exact ⟨t2, st t2 a1, b1⟩
theorem fw_call5 {mc ms : Nat} {P : Option Value → fW → Prop} {av : Array Value} {st0 : List Value} (hr : va_Run5 p l e R s m args below meth c H locs cells slots mc ms (F0 m pc ls st0) rest (fQ g P av) (fA g)) (hS : va_S (fA g) s.heap H locs)
    (kk : ∀ (v : Option Value) (w1 : fW) (H1 : Heap) (locs1 : List Loc), P v w1 → HP g w1 H1 → va_S (fA g) s.heap H1 locs1 → W p l e R s m args below meth c H1 locs1 (cells + mc) (slots + ms) Q (F0 m (pc + 5) ls (v.toList ++ rest))) : W p l e R s m args below meth c H locs cells slots Q (F0 m pc ls st0) := by
  intro T hT X
  obtain ⟨v, st₀, t, T', L, h0, X', hL, e1, e2, ⟨v', w1, hv, hp, hw, hz, hk⟩, st⟩ := hr T hT X
  cases hv
  rw [h0] at hz hk
  obtain ⟨t2, a1, b1⟩ := kk v w1 T'.heap (locs ++ L) hp (by rw [e1]; exact hw)
    ⟨Nat.le_trans hS.1 (by rw [e1]; exact hz), fun q h1 h2 => by rw [e1, hk q (Nat.lt_of_lt_of_le h1 hS.1) h2]; exact hS.2.1 q h1 h2, fun q hq => by
      rcases List.mem_append.mp hq with h | h
      · exact hS.2.2 q h
      · exact hL q h⟩ T' rfl X'
  exact ⟨t2, st t2 a1, b1⟩
end FROWS
end
section
/-! CALLS and RETURNS over the world as a function -/
set_option maxRecDepth 100000
section FCALLS
variable {p : Program} {l : Launch} {e : Env} {R : Room} {s : State} {m : MethodId} {args : Array Value} {below : List Frame} {meth : Method} {c : Code} {H : Heap} {locs : List Loc} {cells slots : Nat} {Q : State → Prop}
variable {g : fG} {own : String} {cc : ByteArray} {nl : Nat} {rt : Option FieldType} {w : fW} {pc b : Nat} {ls : Array Slot} {rest st0 : List Value}
variable {y : MethodName} {code' : ByteArray} {nl' : Nat} {rt' : Option FieldType} {fr lo mc ms : Nat} {As : List Value} {P : Option Value → fW → Prop} {index : Nat}
abbrev fK (p : Program) (l : Launch) (e : Env) (R : Room) (s : State) (m : MethodId) (args : Array Value) (below : List Frame) (meth : Method) (c : Code) (cells slots : Nat) (Q : State → Prop) (g : fG) (P : Option Value → fW → Prop) (pc : Nat) (ls : Array Slot) (rest : List Value) : Prop :=
  ∀ (v : Option Value) (w1 : fW) (H1 : Heap) (locs1 : List Loc), P v w1 → HP g w1 H1 → va_S (fA g) s.heap H1 locs1 → W p l e R s m args below meth c H1 locs1 cells slots Q (F0 m pc ls (v.toList ++ rest))
theorem fw_V (C : fC g p s m args meth c own cc nl rt) (n : Nat) {Cn : String} {T : u_T} {N ci : Nat} {fs : List Value} (hM : fMet l g y code' nl' rt' fr lo mc ms (.ref b :: As) w P) (hgood : GoodIn lw_all (wsV own index Cn y (ws_ y code' nl' rt')))
    (hd : y.cls = Cn ∧ y.cls ≠ "java/lang/invoke/MethodHandle" ∧ y.cls ≠ "java/lang/invoke/VarHandle" ∧ (parseMethodDescriptor y.desc).map (fun d => d.parameters.length) = some n) (hR : fr + 1 ≤ R.frames ∧ 8 + (nl' + 11) + lo ≤ R.locals)
    (hP : HP g w H) (hS : va_S (fA g) s.heap H locs) (he : w b = some (.inr (ci, fs))) (hc : fcl[ci]? = some (Cn, T, N)) (hst : st0 = As.reverse ++ .ref b :: rest) (hn : As.length = n) (hsz : ls.size = nl) (hroom : (rest.map fun v => v.category).sum ≤ 8) (hdg : decode cc pc = .ok (.invokevirtual index, 3)) (hf : cells + mc ≤ R.cells ∧ slots + ms ≤ R.slots)
    (kk : fK p l e R s m args below meth c (cells + mc) (slots + ms) Q g P (pc + 3) ls rest) : W p l e R s m args below meth c H locs cells slots Q (F0 m pc ls st0) :=
  fw_call (va_runV (As := As) (rest := rest) ⟨C.1, C.2.1, C.2.2.2.2.1, C.2.2.2.2.2.1, C.2.2.2.2.2.2.1⟩ hM (cwV n C.2.2.2.2.2.2.1 hgood rfl rfl rfl hd hR) ⟨fP.blind, fw_recv C hP he hc, fun U hU hW => ⟨rfl, fP.to C.2.2.2.2.2.2.2 hP hS hU hW⟩⟩ rfl hn hsz hst (lv_room hroom) hdg hf) hS kk
theorem fw_S (C : fC g p s m args meth c own cc nl rt) (n : Nat) (hM : fMet l g y code' nl' rt' fr lo mc ms As w P) (hgood : GoodIn lw_all (va_wsS own index y (ws_ y code' nl' rt')))
    (hd : y.cls ≠ "java/lang/invoke/MethodHandle" ∧ y.cls ≠ "java/lang/invoke/VarHandle" ∧ (parseMethodDescriptor y.desc).map (fun d => d.parameters.length) = some n) (hR : fr + 1 ≤ R.frames ∧ 8 + (nl' + 11) + lo ≤ R.locals)
    (hP : HP g w H) (hS : va_S (fA g) s.heap H locs) (hst : st0 = As.reverse ++ rest) (hn : As.length = n) (hsz : ls.size = nl) (hroom : (rest.map fun v => v.category).sum ≤ 8) (hdg : decode cc pc = .ok (.invokestatic index, 3)) (hf : cells + mc ≤ R.cells ∧ slots + ms ≤ R.slots)
    (kk : fK p l e R s m args below meth c (cells + mc) (slots + ms) Q g P (pc + 3) ls rest) : W p l e R s m args below meth c H locs cells slots Q (F0 m pc ls st0) :=
  fw_call (va_runS (As := As) (rest := rest) ⟨C.1, C.2.1, C.2.2.2.2.1, C.2.2.2.2.2.1, C.2.2.2.2.2.2.1⟩ hM (va_cwS n C.2.2.2.2.2.2.1 hgood rfl rfl rfl hd hR) ⟨fP.blind, fun U hU hW => ⟨rfl, fP.to C.2.2.2.2.2.2.2 hP hS hU hW⟩⟩ rfl hn hsz hst (lv_room hroom) hdg hf) hS kk
theorem fw_I (C : fC g p s m args meth c own cc nl rt) (n : Nat) (hM : fMet l g y code' nl' none fr lo mc ms (.ref b :: As) w P) (hco : Cond.code y code' nl' none ∈ lw_all) (hini : Cond.initialized y.cls ∈ lw_all) (hlk : Cond.methodLink own index y ∈ lw_all) (him : Cond.instanceMethod y ∈ lw_all) (hy1 : y.name = "<init>")
    (hd : y.cls ≠ "java/lang/invoke/MethodHandle" ∧ y.cls ≠ "java/lang/invoke/VarHandle" ∧ (parseMethodDescriptor y.desc).map (fun d => d.parameters.length) = some n) (hR : fr + 1 ≤ R.frames ∧ 8 + (nl' + 11) + lo ≤ R.locals)
    (hP : HP g w H) (hS : va_S (fA g) s.heap H locs) (hst : st0 = As.reverse ++ .ref b :: rest) (hn : As.length = n) (hsz : ls.size = nl) (hroom : (rest.map fun v => v.category).sum ≤ 8) (hdg : decode cc pc = .ok (.invokespecial index, 3)) (hf : cells + mc ≤ R.cells ∧ slots + ms ≤ R.slots)
    (kk : fK p l e R s m args below meth c (cells + mc) (slots + ms) Q g P (pc + 3) ls rest) : W p l e R s m args below meth c H locs cells slots Q (F0 m pc ls st0) :=
  fw_call (va_runI (As := As) (rest := rest) ⟨C.1, C.2.1, C.2.2.2.2.1, C.2.2.2.2.2.1, C.2.2.2.2.2.2.1⟩ hM (cwI n C.2.2.2.2.2.2.1 (lw_meth hco) rfl rfl rfl (C.2.2.2.2.2.2.1 _ hini) (C.2.2.2.2.2.2.1 _ hlk) (C.2.2.2.2.2.2.1 _ him) hy1 hd hR) ⟨fP.blind, fun U hU hW => ⟨rfl, fP.to C.2.2.2.2.2.2.2 hP hS hU hW⟩⟩ rfl hn hsz hst (lv_room hroom) hdg hf) hS kk
theorem fw_VN (C : fC g p s m args meth c own cc nl rt) (n : Nat) {Cn host : String} {T : u_T} {N ci : Nat} {fs : List Value} (hM : fMet l g y code' nl' rt' fr lo mc ms (.ref b :: As) w P) (hco : Cond.code y code' nl' rt' ∈ lw_all) (hlk : va_Nw (.methodLinkNest own index y host) s) (hini : Cond.initialized y.cls ∈ lw_all) (him : Cond.instanceMethod y ∈ lw_all) (hse : Cond.selects Cn y y ∈ lw_all)
    (hd : y.cls ≠ "java/lang/invoke/MethodHandle" ∧ y.cls ≠ "java/lang/invoke/VarHandle" ∧ (parseMethodDescriptor y.desc).map (fun d => d.parameters.length) = some n) (hR : fr + 1 ≤ R.frames ∧ 8 + (nl' + 11) + lo ≤ R.locals)
    (hP : HP g w H) (hS : va_S (fA g) s.heap H locs) (he : w b = some (.inr (ci, fs))) (hc : fcl[ci]? = some (Cn, T, N)) (hst : st0 = As.reverse ++ .ref b :: rest) (hn : As.length = n) (hsz : ls.size = nl) (hroom : (rest.map fun v => v.category).sum ≤ 8) (hdg : decode cc pc = .ok (.invokevirtual index, 3)) (hf : cells + mc ≤ R.cells ∧ slots + ms ≤ R.slots)
    (kk : fK p l e R s m args below meth c (cells + mc) (slots + ms) Q g P (pc + 3) ls rest) : W p l e R s m args below meth c H locs cells slots Q (F0 m pc ls st0) :=
  fw_call (va_runVN (As := As) (rest := rest) ⟨C.1, C.2.1, C.2.2.2.2.1, C.2.2.2.2.2.1, C.2.2.2.2.2.2.1⟩ hM ⟨va_cnB n C.2.2.2.2.2.2.1 (lw_meth hco) rfl rfl rfl hlk (C.2.2.2.2.2.2.1 _ hini) hd hR, C.2.2.2.2.2.2.1 _ him, C.2.2.2.2.2.2.1 _ hse⟩ ⟨fP.blind, fw_recv C hP he hc, fun U hU hW => ⟨rfl, fP.to C.2.2.2.2.2.2.2 hP hS hU hW⟩⟩ rfl hn hsz hst (lv_room hroom) hdg hf) hS kk
theorem fw_lF {x : MethodName} {Cn : String} (h1 : Cond.methodLink own index x ∈ lw_all) (h2 : Cond.selects Cn x y ∈ lw_all) (h3 : Cond.instanceMethod y ∈ lw_all) (h4 : Cond.initialized y.cls ∈ lw_all) (h5 : Cond.code y code' nl' rt' ∈ lw_all) : GoodIn lw_all (va_wsF own index Cn x y (ws_ y code' nl' rt')) := by
  refine lw_app ?_ (lw_meth h5)
  intro w hw
  simp only [List.mem_cons, List.not_mem_nil, or_false] at hw
  rcases hw with e | e | e | e
  · rw [e]; exact h1
  · rw [e]; exact h2
  · rw [e]; exact h3
  · rw [e]; exact h4
/-- an interface's call, the receiver any object of the class Cn -/
theorem fw_F (C : fC g p s m args meth c own cc nl rt) (n : Nat) {x : MethodName} {Cn : String} {count : Nat} (hM : fMet l g y code' nl' rt' fr lo mc ms (.ref b :: As) w P) (hgood : GoodIn lw_all (va_wsF own index Cn x y (ws_ y code' nl' rt'))) (hF : va_Fw Cn x y s)
    (hd : x.cls ≠ "java/lang/invoke/MethodHandle" ∧ x.cls ≠ "java/lang/invoke/VarHandle" ∧ (parseMethodDescriptor x.desc).map (fun d => d.parameters.length) = some n) (hR : fr + 1 ≤ R.frames ∧ 8 + (nl' + 11) + lo ≤ R.locals)
    (hP : HP g w H) (hS : va_S (fA g) s.heap H locs) (hrc : ∃ cell : Cell, H[b]? = some cell ∧ cell.vm.isStatics = false ∧ s.vm.findClass Cn = some cell.cls) (hst : st0 = As.reverse ++ .ref b :: rest) (hn : As.length = n) (hsz : ls.size = nl) (hroom : (rest.map fun v => v.category).sum ≤ 8) (hdg : decode cc pc = .ok (.invokeinterface index count, 5)) (hf : cells + mc ≤ R.cells ∧ slots + ms ≤ R.slots)
    (kk : fK p l e R s m args below meth c (cells + mc) (slots + ms) Q g P (pc + 5) ls rest) : W p l e R s m args below meth c H locs cells slots Q (F0 m pc ls st0) := by
  refine fw_call5 (av := (Value.ref b :: As).toArray) (rest := rest) ?_ hS kk
  have cw := va_cwF (R := R) (rm := fRm fr lo mc ms) n C.2.2.2.2.2.2.1 hgood rfl rfl rfl hF hd hR
  have hp : PreV s H Cn b (va_Pc (.ref b :: As) (fP g w)) As := ⟨fP.blind, hrc, fun U hU hW => ⟨rfl, fP.to C.2.2.2.2.2.2.2 hP hS hU hW⟩⟩
  obtain ⟨hrc', hrs, hfr, hlo, hws, hcw⟩ := cw.back
  have hini := cw.init
  have hK : Back l R p e below s args y 5 8 (PreOf R mc ms (va_Pc (.ref b :: As) (fP g w))) (PostOf (fQ g P) mc ms (fA g)) := back_of (bytes := code') (maxL := nl') (ret := rt') hM hp.1 hrc' hrs hfr hlo hws hcw (fun a' U hW => word_at hW (Or.inl (by first | rfl | simp [Cond.onTables, Cond.keeps, Cond.steady])) hini)
  obtain ⟨-, ⟨cellB, hcB, hoB, hclB⟩, hPc⟩ := hp
  obtain ⟨kB, hkB, -⟩ := Vm.findClass_spec hclB
  intro T hT X
  obtain ⟨v, vm₁, ⟨U', l2, c2, s2⟩, hW₁, X', ⟨g', mk, t, L, e1, e2, hq, h1, hL, h2, h3⟩, st⟩ := va_callIF X C.1 (C := Cn) (bytes := code') (maxL := nl') (ret := rt') C.2.2.2.2.2.1 cw.link cw.decl cw.face cw.sel cw.inst cw.pub cw.unh cw.cast cw.code cw.notMH hK (by rw [hT]; exact hcB) hoB hclB hkB (g := F0 m pc ls st0) rfl (hsz.trans C.2.2.2.2.1.symm) (argsL := As) (rest := rest) (fun sig h => hn.trans (cw.len sig h)) hst (lv_room hroom) (by rw [C.2.1]; exact hdg)
    (fun vm₁ hW₁ => ⟨hf.1, hf.2, hPc (T.setVm vm₁) hT hW₁⟩)
  dsimp only [Pt.U, Pt.locs, Pt.cells, Pt.slots] at X' e1 e2 h1 h2 h3 st
  subst h1; subst h2; subst h3
  exact ⟨v, (T.setVm vm₁).calling g' mk (Value.ref b :: As).toArray, t, U', L, hT, X', hL, e1, e2, hq, st⟩
theorem fw_iret (C : fC g p s m args meth c own cc nl (some .int)) {v : Int32} (hp : P (some (.int v)) w) (hP : HP g w H) (hS : va_S (fA g) s.heap H locs) (hcs : cells ≤ mc ∧ slots ≤ ms) (hdg : decode cc pc = .ok (.ireturn, 1)) : W p l e R s m args below meth c H locs cells slots (MQ below (fQ g P) args s mc ms (fA g)) (F0 m pc ls [.int v]) :=
  W.widen hcs.1 hcs.2 (W.iret C.1 C.2.1 C.2.2.1 (fun t ht hW => ⟨_, w, rfl, hp, by rw [ht]; exact hP, hS.F ht⟩) hS.2.2 hdg C.2.2.2.1)
theorem fw_zret (C : fC g p s m args meth c own cc nl (some .boolean)) {v : Int32} (hn : narrow .boolean (.int v) = .int v) (hp : P (some (.int v)) w) (hP : HP g w H) (hS : va_S (fA g) s.heap H locs) (hcs : cells ≤ mc ∧ slots ≤ ms) (hdg : decode cc pc = .ok (.ireturn, 1)) : W p l e R s m args below meth c H locs cells slots (MQ below (fQ g P) args s mc ms (fA g)) (F0 m pc ls [.int v]) :=
  W.widen hcs.1 hcs.2 (W.zret C.1 C.2.1 C.2.2.1 hn (fun t ht hW => ⟨_, w, rfl, hp, by rw [ht]; exact hP, hS.F ht⟩) hS.2.2 hdg C.2.2.2.1)
theorem fw_vret (C : fC g p s m args meth c own cc nl none) (hp : P none w) (hP : HP g w H) (hS : va_S (fA g) s.heap H locs) (hcs : cells ≤ mc ∧ slots ≤ ms) (hdg : decode cc pc = .ok (.return_, 1)) : W p l e R s m args below meth c H locs cells slots (MQ below (fQ g P) args s mc ms (fA g)) (F0 m pc ls []) :=
  W.widen hcs.1 hcs.2 (W.vret C.1 C.2.1 C.2.2.1 (fun t ht hW => ⟨_, w, rfl, hp, by rw [ht]; exact hP, hS.F ht⟩) hS.2.2 hdg C.2.2.2.1)
theorem fw_aret {ty : FieldType} (C : fC g p s m args meth c own cc nl (some ty)) (hty : (∃ n, ty = .object n) ∨ ∃ t, ty = .array t) {r : Option Nat} (hp : P (some (va_rf r)) w) (hP : HP g w H) (hS : va_S (fA g) s.heap H locs) (hcs : cells ≤ mc ∧ slots ≤ ms) (hdg : decode cc pc = .ok (.areturn, 1)) : W p l e R s m args below meth c H locs cells slots (MQ below (fQ g P) args s mc ms (fA g)) (F0 m pc ls [va_rf r]) :=
  W.widen hcs.1 hcs.2 (W.aret C.1 C.2.1 C.2.2.1 hty (by cases r with | none => exact Or.inl rfl | some a => exact Or.inr ⟨a, rfl⟩) (fun t ht hW => ⟨_, w, rfl, hp, by rw [ht]; exact hP, hS.F ht⟩) hS.2.2 hdg C.2.2.2.1)
theorem fw_lret (C : fC g p s m args meth c own cc nl (some .long)) {v : Int64} (hp : P (some (.long v)) w) (hP : HP g w H) (hS : va_S (fA g) s.heap H locs) (hcs : cells ≤ mc ∧ slots ≤ ms) (hdg : decode cc pc = .ok (.lreturn, 1)) : W p l e R s m args below meth c H locs cells slots (MQ below (fQ g P) args s mc ms (fA g)) (F0 m pc ls [.long v]) :=
  W.widen hcs.1 hcs.2 (W.lret C.1 C.2.1 C.2.2.1 (fun t ht hW => ⟨_, w, rfl, hp, by rw [ht]; exact hP, hS.F ht⟩) hS.2.2 hdg C.2.2.2.1)
end FCALLS
end
section
/-! Integer: intValue, the constructor, valueOf; order and Down.compare -/
set_option maxRecDepth 100000
abbrev fInt (v : Int32) : va_E := .inr (4, [.int v])
set_option maxHeartbeats 4000000 in
/-- Integer.intValue -/
theorem m_intValue (l : Launch) (g : fG) (w : fW) (a : Nat) (v : Int32) (ha : w a = some (fInt v)) : fMet l g yJ1_intValue cJ1_intValue 1 (some .int) 1 0 0 0 [.ref a] w (fun r w1 => r = some (.int v) ∧ w1 = w) := by
  refine fw_of (by decide) (Nat.le_of_ble_eq_true rfl) ?_
  intro p e s m below meth c ls C hnm hP hl
  have hS : va_S (fA g) s.heap s.heap [] := va_S.rf
  refine lv_aload_n C.1 C.2.1 dJ1_intValue_0 rfl (lv_at hl 0 rfl) ?_
  refine fw_get C in_J1 hP ha rfl 0 (by decide) q110 rfl rfl dJ1_intValue_1 ?_
  exact fw_iret C ⟨rfl, rfl⟩ hP hS ⟨Nat.le_of_ble_eq_true rfl, Nat.le_of_ble_eq_true rfl⟩ dJ1_intValue_4
set_option maxHeartbeats 4000000 in
/-- Number.<init> -/
theorem m_Number_init (l : Launch) (g : fG) (w : fW) (a : Nat) : fMet l g yJ0_init cJ0_init 1 none 1 12 0 0 [.ref a] w (fun r w1 => r = none ∧ w1 = w) := by
  refine fw_of (by decide) (Nat.le_of_ble_eq_true rfl) ?_
  intro p e s m below meth c ls C hnm hP hl
  have hS : va_S (fA g) s.heap s.heap [] := va_S.rf
  refine lv_aload_n C.1 C.2.1 dJ0_init_0 rfl (lv_at hl 0 rfl) ?_
  refine W.objInit C.1 C.2.1 C.2.2.2.2.2.1 (C.2.2.2.2.2.2.1 _ q109) (C.2.2.2.2.2.2.1 _ q37) (C.2.2.2.2.2.2.1 _ q38) rfl (by rw [C.2.2.2.2.1]; exact hl.1) rfl dJ0_init_1 (Nat.le_of_ble_eq_true rfl) (Nat.le_of_ble_eq_true rfl) ?_
  refine W.eq (g2 := F0 m 4 ls []) rfl ?_
  exact fw_vret C ⟨rfl, rfl⟩ hP hS ⟨Nat.le_of_ble_eq_true rfl, Nat.le_of_ble_eq_true rfl⟩ dJ0_init_4
set_option maxHeartbeats 4000000 in
/-- Integer.<init>(v) -/
theorem m_Integer_init (l : Launch) (g : fG) (w : fW) (a : Nat) (v v0 : Int32) (ha : w a = some (fInt v0)) (hA : g.2.1 ≤ a) : fMet l g yJ1_init cJ1_init 2 none 2 40 0 0 [.ref a, .int v] w (fun r w1 => r = none ∧ w1 = fset w a (fInt v)) := by
  refine fw_of (by decide) (Nat.le_of_ble_eq_true rfl) ?_
  intro p e s m below meth c ls C hnm hP hl
  have hS : va_S (fA g) s.heap s.heap [] := va_S.rf
  refine lv_aload_n C.1 C.2.1 dJ1_init_0 rfl (lv_at hl 0 rfl) ?_
  refine fw_I C 0 (As := []) (rest := []) (m_Number_init l g w a) q108 q16 q106 q107 rfl (by decide +kernel) ⟨Nat.le_of_ble_eq_true rfl, Nat.le_of_ble_eq_true rfl⟩ hP hS rfl rfl hl.1 (Nat.le_of_ble_eq_true rfl) dJ1_init_1 ⟨Nat.le_of_ble_eq_true rfl, Nat.le_of_ble_eq_true rfl⟩ ?_
  rintro r w1 H1 locs1 ⟨rfl, e1⟩ hP hS
  rw [e1] at hP
  clear e1 w1
  refine lv_aload_n C.1 C.2.1 dJ1_init_4 rfl (lv_at hl 0 rfl) ?_
  refine lv_iload_n C.1 C.2.1 dJ1_init_5 rfl (lv_at hl 1 rfl) ?_
  refine fw_putF C in_J1 tyJ1 tyJ1_ok nmJ1 hP hS hA ha rfl 0 (by decide) q110 rfl rfl (hnm.trans rfl) rfl rfl rfl (Nat.le_of_ble_eq_true rfl) dJ1_init_6 (fun H1 locs1 hP hS => ?_)
  exact fw_vret C ⟨rfl, rfl⟩ hP hS ⟨Nat.le_of_ble_eq_true rfl, Nat.le_of_ble_eq_true rfl⟩ dJ1_init_9
theorem fv_box {v : Int32} (h1 : ¬ v < -128) (h2 : ¬ v > 127) : ∃ j : Nat, j < 256 ∧ v + 128 = nI j ∧ v = vb_c j := by
  have e1 : ¬ v.toInt < -128 := fun h => h1 (Int32.lt_iff_toInt_lt.mpr h)
  have e2 : ¬ 127 < v.toInt := fun h => h2 (Int32.lt_iff_toInt_lt.mpr h)
  have e3 : (v + 128).toInt = v.toInt + 128 := by
    rw [Int32.toInt_add]
    show (v.toInt + 128).bmod (2 ^ 32) = _
    apply Int.bmod_eq_of_le <;> omega
  obtain ⟨j, hj, hv⟩ := vp_in_of (x := v + 128) (n := 256) (vp_in_iff.mpr ⟨by omega, by omega⟩) (by decide)
  refine ⟨j, hj, hv, ?_⟩
  show v = nI j - 128
  rw [← hv]
  grind
/-- what valueOf makes of a world -/
def fBox (g : fG) (w : fW) (v : Int32) (a : Nat) : Prop := (w a = none ∧ g.2.1 ≤ a) ∨ w a = some (fInt v)
/-- the cache lies in the world -/
def fCa (g : fG) (w : fW) : Prop := ∀ j : Nat, j < 256 → w (g.2.2.2.2 j) = some (fInt (vb_c j))
set_option maxHeartbeats 4000000 in
/-- Integer.valueOf -/
theorem m_valueOf (l : Launch) (g : fG) (w : fW) (v : Int32) (hca : fCa g w) : fMet l g yJ1_valueOf cJ1_valueOf 1 (some (.object "java/lang/Integer")) 3 70 1 1 [.int v] w (fun r w1 => ∃ a : Nat, r = some (.ref a) ∧ w1 = fset w a (fInt v) ∧ fBox g w v a) := by
  refine fw_of (by decide) (Nat.le_of_ble_eq_true rfl) ?_
  intro p e s m below meth c ls C hnm hP hl
  have hS : va_S (fA g) s.heap s.heap [] := va_S.rf
  have hnew : W p l e (fRm 3 70 1 1) s m ([.int v] : List Value).toArray below meth c s.heap [] 0 0 (MQ below (fQ g (fun r w1 => ∃ a : Nat, r = some (.ref a) ∧ w1 = fset w a (fInt v) ∧ fBox g w v a)) ([.int v] : List Value).toArray s 1 1 (fA g)) (F0 m 23 ls []) := by
    refine fw_new (fs := [.int 0]) C in_J1 tyJ1 tyJ1_ok q101 q102 q17 hP hS (ci := 4) rfl (fun j hj => by rcases (show j = 0 by omega) with rfl <;> rfl) (Nat.le_of_ble_eq_true rfl) (Nat.le_of_ble_eq_true rfl) dJ1_valueOf_23 (fun q H1 hP hw hA hS => ?_)
    refine lv_dup C.1 C.2.1 dJ1_valueOf_26 rfl ?_
    refine lv_iload_n C.1 C.2.1 dJ1_valueOf_27 rfl (lv_at hl 0 rfl) ?_
    refine fw_I C 1 (As := [.int v]) (rest := [.ref q]) (m_Integer_init l g _ q v 0 fset_s hA) q105 q17 q103 q104 rfl (by decide +kernel) ⟨Nat.le_of_ble_eq_true rfl, Nat.le_of_ble_eq_true rfl⟩ hP hS rfl rfl hl.1 (Nat.le_of_ble_eq_true rfl) dJ1_valueOf_28 ⟨Nat.le_of_ble_eq_true rfl, Nat.le_of_ble_eq_true rfl⟩ ?_
    rintro r w1 H1 locs1 ⟨rfl, e1⟩ hP hS
    rw [e1] at hP
    clear e1 w1
    refine fw_aret (r := some q) C (Or.inl ⟨_, rfl⟩) ⟨q, rfl, rfl, Or.inl ⟨hw, hA⟩⟩ (w := fset w q (fInt v)) ?_ hS ⟨Nat.le_of_ble_eq_true rfl, Nat.le_of_ble_eq_true rfl⟩ dJ1_valueOf_31
    have e : fset (fset w q (fInt 0)) q (fInt v) = fset w q (fInt v) := by
      funext x
      simp only [fset]
      split <;> rfl
    rw [← e]
    exact hP
  refine lv_iload_n C.1 C.2.1 dJ1_valueOf_0 rfl (lv_at hl 0 rfl) ?_
  refine lv_bipush (v := (-128)) C.1 C.2.1 dJ1_valueOf_1 (by decide) ?_
  refine lv_icmp_lt (tgt := 23) C.1 C.2.1 dJ1_valueOf_3 (by decide) (fun c1 => ?_) (fun c1 => ?_)
  · exact hnew
  refine lv_iload_n C.1 C.2.1 dJ1_valueOf_6 rfl (lv_at hl 0 rfl) ?_
  refine va_gets C.1 C.2.1 C.2.2.2.2.2.2.2.2.2.2.1 hS C.2.2.2.2.2.1 (C.2.2.2.2.2.2.1 _ q97) (fun _ h => h) dJ1_valueOf_7 ?_
  refine lv_icmp_gt (tgt := 23) C.1 C.2.1 dJ1_valueOf_10 (by decide) (fun c2 => ?_) (fun c2 => ?_)
  · exact hnew
  refine va_gets C.1 C.2.1 C.2.2.2.2.2.2.2.2.2.2.2.1 hS C.2.2.2.2.2.1 (C.2.2.2.2.2.2.1 _ q99) (fun _ h => h) dJ1_valueOf_13 ?_
  refine lv_iload_n C.1 C.2.1 dJ1_valueOf_16 rfl (lv_at hl 0 rfl) ?_
  refine lv_sipush (v := 128) C.1 C.2.1 dJ1_valueOf_17 (by decide) ?_
  refine lv_iadd C.1 C.2.1 dJ1_valueOf_20 ?_
  obtain ⟨j, hj, e1, e2⟩ := fv_box c1 c2
  refine vb_tq C.1 C.2.1 C.2.2.2.2.2.2.2.2.2.2.2.2.1 hS (v := .ref (g.2.2.2.2 j)) (by rw [e1]; exact vp_in_nI hj (by decide)) (by rw [e1, nI_clamp (by omega)]) dJ1_valueOf_21 ?_
  refine fw_aret (r := some (g.2.2.2.2 j)) C (Or.inl ⟨_, rfl⟩) ⟨_, rfl, rfl, Or.inr (by rw [e2]; exact hca j hj)⟩ (w := fset w (g.2.2.2.2 j) (fInt v)) ?_ hS ⟨Nat.le_of_ble_eq_true rfl, Nat.le_of_ble_eq_true rfl⟩ dJ1_valueOf_22
  have e : fset w (g.2.2.2.2 j) (fInt v) = w := by
    funext x
    simp only [fset]
    split
    · next h => rw [h, hca j hj, e2]
    · rfl
  rw [e]
  exact hP
def ford (x y : Int32) : Int32 := if x < y then -1 else if y < x then 1 else 0
set_option maxHeartbeats 4000000 in
/-- Desk.order -/
theorem m_order (l : Launch) (g : fG) (w : fW) (a b : Nat) (x y : Int32) (ha : w a = some (fInt x)) (hb : w b = some (fInt y)) : fMet l g yX0_order cX0_order 4 (some .int) 2 40 0 0 [.ref a, .ref b] w (fun r w1 => r = some (.int (ford x y)) ∧ w1 = w) := by
  refine fw_of (by decide) (Nat.le_of_ble_eq_true rfl) ?_
  intro p e s m below meth c ls C hnm hP hl
  have hS : va_S (fA g) s.heap s.heap [] := va_S.rf
  refine lv_aload_n C.1 C.2.1 dX0_order_0 rfl (lv_at hl 0 rfl) ?_
  refine va_castS C.1 C.2.1 C.2.2.2.2.2.1 (C.2.2.2.2.2.2.1 _ q215) (C.2.2.2.2.2.2.2.1.1 4 _ rfl).2 (fw_recv C hP ha rfl) dX0_order_1 ?_
  refine fw_V C 0 (As := []) (rest := []) (m_intValue l g w a x ha) (lw_V q216 q217 q218 q17 q219) (by decide +kernel) ⟨Nat.le_of_ble_eq_true rfl, Nat.le_of_ble_eq_true rfl⟩ hP hS ha rfl rfl rfl hl.1 (Nat.le_of_ble_eq_true rfl) dX0_order_4 ⟨Nat.le_of_ble_eq_true rfl, Nat.le_of_ble_eq_true rfl⟩ ?_
  rintro r w1 H1 locs1 ⟨rfl, e1⟩ hP hS
  rw [e1] at hP
  clear e1 w1
  refine lv_istore_n (lv' := [(2, .int x), (0, .ref a), (1, .ref b)]) C.1 C.2.1 dX0_order_7 rfl hl (by decide) rfl (fun ls hl => ?_)
  refine lv_aload_n C.1 C.2.1 dX0_order_8 rfl (lv_at hl 2 rfl) ?_
  refine va_castS C.1 C.2.1 C.2.2.2.2.2.1 (C.2.2.2.2.2.2.1 _ q215) (C.2.2.2.2.2.2.2.1.1 4 _ rfl).2 (fw_recv C hP hb rfl) dX0_order_9 ?_
  refine fw_V C 0 (As := []) (rest := []) (m_intValue l g w b y hb) (lw_V q216 q217 q218 q17 q219) (by decide +kernel) ⟨Nat.le_of_ble_eq_true rfl, Nat.le_of_ble_eq_true rfl⟩ hP hS hb rfl rfl rfl hl.1 (Nat.le_of_ble_eq_true rfl) dX0_order_12 ⟨Nat.le_of_ble_eq_true rfl, Nat.le_of_ble_eq_true rfl⟩ ?_
  rintro r w1 H1 locs1 ⟨rfl, e1⟩ hP hS
  rw [e1] at hP
  clear e1 w1
  refine lv_istore_n (lv' := [(3, .int y), (2, .int x), (0, .ref a), (1, .ref b)]) C.1 C.2.1 dX0_order_15 rfl hl (by decide) rfl (fun ls hl => ?_)
  refine lv_iload_n C.1 C.2.1 dX0_order_16 rfl (lv_at hl 1 rfl) ?_
  refine lv_iload_n C.1 C.2.1 dX0_order_17 rfl (lv_at hl 0 rfl) ?_
  refine lv_icmp_ge (tgt := 25) C.1 C.2.1 dX0_order_18 (by decide) (fun c1 => ?_) (fun c1 => ?_)
  · refine lv_iload_n C.1 C.2.1 dX0_order_25 rfl (lv_at hl 1 rfl) ?_
    refine lv_iload_n C.1 C.2.1 dX0_order_26 rfl (lv_at hl 0 rfl) ?_
    refine lv_icmp_le (tgt := 34) C.1 C.2.1 dX0_order_27 (by decide) (fun c2 => ?_) (fun c2 => ?_)
    · refine lv_iconst (v := 0) C.1 C.2.1 dX0_order_34 (by decide) ?_
      refine fw_iret C ⟨?_, rfl⟩ hP hS ⟨Nat.le_of_ble_eq_true rfl, Nat.le_of_ble_eq_true rfl⟩ dX0_order_35
      rw [ford, if_neg (Int32.not_lt.mpr c1), if_neg (Int32.not_lt.mpr c2)]
    · refine lv_iconst (v := 1) C.1 C.2.1 dX0_order_30 (by decide) ?_
      refine lv_goto (tgt := 35) C.1 C.2.1 dX0_order_31 (by decide) ?_
      refine fw_iret C ⟨?_, rfl⟩ hP hS ⟨Nat.le_of_ble_eq_true rfl, Nat.le_of_ble_eq_true rfl⟩ dX0_order_35
      rw [ford, if_neg (Int32.not_lt.mpr c1), if_pos (Int32.not_le.mp c2)]
  · refine lv_iconst (v := (-1)) C.1 C.2.1 dX0_order_21 (by decide) ?_
    refine lv_goto (tgt := 35) C.1 C.2.1 dX0_order_22 (by decide) ?_
    refine fw_iret C ⟨?_, rfl⟩ hP hS ⟨Nat.le_of_ble_eq_true rfl, Nat.le_of_ble_eq_true rfl⟩ dX0_order_35
    rw [ford, if_pos (Int32.not_le.mp c1)]

def fdwn (x y : Int32) : Int32 := if x < y then 1 else if y < x then -1 else 0
set_option maxHeartbeats 4000000 in
/-- Down.compare(Integer, Integer) -/
theorem m_compare2 (l : Launch) (g : fG) (w : fW) (t a b : Nat) (x y : Int32) (ha : w a = some (fInt x)) (hb : w b = some (fInt y)) : fMet l g yX4_compare_2 cX4_compare_2 5 (some .int) 2 40 0 0 [.ref t, .ref a, .ref b] w (fun r w1 => r = some (.int (fdwn x y)) ∧ w1 = w) := by
  refine fw_of (by decide) (Nat.le_of_ble_eq_true rfl) ?_
  intro p e s m below meth c ls C hnm hP hl
  have hS : va_S (fA g) s.heap s.heap [] := va_S.rf
  refine lv_aload_n C.1 C.2.1 dX4_compare_2_0 rfl (lv_at hl 1 rfl) ?_
  refine fw_V C 0 (As := []) (rest := []) (m_intValue l g w a x ha) (lw_V q235 q217 q218 q17 q219) (by decide +kernel) ⟨Nat.le_of_ble_eq_true rfl, Nat.le_of_ble_eq_true rfl⟩ hP hS ha rfl rfl rfl hl.1 (Nat.le_of_ble_eq_true rfl) dX4_compare_2_1 ⟨Nat.le_of_ble_eq_true rfl, Nat.le_of_ble_eq_true rfl⟩ ?_
  rintro r w1 H1 locs1 ⟨rfl, e1⟩ hP hS
  rw [e1] at hP
  clear e1 w1
  refine lv_istore_n (lv' := [(3, .int x), (0, .ref t), (1, .ref a), (2, .ref b)]) C.1 C.2.1 dX4_compare_2_4 rfl hl (by decide) rfl (fun ls hl => ?_)
  refine lv_aload_n C.1 C.2.1 dX4_compare_2_5 rfl (lv_at hl 3 rfl) ?_
  refine fw_V C 0 (As := []) (rest := []) (m_intValue l g w b y hb) (lw_V q235 q217 q218 q17 q219) (by decide +kernel) ⟨Nat.le_of_ble_eq_true rfl, Nat.le_of_ble_eq_true rfl⟩ hP hS hb rfl rfl rfl hl.1 (Nat.le_of_ble_eq_true rfl) dX4_compare_2_6 ⟨Nat.le_of_ble_eq_true rfl, Nat.le_of_ble_eq_true rfl⟩ ?_
  rintro r w1 H1 locs1 ⟨rfl, e1⟩ hP hS
  rw [e1] at hP
  clear e1 w1
  refine lv_istore (lv' := [(4, .int y), (3, .int x), (0, .ref t), (1, .ref a), (2, .ref b)]) C.1 C.2.1 dX4_compare_2_9 hl (by decide) rfl (fun ls hl => ?_)
  refine lv_iload_n C.1 C.2.1 dX4_compare_2_11 rfl (lv_at hl 1 rfl) ?_
  refine lv_iload C.1 C.2.1 dX4_compare_2_12 (lv_at hl 0 rfl) ?_
  refine lv_icmp_ge (tgt := 21) C.1 C.2.1 dX4_compare_2_14 (by decide) (fun c1 => ?_) (fun c1 => ?_)
  · refine lv_iload_n C.1 C.2.1 dX4_compare_2_21 rfl (lv_at hl 1 rfl) ?_
    refine lv_iload C.1 C.2.1 dX4_compare_2_22 (lv_at hl 0 rfl) ?_
    refine lv_icmp_le (tgt := 31) C.1 C.2.1 dX4_compare_2_24 (by decide) (fun c2 => ?_) (fun c2 => ?_)
    · refine lv_iconst (v := 0) C.1 C.2.1 dX4_compare_2_31 (by decide) ?_
      refine fw_iret C ⟨?_, rfl⟩ hP hS ⟨Nat.le_of_ble_eq_true rfl, Nat.le_of_ble_eq_true rfl⟩ dX4_compare_2_32
      rw [fdwn, if_neg (Int32.not_lt.mpr c1), if_neg (Int32.not_lt.mpr c2)]
    · refine lv_iconst (v := (-1)) C.1 C.2.1 dX4_compare_2_27 (by decide) ?_
      refine lv_goto (tgt := 32) C.1 C.2.1 dX4_compare_2_28 (by decide) ?_
      refine fw_iret C ⟨?_, rfl⟩ hP hS ⟨Nat.le_of_ble_eq_true rfl, Nat.le_of_ble_eq_true rfl⟩ dX4_compare_2_32
      rw [fdwn, if_neg (Int32.not_lt.mpr c1), if_pos (Int32.not_le.mp c2)]
  · refine lv_iconst (v := 1) C.1 C.2.1 dX4_compare_2_17 (by decide) ?_
    refine lv_goto (tgt := 32) C.1 C.2.1 dX4_compare_2_18 (by decide) ?_
    refine fw_iret C ⟨?_, rfl⟩ hP hS ⟨Nat.le_of_ble_eq_true rfl, Nat.le_of_ble_eq_true rfl⟩ dX4_compare_2_32
    rw [fdwn, if_pos (Int32.not_le.mp c1)]
set_option maxHeartbeats 4000000 in
/-- Down.compare(Object, Object), on DOWN -/
theorem m_compare (l : Launch) (g : fG) (w : fW) (a b : Nat) (x y : Int32) (ha : w a = some (fInt x)) (hb : w b = some (fInt y)) : fMet l g yX4_compare cX4_compare 3 (some .int) 3 70 0 0 [.ref g.2.2.2.1.2, .ref a, .ref b] w (fun r w1 => r = some (.int (fdwn x y)) ∧ w1 = w) := by
  refine fw_of (by decide) (Nat.le_of_ble_eq_true rfl) ?_
  intro p e s m below meth c ls C hnm hP hl
  have hS : va_S (fA g) s.heap s.heap [] := va_S.rf
  refine lv_aload_n C.1 C.2.1 dX4_compare_0 rfl (lv_at hl 0 rfl) ?_
  refine lv_aload_n C.1 C.2.1 dX4_compare_1 rfl (lv_at hl 1 rfl) ?_
  refine va_castS C.1 C.2.1 C.2.2.2.2.2.1 (C.2.2.2.2.2.2.1 _ q230) (C.2.2.2.2.2.2.2.1.1 4 _ rfl).2 (fw_recv C hP ha rfl) dX4_compare_2 ?_
  refine lv_aload_n C.1 C.2.1 dX4_compare_5 rfl (lv_at hl 2 rfl) ?_
  refine va_castS C.1 C.2.1 C.2.2.2.2.2.1 (C.2.2.2.2.2.2.1 _ q230) (C.2.2.2.2.2.2.2.1.1 4 _ rfl).2 (fw_recv C hP hb rfl) dX4_compare_6 ?_
  refine fw_call (va_runV (As := [.ref a, .ref b]) (rest := []) ⟨C.1, C.2.1, C.2.2.2.2.1, C.2.2.2.2.2.1, C.2.2.2.2.2.2.1⟩ (m_compare2 l g w g.2.2.2.1.2 a b x y ha hb) (cwV 2 C.2.2.2.2.2.2.1 (lw_V q231 q232 q233 q560 q234) rfl rfl rfl (by decide +kernel) ⟨Nat.le_of_ble_eq_true rfl, Nat.le_of_ble_eq_true rfl⟩) ⟨fP.blind, ?_, fun U hU hW => ⟨rfl, fP.to C.2.2.2.2.2.2.2 hP hS hU hW⟩⟩ rfl rfl hl.1 rfl (lv_room (Nat.le_of_ble_eq_true rfl)) dX4_compare_9 ⟨Nat.le_of_ble_eq_true rfl, Nat.le_of_ble_eq_true rfl⟩) hS ?_
  · obtain ⟨cell, h1, h2, h3, -⟩ := C.2.2.2.2.2.2.2.2.2.2.2.2.2.2.2
    exact ⟨cell, h1, h2, h3⟩
  rintro r w1 H1 locs1 ⟨rfl, e1⟩ hP hS
  rw [e1] at hP
  clear e1 w1
  exact fw_iret C ⟨rfl, rfl⟩ hP hS ⟨Nat.le_of_ble_eq_true rfl, Nat.le_of_ble_eq_true rfl⟩ dX4_compare_12
end
section
/-! NODES as a layer of the world; a heap's tree by positions; getParent -/
set_option maxRecDepth 100000
def mkw (ns : List Nat) (kf vf : Nat → Nat) (oc ys : Nat → Option Nat) (ow : Nat → Nat) (w0 : fW) : fW := fun a => if a ∈ ns then some (.inr (3, [.ref (kf a), .ref (vf a), va_rf (oc a), va_rf (ys a), .ref (ow a)])) else w0 a
/-- a heap's object -/
abbrev hpc (cmp : Option Nat) (sz : Int64) (root : Option Nat) : va_E := .inr (1, [va_rf cmp, .long sz, va_rf root])
section NODES
variable {ns : List Nat} {kf vf : Nat → Nat} {oc ys : Nat → Option Nat} {ow : Nat → Nat} {w0 : fW} {n h : Nat}
theorem mkw_n (hn : n ∈ ns) : mkw ns kf vf oc ys ow w0 n = some (.inr (3, [.ref (kf n), .ref (vf n), va_rf (oc n), va_rf (ys n), .ref (ow n)])) := if_pos hn
theorem mkw_o (hn : n ∉ ns) : mkw ns kf vf oc ys ow w0 n = w0 n := if_neg hn
theorem va_up_s {α : Type} {f : Nat → α} {k : Nat} {v : α} : va_up f k v k = v := if_pos rfl
theorem va_up_n {α : Type} {f : Nat → α} {k j : Nat} {v : α} (h : j ≠ k) : va_up f k v j = f j := if_neg h
theorem mkw_oc (hn : n ∈ ns) (r : Option Nat) : fset (mkw ns kf vf oc ys ow w0) n (.inr (3, [.ref (kf n), .ref (vf n), va_rf r, va_rf (ys n), .ref (ow n)])) = mkw ns kf vf (va_up oc n r) ys ow w0 := by
  funext x
  by_cases hx : x = n
  · subst hx
    rw [fset_s, mkw_n hn, va_up_s]
  · rw [fset_n hx]
    by_cases hm : x ∈ ns
    · rw [mkw_n hm, mkw_n hm, va_up_n hx]
    · rw [mkw_o hm, mkw_o hm]
theorem mkw_ys (hn : n ∈ ns) (r : Option Nat) : fset (mkw ns kf vf oc ys ow w0) n (.inr (3, [.ref (kf n), .ref (vf n), va_rf (oc n), va_rf r, .ref (ow n)])) = mkw ns kf vf oc (va_up ys n r) ow w0 := by
  funext x
  by_cases hx : x = n
  · subst hx
    rw [fset_s, mkw_n hn, va_up_s]
  · rw [fset_n hx]
    by_cases hm : x ∈ ns
    · rw [mkw_n hm, mkw_n hm, va_up_n hx]
    · rw [mkw_o hm, mkw_o hm]
theorem mkw_kf (hn : n ∈ ns) (r : Nat) : fset (mkw ns kf vf oc ys ow w0) n (.inr (3, [.ref r, .ref (vf n), va_rf (oc n), va_rf (ys n), .ref (ow n)])) = mkw ns (va_up kf n r) vf oc ys ow w0 := by
  funext x
  by_cases hx : x = n
  · subst hx
    rw [fset_s, mkw_n hn, va_up_s]
  · rw [fset_n hx]
    by_cases hm : x ∈ ns
    · rw [mkw_n hm, mkw_n hm, va_up_n hx]
    · rw [mkw_o hm, mkw_o hm]
theorem mkw_vf (hn : n ∈ ns) (r : Nat) : fset (mkw ns kf vf oc ys ow w0) n (.inr (3, [.ref (kf n), .ref r, va_rf (oc n), va_rf (ys n), .ref (ow n)])) = mkw ns kf (va_up vf n r) oc ys ow w0 := by
  funext x
  by_cases hx : x = n
  · subst hx
    rw [fset_s, mkw_n hn, va_up_s]
  · rw [fset_n hx]
    by_cases hm : x ∈ ns
    · rw [mkw_n hm, mkw_n hm, va_up_n hx]
    · rw [mkw_o hm, mkw_o hm]
theorem mkw_w (hn : n ∉ ns) (e : va_E) : fset (mkw ns kf vf oc ys ow w0) n e = mkw ns kf vf oc ys ow (fset w0 n e) := by
  funext x
  by_cases hx : x = n
  · subst hx
    rw [fset_s, mkw_o hn, fset_s]
  · rw [fset_n hx]
    by_cases hm : x ∈ ns
    · rw [mkw_n hm, mkw_n hm]
    · rw [mkw_o hm, mkw_o hm, fset_n hx]
variable {p : Program} {l : Launch} {e : Env} {R : Room} {s : State} {m : MethodId} {args : Array Value} {below : List Frame} {meth : Method} {c : Code} {H : Heap} {locs : List Loc} {cells slots : Nat} {Q : State → Prop}
variable {g : fG} {cc : ByteArray} {nl : Nat} {rt : Option FieldType} {pc : Nat} {ls : Array Slot} {rest : List Value} {v : Value} {r : Option Nat}
theorem nx_oc (C : fC g p s m args meth c RX1 cc nl rt) (hP : HP g (mkw ns kf vf oc ys ow w0) H) (hn : n ∈ ns) (hv : va_rf (oc n) = v) (hdg : decode cc pc = .ok (.getfield 53, 3))
    (kk : W p l e R s m args below meth c H locs cells slots Q (F0 m (pc + 3) ls (v :: rest))) : W p l e R s m args below meth c H locs cells slots Q (F0 m pc ls (.ref n :: rest)) :=
  fw_get C in_X3 hP (mkw_n hn) rfl 2 (by decide) q196 rfl (by rw [← hv]; rfl) hdg kk
theorem nx_ys (C : fC g p s m args meth c RX1 cc nl rt) (hP : HP g (mkw ns kf vf oc ys ow w0) H) (hn : n ∈ ns) (hv : va_rf (ys n) = v) (hdg : decode cc pc = .ok (.getfield 56, 3))
    (kk : W p l e R s m args below meth c H locs cells slots Q (F0 m (pc + 3) ls (v :: rest))) : W p l e R s m args below meth c H locs cells slots Q (F0 m pc ls (.ref n :: rest)) :=
  fw_get C in_X3 hP (mkw_n hn) rfl 3 (by decide) q198 rfl (by rw [← hv]; rfl) hdg kk
theorem nx_key (C : fC g p s m args meth c RX1 cc nl rt) (hP : HP g (mkw ns kf vf oc ys ow w0) H) (hn : n ∈ ns) (hdg : decode cc pc = .ok (.getfield 38, 3))
    (kk : W p l e R s m args below meth c H locs cells slots Q (F0 m (pc + 3) ls (.ref (kf n) :: rest))) : W p l e R s m args below meth c H locs cells slots Q (F0 m pc ls (.ref n :: rest)) :=
  fw_get C in_X3 hP (mkw_n hn) rfl 0 (by decide) q193 rfl rfl hdg kk
theorem nx_poc (C : fC g p s m args meth c RX1 cc nl rt) (hA : ∀ a ∈ ns, g.2.1 ≤ a) (hP : HP g (mkw ns kf vf oc ys ow w0) H) (hS : va_S (fA g) s.heap H locs) (hn : n ∈ ns) (hdg : decode cc pc = .ok (.putfield 53, 3))
    (kk : ∀ (H1 : Heap) (locs1 : List Loc), HP g (mkw ns kf vf (va_up oc n r) ys ow w0) H1 → va_S (fA g) s.heap H1 locs1 → W p l e R s m args below meth c H1 locs1 cells slots Q (F0 m (pc + 3) ls rest)) : W p l e R s m args below meth c H locs cells slots Q (F0 m pc ls (va_rf r :: .ref n :: rest)) :=
  fw_put C in_X3 tyX3 tyX3_ok nmX3 hP hS (hA n hn) (mkw_n hn) rfl 2 (by decide) q196 rfl rfl (by cases r <;> rfl) (by cases r <;> rfl) (Nat.le_of_ble_eq_true rfl) hdg (fun H1 locs1 h1 h2 => kk H1 locs1 (by rw [← mkw_oc hn r]; exact h1) h2)
theorem nx_pys (C : fC g p s m args meth c RX1 cc nl rt) (hA : ∀ a ∈ ns, g.2.1 ≤ a) (hP : HP g (mkw ns kf vf oc ys ow w0) H) (hS : va_S (fA g) s.heap H locs) (hn : n ∈ ns) (hdg : decode cc pc = .ok (.putfield 56, 3))
    (kk : ∀ (H1 : Heap) (locs1 : List Loc), HP g (mkw ns kf vf oc (va_up ys n r) ow w0) H1 → va_S (fA g) s.heap H1 locs1 → W p l e R s m args below meth c H1 locs1 cells slots Q (F0 m (pc + 3) ls rest)) : W p l e R s m args below meth c H locs cells slots Q (F0 m pc ls (va_rf r :: .ref n :: rest)) :=
  fw_put C in_X3 tyX3 tyX3_ok nmX3 hP hS (hA n hn) (mkw_n hn) rfl 3 (by decide) q198 rfl rfl (by cases r <;> rfl) (by cases r <;> rfl) (Nat.le_of_ble_eq_true rfl) hdg (fun H1 locs1 h1 h2 => kk H1 locs1 (by rw [← mkw_ys hn r]; exact h1) h2)
variable {cmp root : Option Nat} {sz : Int64}
theorem hx_cmp (C : fC g p s m args meth c RX1 cc nl rt) (hP : HP g (mkw ns kf vf oc ys ow w0) H) (hh : h ∉ ns) (hw : w0 h = some (hpc cmp sz root)) (hv : va_rf cmp = v) (hdg : decode cc pc = .ok (.getfield 12, 3))
    (kk : W p l e R s m args below meth c H locs cells slots Q (F0 m (pc + 3) ls (v :: rest))) : W p l e R s m args below meth c H locs cells slots Q (F0 m pc ls (.ref h :: rest)) :=
  fw_get C in_X1 hP ((mkw_o hh).trans hw) rfl 0 (by decide) q55 rfl (by rw [← hv]; rfl) hdg kk
theorem hx_size (C : fC g p s m args meth c RX1 cc nl rt) (hP : HP g (mkw ns kf vf oc ys ow w0) H) (hh : h ∉ ns) (hw : w0 h = some (hpc cmp sz root)) (hdg : decode cc pc = .ok (.getfield 16, 3))
    (kk : W p l e R s m args below meth c H locs cells slots Q (F0 m (pc + 3) ls (.long sz :: rest))) : W p l e R s m args below meth c H locs cells slots Q (F0 m pc ls (.ref h :: rest)) :=
  fw_get C in_X1 hP ((mkw_o hh).trans hw) rfl 1 (by decide) q57 rfl rfl hdg kk
theorem hx_root (C : fC g p s m args meth c RX1 cc nl rt) (hP : HP g (mkw ns kf vf oc ys ow w0) H) (hh : h ∉ ns) (hw : w0 h = some (hpc cmp sz root)) (hv : va_rf root = v) (hdg : decode cc pc = .ok (.getfield 20, 3))
    (kk : W p l e R s m args below meth c H locs cells slots Q (F0 m (pc + 3) ls (v :: rest))) : W p l e R s m args below meth c H locs cells slots Q (F0 m pc ls (.ref h :: rest)) :=
  fw_get C in_X1 hP ((mkw_o hh).trans hw) rfl 2 (by decide) q58 rfl (by rw [← hv]; rfl) hdg kk
theorem hx_proot (C : fC g p s m args meth c RX1 cc nl rt) (hA : g.2.1 ≤ h) (hP : HP g (mkw ns kf vf oc ys ow w0) H) (hS : va_S (fA g) s.heap H locs) (hh : h ∉ ns) (hw : w0 h = some (hpc cmp sz root)) (hdg : decode cc pc = .ok (.putfield 20, 3))
    (kk : ∀ (H1 : Heap) (locs1 : List Loc), HP g (mkw ns kf vf oc ys ow (fset w0 h (hpc cmp sz r))) H1 → va_S (fA g) s.heap H1 locs1 → W p l e R s m args below meth c H1 locs1 cells slots Q (F0 m (pc + 3) ls rest)) : W p l e R s m args below meth c H locs cells slots Q (F0 m pc ls (va_rf r :: .ref h :: rest)) :=
  fw_put C in_X1 tyX1 tyX1_ok nmX1 hP hS hA ((mkw_o hh).trans hw) rfl 2 (by decide) q58 rfl rfl (by cases r <;> rfl) (by cases r <;> rfl) (Nat.le_of_ble_eq_true rfl) hdg (fun H1 locs1 h1 h2 => kk H1 locs1 (by rw [← mkw_w hh]; exact h1) h2)
theorem hx_psize (C : fC g p s m args meth c RX1 cc nl rt) (hA : g.2.1 ≤ h) (hP : HP g (mkw ns kf vf oc ys ow w0) H) (hS : va_S (fA g) s.heap H locs) (hh : h ∉ ns) (hw : w0 h = some (hpc cmp sz root)) {z : Int64} (hdg : decode cc pc = .ok (.putfield 16, 3))
    (kk : ∀ (H1 : Heap) (locs1 : List Loc), HP g (mkw ns kf vf oc ys ow (fset w0 h (hpc cmp z root))) H1 → va_S (fA g) s.heap H1 locs1 → W p l e R s m args below meth c H1 locs1 cells slots Q (F0 m (pc + 3) ls rest)) : W p l e R s m args below meth c H locs cells slots Q (F0 m pc ls (.long z :: .ref h :: rest)) :=
  fw_put C in_X1 tyX1 tyX1_ok nmX1 hP hS hA ((mkw_o hh).trans hw) rfl 1 (by decide) q57 rfl rfl rfl rfl (Nat.le_of_ble_eq_true rfl) hdg (fun H1 locs1 h1 h2 => kk H1 locs1 (by rw [← mkw_w hh]; exact h1) h2)
end NODES
/-! a heap of k nodes: at_ i is the node at position i (1 .. k) -/
def fOc (k : Nat) (at_ : Nat → Nat) (i : Nat) : Option Nat := if 2 * i ≤ k then some (at_ (2 * i)) else none
def fYs (k : Nat) (at_ : Nat → Nat) (i : Nat) : Option Nat := if i ≤ 1 then none else if i % 2 = 0 ∧ i + 1 ≤ k then some (at_ (i + 1)) else some (at_ (i / 2))
/-- positions hold nodes, each once -/
def fInj (ns : List Nat) (k : Nat) (at_ : Nat → Nat) : Prop := (∀ i, 1 ≤ i → i ≤ k → at_ i ∈ ns) ∧ ∀ i j, 1 ≤ i → i ≤ k → 1 ≤ j → j ≤ k → at_ i = at_ j → i = j
def fRep (k : Nat) (at_ : Nat → Nat) (oc ys : Nat → Option Nat) : Prop := ∀ i, 1 ≤ i → i ≤ k → oc (at_ i) = fOc k at_ i ∧ ys (at_ i) = fYs k at_ i
def fPar (at_ : Nat → Nat) (j : Nat) : Option Nat := if j ≤ 1 then none else some (at_ (j / 2))
set_option maxHeartbeats 4000000 in
/-- getParent of the node at position j -/
theorem m_getParent (l : Launch) (g : fG) (ns : List Nat) (kf vf : Nat → Nat) (oc ys : Nat → Option Nat) (ow : Nat → Nat) (w0 : fW) (h k : Nat) (at_ : Nat → Nat) (j : Nat) (hI : fInj ns k at_) (hR : fRep k at_ oc ys) (h1 : 1 ≤ j) (hk : j ≤ k) :
    fMet l g yX1_getParent cX1_getParent 4 (some (.object "BinaryTreeAddressableHeap$Node")) 1 0 0 0 [.ref h, .ref (at_ j)] (mkw ns kf vf oc ys ow w0) (fun r w1 => r = some (va_rf (fPar at_ j)) ∧ w1 = mkw ns kf vf oc ys ow w0) := by
  refine fw_of (by decide) (Nat.le_of_ble_eq_true rfl) ?_
  intro p e s m below meth c ls C hnm hP hl
  have hS : va_S (fA g) s.heap s.heap [] := va_S.rf
  have hn := hI.1 j h1 hk
  have hys := (hR j h1 hk).2
  refine lv_aload_n C.1 C.2.1 dX1_getParent_0 rfl (lv_at hl 1 rfl) ?_
  by_cases hj1 : j ≤ 1
  · rw [fYs, if_pos hj1] at hys
    refine nx_ys (v := .null) C hP hn (by rw [hys]; rfl) dX1_getParent_1 ?_
    refine lv_ifnonnullN C.1 C.2.1 dX1_getParent_4 ?_
    refine lv_null C.1 C.2.1 dX1_getParent_7 ?_
    refine fw_aret (r := none) C (Or.inl ⟨_, rfl⟩) ⟨?_, rfl⟩ hP hS ⟨Nat.le_of_ble_eq_true rfl, Nat.le_of_ble_eq_true rfl⟩ dX1_getParent_8
    rw [fPar, if_pos hj1]
  rw [fYs, if_neg hj1] at hys
  have hpar : fPar at_ j = some (at_ (j / 2)) := if_neg hj1
  have hpn := hI.1 (j / 2) (by omega) (by omega)
  have hpoc : oc (at_ (j / 2)) = some (at_ (2 * (j / 2))) := by rw [(hR (j / 2) (by omega) (by omega)).1, fOc, if_pos (by omega)]
  by_cases hsib : j % 2 = 0 ∧ j + 1 ≤ k
  · rw [if_pos hsib] at hys
    have hcn := hI.1 (j + 1) (by omega) (by omega)
    refine nx_ys (v := .ref (at_ (j + 1))) C hP hn (by rw [hys]; rfl) dX1_getParent_1 ?_
    refine lv_ifnonnull (tgt := 9) C.1 C.2.1 dX1_getParent_4 (by decide) ?_
    refine lv_aload_n C.1 C.2.1 dX1_getParent_9 rfl (lv_at hl 1 rfl) ?_
    refine nx_ys (v := .ref (at_ (j + 1))) C hP hn (by rw [hys]; rfl) dX1_getParent_10 ?_
    refine lv_astore_n (lv' := [(2, .ref (at_ (j + 1))), (0, .ref h), (1, .ref (at_ j))]) C.1 C.2.1 dX1_getParent_13 rfl hl (by decide) rfl (fun ls hl => ?_)
    refine lv_aload_n C.1 C.2.1 dX1_getParent_14 rfl (lv_at hl 0 rfl) ?_
    refine nx_oc C hP hcn rfl dX1_getParent_15 ?_
    refine lv_aload_n C.1 C.2.1 dX1_getParent_18 rfl (lv_at hl 2 rfl) ?_
    refine lv_acmp_ne (rx := oc (at_ (j + 1))) (ry := some (at_ j)) (tgt := 24) C.1 C.2.1 dX1_getParent_19 (by decide) (fun c1 => ?_) (fun c1 => ?_)
    · refine lv_aload_n C.1 C.2.1 dX1_getParent_24 rfl (lv_at hl 0 rfl) ?_
      have hys2 : ys (at_ (j + 1)) = some (at_ (j / 2)) := by
        rw [(hR (j + 1) (by omega) (by omega)).2, fYs, if_neg (by omega), if_neg (by omega), show (j + 1) / 2 = j / 2 by omega]
      refine nx_ys (v := .ref (at_ (j / 2))) C hP hcn (by rw [hys2]; rfl) dX1_getParent_25 ?_
      refine lv_astore_n (lv' := [(3, .ref (at_ (j / 2))), (2, .ref (at_ (j + 1))), (0, .ref h), (1, .ref (at_ j))]) C.1 C.2.1 dX1_getParent_28 rfl hl (by decide) rfl (fun ls hl => ?_)
      refine lv_aload_n C.1 C.2.1 dX1_getParent_29 rfl (lv_at hl 0 rfl) ?_
      refine lv_ifnull C.1 C.2.1 dX1_getParent_30 ?_
      refine lv_aload_n C.1 C.2.1 dX1_getParent_33 rfl (lv_at hl 0 rfl) ?_
      refine nx_oc C hP hpn rfl dX1_getParent_34 ?_
      refine lv_aload_n C.1 C.2.1 dX1_getParent_37 rfl (lv_at hl 3 rfl) ?_
      refine lv_acmp_ne (rx := oc (at_ (j / 2))) (ry := some (at_ j)) (tgt := 43) C.1 C.2.1 dX1_getParent_38 (by decide) (fun c2 => ?_) (fun c2 => ?_)
      · exact absurd (by rw [hpoc, show 2 * (j / 2) = j by omega]) c2
      · refine lv_aload_n C.1 C.2.1 dX1_getParent_41 rfl (lv_at hl 0 rfl) ?_
        exact fw_aret (r := some (at_ (j / 2))) C (Or.inl ⟨_, rfl⟩) ⟨by rw [hpar], rfl⟩ hP hS ⟨Nat.le_of_ble_eq_true rfl, Nat.le_of_ble_eq_true rfl⟩ dX1_getParent_42
    · exfalso
      have hc : oc (at_ (j + 1)) = some (at_ j) := by
        first | exact c1 | exact Classical.not_not.mp c1
      rw [(hR (j + 1) (by omega) (by omega)).1, fOc] at hc
      split at hc
      · have := hI.2 _ _ (by omega) (by omega) h1 hk (Option.some.inj hc)
        omega
      · cases hc
  · rw [if_neg hsib] at hys
    refine nx_ys (v := .ref (at_ (j / 2))) C hP hn (by rw [hys]; rfl) dX1_getParent_1 ?_
    refine lv_ifnonnull (tgt := 9) C.1 C.2.1 dX1_getParent_4 (by decide) ?_
    refine lv_aload_n C.1 C.2.1 dX1_getParent_9 rfl (lv_at hl 1 rfl) ?_
    refine nx_ys (v := .ref (at_ (j / 2))) C hP hn (by rw [hys]; rfl) dX1_getParent_10 ?_
    refine lv_astore_n (lv' := [(2, .ref (at_ (j / 2))), (0, .ref h), (1, .ref (at_ j))]) C.1 C.2.1 dX1_getParent_13 rfl hl (by decide) rfl (fun ls hl => ?_)
    refine lv_aload_n C.1 C.2.1 dX1_getParent_14 rfl (lv_at hl 0 rfl) ?_
    refine nx_oc C hP hpn rfl dX1_getParent_15 ?_
    refine lv_aload_n C.1 C.2.1 dX1_getParent_18 rfl (lv_at hl 2 rfl) ?_
    refine lv_acmp_ne (rx := oc (at_ (j / 2))) (ry := some (at_ j)) (tgt := 24) C.1 C.2.1 dX1_getParent_19 (by decide) (fun c1 => ?_) (fun c1 => ?_)
    · have hodd : j % 2 = 1 := by
        rcases Nat.mod_two_eq_zero_or_one j with z | z
        · exact absurd (by rw [hpoc, show 2 * (j / 2) = j by omega]) c1
        · exact z
      refine lv_aload_n C.1 C.2.1 dX1_getParent_24 rfl (lv_at hl 0 rfl) ?_
      refine nx_ys C hP hpn rfl dX1_getParent_25 ?_
      refine fv_astore_n (lv' := [(3, va_rf (ys (at_ (j / 2)))), (2, .ref (at_ (j / 2))), (0, .ref h), (1, .ref (at_ j))]) C dX1_getParent_28 rfl hl (by decide) rfl (fun ls hl => ?_)
      refine fv_aload_n C dX1_getParent_29 rfl (lv_at hl 0 rfl) ?_
      have hpys := (hR (j / 2) (by omega) (by omega)).2
      have fin : W p l e (fRm 1 0 0 0) s m ([.ref h, .ref (at_ j)] : List Value).toArray below meth c s.heap [] 0 0 (MQ below (fQ g (fun r w1 => r = some (va_rf (fPar at_ j)) ∧ w1 = mkw ns kf vf oc ys ow w0)) ([.ref h, .ref (at_ j)] : List Value).toArray s 0 0 (fA g)) (F0 m 43 ls []) := by
        refine lv_aload_n C.1 C.2.1 dX1_getParent_43 rfl (lv_at hl 1 rfl) ?_
        exact fw_aret (r := some (at_ (j / 2))) C (Or.inl ⟨_, rfl⟩) ⟨by rw [hpar], rfl⟩ hP hS ⟨Nat.le_of_ble_eq_true rfl, Nat.le_of_ble_eq_true rfl⟩ dX1_getParent_44
      have hx : ∀ x, 1 ≤ x → x ≤ k → ys (at_ (j / 2)) = some (at_ x) → W p l e (fRm 1 0 0 0) s m ([.ref h, .ref (at_ j)] : List Value).toArray below meth c s.heap [] 0 0 (MQ below (fQ g (fun r w1 => r = some (va_rf (fPar at_ j)) ∧ w1 = mkw ns kf vf oc ys ow w0)) ([.ref h, .ref (at_ j)] : List Value).toArray s 0 0 (fA g)) (F0 m 30 ls [va_rf (ys (at_ (j / 2)))]) := by
        intro x hx1 hx2 hx3
        have hl : lv_has ls 4 [(3, va_rf (ys (at_ (j / 2)))), (2, .ref (at_ (j / 2))), (0, .ref h), (1, .ref (at_ j))] := hl
        rw [hx3] at hl ⊢
        refine lv_ifnull C.1 C.2.1 dX1_getParent_30 ?_
        refine lv_aload_n C.1 C.2.1 dX1_getParent_33 rfl (lv_at hl 0 rfl) ?_
        refine nx_oc C hP (hI.1 x hx1 hx2) rfl dX1_getParent_34 ?_
        refine lv_aload_n C.1 C.2.1 dX1_getParent_37 rfl (lv_at hl 3 rfl) ?_
        refine lv_acmp_ne (rx := oc (at_ x)) (ry := some (at_ j)) (tgt := 43) C.1 C.2.1 dX1_getParent_38 (by decide) (fun c2 => fin) (fun c2 => ?_)
        exfalso
        have hc : oc (at_ x) = some (at_ j) := by
          first | exact c2 | exact Classical.not_not.mp c2
        rw [(hR x hx1 hx2).1, fOc] at hc
        split at hc
        · have := hI.2 _ _ (by omega) (by omega) h1 hk (Option.some.inj hc)
          omega
        · cases hc
      rw [fYs] at hpys
      split at hpys
      · have hl' : lv_has ls 4 [(3, va_rf (ys (at_ (j / 2)))), (2, .ref (at_ (j / 2))), (0, .ref h), (1, .ref (at_ j))] := hl
        rw [hpys]
        exact lv_ifnullN (tgt := 43) C.1 C.2.1 dX1_getParent_30 (by decide) fin
      · split at hpys
        · exact hx _ (by omega) (by omega) hpys
        · exact hx _ (by omega) (by omega) hpys
    · refine lv_aload_n C.1 C.2.1 dX1_getParent_22 rfl (lv_at hl 0 rfl) ?_
      exact fw_aret (r := some (at_ (j / 2))) C (Or.inl ⟨_, rfl⟩) ⟨by rw [hpar], rfl⟩ hP hS ⟨Nat.le_of_ble_eq_true rfl, Nat.le_of_ble_eq_true rfl⟩ dX1_getParent_23
end
section
/-! swap, the plain law: two positions change places -/
set_option maxRecDepth 100000
def fSg (i j x : Nat) : Nat := if x = j then i else if x = i then j else x
def fSw (at_ : Nat → Nat) (i j : Nat) : Nat → Nat := fun x => at_ (fSg i j x)
/-- behind swap's first half: all but the old children of j and the o_c of j -/
def sMid (k : Nat) (at_ : Nat → Nat) (i j : Nat) (oc ys : Nat → Option Nat) : Prop :=
  (∀ x, 1 ≤ x → x ≤ k → x ≠ j → oc (at_ (fSg i j x)) = fOc k (fSw at_ i j) x) ∧ (∀ x, 1 ≤ x → x ≤ k → ¬ (x = 2 * j ∨ x = 2 * j + 1) → ys (at_ (fSg i j x)) = fYs k (fSw at_ i j) x) ∧ (∀ x, 1 ≤ x → x ≤ k → (x = 2 * j ∨ x = 2 * j + 1) → ys (at_ x) = fYs k at_ x)
theorem up_at {k : Nat} {at_ : Nat → Nat} (hI : ∀ i j, 1 ≤ i → i ≤ k → 1 ≤ j → j ≤ k → at_ i = at_ j → i = j) {f : Nat → Option Nat} {v : Option Nat} {x y : Nat} (hy1 : 1 ≤ y) (hy2 : y ≤ k) (hx1 : 1 ≤ x) (hx2 : x ≤ k) : va_up f (at_ y) v (at_ x) = if x = y then v else f (at_ x) := by
  by_cases h : x = y
  · subst h
    rw [va_up_s, if_pos rfl]
  · rw [va_up_n (fun e => h (hI x y hx1 hx2 hy1 hy2 e)), if_neg h]
theorem fSg_r {i j x k : Nat} (hi : 1 ≤ i) (hij : i ≤ j) (hj : j ≤ k) (h1 : 1 ≤ x) (h2 : x ≤ k) : 1 ≤ fSg i j x ∧ fSg i j x ≤ k := by
  unfold fSg
  split
  · omega
  · split <;> omega
section SWP
variable {ns : List Nat} {k : Nat} {at_ : Nat → Nat} {oc ys : Nat → Option Nat} {i j q : Nat}
/-- p left, n an only child -/
theorem sm_1 (hI : fInj ns k at_) (hR : fRep k at_ oc ys) (hi : i = 2 * q) (hj : j = 2 * i) (hk : j = k) (hq : 1 ≤ q) :
    sMid k at_ i j (va_up (va_up oc (at_ q) (some (at_ j))) (at_ j) (some (at_ i))) (va_up (va_up ys (at_ j) (ys (at_ i))) (at_ i) (some (at_ j))) := by
  have hIn := hI.2
  refine ⟨fun x h1 h2 hne => ?_, fun x h1 h2 hne => ?_, fun x h1 h2 he => ?_⟩
  · have hs := fSg_r (i := i) (j := j) (k := k) (by omega) (by omega) (by omega) h1 h2
    rw [up_at hIn (by omega) (by omega) hs.1 hs.2, up_at hIn (by omega) (by omega) hs.1 hs.2, (hR _ hs.1 hs.2).1]
    simp only [fOc, fSw, fSg]
    grind
  · have hs := fSg_r (i := i) (j := j) (k := k) (by omega) (by omega) (by omega) h1 h2
    rw [up_at hIn (by omega) (by omega) hs.1 hs.2, up_at hIn (by omega) (by omega) hs.1 hs.2, (hR _ hs.1 hs.2).2, (hR i (by omega) (by omega)).2]
    simp only [fYs, fSw, fSg]
    grind
  · omega
theorem sm_2 (hI : fInj ns k at_) (hR : fRep k at_ oc ys) (hi : i = 2 * q) (hj : j = 2 * i) (hk : j + 1 ≤ k) (hq : 1 ≤ q) :
    sMid k at_ i j (va_up (va_up oc (at_ q) (some (at_ j))) (at_ j) (some (at_ i))) (va_up (va_up (va_up ys (at_ (j + 1)) (some (at_ j))) (at_ j) (ys (at_ i))) (at_ i) (some (at_ (j + 1)))) := by
  have hIn := hI.2
  refine ⟨fun x h1 h2 hne => ?_, fun x h1 h2 hne => ?_, fun x h1 h2 he => ?_⟩
  · have hs := fSg_r (i := i) (j := j) (k := k) (by omega) (by omega) (by omega) h1 h2
    rw [up_at hIn (by omega) (by omega) hs.1 hs.2, up_at hIn (by omega) (by omega) hs.1 hs.2, (hR _ hs.1 hs.2).1]
    clear hIn hR hI hs
    simp only [fOc, fSw, fSg]
    grind (splits := 40)
  · have hs := fSg_r (i := i) (j := j) (k := k) (by omega) (by omega) (by omega) h1 h2
    rw [up_at hIn (by omega) (by omega) hs.1 hs.2, up_at hIn (by omega) (by omega) hs.1 hs.2, up_at hIn (by omega) (by omega) hs.1 hs.2, (hR _ hs.1 hs.2).2, (hR i (by omega) (by omega)).2]
    clear hIn hR hI hs
    simp only [fYs, fSw, fSg]
    grind (splits := 40)
  · rw [up_at hIn (by omega) (by omega) h1 h2, up_at hIn (by omega) (by omega) h1 h2, up_at hIn (by omega) (by omega) h1 h2, (hR _ h1 h2).2]
    simp only [fYs]
    grind
theorem sm_3 (hI : fInj ns k at_) (hR : fRep k at_ oc ys) (hi : i = 2 * q) (hj : j = 2 * i + 1) (hk : j ≤ k) (hq : 1 ≤ q) :
    sMid k at_ i j (va_up (va_up oc (at_ q) (some (at_ j))) (at_ j) (some (at_ (2 * i)))) (va_up (va_up (va_up ys (at_ j) (ys (at_ i))) (at_ (2 * i)) (some (at_ i))) (at_ i) (some (at_ j))) := by
  have hIn := hI.2
  refine ⟨fun x h1 h2 hne => ?_, fun x h1 h2 hne => ?_, fun x h1 h2 he => ?_⟩
  · have hs := fSg_r (i := i) (j := j) (k := k) (by omega) (by omega) (by omega) h1 h2
    rw [up_at hIn (by omega) (by omega) hs.1 hs.2, up_at hIn (by omega) (by omega) hs.1 hs.2, (hR _ hs.1 hs.2).1]
    clear hIn hR hI hs
    simp only [fOc, fSw, fSg]
    grind (splits := 40)
  · have hs := fSg_r (i := i) (j := j) (k := k) (by omega) (by omega) (by omega) h1 h2
    rw [up_at hIn (by omega) (by omega) hs.1 hs.2, up_at hIn (by omega) (by omega) hs.1 hs.2, up_at hIn (by omega) (by omega) hs.1 hs.2, (hR _ hs.1 hs.2).2, (hR i (by omega) (by omega)).2]
    clear hIn hR hI hs
    simp only [fYs, fSw, fSg]
    grind (splits := 40)
  · rw [up_at hIn (by omega) (by omega) h1 h2, up_at hIn (by omega) (by omega) h1 h2, up_at hIn (by omega) (by omega) h1 h2, (hR _ h1 h2).2]
    simp only [fYs]
    grind
theorem sm_4 (hI : fInj ns k at_) (hR : fRep k at_ oc ys) (hi : i = 2 * q + 1) (hj : j = 2 * i) (hk : j = k) (hq : 1 ≤ q) :
    sMid k at_ i j (va_up oc (at_ j) (some (at_ i))) (va_up (va_up (va_up ys (at_ j) (some (at_ q))) (at_ (2 * q)) (some (at_ j))) (at_ i) (some (at_ j))) := by
  have hIn := hI.2
  refine ⟨fun x h1 h2 hne => ?_, fun x h1 h2 hne => ?_, fun x h1 h2 he => ?_⟩
  · have hs := fSg_r (i := i) (j := j) (k := k) (by omega) (by omega) (by omega) h1 h2
    rw [up_at hIn (by omega) (by omega) hs.1 hs.2, (hR _ hs.1 hs.2).1]
    clear hIn hR hI hs
    simp only [fOc, fSw, fSg]
    grind (splits := 40)
  · have hs := fSg_r (i := i) (j := j) (k := k) (by omega) (by omega) (by omega) h1 h2
    rw [up_at hIn (by omega) (by omega) hs.1 hs.2, up_at hIn (by omega) (by omega) hs.1 hs.2, up_at hIn (by omega) (by omega) hs.1 hs.2, (hR _ hs.1 hs.2).2]
    clear hIn hR hI hs
    simp only [fYs, fSw, fSg]
    grind (splits := 40)
  · rw [up_at hIn (by omega) (by omega) h1 h2, up_at hIn (by omega) (by omega) h1 h2, up_at hIn (by omega) (by omega) h1 h2, (hR _ h1 h2).2]
    simp only [fYs]
    grind
theorem sm_5 (hI : fInj ns k at_) (hR : fRep k at_ oc ys) (hi : i = 2 * q + 1) (hj : j = 2 * i) (hk : j + 1 ≤ k) (hq : 1 ≤ q) :
    sMid k at_ i j (va_up oc (at_ j) (some (at_ i))) (va_up (va_up (va_up (va_up ys (at_ (2 * q)) (some (at_ j))) (at_ i) (some (at_ (j + 1)))) (at_ j) (some (at_ q))) (at_ (j + 1)) (some (at_ j))) := by
  have hIn := hI.2
  refine ⟨fun x h1 h2 hne => ?_, fun x h1 h2 hne => ?_, fun x h1 h2 he => ?_⟩
  · have hs := fSg_r (i := i) (j := j) (k := k) (by omega) (by omega) (by omega) h1 h2
    rw [up_at hIn (by omega) (by omega) hs.1 hs.2, (hR _ hs.1 hs.2).1]
    clear hIn hR hI hs
    simp only [fOc, fSw, fSg]
    grind (splits := 40)
  · have hs := fSg_r (i := i) (j := j) (k := k) (by omega) (by omega) (by omega) h1 h2
    rw [up_at hIn (by omega) (by omega) hs.1 hs.2, up_at hIn (by omega) (by omega) hs.1 hs.2, up_at hIn (by omega) (by omega) hs.1 hs.2, up_at hIn (by omega) (by omega) hs.1 hs.2, (hR _ hs.1 hs.2).2]
    clear hIn hR hI hs
    simp only [fYs, fSw, fSg]
    grind (splits := 40)
  · rw [up_at hIn (by omega) (by omega) h1 h2, up_at hIn (by omega) (by omega) h1 h2, up_at hIn (by omega) (by omega) h1 h2, up_at hIn (by omega) (by omega) h1 h2, (hR _ h1 h2).2]
    simp only [fYs]
    grind
theorem sm_6 (hI : fInj ns k at_) (hR : fRep k at_ oc ys) (hi : i = 2 * q + 1) (hj : j = 2 * i + 1) (hk : j ≤ k) (hq : 1 ≤ q) :
    sMid k at_ i j (va_up oc (at_ j) (some (at_ (2 * i)))) (va_up (va_up (va_up (va_up ys (at_ (2 * q)) (some (at_ j))) (at_ j) (some (at_ q))) (at_ (2 * i)) (some (at_ i))) (at_ i) (some (at_ j))) := by
  have hIn := hI.2
  refine ⟨fun x h1 h2 hne => ?_, fun x h1 h2 hne => ?_, fun x h1 h2 he => ?_⟩
  · have hs := fSg_r (i := i) (j := j) (k := k) (by omega) (by omega) (by omega) h1 h2
    rw [up_at hIn (by omega) (by omega) hs.1 hs.2, (hR _ hs.1 hs.2).1]
    clear hIn hR hI hs
    simp only [fOc, fSw, fSg]
    grind (splits := 40)
  · have hs := fSg_r (i := i) (j := j) (k := k) (by omega) (by omega) (by omega) h1 h2
    rw [up_at hIn (by omega) (by omega) hs.1 hs.2, up_at hIn (by omega) (by omega) hs.1 hs.2, up_at hIn (by omega) (by omega) hs.1 hs.2, up_at hIn (by omega) (by omega) hs.1 hs.2, (hR _ hs.1 hs.2).2]
    clear hIn hR hI hs
    simp only [fYs, fSw, fSg]
    grind (splits := 40)
  · rw [up_at hIn (by omega) (by omega) h1 h2, up_at hIn (by omega) (by omega) h1 h2, up_at hIn (by omega) (by omega) h1 h2, up_at hIn (by omega) (by omega) h1 h2, (hR _ h1 h2).2]
    simp only [fYs]
    grind
theorem sm_7 (hI : fInj ns k at_) (hR : fRep k at_ oc ys) (hi : i = 1) (hj : j = 2) (hk : k = 2) :
    sMid k at_ i j (va_up oc (at_ j) (some (at_ i))) (va_up (va_up ys (at_ i) (some (at_ j))) (at_ j) none) := by
  have hIn := hI.2
  refine ⟨fun x h1 h2 hne => ?_, fun x h1 h2 hne => ?_, fun x h1 h2 he => ?_⟩
  · have hs := fSg_r (i := i) (j := j) (k := k) (by omega) (by omega) (by omega) h1 h2
    rw [up_at hIn (by omega) (by omega) hs.1 hs.2, (hR _ hs.1 hs.2).1]
    clear hIn hR hI hs
    simp only [fOc, fSw, fSg]
    grind (splits := 40)
  · have hs := fSg_r (i := i) (j := j) (k := k) (by omega) (by omega) (by omega) h1 h2
    rw [up_at hIn (by omega) (by omega) hs.1 hs.2, up_at hIn (by omega) (by omega) hs.1 hs.2, (hR _ hs.1 hs.2).2]
    clear hIn hR hI hs
    simp only [fYs, fSw, fSg]
    grind (splits := 40)
  · rw [up_at hIn (by omega) (by omega) h1 h2, up_at hIn (by omega) (by omega) h1 h2, (hR _ h1 h2).2]
    simp only [fYs]
    grind
theorem sm_8 (hI : fInj ns k at_) (hR : fRep k at_ oc ys) (hi : i = 1) (hj : j = 2) (hk : 3 ≤ k) :
    sMid k at_ i j (va_up oc (at_ j) (some (at_ i))) (va_up (va_up (va_up ys (at_ i) (some (at_ 3))) (at_ 3) (some (at_ j))) (at_ j) none) := by
  have hIn := hI.2
  refine ⟨fun x h1 h2 hne => ?_, fun x h1 h2 hne => ?_, fun x h1 h2 he => ?_⟩
  · have hs := fSg_r (i := i) (j := j) (k := k) (by omega) (by omega) (by omega) h1 h2
    rw [up_at hIn (by omega) (by omega) hs.1 hs.2, (hR _ hs.1 hs.2).1]
    clear hIn hR hI hs
    simp only [fOc, fSw, fSg]
    grind (splits := 40)
  · have hs := fSg_r (i := i) (j := j) (k := k) (by omega) (by omega) (by omega) h1 h2
    rw [up_at hIn (by omega) (by omega) hs.1 hs.2, up_at hIn (by omega) (by omega) hs.1 hs.2, up_at hIn (by omega) (by omega) hs.1 hs.2, (hR _ hs.1 hs.2).2]
    clear hIn hR hI hs
    simp only [fYs, fSw, fSg]
    grind (splits := 40)
  · rw [up_at hIn (by omega) (by omega) h1 h2, up_at hIn (by omega) (by omega) h1 h2, up_at hIn (by omega) (by omega) h1 h2, (hR _ h1 h2).2]
    simp only [fYs]
    grind
theorem sm_9 (hI : fInj ns k at_) (hR : fRep k at_ oc ys) (hi : i = 1) (hj : j = 3) (hk : 3 ≤ k) :
    sMid k at_ i j (va_up oc (at_ j) (some (at_ 2))) (va_up (va_up (va_up ys (at_ 2) (some (at_ i))) (at_ i) (some (at_ j))) (at_ j) none) := by
  have hIn := hI.2
  refine ⟨fun x h1 h2 hne => ?_, fun x h1 h2 hne => ?_, fun x h1 h2 he => ?_⟩
  · have hs := fSg_r (i := i) (j := j) (k := k) (by omega) (by omega) (by omega) h1 h2
    rw [up_at hIn (by omega) (by omega) hs.1 hs.2, (hR _ hs.1 hs.2).1]
    clear hIn hR hI hs
    simp only [fOc, fSw, fSg]
    grind (splits := 40)
  · have hs := fSg_r (i := i) (j := j) (k := k) (by omega) (by omega) (by omega) h1 h2
    rw [up_at hIn (by omega) (by omega) hs.1 hs.2, up_at hIn (by omega) (by omega) hs.1 hs.2, up_at hIn (by omega) (by omega) hs.1 hs.2, (hR _ hs.1 hs.2).2]
    clear hIn hR hI hs
    simp only [fYs, fSw, fSg]
    grind (splits := 40)
  · rw [up_at hIn (by omega) (by omega) h1 h2, up_at hIn (by omega) (by omega) h1 h2, up_at hIn (by omega) (by omega) h1 h2, (hR _ h1 h2).2]
    simp only [fYs]
    grind
theorem sf_0 (hI : fInj ns k at_) (hM : sMid k at_ i j oc ys) (hi : 1 ≤ i) (hij : i < j) (hj : j ≤ k) (hk : k < 2 * j) :
    fRep k (fSw at_ i j) (va_up oc (at_ i) none) ys := by
  have hIn := hI.2
  intro x h1 h2
  have hs := fSg_r (i := i) (j := j) (k := k) (by omega) (by omega) (by omega) h1 h2
  refine ⟨?_, ?_⟩
  · show va_up oc (at_ i) none (at_ (fSg i j x)) = _
    rw [up_at hIn (by omega) (by omega) hs.1 hs.2]
    by_cases hx : x = j
    · subst hx
      simp only [fOc, fSw, fSg]
      grind
    · rw [hM.1 x h1 h2 hx]
      simp only [fOc, fSw, fSg]
      grind
  · show ys (at_ (fSg i j x)) = _
    by_cases hx : x = 2 * j ∨ x = 2 * j + 1
    · have e : fSg i j x = x := by unfold fSg; rw [if_neg (by omega), if_neg (by omega)]
      rw [e, hM.2.2 x h1 h2 hx]
      simp only [fYs, fSw, fSg]
      grind
    · rw [hM.2.1 x h1 h2 hx]
theorem sf_1 (hI : fInj ns k at_) (hM : sMid k at_ i j oc ys) (hi : 1 ≤ i) (hij : i < j) (hj : j ≤ k) (hk : 2 * j = k) :
    fRep k (fSw at_ i j) (va_up oc (at_ i) (some (at_ (2 * j)))) (va_up ys (at_ (2 * j)) (some (at_ i))) := by
  have hIn := hI.2
  intro x h1 h2
  have hs := fSg_r (i := i) (j := j) (k := k) (by omega) (by omega) (by omega) h1 h2
  refine ⟨?_, ?_⟩
  · show va_up oc (at_ i) (some (at_ (2 * j))) (at_ (fSg i j x)) = _
    rw [up_at hIn (by omega) (by omega) hs.1 hs.2]
    by_cases hx : x = j
    · subst hx
      simp only [fOc, fSw, fSg]
      grind
    · rw [hM.1 x h1 h2 hx]
      simp only [fOc, fSw, fSg]
      grind
  · show (va_up ys (at_ (2 * j)) (some (at_ i))) (at_ (fSg i j x)) = _
    rw [up_at hIn (by omega) (by omega) hs.1 hs.2]
    by_cases hx : x = 2 * j ∨ x = 2 * j + 1
    · have e : fSg i j x = x := by unfold fSg; rw [if_neg (by omega), if_neg (by omega)]
      rw [e, hM.2.2 x h1 h2 hx]
      simp only [fYs, fSw, fSg]
      grind
    · rw [hM.2.1 x h1 h2 hx]
      rw [if_neg (by unfold fSg; grind)]
theorem sf_2 (hI : fInj ns k at_) (hM : sMid k at_ i j oc ys) (hi : 1 ≤ i) (hij : i < j) (hj : j ≤ k) (hk : 2 * j + 1 ≤ k) :
    fRep k (fSw at_ i j) (va_up oc (at_ i) (some (at_ (2 * j)))) (va_up ys (at_ (2 * j + 1)) (some (at_ i))) := by
  have hIn := hI.2
  intro x h1 h2
  have hs := fSg_r (i := i) (j := j) (k := k) (by omega) (by omega) (by omega) h1 h2
  refine ⟨?_, ?_⟩
  · show va_up oc (at_ i) (some (at_ (2 * j))) (at_ (fSg i j x)) = _
    rw [up_at hIn (by omega) (by omega) hs.1 hs.2]
    by_cases hx : x = j
    · subst hx
      simp only [fOc, fSw, fSg]
      grind
    · rw [hM.1 x h1 h2 hx]
      simp only [fOc, fSw, fSg]
      grind
  · show (va_up ys (at_ (2 * j + 1)) (some (at_ i))) (at_ (fSg i j x)) = _
    rw [up_at hIn (by omega) (by omega) hs.1 hs.2]
    by_cases hx : x = 2 * j ∨ x = 2 * j + 1
    · have e : fSg i j x = x := by unfold fSg; rw [if_neg (by omega), if_neg (by omega)]
      rw [e, hM.2.2 x h1 h2 hx]
      simp only [fYs, fSw, fSg]
      grind
    · rw [hM.2.1 x h1 h2 hx]
      rw [if_neg (by unfold fSg; grind)]
end SWP
theorem fSw_inj {ns : List Nat} {k : Nat} {at_ : Nat → Nat} {i j : Nat} (hI : fInj ns k at_) (hi : 1 ≤ i) (hij : i < j) (hj : j ≤ k) : fInj ns k (fSw at_ i j) := by
  refine ⟨fun x h1 h2 => ?_, fun x y h1 h2 h3 h4 he => ?_⟩
  · have hs := fSg_r (i := i) (j := j) (k := k) (by omega) (by omega) (by omega) h1 h2
    exact hI.1 _ hs.1 hs.2
  · have hs := fSg_r (i := i) (j := j) (k := k) (by omega) (by omega) (by omega) h1 h2
    have ht := fSg_r (i := i) (j := j) (k := k) (by omega) (by omega) (by omega) h3 h4
    have := hI.2 _ _ hs.1 hs.2 ht.1 ht.2 he
    unfold fSg at this
    grind
/-- f' is f but at the heap's nodes -/
def fOut (k : Nat) (at_ : Nat → Nat) (f f' : Nat → Option Nat) : Prop := ∀ a, (∀ x, 1 ≤ x → x ≤ k → at_ x ≠ a) → f' a = f a
theorem fOut.rf {k : Nat} {at_ : Nat → Nat} {f : Nat → Option Nat} : fOut k at_ f f := fun _ _ => rfl
theorem fOut.up {k : Nat} {at_ : Nat → Nat} {f f' : Nat → Option Nat} {y : Nat} {v : Option Nat} (h : fOut k at_ f f') (h1 : 1 ≤ y) (h2 : y ≤ k) : fOut k at_ f (va_up f' (at_ y) v) := by
  intro a ha
  rw [va_up_n (fun e => ha y h1 h2 e.symm)]
  exact h a ha
theorem fOut.sw {k : Nat} {at_ : Nat → Nat} {f f' f2 : Nat → Option Nat} {i j : Nat} (hi : 1 ≤ i) (hij : i < j) (hj : j ≤ k) (h : fOut k at_ f f') (h2 : fOut k (fSw at_ i j) f' f2) : fOut k at_ f f2 := by
  intro a ha
  rw [h2 a (fun x h1 h2 => ?_), h a ha]
  have hs := fSg_r (i := i) (j := j) (k := k) (by omega) (by omega) (by omega) h1 h2
  exact ha _ hs.1 hs.2
theorem fset_id {w : fW} {a : Nat} {e : va_E} (h : w a = some e) : fset w a e = w := by
  funext x
  by_cases hx : x = a
  · subst hx; rw [fset_s, h]
  · rw [fset_n hx]
end
section
/-! swap: the walks -/
set_option maxRecDepth 100000
def swQ (ns : List Nat) (kf vf : Nat → Nat) (oc ys : Nat → Option Nat) (ow : Nat → Nat) (w0 : fW) (h : Nat) (cmp : Option Nat) (sz : Int64) (k : Nat) (at_ : Nat → Nat) (i j : Nat) : Option Value → fW → Prop := fun v w1 => v = none ∧ ∃ oc' ys' : Nat → Option Nat, w1 = mkw ns kf vf oc' ys' ow (fset w0 h (hpc cmp sz (some (fSw at_ i j 1)))) ∧ fRep k (fSw at_ i j) oc' ys' ∧ fOut k at_ oc oc' ∧ fOut k at_ ys ys'
set_option maxHeartbeats 4000000 in
/-- swap(n, root) -/
theorem m_swap2 (l : Launch) (g : fG) (ns : List Nat) (kf vf : Nat → Nat) (oc ys : Nat → Option Nat) (ow : Nat → Nat) (w0 : fW) (h : Nat) (cmp : Option Nat) (sz : Int64) (k : Nat) (at_ : Nat → Nat) (j : Nat) (hA : ∀ a ∈ ns, g.2.1 ≤ a) (hhA : g.2.1 ≤ h) (hh : h ∉ ns) (hw : w0 h = some (hpc cmp sz (some (at_ 1)))) (hI : fInj ns k at_) (hR : fRep k at_ oc ys) (hj : j = 2 ∨ j = 3) (hk : j ≤ k) :
    fMet l g yX1_swap_2 cX1_swap_2 4 none 1 0 0 0 [.ref h, .ref (at_ j), .ref (at_ 1)] (mkw ns kf vf oc ys ow w0) (swQ ns kf vf oc ys ow w0 h cmp sz k at_ 1 j) := by
  refine fw_of (by decide) (Nat.le_of_ble_eq_true rfl) ?_
  intro p e s m below meth c ls C hnm hP hl
  have hS : va_S (fA g) s.heap s.heap [] := va_S.rf
  have hn := hI.1 j (by omega) hk
  have hp := hI.1 1 (by omega) (by omega)
  have hnp : at_ j ≠ at_ 1 := fun e => by have := hI.2 _ _ (by omega) hk (by omega) (by omega) e; omega
  have hpoc : oc (at_ 1) = some (at_ 2) := by rw [(hR 1 (by omega) (by omega)).1, fOc, if_pos (by omega)]
  have hnoc : oc (at_ j) = fOc k at_ j := (hR j (by omega) hk).1
  have tail : ∀ (oc2 ys2 : Nat → Option Nat) (H : Heap) (locs : List Loc) (ls : Array Slot), sMid k at_ 1 j oc2 (va_up ys2 (at_ j) none) → fOut k at_ oc oc2 → fOut k at_ ys ys2 → HP g (mkw ns kf vf oc2 ys2 ow w0) H → va_S (fA g) s.heap H locs → lv_has ls 4 [(3, va_rf (fOc k at_ j)), (0, .ref h), (1, .ref (at_ j)), (2, .ref (at_ 1))] →
      W p l e (fRm 1 0 0 0) s m ([.ref h, .ref (at_ j), .ref (at_ 1)] : List Value).toArray below meth c H locs 0 0 (MQ below (fQ g (swQ ns kf vf oc ys ow w0 h cmp sz k at_ 1 j)) ([.ref h, .ref (at_ j), .ref (at_ 1)] : List Value).toArray s 0 0 (fA g)) (F0 m 79 ls []) := by
    intro oc2 ys2 H locs ls hM hO1 hO2 hP hS hl
    refine lv_aload_n C.1 C.2.1 dX1_swap_2_79 rfl (lv_at hl 2 rfl) ?_
    refine lv_null C.1 C.2.1 dX1_swap_2_80 ?_
    refine nx_pys (r := none) C hA hP hS hn dX1_swap_2_81 (fun H locs hP hS => ?_)
    refine lv_aload_n C.1 C.2.1 dX1_swap_2_84 rfl (lv_at hl 3 rfl) ?_
    refine fv_aload_n C dX1_swap_2_85 rfl (lv_at hl 0 rfl) ?_
    refine nx_poc (r := fOc k at_ j) C hA hP hS hp dX1_swap_2_86 (fun H locs hP hS => ?_)
    refine fv_aload_n C dX1_swap_2_89 rfl (lv_at hl 0 rfl) ?_
    have hO1' : fOut k at_ oc (va_up oc2 (at_ 1) (fOc k at_ j)) := hO1.up (by omega) (by omega)
    have hO2' : fOut k at_ ys (va_up ys2 (at_ j) none) := hO2.up (by omega) (by omega)
    have fin : ∀ (ys3 : Nat → Option Nat) (H : Heap) (locs : List Loc), fRep k (fSw at_ 1 j) (va_up oc2 (at_ 1) (fOc k at_ j)) ys3 → fOut k at_ ys ys3 → HP g (mkw ns kf vf (va_up oc2 (at_ 1) (fOc k at_ j)) ys3 ow w0) H → va_S (fA g) s.heap H locs →
      W p l e (fRm 1 0 0 0) s m ([.ref h, .ref (at_ j), .ref (at_ 1)] : List Value).toArray below meth c H locs 0 0 (MQ below (fQ g (swQ ns kf vf oc ys ow w0 h cmp sz k at_ 1 j)) ([.ref h, .ref (at_ j), .ref (at_ 1)] : List Value).toArray s 0 0 (fA g)) (F0 m 117 ls []) := by
      intro ys3 H locs hRf hOf hP hS
      refine lv_aload_n C.1 C.2.1 dX1_swap_2_117 rfl (lv_at hl 1 rfl) ?_
      refine lv_aload_n C.1 C.2.1 dX1_swap_2_118 rfl (lv_at hl 2 rfl) ?_
      refine hx_proot (r := some (at_ j)) C hhA hP hS hh hw dX1_swap_2_119 (fun H locs hP hS => ?_)
      refine fw_vret C ⟨rfl, _, _, ?_, hRf, hO1', hOf⟩ hP hS ⟨Nat.le_of_ble_eq_true rfl, Nat.le_of_ble_eq_true rfl⟩ dX1_swap_2_122
      rw [show fSw at_ 1 j 1 = at_ j by unfold fSw fSg; rw [if_neg (by omega), if_pos rfl]]
    have e2 : fOc k at_ j = if 2 * j ≤ k then some (at_ (2 * j)) else none := rfl
    by_cases h2 : 2 * j ≤ k
    · rw [if_pos h2] at e2
      rw [e2] at hP hl fin ⊢
      have hcn := hI.1 (2 * j) (by omega) h2
      have hcy : va_up ys2 (at_ j) none (at_ (2 * j)) = fYs k at_ (2 * j) := hM.2.2 (2 * j) (by omega) h2 (Or.inl rfl)
      refine lv_ifnull C.1 C.2.1 dX1_swap_2_90 ?_
      refine lv_aload_n C.1 C.2.1 dX1_swap_2_93 rfl (lv_at hl 0 rfl) ?_
      rw [fYs, if_neg (by omega)] at hcy
      by_cases h3 : 2 * j + 1 ≤ k
      · rw [if_pos (by omega)] at hcy
        refine nx_ys C hP hcn rfl dX1_swap_2_94 ?_
        refine lv_aload_n C.1 C.2.1 dX1_swap_2_97 rfl (lv_at hl 2 rfl) ?_
        refine lv_acmp_ne (rx := va_up ys2 (at_ j) none (at_ (2 * j))) (ry := some (at_ j)) (tgt := 109) C.1 C.2.1 dX1_swap_2_98 (by decide) (fun c1 => ?_) (fun c1 => ?_)
        · refine lv_aload_n C.1 C.2.1 dX1_swap_2_109 rfl (lv_at hl 0 rfl) ?_
          refine nx_ys (v := .ref (at_ (2 * j + 1))) C hP hcn (by rw [hcy]; rfl) dX1_swap_2_110 ?_
          refine lv_aload_n C.1 C.2.1 dX1_swap_2_113 rfl (lv_at hl 3 rfl) ?_
          refine nx_pys (r := some (at_ 1)) C hA hP hS (hI.1 _ (by omega) h3) dX1_swap_2_114 (fun H locs hP hS => ?_)
          exact fin _ _ _ (sf_2 hI hM (by omega) (by omega) hk h3) (hO2'.up (by omega) h3) hP hS
        · exfalso
          rw [hcy] at c1
          have := hI.2 _ _ (by omega) h3 (by omega) hk (Option.some.inj c1)
          omega
      · rw [if_neg (by omega)] at hcy
        refine nx_ys C hP hcn rfl dX1_swap_2_94 ?_
        refine lv_aload_n C.1 C.2.1 dX1_swap_2_97 rfl (lv_at hl 2 rfl) ?_
        refine lv_acmp_ne (rx := va_up ys2 (at_ j) none (at_ (2 * j))) (ry := some (at_ j)) (tgt := 109) C.1 C.2.1 dX1_swap_2_98 (by decide) (fun c1 => ?_) (fun c1 => ?_)
        · exact absurd (by rw [hcy, show 2 * j / 2 = j by omega]) c1
        · refine lv_aload_n C.1 C.2.1 dX1_swap_2_101 rfl (lv_at hl 0 rfl) ?_
          refine lv_aload_n C.1 C.2.1 dX1_swap_2_102 rfl (lv_at hl 3 rfl) ?_
          refine nx_pys (r := some (at_ 1)) C hA hP hS hcn dX1_swap_2_103 (fun H locs hP hS => ?_)
          refine lv_goto (tgt := 117) C.1 C.2.1 dX1_swap_2_106 (by decide) ?_
          exact fin _ _ _ (sf_1 hI hM (by omega) (by omega) hk (by omega)) (hO2'.up (by omega) h2) hP hS
    · rw [if_neg h2] at e2
      rw [e2] at hP hl fin ⊢
      refine lv_ifnullN (tgt := 117) C.1 C.2.1 dX1_swap_2_90 (by decide) ?_
      exact fin _ _ _ (sf_0 hI hM (by omega) (by omega) hk (by omega)) hO2' hP hS
  refine lv_aload_n C.1 C.2.1 dX1_swap_2_0 rfl (lv_at hl 1 rfl) ?_
  refine nx_oc (v := va_rf (fOc k at_ j)) C hP hn (by rw [hnoc]) dX1_swap_2_1 ?_
  refine fv_astore_n (lv' := [(3, va_rf (fOc k at_ j)), (0, .ref h), (1, .ref (at_ j)), (2, .ref (at_ 1))]) C dX1_swap_2_4 rfl hl (by decide) rfl (fun ls hl => ?_)
  refine lv_aload_n C.1 C.2.1 dX1_swap_2_5 rfl (lv_at hl 3 rfl) ?_
  refine nx_oc C hP hp rfl dX1_swap_2_6 ?_
  refine lv_aload_n C.1 C.2.1 dX1_swap_2_9 rfl (lv_at hl 2 rfl) ?_
  refine lv_acmp_ne (rx := oc (at_ 1)) (ry := some (at_ j)) (tgt := 58) C.1 C.2.1 dX1_swap_2_10 (by decide) (fun c1 => ?_) (fun c1 => ?_)
  · have hj3 : j = 3 := by
      rcases hj with z | z
      · exact absurd (by rw [hpoc, z]) c1
      · exact z
    have h2n := hI.1 2 (by omega) (by omega)
    refine lv_aload_n C.1 C.2.1 dX1_swap_2_58 rfl (lv_at hl 3 rfl) ?_
    refine nx_oc (v := .ref (at_ 2)) C hP hp (by rw [hpoc]; rfl) dX1_swap_2_59 ?_
    refine lv_aload_n C.1 C.2.1 dX1_swap_2_62 rfl (lv_at hl 3 rfl) ?_
    refine nx_pys (r := some (at_ 1)) C hA hP hS h2n dX1_swap_2_63 (fun H locs hP hS => ?_)
    refine lv_aload_n C.1 C.2.1 dX1_swap_2_66 rfl (lv_at hl 2 rfl) ?_
    refine lv_aload_n C.1 C.2.1 dX1_swap_2_67 rfl (lv_at hl 3 rfl) ?_
    refine nx_oc (v := .ref (at_ 2)) C hP hp (by rw [hpoc]; rfl) dX1_swap_2_68 ?_
    refine nx_poc (r := some (at_ 2)) C hA hP hS hn dX1_swap_2_71 (fun H locs hP hS => ?_)
    refine lv_aload_n C.1 C.2.1 dX1_swap_2_74 rfl (lv_at hl 3 rfl) ?_
    refine lv_aload_n C.1 C.2.1 dX1_swap_2_75 rfl (lv_at hl 2 rfl) ?_
    refine nx_pys (r := some (at_ j)) C hA hP hS hp dX1_swap_2_76 (fun H locs hP hS => ?_)
    exact tail _ _ _ _ _ (sm_9 hI hR rfl hj3 (by omega)) (fOut.rf.up (by omega) hk) ((fOut.rf.up (by omega) (by omega)).up (by omega) (by omega)) hP hS hl
  · have hj2 : j = 2 := by
      rw [hpoc] at c1
      have := hI.2 _ _ (by omega) (by omega) (by omega) hk (Option.some.inj c1)
      omega
    refine lv_aload_n C.1 C.2.1 dX1_swap_2_13 rfl (lv_at hl 2 rfl) ?_
    have hnys := (hR j (by omega) hk).2
    rw [fYs, if_neg (by omega)] at hnys
    refine nx_ys C hP hn rfl dX1_swap_2_14 ?_
    refine lv_aload_n C.1 C.2.1 dX1_swap_2_17 rfl (lv_at hl 3 rfl) ?_
    refine lv_acmp_ne (rx := ys (at_ j)) (ry := some (at_ 1)) (tgt := 34) C.1 C.2.1 dX1_swap_2_18 (by decide) (fun c2 => ?_) (fun c2 => ?_)
    · have h3k : 3 ≤ k := by
        rcases Nat.lt_or_ge k 3 with z | z
        · rw [if_neg (by omega), show j / 2 = 1 by omega] at hnys
          exact absurd hnys c2
        · exact z
      have hnys : ys (at_ j) = some (at_ 3) := by
        rw [if_pos (by omega)] at hnys
        rw [hnys, hj2]
      have h3n := hI.1 3 (by omega) h3k
      refine lv_aload_n C.1 C.2.1 dX1_swap_2_34 rfl (lv_at hl 3 rfl) ?_
      refine lv_aload_n C.1 C.2.1 dX1_swap_2_35 rfl (lv_at hl 2 rfl) ?_
      refine nx_ys (v := .ref (at_ 3)) C hP hn (by rw [hnys]; rfl) dX1_swap_2_36 ?_
      refine nx_pys (r := some (at_ 3)) C hA hP hS hp dX1_swap_2_39 (fun H locs hP hS => ?_)
      refine lv_aload_n C.1 C.2.1 dX1_swap_2_42 rfl (lv_at hl 3 rfl) ?_
      refine nx_ys (v := .ref (at_ 3)) C hP hp (by rw [va_up_s]; rfl) dX1_swap_2_43 ?_
      refine lv_aload_n C.1 C.2.1 dX1_swap_2_46 rfl (lv_at hl 2 rfl) ?_
      refine nx_pys (r := some (at_ j)) C hA hP hS h3n dX1_swap_2_47 (fun H locs hP hS => ?_)
      refine lv_aload_n C.1 C.2.1 dX1_swap_2_50 rfl (lv_at hl 2 rfl) ?_
      refine lv_aload_n C.1 C.2.1 dX1_swap_2_51 rfl (lv_at hl 3 rfl) ?_
      refine nx_poc (r := some (at_ 1)) C hA hP hS hn dX1_swap_2_52 (fun H locs hP hS => ?_)
      refine lv_goto (tgt := 79) C.1 C.2.1 dX1_swap_2_55 (by decide) ?_
      exact tail _ _ _ _ _ (sm_8 hI hR rfl hj2 h3k) (fOut.rf.up (by omega) hk) ((fOut.rf.up (by omega) (by omega)).up (by omega) (by omega)) hP hS hl
    · have hk2 : k = 2 := by
        rcases Nat.lt_or_ge k 3 with z | z
        · omega
        · rw [if_pos (by omega)] at hnys
          rw [hnys] at c2
          have := hI.2 _ _ (by omega) (by omega) (by omega) (by omega) (Option.some.inj c2)
          omega
      refine lv_aload_n C.1 C.2.1 dX1_swap_2_21 rfl (lv_at hl 2 rfl) ?_
      refine lv_aload_n C.1 C.2.1 dX1_swap_2_22 rfl (lv_at hl 3 rfl) ?_
      refine nx_poc (r := some (at_ 1)) C hA hP hS hn dX1_swap_2_23 (fun H locs hP hS => ?_)
      refine lv_aload_n C.1 C.2.1 dX1_swap_2_26 rfl (lv_at hl 3 rfl) ?_
      refine lv_aload_n C.1 C.2.1 dX1_swap_2_27 rfl (lv_at hl 2 rfl) ?_
      refine nx_pys (r := some (at_ j)) C hA hP hS hp dX1_swap_2_28 (fun H locs hP hS => ?_)
      refine lv_goto (tgt := 79) C.1 C.2.1 dX1_swap_2_31 (by decide) ?_
      exact tail _ _ _ _ _ (sm_7 hI hR rfl hj2 hk2) (fOut.rf.up (by omega) hk) (fOut.rf.up (by omega) (by omega)) hP hS hl
end
section
/-! swap(n, p, pp): the walk -/
set_option maxRecDepth 100000
theorem va_rf_cat (r : Option Nat) : (va_rf r).category = 1 := by cases r <;> rfl
set_option maxHeartbeats 4000000 in
theorem m_swap (l : Launch) (g : fG) (ns : List Nat) (kf vf : Nat → Nat) (oc ys : Nat → Option Nat) (ow : Nat → Nat) (w0 : fW) (h : Nat) (cmp : Option Nat) (sz : Int64) (k : Nat) (at_ : Nat → Nat) (i j : Nat) (hA : ∀ a ∈ ns, g.2.1 ≤ a) (hhA : g.2.1 ≤ h) (hh : h ∉ ns) (hw : w0 h = some (hpc cmp sz (some (at_ 1)))) (hI : fInj ns k at_) (hR : fRep k at_ oc ys) (hj : j = 2 * i ∨ j = 2 * i + 1) (hi : 1 ≤ i) (hk : j ≤ k) :
    fMet l g yX1_swap cX1_swap 6 none 2 40 0 0 [.ref h, .ref (at_ j), .ref (at_ i), va_rf (fPar at_ i)] (mkw ns kf vf oc ys ow w0) (swQ ns kf vf oc ys ow w0 h cmp sz k at_ i j) := by
  have hav : fPar at_ i = if i ≤ 1 then none else some (at_ (i / 2)) := rfl
  by_cases hi1 : i ≤ 1
  · rw [if_pos hi1] at hav
    rw [hav]
    have hi1 : i = 1 := by omega
    subst hi1
    refine fw_of (av := [.ref h, .ref (at_ j), .ref (at_ 1), .null]) (by decide) (Nat.le_of_ble_eq_true rfl) ?_
    intro p e s m below meth c ls C hnm hP hl
    have hS : va_S (fA g) s.heap s.heap [] := va_S.rf
    refine lv_aload_nN C.1 C.2.1 dX1_swap_0 rfl (lv_at hl 3 rfl) ?_
    refine lv_ifnonnullN C.1 C.2.1 dX1_swap_1 ?_
    refine lv_aload_n C.1 C.2.1 dX1_swap_4 rfl (lv_at hl 0 rfl) ?_
    refine lv_aload_n C.1 C.2.1 dX1_swap_5 rfl (lv_at hl 1 rfl) ?_
    refine lv_aload_n C.1 C.2.1 dX1_swap_6 rfl (lv_at hl 2 rfl) ?_
    refine fw_V C 2 (As := [.ref (at_ j), .ref (at_ 1)]) (rest := []) (m_swap2 l g ns kf vf oc ys ow w0 h cmp sz k at_ j hA hhA hh hw hI hR (by omega) hk) (lw_V q313 q315 qs7 q14 q316) (by decide +kernel) ⟨Nat.le_of_ble_eq_true rfl, Nat.le_of_ble_eq_true rfl⟩ hP hS ((mkw_o hh).trans hw) rfl rfl rfl hl.1 (Nat.le_of_ble_eq_true rfl) dX1_swap_7 ⟨Nat.le_of_ble_eq_true rfl, Nat.le_of_ble_eq_true rfl⟩ ?_
    rintro r w1 H1 locs1 hq hP hS
    have hr := hq.1
    subst hr
    exact fw_vret C hq hP hS ⟨Nat.le_of_ble_eq_true rfl, Nat.le_of_ble_eq_true rfl⟩ dX1_swap_10
  rw [if_neg hi1] at hav
  rw [hav]
  obtain ⟨q, hq⟩ : ∃ q, q = i / 2 := ⟨_, rfl⟩
  rw [← hq]
  have hiq : i = 2 * q ∨ i = 2 * q + 1 := by omega
  have hq1 : 1 ≤ q := by omega
  refine fw_of (av := [.ref h, .ref (at_ j), .ref (at_ i), .ref (at_ q)]) (by decide) (Nat.le_of_ble_eq_true rfl) ?_
  intro p e s m below meth c ls C hnm hP hl
  have hS : va_S (fA g) s.heap s.heap [] := va_S.rf
  have hn := hI.1 j (by omega) hk
  have hp := hI.1 i (by omega) (by omega)
  have hpp := hI.1 q (by omega) (by omega)
  have ne : ∀ x y, 1 ≤ x → x ≤ k → 1 ≤ y → y ≤ k → x ≠ y → at_ x ≠ at_ y := fun x y a b c d e f => e (hI.2 x y a b c d f)
  have hppoc : oc (at_ q) = some (at_ (2 * q)) := by rw [(hR q (by omega) (by omega)).1, fOc, if_pos (by omega)]
  have hpoc : oc (at_ i) = some (at_ (2 * i)) := by rw [(hR i (by omega) (by omega)).1, fOc, if_pos (by omega)]
  have hnoc : oc (at_ j) = fOc k at_ j := (hR j (by omega) hk).1
  have hnys := (hR j (by omega) hk).2
  rw [fYs, if_neg (by omega)] at hnys
  have eroot : fset w0 h (hpc cmp sz (some (fSw at_ i j 1))) = w0 := by
    rw [show fSw at_ i j 1 = at_ 1 by unfold fSw fSg; rw [if_neg (by omega), if_neg (by omega)]]
    exact fset_id hw
  have tail : ∀ (oc2 ys2 : Nat → Option Nat) (H : Heap) (locs : List Loc) (ls : Array Slot), sMid k at_ i j oc2 ys2 → fOut k at_ oc oc2 → fOut k at_ ys ys2 → HP g (mkw ns kf vf oc2 ys2 ow w0) H → va_S (fA g) s.heap H locs → lv_has ls 6 [(4, va_rf (fOc k at_ j)), (0, .ref h), (1, .ref (at_ j)), (2, .ref (at_ i))] →
      W p l e (fRm 2 40 0 0) s m ([.ref h, .ref (at_ j), .ref (at_ i), .ref (at_ q)] : List Value).toArray below meth c H locs 0 0 (MQ below (fQ g (swQ ns kf vf oc ys ow w0 h cmp sz k at_ i j)) ([.ref h, .ref (at_ j), .ref (at_ i), .ref (at_ q)] : List Value).toArray s 0 0 (fA g)) (F0 m 260 ls []) := by
    intro oc2 ys2 H locs ls hM hO1 hO2 hP hS hl
    refine lv_aload_n C.1 C.2.1 dX1_swap_260 rfl (lv_at hl 3 rfl) ?_
    refine fv_aload C dX1_swap_261 (lv_at hl 0 rfl) ?_
    refine nx_poc (r := fOc k at_ j) C hA hP hS hp dX1_swap_263 (fun H locs hP hS => ?_)
    refine fv_aload C dX1_swap_266 (lv_at hl 0 rfl) ?_
    have hO1' : fOut k at_ oc (va_up oc2 (at_ i) (fOc k at_ j)) := hO1.up (by omega) (by omega)
    have fin : ∀ (ys3 : Nat → Option Nat) (H : Heap) (locs : List Loc), fRep k (fSw at_ i j) (va_up oc2 (at_ i) (fOc k at_ j)) ys3 → fOut k at_ ys ys3 → HP g (mkw ns kf vf (va_up oc2 (at_ i) (fOc k at_ j)) ys3 ow w0) H → va_S (fA g) s.heap H locs →
      W p l e (fRm 2 40 0 0) s m ([.ref h, .ref (at_ j), .ref (at_ i), .ref (at_ q)] : List Value).toArray below meth c H locs 0 0 (MQ below (fQ g (swQ ns kf vf oc ys ow w0 h cmp sz k at_ i j)) ([.ref h, .ref (at_ j), .ref (at_ i), .ref (at_ q)] : List Value).toArray s 0 0 (fA g)) (F0 m 298 ls []) := by
      intro ys3 H locs hRf hOf hP hS
      exact fw_vret C ⟨rfl, _, _, by rw [eroot], hRf, hO1', hOf⟩ hP hS ⟨Nat.le_of_ble_eq_true rfl, Nat.le_of_ble_eq_true rfl⟩ dX1_swap_298
    have e2 : fOc k at_ j = if 2 * j ≤ k then some (at_ (2 * j)) else none := rfl
    by_cases h2 : 2 * j ≤ k
    · rw [if_pos h2] at e2
      rw [e2] at hP hl fin ⊢
      have hcn := hI.1 (2 * j) (by omega) h2
      have hcy : ys2 (at_ (2 * j)) = fYs k at_ (2 * j) := hM.2.2 (2 * j) (by omega) h2 (Or.inl rfl)
      refine lv_ifnull C.1 C.2.1 dX1_swap_268 ?_
      refine lv_aload C.1 C.2.1 dX1_swap_271 (lv_at hl 0 rfl) ?_
      rw [fYs, if_neg (by omega)] at hcy
      by_cases h3 : 2 * j + 1 ≤ k
      · rw [if_pos (by omega)] at hcy
        refine nx_ys C hP hcn rfl dX1_swap_273 ?_
        refine lv_aload_n C.1 C.2.1 dX1_swap_276 rfl (lv_at hl 2 rfl) ?_
        refine lv_acmp_ne (rx := ys2 (at_ (2 * j))) (ry := some (at_ j)) (tgt := 289) C.1 C.2.1 dX1_swap_277 (by decide) (fun c1 => ?_) (fun c1 => ?_)
        · refine lv_aload C.1 C.2.1 dX1_swap_289 (lv_at hl 0 rfl) ?_
          refine nx_ys (v := .ref (at_ (2 * j + 1))) C hP hcn (by rw [hcy]; rfl) dX1_swap_291 ?_
          refine lv_aload_n C.1 C.2.1 dX1_swap_294 rfl (lv_at hl 3 rfl) ?_
          refine nx_pys (r := some (at_ i)) C hA hP hS (hI.1 _ (by omega) h3) dX1_swap_295 (fun H locs hP hS => ?_)
          exact fin _ _ _ (sf_2 hI hM (by omega) (by omega) hk h3) (hO2.up (by omega) h3) hP hS
        · exfalso
          rw [hcy] at c1
          have := hI.2 _ _ (by omega) h3 (by omega) hk (Option.some.inj c1)
          omega
      · rw [if_neg (by omega)] at hcy
        refine nx_ys C hP hcn rfl dX1_swap_273 ?_
        refine lv_aload_n C.1 C.2.1 dX1_swap_276 rfl (lv_at hl 2 rfl) ?_
        refine lv_acmp_ne (rx := ys2 (at_ (2 * j))) (ry := some (at_ j)) (tgt := 289) C.1 C.2.1 dX1_swap_277 (by decide) (fun c1 => ?_) (fun c1 => ?_)
        · exact absurd (by rw [hcy, show 2 * j / 2 = j by omega]) c1
        · refine lv_aload C.1 C.2.1 dX1_swap_280 (lv_at hl 0 rfl) ?_
          refine lv_aload_n C.1 C.2.1 dX1_swap_282 rfl (lv_at hl 3 rfl) ?_
          refine nx_pys (r := some (at_ i)) C hA hP hS hcn dX1_swap_283 (fun H locs hP hS => ?_)
          refine lv_goto (tgt := 298) C.1 C.2.1 dX1_swap_286 (by decide) ?_
          exact fin _ _ _ (sf_1 hI hM (by omega) (by omega) hk (by omega)) (hO2.up (by omega) h2) hP hS
    · rw [if_neg h2] at e2
      rw [e2] at hP hl fin ⊢
      refine lv_ifnullN (tgt := 298) C.1 C.2.1 dX1_swap_268 (by decide) ?_
      exact fin _ _ _ (sf_0 hI hM (by omega) (by omega) hk (by omega)) hO2 hP hS
  have odd2 : ¬ oc (at_ i) = some (at_ j) → j = 2 * i + 1 := by
    intro c2
    rcases hj with z | z
    · exact absurd (by rw [hpoc, z]) c2
    · exact z
  have even2 : oc (at_ i) = some (at_ j) → j = 2 * i := by
    intro c2
    rw [hpoc] at c2
    have := hI.2 _ _ (by omega) (by omega) (by omega) hk (Option.some.inj c2)
    omega
  have sib3 : j = 2 * i → ¬ ys (at_ j) = some (at_ i) → j + 1 ≤ k ∧ ys (at_ j) = some (at_ (j + 1)) := by
    intro hj2 c3
    by_cases h3k : j + 1 ≤ k
    · rw [if_pos (by omega)] at hnys
      exact ⟨h3k, hnys⟩
    · rw [if_neg (by omega), show j / 2 = i by omega] at hnys
      exact absurd hnys c3
  have only3 : j = 2 * i → ys (at_ j) = some (at_ i) → j = k := by
    intro hj2 c3
    by_cases h3k : j + 1 ≤ k
    · rw [if_pos (by omega)] at hnys
      rw [hnys] at c3
      have := hI.2 _ _ (by omega) h3k (by omega) (by omega) (Option.some.inj c3)
      omega
    · omega
  refine lv_aload_n C.1 C.2.1 dX1_swap_0 rfl (lv_at hl 3 rfl) ?_
  refine lv_ifnonnull (tgt := 11) C.1 C.2.1 dX1_swap_1 (by decide) ?_
  refine lv_aload_n C.1 C.2.1 dX1_swap_11 rfl (lv_at hl 1 rfl) ?_
  refine nx_oc (v := va_rf (fOc k at_ j)) C hP hn (by rw [hnoc]) dX1_swap_12 ?_
  refine fv_astore (lv' := [(4, va_rf (fOc k at_ j)), (0, .ref h), (1, .ref (at_ j)), (2, .ref (at_ i)), (3, .ref (at_ q))]) C dX1_swap_15 hl (by decide) rfl (fun ls hl => ?_)
  refine lv_aload_n C.1 C.2.1 dX1_swap_17 rfl (lv_at hl 4 rfl) ?_
  refine nx_oc C hP hpp rfl dX1_swap_18 ?_
  refine lv_aload_n C.1 C.2.1 dX1_swap_21 rfl (lv_at hl 3 rfl) ?_
  refine lv_acmp_ne (rx := oc (at_ q)) (ry := some (at_ i)) (tgt := 147) C.1 C.2.1 dX1_swap_22 (by decide) (fun c1 => ?_) (fun c1 => ?_)
  · have hi2 : i = 2 * q + 1 := by
      rcases hiq with z | z
      · exact absurd (by rw [hppoc, z]) c1
      · exact z
    have hpl := hI.1 (2 * q) (by omega) (by omega)
    refine lv_aload_n C.1 C.2.1 dX1_swap_147 rfl (lv_at hl 3 rfl) ?_
    refine nx_oc C hP hp rfl dX1_swap_148 ?_
    refine lv_aload_n C.1 C.2.1 dX1_swap_151 rfl (lv_at hl 2 rfl) ?_
    refine lv_acmp_ne (rx := oc (at_ i)) (ry := some (at_ j)) (tgt := 226) C.1 C.2.1 dX1_swap_152 (by decide) (fun c2 => ?_) (fun c2 => ?_)
    · have hj2 := odd2 c2
      have hnl := hI.1 (2 * i) (by omega) (by omega)
      refine lv_aload_n C.1 C.2.1 dX1_swap_226 rfl (lv_at hl 4 rfl) ?_
      refine nx_oc (v := .ref (at_ (2 * q))) C hP hpp (by rw [hppoc]; rfl) dX1_swap_227 ?_
      refine lv_aload_n C.1 C.2.1 dX1_swap_230 rfl (lv_at hl 2 rfl) ?_
      refine nx_pys (r := some (at_ j)) C hA hP hS hpl dX1_swap_231 (fun H locs hP hS => ?_)
      refine lv_aload_n C.1 C.2.1 dX1_swap_234 rfl (lv_at hl 2 rfl) ?_
      refine lv_aload_n C.1 C.2.1 dX1_swap_235 rfl (lv_at hl 4 rfl) ?_
      refine nx_pys (r := some (at_ q)) C hA hP hS hn dX1_swap_236 (fun H locs hP hS => ?_)
      refine lv_aload_n C.1 C.2.1 dX1_swap_239 rfl (lv_at hl 2 rfl) ?_
      refine lv_aload_n C.1 C.2.1 dX1_swap_240 rfl (lv_at hl 3 rfl) ?_
      refine nx_oc (v := .ref (at_ (2 * i))) C hP hp (by rw [hpoc]; rfl) dX1_swap_241 ?_
      refine nx_poc (r := some (at_ (2 * i))) C hA hP hS hn dX1_swap_244 (fun H locs hP hS => ?_)
      refine lv_aload_n C.1 C.2.1 dX1_swap_247 rfl (lv_at hl 2 rfl) ?_
      refine nx_oc (v := .ref (at_ (2 * i))) C hP hn (by rw [va_up_s]; rfl) dX1_swap_248 ?_
      refine lv_aload_n C.1 C.2.1 dX1_swap_251 rfl (lv_at hl 3 rfl) ?_
      refine nx_pys (r := some (at_ i)) C hA hP hS hnl dX1_swap_252 (fun H locs hP hS => ?_)
      refine lv_aload_n C.1 C.2.1 dX1_swap_255 rfl (lv_at hl 3 rfl) ?_
      refine lv_aload_n C.1 C.2.1 dX1_swap_256 rfl (lv_at hl 2 rfl) ?_
      refine nx_pys (r := some (at_ j)) C hA hP hS hp dX1_swap_257 (fun H locs hP hS => ?_)
      exact tail _ _ _ _ _ (sm_6 hI hR hi2 hj2 hk hq1) (fOut.rf.up (by omega) hk) ((((fOut.rf.up (by omega) (by omega)).up (by omega) (by omega)).up (by omega) (by omega)).up (by omega) (by omega)) hP hS (lv_sub hl [0, 1, 2, 3] rfl)
    · have hj2 := even2 c2
      refine lv_aload_n C.1 C.2.1 dX1_swap_155 rfl (lv_at hl 2 rfl) ?_
      refine nx_ys C hP hn rfl dX1_swap_156 ?_
      refine lv_aload_n C.1 C.2.1 dX1_swap_159 rfl (lv_at hl 3 rfl) ?_
      refine lv_acmp_ne (rx := ys (at_ j)) (ry := some (at_ i)) (tgt := 189) C.1 C.2.1 dX1_swap_160 (by decide) (fun c3 => ?_) (fun c3 => ?_)
      · obtain ⟨h3k, hny⟩ := sib3 hj2 c3
        have hsn := hI.1 (j + 1) (by omega) h3k
        refine lv_aload_n C.1 C.2.1 dX1_swap_189 rfl (lv_at hl 4 rfl) ?_
        refine nx_oc (v := .ref (at_ (2 * q))) C hP hpp (by rw [hppoc]; rfl) dX1_swap_190 ?_
        refine lv_aload_n C.1 C.2.1 dX1_swap_193 rfl (lv_at hl 2 rfl) ?_
        refine nx_pys (r := some (at_ j)) C hA hP hS hpl dX1_swap_194 (fun H locs hP hS => ?_)
        refine lv_aload_n C.1 C.2.1 dX1_swap_197 rfl (lv_at hl 3 rfl) ?_
        refine lv_aload_n C.1 C.2.1 dX1_swap_198 rfl (lv_at hl 2 rfl) ?_
        refine nx_ys (v := .ref (at_ (j + 1))) C hP hn (by rw [va_up_n (ne _ _ (by omega) (by omega) (by omega) (by omega) (by omega)), hny]; rfl) dX1_swap_199 ?_
        refine nx_pys (r := some (at_ (j + 1))) C hA hP hS hp dX1_swap_202 (fun H locs hP hS => ?_)
        refine lv_aload_n C.1 C.2.1 dX1_swap_205 rfl (lv_at hl 2 rfl) ?_
        refine lv_aload_n C.1 C.2.1 dX1_swap_206 rfl (lv_at hl 4 rfl) ?_
        refine nx_pys (r := some (at_ q)) C hA hP hS hn dX1_swap_207 (fun H locs hP hS => ?_)
        refine lv_aload_n C.1 C.2.1 dX1_swap_210 rfl (lv_at hl 2 rfl) ?_
        refine lv_aload_n C.1 C.2.1 dX1_swap_211 rfl (lv_at hl 3 rfl) ?_
        refine nx_poc (r := some (at_ i)) C hA hP hS hn dX1_swap_212 (fun H locs hP hS => ?_)
        refine lv_aload_n C.1 C.2.1 dX1_swap_215 rfl (lv_at hl 3 rfl) ?_
        refine nx_ys (v := .ref (at_ (j + 1))) C hP hp (by rw [va_up_n (ne _ _ (by omega) (by omega) (by omega) (by omega) (by omega)), va_up_s]; rfl) dX1_swap_216 ?_
        refine lv_aload_n C.1 C.2.1 dX1_swap_219 rfl (lv_at hl 2 rfl) ?_
        refine nx_pys (r := some (at_ j)) C hA hP hS hsn dX1_swap_220 (fun H locs hP hS => ?_)
        refine lv_goto (tgt := 260) C.1 C.2.1 dX1_swap_223 (by decide) ?_
        exact tail _ _ _ _ _ (sm_5 hI hR hi2 hj2 h3k hq1) (fOut.rf.up (by omega) hk) ((((fOut.rf.up (by omega) (by omega)).up (by omega) (by omega)).up (by omega) (by omega)).up (by omega) (by omega)) hP hS (lv_sub hl [0, 1, 2, 3] rfl)
      · have hjk := only3 hj2 c3
        refine lv_aload_n C.1 C.2.1 dX1_swap_163 rfl (lv_at hl 2 rfl) ?_
        refine lv_aload_n C.1 C.2.1 dX1_swap_164 rfl (lv_at hl 4 rfl) ?_
        refine nx_pys (r := some (at_ q)) C hA hP hS hn dX1_swap_165 (fun H locs hP hS => ?_)
        refine lv_aload_n C.1 C.2.1 dX1_swap_168 rfl (lv_at hl 4 rfl) ?_
        refine nx_oc (v := .ref (at_ (2 * q))) C hP hpp (by rw [hppoc]; rfl) dX1_swap_169 ?_
        refine lv_aload_n C.1 C.2.1 dX1_swap_172 rfl (lv_at hl 2 rfl) ?_
        refine nx_pys (r := some (at_ j)) C hA hP hS hpl dX1_swap_173 (fun H locs hP hS => ?_)
        refine lv_aload_n C.1 C.2.1 dX1_swap_176 rfl (lv_at hl 2 rfl) ?_
        refine lv_aload_n C.1 C.2.1 dX1_swap_177 rfl (lv_at hl 3 rfl) ?_
        refine nx_poc (r := some (at_ i)) C hA hP hS hn dX1_swap_178 (fun H locs hP hS => ?_)
        refine lv_aload_n C.1 C.2.1 dX1_swap_181 rfl (lv_at hl 3 rfl) ?_
        refine lv_aload_n C.1 C.2.1 dX1_swap_182 rfl (lv_at hl 2 rfl) ?_
        refine nx_pys (r := some (at_ j)) C hA hP hS hp dX1_swap_183 (fun H locs hP hS => ?_)
        refine lv_goto (tgt := 260) C.1 C.2.1 dX1_swap_186 (by decide) ?_
        exact tail _ _ _ _ _ (sm_4 hI hR hi2 hj2 hjk hq1) (fOut.rf.up (by omega) hk) (((fOut.rf.up (by omega) (by omega)).up (by omega) (by omega)).up (by omega) (by omega)) hP hS (lv_sub hl [0, 1, 2, 3] rfl)
  · have hi2 : i = 2 * q := by
      rw [hppoc] at c1
      have := hI.2 _ _ (by omega) (by omega) (by omega) (by omega) (Option.some.inj c1)
      omega
    refine lv_aload_n C.1 C.2.1 dX1_swap_25 rfl (lv_at hl 3 rfl) ?_
    refine nx_oc C hP hp rfl dX1_swap_26 ?_
    refine lv_aload_n C.1 C.2.1 dX1_swap_29 rfl (lv_at hl 2 rfl) ?_
    refine lv_acmp_ne (rx := oc (at_ i)) (ry := some (at_ j)) (tgt := 108) C.1 C.2.1 dX1_swap_30 (by decide) (fun c2 => ?_) (fun c2 => ?_)
    · have hj2 := odd2 c2
      have hnl := hI.1 (2 * i) (by omega) (by omega)
      refine lv_aload_n C.1 C.2.1 dX1_swap_108 rfl (lv_at hl 3 rfl) ?_
      refine nx_oc (v := .ref (at_ (2 * i))) C hP hp (by rw [hpoc]; rfl) dX1_swap_109 ?_
      refine lv_astore (lv' := [(5, .ref (at_ (2 * i))), (4, va_rf (fOc k at_ j)), (0, .ref h), (1, .ref (at_ j)), (2, .ref (at_ i)), (3, .ref (at_ q))]) C.1 C.2.1 dX1_swap_112 hl (by decide) (by simp [List.filter, va_rf_cat]) (fun ls hl => ?_)
      refine lv_aload_n C.1 C.2.1 dX1_swap_114 rfl (lv_at hl 3 rfl) ?_
      refine lv_aload_n C.1 C.2.1 dX1_swap_115 rfl (lv_at hl 4 rfl) ?_
      refine nx_ys C hP hp rfl dX1_swap_116 ?_
      refine nx_pys (r := ys (at_ i)) C hA hP hS hn dX1_swap_119 (fun H locs hP hS => ?_)
      refine lv_aload_n C.1 C.2.1 dX1_swap_122 rfl (lv_at hl 5 rfl) ?_
      refine lv_aload_n C.1 C.2.1 dX1_swap_123 rfl (lv_at hl 3 rfl) ?_
      refine nx_poc (r := some (at_ j)) C hA hP hS hpp dX1_swap_124 (fun H locs hP hS => ?_)
      refine lv_aload_n C.1 C.2.1 dX1_swap_127 rfl (lv_at hl 3 rfl) ?_
      refine lv_aload C.1 C.2.1 dX1_swap_128 (lv_at hl 0 rfl) ?_
      refine nx_poc (r := some (at_ (2 * i))) C hA hP hS hn dX1_swap_130 (fun H locs hP hS => ?_)
      refine lv_aload C.1 C.2.1 dX1_swap_133 (lv_at hl 0 rfl) ?_
      refine lv_aload_n C.1 C.2.1 dX1_swap_135 rfl (lv_at hl 4 rfl) ?_
      refine nx_pys (r := some (at_ i)) C hA hP hS hnl dX1_swap_136 (fun H locs hP hS => ?_)
      refine lv_aload_n C.1 C.2.1 dX1_swap_139 rfl (lv_at hl 4 rfl) ?_
      refine lv_aload_n C.1 C.2.1 dX1_swap_140 rfl (lv_at hl 3 rfl) ?_
      refine nx_pys (r := some (at_ j)) C hA hP hS hp dX1_swap_141 (fun H locs hP hS => ?_)
      refine lv_goto (tgt := 260) C.1 C.2.1 dX1_swap_144 (by decide) ?_
      exact tail _ _ _ _ _ (sm_3 hI hR hi2 hj2 hk hq1) ((fOut.rf.up (by omega) (by omega)).up (by omega) hk) (((fOut.rf.up (by omega) (by omega)).up (by omega) (by omega)).up (by omega) (by omega)) hP hS (lv_sub hl [1, 2, 3, 4] rfl)
    · have hj2 := even2 c2
      refine lv_aload_n C.1 C.2.1 dX1_swap_33 rfl (lv_at hl 2 rfl) ?_
      refine nx_ys C hP hn rfl dX1_swap_34 ?_
      refine lv_aload_n C.1 C.2.1 dX1_swap_37 rfl (lv_at hl 3 rfl) ?_
      refine lv_acmp_ne (rx := ys (at_ j)) (ry := some (at_ i)) (tgt := 67) C.1 C.2.1 dX1_swap_38 (by decide) (fun c3 => ?_) (fun c3 => ?_)
      · obtain ⟨h3k, hny⟩ := sib3 hj2 c3
        have hsn := hI.1 (j + 1) (by omega) h3k
        refine lv_aload_n C.1 C.2.1 dX1_swap_67 rfl (lv_at hl 2 rfl) ?_
        refine nx_ys (v := .ref (at_ (j + 1))) C hP hn (by rw [hny]; rfl) dX1_swap_68 ?_
        refine lv_aload_n C.1 C.2.1 dX1_swap_71 rfl (lv_at hl 2 rfl) ?_
        refine nx_pys (r := some (at_ j)) C hA hP hS hsn dX1_swap_72 (fun H locs hP hS => ?_)
        refine lv_aload_n C.1 C.2.1 dX1_swap_75 rfl (lv_at hl 2 rfl) ?_
        refine nx_ys (v := .ref (at_ (j + 1))) C hP hn (by rw [va_up_n (ne _ _ (by omega) (by omega) (by omega) (by omega) (by omega)), hny]; rfl) dX1_swap_76 ?_
        refine lv_astore (lv' := [(5, .ref (at_ (j + 1))), (4, va_rf (fOc k at_ j)), (0, .ref h), (1, .ref (at_ j)), (2, .ref (at_ i)), (3, .ref (at_ q))]) C.1 C.2.1 dX1_swap_79 hl (by decide) (by simp [List.filter, va_rf_cat]) (fun ls hl => ?_)
        refine lv_aload_n C.1 C.2.1 dX1_swap_81 rfl (lv_at hl 3 rfl) ?_
        refine lv_aload_n C.1 C.2.1 dX1_swap_82 rfl (lv_at hl 4 rfl) ?_
        refine nx_ys (v := va_rf (ys (at_ i))) C hP hp (by rw [va_up_n (ne _ _ (by omega) (by omega) (by omega) (by omega) (by omega))]) dX1_swap_83 ?_
        refine nx_pys (r := ys (at_ i)) C hA hP hS hn dX1_swap_86 (fun H locs hP hS => ?_)
        refine lv_aload_n C.1 C.2.1 dX1_swap_89 rfl (lv_at hl 4 rfl) ?_
        refine lv_aload C.1 C.2.1 dX1_swap_90 (lv_at hl 0 rfl) ?_
        refine nx_pys (r := some (at_ (j + 1))) C hA hP hS hp dX1_swap_92 (fun H locs hP hS => ?_)
        refine lv_aload_n C.1 C.2.1 dX1_swap_95 rfl (lv_at hl 5 rfl) ?_
        refine lv_aload_n C.1 C.2.1 dX1_swap_96 rfl (lv_at hl 3 rfl) ?_
        refine nx_poc (r := some (at_ j)) C hA hP hS hpp dX1_swap_97 (fun H locs hP hS => ?_)
        refine lv_aload_n C.1 C.2.1 dX1_swap_100 rfl (lv_at hl 3 rfl) ?_
        refine lv_aload_n C.1 C.2.1 dX1_swap_101 rfl (lv_at hl 4 rfl) ?_
        refine nx_poc (r := some (at_ i)) C hA hP hS hn dX1_swap_102 (fun H locs hP hS => ?_)
        refine lv_goto (tgt := 260) C.1 C.2.1 dX1_swap_105 (by decide) ?_
        exact tail _ _ _ _ _ (sm_2 hI hR hi2 hj2 h3k hq1) ((fOut.rf.up (by omega) (by omega)).up (by omega) hk) (((fOut.rf.up (by omega) (by omega)).up (by omega) (by omega)).up (by omega) (by omega)) hP hS (lv_sub hl [1, 2, 3, 4] rfl)
      · have hjk := only3 hj2 c3
        refine lv_aload_n C.1 C.2.1 dX1_swap_41 rfl (lv_at hl 4 rfl) ?_
        refine lv_aload_n C.1 C.2.1 dX1_swap_42 rfl (lv_at hl 2 rfl) ?_
        refine nx_poc (r := some (at_ j)) C hA hP hS hpp dX1_swap_43 (fun H locs hP hS => ?_)
        refine lv_aload_n C.1 C.2.1 dX1_swap_46 rfl (lv_at hl 2 rfl) ?_
        refine lv_aload_n C.1 C.2.1 dX1_swap_47 rfl (lv_at hl 3 rfl) ?_
        refine nx_ys C hP hp rfl dX1_swap_48 ?_
        refine nx_pys (r := ys (at_ i)) C hA hP hS hn dX1_swap_51 (fun H locs hP hS => ?_)
        refine lv_aload_n C.1 C.2.1 dX1_swap_54 rfl (lv_at hl 2 rfl) ?_
        refine lv_aload_n C.1 C.2.1 dX1_swap_55 rfl (lv_at hl 3 rfl) ?_
        refine nx_poc (r := some (at_ i)) C hA hP hS hn dX1_swap_56 (fun H locs hP hS => ?_)
        refine lv_aload_n C.1 C.2.1 dX1_swap_59 rfl (lv_at hl 3 rfl) ?_
        refine lv_aload_n C.1 C.2.1 dX1_swap_60 rfl (lv_at hl 2 rfl) ?_
        refine nx_pys (r := some (at_ j)) C hA hP hS hp dX1_swap_61 (fun H locs hP hS => ?_)
        refine lv_goto (tgt := 260) C.1 C.2.1 dX1_swap_64 (by decide) ?_
        exact tail _ _ _ _ _ (sm_1 hI hR hi2 hj2 hjk hq1) ((fOut.rf.up (by omega) (by omega)).up (by omega) hk) ((fOut.rf.up (by omega) (by omega)).up (by omega) (by omega)) hP hS (lv_sub hl [0, 1, 2, 3] rfl)
end
section
/-! the order by positions: the plain laws of fixup, fixdown, insert, deleteMin -/
set_option maxRecDepth 100000
def hOrd (k : Nat) (at_ : Nat → Nat) (r : Nat → Int) : Prop := ∀ i, 2 ≤ i → i ≤ k → r (at_ (i / 2)) ≤ r (at_ i)
def hUp (k : Nat) (at_ : Nat → Nat) (r : Nat → Int) (j : Nat) : Prop := (∀ i, 2 ≤ i → i ≤ k → i ≠ j → r (at_ (i / 2)) ≤ r (at_ i)) ∧ ∀ i, 2 ≤ j → i / 2 = j → i ≤ k → r (at_ (j / 2)) ≤ r (at_ i)
def hDn (k : Nat) (at_ : Nat → Nat) (r : Nat → Int) (j : Nat) : Prop := (∀ i, 2 ≤ i → i ≤ k → i / 2 ≠ j → r (at_ (i / 2)) ≤ r (at_ i)) ∧ ∀ i, 2 ≤ j → i / 2 = j → i ≤ k → r (at_ (j / 2)) ≤ r (at_ i)
/-- a is one of the heap's nodes -/
def fHas (k : Nat) (at_ : Nat → Nat) (a : Nat) : Prop := ∃ x, 1 ≤ x ∧ x ≤ k ∧ at_ x = a
section ORD
variable {ns : List Nat} {k : Nat} {at_ : Nat → Nat} {r r' : Nat → Int} {i j : Nat}
theorem fSw_o {x : Nat} (h1 : x ≠ i) (h2 : x ≠ j) : fSw at_ i j x = at_ x := by
  unfold fSw fSg
  rw [if_neg h2, if_neg h1]
theorem fSw_i : fSw at_ i j i = at_ j := by
  unfold fSw fSg
  by_cases h : i = j
  · rw [if_pos h, h]
  · rw [if_neg h, if_pos rfl]
theorem fSw_j : fSw at_ i j j = at_ i := by
  unfold fSw fSg
  rw [if_pos rfl]
theorem fSw_has (hi : 1 ≤ i) (hij : i < j) (hj : j ≤ k) (a : Nat) : fHas k (fSw at_ i j) a ↔ fHas k at_ a := by
  constructor
  · rintro ⟨x, h1, h2, h3⟩
    have hs := fSg_r (i := i) (j := j) (k := k) (by omega) (by omega) (by omega) h1 h2
    exact ⟨_, hs.1, hs.2, h3⟩
  · rintro ⟨x, h1, h2, h3⟩
    by_cases a1 : x = i
    · exact ⟨j, by omega, hj, by rw [fSw_j, ← a1]; exact h3⟩
    · by_cases a2 : x = j
      · exact ⟨i, hi, by omega, by rw [fSw_i, ← a2]; exact h3⟩
      · exact ⟨x, h1, h2, by rw [fSw_o a1 a2]; exact h3⟩
theorem hUp_step (hi : 1 ≤ i) (hj : j / 2 = i) (hk : j ≤ k) (h : hUp k at_ r j) (hlt : r (at_ j) ≤ r (at_ i)) : hUp k (fSw at_ i j) r i := by
  have hij : i < j := by omega
  refine ⟨fun x h1 h2 hne => ?_, fun x h1 hx h2 => ?_⟩
  · by_cases a1 : x = j
    · rw [a1, hj, fSw_i, fSw_j]
      exact hlt
    · have b1 := h.1 x h1 h2 a1
      rw [fSw_o (x := x) hne a1]
      by_cases a2 : x / 2 = i
      · rw [a2] at b1 ⊢
        rw [fSw_i]
        exact Int.le_trans hlt b1
      · by_cases a3 : x / 2 = j
        · have b2 := h.2 x (by omega) a3 h2
          rw [a3, fSw_j]
          rw [hj] at b2
          exact b2
        · rw [fSw_o a2 a3]
          exact b1
  · have b0 := h.1 i (by omega) (by omega) (by omega)
    rw [fSw_o (x := i / 2) (by omega) (by omega)]
    by_cases a1 : x = j
    · rw [a1, fSw_j]
      exact b0
    · have b1 := h.1 x (by omega) h2 a1
      rw [fSw_o (x := x) (by omega) a1]
      rw [hx] at b1
      exact Int.le_trans b0 b1
theorem hUp_end (h : hUp k at_ r j) (he : j ≤ 1 ∨ r (at_ (j / 2)) ≤ r (at_ j)) : hOrd k at_ r := by
  intro x h1 h2
  by_cases a : x = j
  · rcases he with he | he
    · omega
    · rw [a]; exact he
  · exact h.1 x h1 h2 a
/-- one node's rank falls -/
theorem hUp_low (hj1 : 1 ≤ j) (hj : j ≤ k) (h : hOrd k at_ r) (h1 : ∀ x, 1 ≤ x → x ≤ k → x ≠ j → r' (at_ x) = r (at_ x)) (h2 : r' (at_ j) ≤ r (at_ j)) : hUp k at_ r' j := by
  refine ⟨fun x a1 a2 hne => ?_, fun x a1 hx a2 => ?_⟩
  · rw [h1 x (by omega) a2 hne]
    have b := h x a1 a2
    by_cases c : x / 2 = j
    · rw [c] at b ⊢
      exact Int.le_trans h2 b
    · rw [h1 (x / 2) (by omega) (by omega) c]
      exact b
  · rw [h1 (j / 2) (by omega) (by omega) (by omega), h1 x (by omega) a2 (by omega)]
    have b0 := h j a1 hj
    have b1 := h x (by omega) a2
    rw [hx] at b1
    exact Int.le_trans b0 b1
theorem hDn_step {c : Nat} (hi : 1 ≤ i) (hc : c / 2 = i) (hk : c ≤ k) (h : hDn k at_ r i) (hmin : ∀ x, x / 2 = i → x ≤ k → r (at_ c) ≤ r (at_ x)) (hlt : r (at_ c) ≤ r (at_ i)) : hDn k (fSw at_ i c) r c := by
  have hij : i < c := by omega
  refine ⟨fun x h1 h2 hne => ?_, fun x h1 hx h2 => ?_⟩
  · by_cases a1 : x = c
    · rw [a1, hc, fSw_i, fSw_j]
      exact hlt
    · by_cases a2 : x / 2 = i
      · rw [a2, fSw_i, fSw_o (x := x) (by omega) a1]
        exact hmin x a2 h2
      · by_cases a3 : x = i
        · rw [a3, fSw_i, fSw_o (x := i / 2) (by omega) (by omega)]
          exact h.2 c (by omega) hc hk
        · rw [fSw_o a3 a1, fSw_o a2 hne]
          exact h.1 x h1 h2 a2
  · rw [hc, fSw_i, fSw_o (x := x) (by omega) (by omega)]
    have b := h.1 x (by omega) h2 (by omega)
    rw [hx] at b
    exact b
theorem hDn_end (h : hDn k at_ r i) (he : ∀ x, x / 2 = i → x ≤ k → r (at_ i) ≤ r (at_ x)) : hOrd k at_ r := by
  intro x h1 h2
  by_cases a : x / 2 = i
  · rw [a]; exact he x a h2
  · exact h.1 x h1 h2 a
/-- the root is least -/
theorem hOrd_root (h : hOrd k at_ r) : ∀ x, 1 ≤ x → x ≤ k → r (at_ 1) ≤ r (at_ x) := by
  intro x
  induction x using Nat.strongRecOn with
  | _ x ih =>
    intro h1 h2
    by_cases a : x = 1
    · exact Int.le_of_eq (by rw [a])
    · exact Int.le_trans (ih (x / 2) (by omega) (by omega) (by omega)) (h x (by omega) h2)
end ORD
/-- the last node at the root -/
def fLt (k : Nat) (at_ : Nat → Nat) : Nat → Nat := fun x => if x = 1 then at_ k else at_ x
/-- a new node at the end -/
def fNw (k : Nat) (at_ : Nat → Nat) (q : Nat) : Nat → Nat := fun x => if x = k + 1 then q else at_ x
section DMIN
variable {ns : List Nat} {k : Nat} {at_ : Nat → Nat} {oc ys : Nat → Option Nat} {r : Nat → Int}
theorem fLt_1 : fLt k at_ 1 = at_ k := if_pos rfl
theorem fLt_o {x : Nat} (h : x ≠ 1) : fLt k at_ x = at_ x := if_neg h
theorem fLt_inj (hI : fInj ns k at_) (hk : 2 ≤ k) : fInj ns (k - 1) (fLt k at_) := by
  refine ⟨fun x h1 h2 => ?_, fun x y h1 h2 h3 h4 he => ?_⟩
  · unfold fLt
    split
    · exact hI.1 k (by omega) (by omega)
    · exact hI.1 x h1 (by omega)
  · unfold fLt at he
    split at he
    · split at he
      · omega
      · have := hI.2 _ _ (by omega) (by omega) h3 (by omega) he
        omega
    · split at he
      · have := hI.2 _ _ h1 (by omega) (by omega) (by omega) he
        omega
      · exact hI.2 _ _ h1 (by omega) h3 (by omega) he
theorem fLt_has (hI : fInj ns k at_) (hk : 2 ≤ k) (a : Nat) : fHas (k - 1) (fLt k at_) a ↔ fHas k at_ a ∧ a ≠ at_ 1 := by
  constructor
  · rintro ⟨x, h1, h2, h3⟩
    unfold fLt at h3
    split at h3
    · refine ⟨⟨k, by omega, by omega, h3⟩, fun e => ?_⟩
      have := hI.2 k 1 (by omega) (by omega) (by omega) (by omega) (h3.trans e)
      omega
    · refine ⟨⟨x, h1, by omega, h3⟩, fun e => ?_⟩
      have := hI.2 x 1 h1 (by omega) (by omega) (by omega) (h3.trans e)
      omega
  · rintro ⟨⟨x, h1, h2, h3⟩, hne⟩
    have hx1 : x ≠ 1 := fun e => hne (by rw [← h3, e])
    by_cases a1 : x = k
    · exact ⟨1, by omega, by omega, by rw [fLt_1, ← a1]; exact h3⟩
    · exact ⟨x, h1, by omega, by rw [fLt_o hx1]; exact h3⟩
theorem fLt_dn (h : ∀ x, 4 ≤ x → x ≤ k → r (at_ (x / 2)) ≤ r (at_ x)) : hDn (k - 1) (fLt k at_) r 1 := by
  refine ⟨fun x h1 h2 hne => ?_, fun x h1 hx h2 => by omega⟩
  rw [fLt_o (x := x) (by omega), fLt_o (x := x / 2) (by omega)]
  exact h x (by omega) (by omega)
theorem dm_3 (hI : fInj ns k at_) (hR : fRep k at_ oc ys) (hk : k = 3) : fRep (k - 1) (fLt k at_) (va_up oc (at_ k) (some (at_ 2))) (va_up (va_up (va_up ys (at_ (k - 1)) (some (at_ (k / 2)))) (at_ k) none) (at_ 2) (some (at_ k))) := by
  have hIn := hI.2
  intro x h1 h2
  by_cases hx : x = 1
  · rw [hx, fLt_1, up_at hIn (by omega) (by omega) (by omega) (by omega), up_at hIn (by omega) (by omega) (by omega) (by omega), up_at hIn (by omega) (by omega) (by omega) (by omega), up_at hIn (by omega) (by omega) (by omega) (by omega)]
    simp only [fOc, fYs, fLt]
    subst hk
    exact ⟨rfl, rfl⟩
  · rw [fLt_o hx, up_at hIn (by omega) (by omega) (by omega) (by omega), up_at hIn (by omega) (by omega) (by omega) (by omega), up_at hIn (by omega) (by omega) (by omega) (by omega), up_at hIn (by omega) (by omega) (by omega) (by omega), (hR x h1 (by omega)).1]
    have hx2 : x = 2 := by omega
    subst hk
    subst hx2
    exact ⟨rfl, rfl⟩
theorem dm_e (hI : fInj ns k at_) (hR : fRep k at_ oc ys) (hk : 4 ≤ k) (he : k % 2 = 0) : fRep (k - 1) (fLt k at_) (va_up (va_up oc (at_ (k / 2)) none) (at_ k) (some (at_ 2))) (va_up (va_up ys (at_ k) none) (at_ 3) (some (at_ k))) := by
  have hIn := hI.2
  intro x h1 h2
  by_cases hx : x = 1
  · rw [hx, fLt_1, up_at hIn (by omega) (by omega) (by omega) (by omega), up_at hIn (by omega) (by omega) (by omega) (by omega), up_at hIn (by omega) (by omega) (by omega) (by omega), up_at hIn (by omega) (by omega) (by omega) (by omega)]
    simp only [fOc, fYs, fLt]
    refine ⟨?_, ?_⟩ <;> grind
  · rw [fLt_o hx, up_at hIn (by omega) (by omega) (by omega) (by omega), up_at hIn (by omega) (by omega) (by omega) (by omega), up_at hIn (by omega) (by omega) (by omega) (by omega), up_at hIn (by omega) (by omega) (by omega) (by omega), (hR x h1 (by omega)).1, (hR x h1 (by omega)).2]
    clear hIn hR hI
    simp only [fOc, fYs, fLt]
    refine ⟨?_, ?_⟩ <;> grind
theorem dm_o (hI : fInj ns k at_) (hR : fRep k at_ oc ys) (hk : 5 ≤ k) (he : k % 2 = 1) : fRep (k - 1) (fLt k at_) (va_up oc (at_ k) (some (at_ 2))) (va_up (va_up (va_up ys (at_ (k - 1)) (some (at_ (k / 2)))) (at_ k) none) (at_ 3) (some (at_ k))) := by
  have hIn := hI.2
  intro x h1 h2
  by_cases hx : x = 1
  · rw [hx, fLt_1, up_at hIn (by omega) (by omega) (by omega) (by omega), up_at hIn (by omega) (by omega) (by omega) (by omega), up_at hIn (by omega) (by omega) (by omega) (by omega), up_at hIn (by omega) (by omega) (by omega) (by omega)]
    simp only [fOc, fYs, fLt]
    refine ⟨?_, ?_⟩ <;> grind
  · rw [fLt_o hx, up_at hIn (by omega) (by omega) (by omega) (by omega), up_at hIn (by omega) (by omega) (by omega) (by omega), up_at hIn (by omega) (by omega) (by omega) (by omega), up_at hIn (by omega) (by omega) (by omega) (by omega), (hR x h1 (by omega)).1, (hR x h1 (by omega)).2]
    clear hIn hR hI
    simp only [fOc, fYs, fLt]
    refine ⟨?_, ?_⟩ <;> grind
variable {q : Nat}
theorem fNw_n : fNw k at_ q (k + 1) = q := if_pos rfl
theorem fNw_o {x : Nat} (h : x ≠ k + 1) : fNw k at_ q x = at_ x := if_neg h
theorem fNw_inj (hI : fInj ns k at_) (hq : q ∉ ns) : fInj (q :: ns) (k + 1) (fNw k at_ q) := by
  refine ⟨fun x h1 h2 => ?_, fun x y h1 h2 h3 h4 he => ?_⟩
  · unfold fNw
    split
    · exact List.mem_cons_self
    · exact List.mem_cons_of_mem _ (hI.1 x h1 (by omega))
  · unfold fNw at he
    split at he
    · split at he
      · omega
      · exact (hq (by rw [he]; exact hI.1 y h3 (by omega))).elim
    · split at he
      · exact (hq (by rw [← he]; exact hI.1 x h1 (by omega))).elim
      · exact hI.2 _ _ h1 (by omega) h3 (by omega) he
theorem fNw_has (a : Nat) : fHas (k + 1) (fNw k at_ q) a ↔ a = q ∨ fHas k at_ a := by
  constructor
  · rintro ⟨x, h1, h2, h3⟩
    unfold fNw at h3
    split at h3
    · exact Or.inl h3.symm
    · exact Or.inr ⟨x, h1, by omega, h3⟩
  · rintro (e | ⟨x, h1, h2, h3⟩)
    · exact ⟨k + 1, by omega, by omega, by rw [fNw_n]; exact e.symm⟩
    · exact ⟨x, h1, by omega, by rw [fNw_o (by omega)]; exact h3⟩
theorem fNw_up (h : hOrd k at_ r) : hUp (k + 1) (fNw k at_ q) r (k + 1) := by
  refine ⟨fun x h1 h2 hne => ?_, fun x h1 hx h2 => by omega⟩
  rw [fNw_o hne, fNw_o (x := x / 2) (by omega)]
  exact h x h1 (by omega)
theorem in_e (hI : fInj ns k at_) (hR : fRep k at_ oc ys) (hq : q ∉ ns) (hk : 2 ≤ k) (he : (k + 1) % 2 = 0) (hoc : oc q = none) : fRep (k + 1) (fNw k at_ q) (va_up oc (at_ ((k + 1) / 2)) (some q)) (va_up ys q (some (at_ ((k + 1) / 2)))) := by
  have hIn := hI.2
  have hqn : ∀ x, 1 ≤ x → x ≤ k → at_ x ≠ q := fun x h1 h2 e => hq (by rw [← e]; exact hI.1 x h1 h2)
  intro x h1 h2
  by_cases hx : x = k + 1
  · rw [hx, fNw_n, va_up_n (fun e => hqn _ (by omega) (by omega) e.symm), va_up_s, hoc]
    simp only [fOc, fYs, fNw]
    refine ⟨?_, ?_⟩ <;> grind
  · rw [fNw_o hx, up_at hIn (by omega) (by omega) h1 (by omega), va_up_n (hqn x h1 (by omega)), (hR x h1 (by omega)).1, (hR x h1 (by omega)).2]
    clear hIn hR hI hqn
    simp only [fOc, fYs, fNw]
    refine ⟨?_, ?_⟩ <;> grind
theorem in_o (hI : fInj ns k at_) (hR : fRep k at_ oc ys) (hq : q ∉ ns) (hk : 2 ≤ k) (he : (k + 1) % 2 = 1) (hoc : oc q = none) : fRep (k + 1) (fNw k at_ q) oc (va_up (va_up ys (at_ k) (some q)) q (some (at_ ((k + 1) / 2)))) := by
  have hIn := hI.2
  have hqn : ∀ x, 1 ≤ x → x ≤ k → at_ x ≠ q := fun x h1 h2 e => hq (by rw [← e]; exact hI.1 x h1 h2)
  intro x h1 h2
  by_cases hx : x = k + 1
  · rw [hx, fNw_n, va_up_s, hoc]
    simp only [fOc, fYs, fNw]
    refine ⟨?_, ?_⟩ <;> grind
  · rw [fNw_o hx, va_up_n (hqn x h1 (by omega)), up_at hIn (by omega) (by omega) h1 (by omega), (hR x h1 (by omega)).1, (hR x h1 (by omega)).2]
    clear hIn hR hI hqn
    simp only [fOc, fYs, fNw]
    refine ⟨?_, ?_⟩ <;> grind
end DMIN
end
section
set_option maxRecDepth 100000
/-! ranks: heaps 0, 1 by the key, heaps 2, 3 by its opposite -/
def frk (dn : Bool) (v : Int32) : Int := if dn then -v.toInt else v.toInt
def fcp (dn : Bool) (x y : Int32) : Int32 := if dn then fdwn x y else ford x y
theorem i_m1 : (-1 : Int32).toInt = -1 := by decide
theorem i_0 : (0 : Int32).toInt = 0 := by decide
theorem i_1 : (1 : Int32).toInt = 1 := by decide
theorem ford_t (x y : Int32) : (ford x y).toInt = if x.toInt < y.toInt then -1 else if y.toInt < x.toInt then 1 else 0 := by
  unfold ford
  by_cases h1 : x < y
  · rw [if_pos h1, if_pos (Int32.lt_iff_toInt_lt.mp h1), i_m1]
  · rw [if_neg h1, if_neg (fun z => h1 (Int32.lt_iff_toInt_lt.mpr z))]
    by_cases h2 : y < x
    · rw [if_pos h2, if_pos (Int32.lt_iff_toInt_lt.mp h2), i_1]
    · rw [if_neg h2, if_neg (fun z => h2 (Int32.lt_iff_toInt_lt.mpr z)), i_0]
theorem fdwn_t (x y : Int32) : (fdwn x y).toInt = if x.toInt < y.toInt then 1 else if y.toInt < x.toInt then -1 else 0 := by
  unfold fdwn
  by_cases h1 : x < y
  · rw [if_pos h1, if_pos (Int32.lt_iff_toInt_lt.mp h1), i_1]
  · rw [if_neg h1, if_neg (fun z => h1 (Int32.lt_iff_toInt_lt.mpr z))]
    by_cases h2 : y < x
    · rw [if_pos h2, if_pos (Int32.lt_iff_toInt_lt.mp h2), i_m1]
    · rw [if_neg h2, if_neg (fun z => h2 (Int32.lt_iff_toInt_lt.mpr z)), i_0]
theorem fcp_f (x y : Int32) : fcp false x y = ford x y := by
  unfold fcp
  exact if_neg Bool.false_ne_true
theorem fcp_t (x y : Int32) : fcp true x y = fdwn x y := by
  unfold fcp
  exact if_pos rfl
theorem frk_f (x : Int32) : frk false x = x.toInt := rfl
theorem frk_t (x : Int32) : frk true x = -x.toInt := rfl
theorem fcp_lt (dn : Bool) (x y : Int32) : fcp dn x y < 0 ↔ frk dn x < frk dn y := by
  rw [Int32.lt_iff_toInt_lt, i_0]
  cases dn
  · rw [fcp_f, frk_f, frk_f, ford_t]
    split
    · constructor <;> intro <;> omega
    · split <;> constructor <;> intro <;> omega
  · rw [fcp_t, frk_t, frk_t, fdwn_t]
    split
    · constructor <;> intro <;> omega
    · split <;> constructor <;> intro <;> omega
theorem fcp_gt (dn : Bool) (x y : Int32) : 0 < fcp dn x y ↔ frk dn y < frk dn x := by
  rw [Int32.lt_iff_toInt_lt, i_0]
  cases dn
  · rw [fcp_f, frk_f, frk_f, ford_t]
    split
    · constructor <;> intro <;> omega
    · split <;> constructor <;> intro <;> omega
  · rw [fcp_t, frk_t, frk_t, fdwn_t]
    split
    · constructor <;> intro <;> omega
    · split <;> constructor <;> intro <;> omega
theorem fcp_0 (dn : Bool) (x y : Int32) (h : fcp dn x y = 0) : frk dn x = frk dn y := by
  have h1 := fcp_lt dn x y
  have h2 := fcp_gt dn x y
  rw [h] at h1 h2
  have e1 : ¬ frk dn x < frk dn y := fun e => absurd (h1.mpr e) (by decide)
  have e2 : ¬ frk dn y < frk dn x := fun e => absurd (h2.mpr e) (by decide)
  omega
/-- the comparator of a heap -/
def fcm (g : fG) (dn : Bool) : Option Nat := if dn then some g.2.2.2.1.2 else none
/-- the nodes' keys -/
def fKv (ns : List Nat) (kf : Nat → Nat) (w0 : fW) (kv : Nat → Int32) : Prop := ∀ a ∈ ns, kf a ∉ ns ∧ w0 (kf a) = some (fInt (kv a))
theorem fKv.set {ns : List Nat} {kf : Nat → Nat} {w0 : fW} {kv : Nat → Int32} {h : Nat} {cmp : Option Nat} {sz : Int64} {root : Option Nat} (hK : fKv ns kf w0 kv) (hw : w0 h = some (hpc cmp sz root)) (e : va_E) : fKv ns kf (fset w0 h e) kv := by
  intro a ha
  refine ⟨(hK a ha).1, ?_⟩
  rw [fset_n (fun x => ?_)]
  · exact (hK a ha).2
  · have := (hK a ha).2
    rw [x, hw] at this
    cases this
end
section
/-! rows of the heap's own methods: compare, getParent, swap; fixup -/
set_option maxRecDepth 100000
theorem fset_fset {w : fW} {a : Nat} {e e' : va_E} : fset (fset w a e) a e' = fset w a e' := by
  funext x
  by_cases hx : x = a
  · subst hx; rw [fset_s, fset_s]
  · rw [fset_n hx, fset_n hx, fset_n hx]
theorem fPar_sw {at_ : Nat → Nat} {i j : Nat} (hi : 1 ≤ i) (hij : i < j) : fPar (fSw at_ i j) i = fPar at_ i := by
  unfold fPar
  by_cases h : i ≤ 1
  · rw [if_pos h, if_pos h]
  · rw [if_neg h, if_neg h, fSw_o (by omega) (by omega)]
/-- what a walk over a heap's nodes keeps -/
def fxI (ns : List Nat) (k : Nat) (at_ : Nat → Nat) (oc ys : Nat → Option Nat) (at1 : Nat → Nat) (oc1 ys1 : Nat → Option Nat) : Prop := fInj ns k at1 ∧ fRep k at1 oc1 ys1 ∧ (∀ a, fHas k at1 a ↔ fHas k at_ a) ∧ fOut k at_ oc oc1 ∧ fOut k at_ ys ys1
theorem fOut.tr {k : Nat} {at_ at1 : Nat → Nat} {f f1 f2 : Nat → Option Nat} (hs : ∀ a, fHas k at1 a ↔ fHas k at_ a) (h : fOut k at_ f f1) (h2 : fOut k at1 f1 f2) : fOut k at_ f f2 := by
  intro a ha
  rw [h2 a (fun x h1 h3 e => ?_), h a ha]
  obtain ⟨y, y1, y2, y3⟩ := (hs a).mp ⟨x, h1, h3, e⟩
  exact ha y y1 y2 y3
theorem fxI.rf {ns : List Nat} {k : Nat} {at_ : Nat → Nat} {oc ys : Nat → Option Nat} (hI : fInj ns k at_) (hR : fRep k at_ oc ys) : fxI ns k at_ oc ys at_ oc ys := ⟨hI, hR, fun _ => Iff.rfl, fOut.rf, fOut.rf⟩
theorem fxI.sw {ns : List Nat} {k : Nat} {at_ at1 : Nat → Nat} {oc ys oc1 ys1 oc2 ys2 : Nat → Option Nat} {i j : Nat} (X : fxI ns k at_ oc ys at1 oc1 ys1) (hi : 1 ≤ i) (hij : i < j) (hj : j ≤ k) (hR : fRep k (fSw at1 i j) oc2 ys2) (h1 : fOut k at1 oc1 oc2) (h2 : fOut k at1 ys1 ys2) : fxI ns k at_ oc ys (fSw at1 i j) oc2 ys2 :=
  ⟨fSw_inj X.1 hi hij hj, hR, fun a => (fSw_has hi hij hj a).trans (X.2.2.1 a), X.2.2.2.1.tr X.2.2.1 h1, X.2.2.2.2.tr X.2.2.1 h2⟩
section HROWS
variable {p : Program} {l : Launch} {e : Env} {R : Room} {s : State} {m : MethodId} {args : Array Value} {below : List Frame} {meth : Method} {c : Code} {H : Heap} {locs : List Loc} {cells slots : Nat} {Q : State → Prop}
variable {g : fG} {cc : ByteArray} {nl : Nat} {rt : Option FieldType} {pc : Nat} {ls : Array Slot} {rest : List Value}
variable {ns : List Nat} {kf vf : Nat → Nat} {oc ys : Nat → Option Nat} {ow : Nat → Nat} {w0 : fW} {h a b : Nat} {kv : Nat → Int32} {cmp root : Option Nat} {sz : Int64} {k i j : Nat} {at_ : Nat → Nat}
theorem cx_key (hK : fKv ns kf w0 kv) (ha : a ∈ ns) : mkw ns kf vf oc ys ow w0 (kf a) = some (fInt (kv a)) := (mkw_o (hK a ha).1).trans (hK a ha).2
theorem cx_cast (C : fC g p s m args meth c RX1 cc nl rt) (hK : fKv ns kf w0 kv) (ha : a ∈ ns) (hP : HP g (mkw ns kf vf oc ys ow w0) H) (hdg : decode cc pc = .ok (.checkcast 36, 3))
    (kk : W p l e R s m args below meth c H locs cells slots Q (F0 m (pc + 3) ls (.ref (kf a) :: rest))) : W p l e R s m args below meth c H locs cells slots Q (F0 m pc ls (.ref (kf a) :: rest)) :=
  va_castY C.1 C.2.1 C.2.2.2.2.2.1 (C.2.2.2.2.2.2.1 _ q211) C.2.2.2.2.2.2.2.2.2.1.1 (fw_recv (ci := 4) C hP (cx_key hK ha) rfl) hdg kk
theorem cx_order (C : fC g p s m args meth c RX1 cc nl rt) (hK : fKv ns kf w0 kv) (ha : a ∈ ns) (hb : b ∈ ns) (hR : 4 ≤ R.frames ∧ 92 ≤ R.locals) (hP : HP g (mkw ns kf vf oc ys ow w0) H) (hS : va_S (fA g) s.heap H locs) (hsz : ls.size = nl) (hroom : (rest.map fun v => v.category).sum ≤ 8) (hf : cells ≤ R.cells ∧ slots ≤ R.slots) (hdg : decode cc pc = .ok (.invokestatic 42, 3))
    (kk : ∀ (H1 : Heap) (locs1 : List Loc), HP g (mkw ns kf vf oc ys ow w0) H1 → va_S (fA g) s.heap H1 locs1 → W p l e R s m args below meth c H1 locs1 cells slots Q (F0 m (pc + 3) ls (.int (fcp false (kv a) (kv b)) :: rest))) : W p l e R s m args below meth c H locs cells slots Q (F0 m pc ls (.ref (kf b) :: .ref (kf a) :: rest)) := by
  refine fw_S C 2 (As := [.ref (kf a), .ref (kf b)]) (rest := rest) (m_order l g _ (kf a) (kf b) (kv a) (kv b) (cx_key hK ha) (cx_key hK hb)) (lw_S q212 q213 q13 q214) (by decide +kernel) ⟨Nat.le_trans (Nat.le_of_ble_eq_true rfl) hR.1, Nat.le_trans (Nat.le_of_ble_eq_true rfl) hR.2⟩ hP hS rfl rfl hsz hroom hdg hf ?_
  rintro r w1 H1 locs1 ⟨rfl, e1⟩ hP hS
  rw [e1] at hP
  rw [← fcp_f (kv a) (kv b)]
  exact kk H1 locs1 hP hS
theorem cx_comp (C : fC g p s m args meth c RX1 cc nl rt) (hK : fKv ns kf w0 kv) (ha : a ∈ ns) (hb : b ∈ ns) (hR : 4 ≤ R.frames ∧ 92 ≤ R.locals) (hP : HP g (mkw ns kf vf oc ys ow w0) H) (hS : va_S (fA g) s.heap H locs) (hsz : ls.size = nl) (hroom : (rest.map fun v => v.category).sum ≤ 8) (hf : cells ≤ R.cells ∧ slots ≤ R.slots) (hdg : decode cc pc = .ok (.invokeinterface 48 3, 5))
    (kk : ∀ (H1 : Heap) (locs1 : List Loc), HP g (mkw ns kf vf oc ys ow w0) H1 → va_S (fA g) s.heap H1 locs1 → W p l e R s m args below meth c H1 locs1 cells slots Q (F0 m (pc + 5) ls (.int (fcp true (kv a) (kv b)) :: rest))) : W p l e R s m args below meth c H locs cells slots Q (F0 m pc ls (.ref (kf b) :: .ref (kf a) :: .ref g.2.2.2.1.2 :: rest)) := by
  refine fw_F C 2 (x := ⟨"java/util/Comparator", "compare", "(Ljava/lang/Object;Ljava/lang/Object;)I"⟩) (Cn := "BinaryTreeAddressableHeapDesk$Down") (As := [.ref (kf a), .ref (kf b)]) (rest := rest) (m_compare l g _ (kf a) (kf b) (kv a) (kv b) (cx_key hK ha) (cx_key hK hb)) (fw_lF q221 q225 q227 q560 q229) C.2.2.2.2.2.2.2.2.2.1.2.2.2.2.2.2.2.2.2.2.1 (by decide +kernel) ⟨Nat.le_trans (Nat.le_of_ble_eq_true rfl) hR.1, Nat.le_trans (Nat.le_of_ble_eq_true rfl) hR.2⟩ hP hS (va_Orecv C.2.2.2.2.2.2.2.2.2.2.2.2.2.2.2 hS) rfl rfl hsz hroom hdg hf ?_
  rintro r w1 H1 locs1 ⟨rfl, e1⟩ hP hS
  rw [e1] at hP
  rw [← fcp_t (kv a) (kv b)]
  exact kk H1 locs1 hP hS
theorem gx_par (C : fC g p s m args meth c RX1 cc nl rt) (hP : HP g (mkw ns kf vf oc ys ow w0) H) (hS : va_S (fA g) s.heap H locs) (hh : h ∉ ns) (hw : w0 h = some (hpc cmp sz root)) (hI : fInj ns k at_) (hRe : fRep k at_ oc ys) (h1 : 1 ≤ j) (hk : j ≤ k) (hR : 4 ≤ R.frames ∧ 92 ≤ R.locals) (hsz : ls.size = nl) (hroom : (rest.map fun v => v.category).sum ≤ 8) (hf : cells ≤ R.cells ∧ slots ≤ R.slots) (hdg : decode cc pc = .ok (.invokevirtual 75, 3))
    (kk : ∀ (H1 : Heap) (locs1 : List Loc), HP g (mkw ns kf vf oc ys ow w0) H1 → va_S (fA g) s.heap H1 locs1 → W p l e R s m args below meth c H1 locs1 cells slots Q (F0 m (pc + 3) ls (va_rf (fPar at_ j) :: rest))) : W p l e R s m args below meth c H locs cells slots Q (F0 m pc ls (.ref (at_ j) :: .ref h :: rest)) := by
  refine fw_V C 1 (As := [.ref (at_ j)]) (rest := rest) (m_getParent l g ns kf vf oc ys ow w0 h k at_ j hI hRe h1 hk) (lw_V q305 q307 qs5 q14 q308) (by decide +kernel) ⟨Nat.le_trans (Nat.le_of_ble_eq_true rfl) hR.1, Nat.le_trans (Nat.le_of_ble_eq_true rfl) hR.2⟩ hP hS ((mkw_o hh).trans hw) rfl rfl rfl hsz hroom hdg hf ?_
  rintro r w1 H1 locs1 ⟨rfl, e1⟩ hP hS
  rw [e1] at hP
  exact kk H1 locs1 hP hS
theorem gx_swap (C : fC g p s m args meth c RX1 cc nl rt) (hP : HP g (mkw ns kf vf oc ys ow w0) H) (hS : va_S (fA g) s.heap H locs) (hA : ∀ a ∈ ns, g.2.1 ≤ a) (hhA : g.2.1 ≤ h) (hh : h ∉ ns) (hw : w0 h = some (hpc cmp sz (some (at_ 1)))) (hI : fInj ns k at_) (hRe : fRep k at_ oc ys) (hj : j / 2 = i) (hi : 1 ≤ i) (hk : j ≤ k) (hR : 4 ≤ R.frames ∧ 92 ≤ R.locals) (hsz : ls.size = nl) (hroom : (rest.map fun v => v.category).sum ≤ 8) (hf : cells ≤ R.cells ∧ slots ≤ R.slots) (hdg : decode cc pc = .ok (.invokevirtual 79, 3))
    (kk : ∀ (oc2 ys2 : Nat → Option Nat) (H1 : Heap) (locs1 : List Loc), fRep k (fSw at_ i j) oc2 ys2 → fOut k at_ oc oc2 → fOut k at_ ys ys2 → HP g (mkw ns kf vf oc2 ys2 ow (fset w0 h (hpc cmp sz (some (fSw at_ i j 1))))) H1 → va_S (fA g) s.heap H1 locs1 → W p l e R s m args below meth c H1 locs1 cells slots Q (F0 m (pc + 3) ls rest)) : W p l e R s m args below meth c H locs cells slots Q (F0 m pc ls (va_rf (fPar at_ i) :: .ref (at_ i) :: .ref (at_ j) :: .ref h :: rest)) := by
  refine fw_V C 3 (As := [.ref (at_ j), .ref (at_ i), va_rf (fPar at_ i)]) (rest := rest) (m_swap l g ns kf vf oc ys ow w0 h cmp sz k at_ i j hA hhA hh hw hI hRe (by omega) hi hk) (lw_V q309 q311 qs6 q14 q312) (by decide +kernel) ⟨Nat.le_trans (Nat.le_of_ble_eq_true rfl) hR.1, Nat.le_trans (Nat.le_of_ble_eq_true rfl) hR.2⟩ hP hS ((mkw_o hh).trans hw) rfl rfl rfl hsz hroom hdg hf ?_
  rintro r w1 H1 locs1 ⟨rfl, oc2, ys2, e1, hR2, hO1, hO2⟩ hP hS
  rw [e1] at hP
  exact kk oc2 ys2 H1 locs1 hR2 hO1 hO2 hP hS
end HROWS
def fxQ (ns : List Nat) (kf vf : Nat → Nat) (oc ys : Nat → Option Nat) (ow : Nat → Nat) (w0 : fW) (h : Nat) (cmp : Option Nat) (sz : Int64) (k : Nat) (at_ : Nat → Nat) (r : Nat → Int) : Option Value → fW → Prop := fun v w1 => v = none ∧ ∃ (at1 : Nat → Nat) (oc1 ys1 : Nat → Option Nat), w1 = mkw ns kf vf oc1 ys1 ow (fset w0 h (hpc cmp sz (some (at1 1)))) ∧ fxI ns k at_ oc ys at1 oc1 ys1 ∧ hOrd k at1 r
set_option maxHeartbeats 4000000 in
/-- fixup of the node at position j0 -/
theorem m_fixup (l : Launch) (g : fG) (ns : List Nat) (kf vf : Nat → Nat) (oc ys : Nat → Option Nat) (ow : Nat → Nat) (w0 : fW) (h : Nat) (dn : Bool) (sz : Int64) (kv : Nat → Int32) (k : Nat) (at_ : Nat → Nat) (j0 : Nat) (hA : ∀ a ∈ ns, g.2.1 ≤ a) (hhA : g.2.1 ≤ h) (hh : h ∉ ns) (hw : w0 h = some (hpc (fcm g dn) sz (some (at_ 1)))) (hK : fKv ns kf w0 kv) (hI : fInj ns k at_) (hRe : fRep k at_ oc ys) (h1 : 1 ≤ j0) (hk : j0 ≤ k) (hU : hUp k at_ (fun a => frk dn (kv a)) j0) :
    fMet l g yX1_fixup cX1_fixup 4 none 5 120 0 0 [.ref h, .ref (at_ j0)] (mkw ns kf vf oc ys ow w0) (fxQ ns kf vf oc ys ow w0 h (fcm g dn) sz k at_ (fun a => frk dn (kv a))) := by
  refine fw_of (by decide) (Nat.le_of_ble_eq_true rfl) ?_
  intro p e s m below meth c ls C hnm hP hl
  have hS : va_S (fA g) s.heap s.heap [] := va_S.rf
  rw [show w0 = fset w0 h (hpc (fcm g dn) sz (some (at_ 1))) from (fset_id hw).symm] at hP
  have hX : fxI ns k at_ oc ys at_ oc ys := fxI.rf hI hRe
  cases dn with
  | false =>
    have loop : ∀ (j : Nat) (at1 : Nat → Nat) (oc1 ys1 : Nat → Option Nat) (H : Heap) (locs : List Loc) (ls : Array Slot), 1 ≤ j → j ≤ k → fxI ns k at_ oc ys at1 oc1 ys1 → hUp k at1 (fun a => frk false (kv a)) j → HP g (mkw ns kf vf oc1 ys1 ow (fset w0 h (hpc (fcm g false) sz (some (at1 1))))) H → va_S (fA g) s.heap H locs → lv_has ls 4 [(2, va_rf (fPar at1 j)), (0, .ref h), (1, .ref (at1 j))] →
        W p l e (fRm 5 120 0 0) s m ([.ref h, .ref (at_ j0)] : List Value).toArray below meth c H locs 0 0 (MQ below (fQ g (fxQ ns kf vf oc ys ow w0 h (fcm g false) sz k at_ (fun a => frk false (kv a)))) ([.ref h, .ref (at_ j0)] : List Value).toArray s 0 0 (fA g)) (F0 m 13 ls []) := by
      intro j
      induction j using Nat.strongRecOn with
      | _ j ih =>
        intro at1 oc1 ys1 H locs ls h1 hk X hU hP hS hl
        have fin : ∀ (H : Heap) (locs : List Loc), HP g (mkw ns kf vf oc1 ys1 ow (fset w0 h (hpc (fcm g false) sz (some (at1 1))))) H → va_S (fA g) s.heap H locs → hOrd k at1 (fun a => frk false (kv a)) → W p l e (fRm 5 120 0 0) s m ([.ref h, .ref (at_ j0)] : List Value).toArray below meth c H locs 0 0 (MQ below (fQ g (fxQ ns kf vf oc ys ow w0 h (fcm g false) sz k at_ (fun a => frk false (kv a)))) ([.ref h, .ref (at_ j0)] : List Value).toArray s 0 0 (fA g)) (F0 m 55 ls []) := by
          intro H locs hP hS hO
          refine lv_goto (tgt := 109) C.1 C.2.1 dX1_fixup_55 (by decide) ?_
          exact fw_vret C ⟨rfl, at1, oc1, ys1, rfl, X, hO⟩ hP hS ⟨Nat.le_of_ble_eq_true rfl, Nat.le_of_ble_eq_true rfl⟩ dX1_fixup_109
        have hpar : fPar at1 j = if j ≤ 1 then none else some (at1 (j / 2)) := rfl
        by_cases hj1 : j ≤ 1
        · rw [if_pos hj1] at hpar
          rw [hpar] at hl
          refine lv_aload_nN C.1 C.2.1 dX1_fixup_13 rfl (lv_at hl 0 rfl) ?_
          refine lv_ifnullN (tgt := 55) C.1 C.2.1 dX1_fixup_14 (by decide) ?_
          exact fin H locs hP hS (hUp_end hU (Or.inl hj1))
        · rw [if_neg hj1] at hpar
          rw [hpar] at hl
          obtain ⟨i, hi⟩ : ∃ i, j / 2 = i := ⟨_, rfl⟩
          rw [hi] at hl
          have hKw := hK.set hw (hpc (fcm g false) sz (some (at1 1)))
          have hn := X.1.1 j h1 hk
          have hp := X.1.1 i (by omega) (by omega)
          refine lv_aload_n C.1 C.2.1 dX1_fixup_13 rfl (lv_at hl 0 rfl) ?_
          refine lv_ifnull C.1 C.2.1 dX1_fixup_14 ?_
          refine lv_aload_n C.1 C.2.1 dX1_fixup_17 rfl (lv_at hl 2 rfl) ?_
          refine nx_key C hP hn dX1_fixup_18 ?_
          refine cx_cast C hKw hn hP dX1_fixup_21 ?_
          refine lv_aload_n C.1 C.2.1 dX1_fixup_24 rfl (lv_at hl 0 rfl) ?_
          refine nx_key C hP hp dX1_fixup_25 ?_
          refine cx_order C hKw hn hp ⟨Nat.le_of_ble_eq_true rfl, Nat.le_of_ble_eq_true rfl⟩ hP hS hl.1 (Nat.le_of_ble_eq_true rfl) ⟨Nat.le_of_ble_eq_true rfl, Nat.le_of_ble_eq_true rfl⟩ dX1_fixup_28 (fun H locs hP hS => ?_)
          refine lv_if_lt (tgt := 37) C.1 C.2.1 dX1_fixup_31 (by decide) (fun c1 => ?_) (fun c1 => ?_)
          · refine lv_aload_n C.1 C.2.1 dX1_fixup_37 rfl (lv_at hl 1 rfl) ?_
            refine lv_aload_n C.1 C.2.1 dX1_fixup_38 rfl (lv_at hl 0 rfl) ?_
            refine gx_par C hP hS hh fset_s X.1 X.2.1 (by omega) (by omega) ⟨Nat.le_of_ble_eq_true rfl, Nat.le_of_ble_eq_true rfl⟩ hl.1 (Nat.le_of_ble_eq_true rfl) ⟨Nat.le_of_ble_eq_true rfl, Nat.le_of_ble_eq_true rfl⟩ dX1_fixup_39 (fun H locs hP hS => ?_)
            refine fv_astore_n (lv' := [(3, va_rf (fPar at1 i)), (2, .ref (at1 i)), (0, .ref h), (1, .ref (at1 j))]) C dX1_fixup_42 rfl hl (by decide) rfl (fun ls hl => ?_)
            refine lv_aload_n C.1 C.2.1 dX1_fixup_43 rfl (lv_at hl 2 rfl) ?_
            refine lv_aload_n C.1 C.2.1 dX1_fixup_44 rfl (lv_at hl 3 rfl) ?_
            refine lv_aload_n C.1 C.2.1 dX1_fixup_45 rfl (lv_at hl 1 rfl) ?_
            refine fv_aload_n C dX1_fixup_46 rfl (lv_at hl 0 rfl) ?_
            refine gx_swap C hP hS hA hhA hh fset_s X.1 X.2.1 hi (by omega) hk ⟨Nat.le_of_ble_eq_true rfl, Nat.le_of_ble_eq_true rfl⟩ hl.1 (Nat.le_of_ble_eq_true rfl) ⟨Nat.le_of_ble_eq_true rfl, Nat.le_of_ble_eq_true rfl⟩ dX1_fixup_47 (fun oc2 ys2 H locs hR2 hO1 hO2 hP hS => ?_)
            rw [fset_fset] at hP
            refine fv_aload_n C dX1_fixup_50 rfl (lv_at hl 0 rfl) ?_
            refine fv_astore_n (lv' := [(2, va_rf (fPar at1 i)), (3, va_rf (fPar at1 i)), (0, .ref h), (1, .ref (at1 j))]) C dX1_fixup_51 rfl hl (by decide) rfl (fun ls hl => ?_)
            refine lv_goto (tgt := 13) C.1 C.2.1 dX1_fixup_52 (by decide) ?_
            have hl2 : lv_has ls 4 [(2, va_rf (fPar (fSw at1 i j) i)), (0, .ref h), (1, .ref (fSw at1 i j i))] := by
              rw [fPar_sw (by omega) (by omega), fSw_i]
              exact lv_sub hl [0, 2, 3] rfl
            exact ih i (by omega) (fSw at1 i j) oc2 ys2 H locs ls (by omega) (by omega) (X.sw (by omega) (by omega) hk hR2 hO1 hO2) (hUp_step (by omega) hi hk hU (Int.le_of_lt ((fcp_lt false _ _).mp c1))) hP hS hl2
          · have hle : frk false (kv (at1 i)) ≤ frk false (kv (at1 j)) := Int.not_lt.mp (mt (fcp_lt false _ _).mpr c1)
            refine lv_goto (tgt := 55) C.1 C.2.1 dX1_fixup_34 (by decide) ?_
            exact fin H locs hP hS (hUp_end hU (Or.inr (by rw [hi]; exact hle)))
    refine lv_aload_n C.1 C.2.1 dX1_fixup_0 rfl (lv_at hl 0 rfl) ?_
    refine hx_cmp (v := .null) C hP hh fset_s rfl dX1_fixup_1 ?_
    refine lv_ifnonnullN C.1 C.2.1 dX1_fixup_4 ?_
    refine lv_aload_n C.1 C.2.1 dX1_fixup_7 rfl (lv_at hl 0 rfl) ?_
    refine lv_aload_n C.1 C.2.1 dX1_fixup_8 rfl (lv_at hl 1 rfl) ?_
    refine gx_par C hP hS hh fset_s hI hRe h1 hk ⟨Nat.le_of_ble_eq_true rfl, Nat.le_of_ble_eq_true rfl⟩ hl.1 (Nat.le_of_ble_eq_true rfl) ⟨Nat.le_of_ble_eq_true rfl, Nat.le_of_ble_eq_true rfl⟩ dX1_fixup_9 (fun H locs hP hS => ?_)
    refine fv_astore_n (lv' := [(2, va_rf (fPar at_ j0)), (0, .ref h), (1, .ref (at_ j0))]) C dX1_fixup_12 rfl hl (by decide) rfl (fun ls hl => ?_)
    exact loop j0 at_ oc ys H locs ls h1 hk hX hU hP hS hl
  | true =>
    have loop : ∀ (j : Nat) (at1 : Nat → Nat) (oc1 ys1 : Nat → Option Nat) (H : Heap) (locs : List Loc) (ls : Array Slot), 1 ≤ j → j ≤ k → fxI ns k at_ oc ys at1 oc1 ys1 → hUp k at1 (fun a => frk true (kv a)) j → HP g (mkw ns kf vf oc1 ys1 ow (fset w0 h (hpc (fcm g true) sz (some (at1 1))))) H → va_S (fA g) s.heap H locs → lv_has ls 4 [(2, va_rf (fPar at1 j)), (0, .ref h), (1, .ref (at1 j))] →
        W p l e (fRm 5 120 0 0) s m ([.ref h, .ref (at_ j0)] : List Value).toArray below meth c H locs 0 0 (MQ below (fQ g (fxQ ns kf vf oc ys ow w0 h (fcm g true) sz k at_ (fun a => frk true (kv a)))) ([.ref h, .ref (at_ j0)] : List Value).toArray s 0 0 (fA g)) (F0 m 64 ls []) := by
      intro j
      induction j using Nat.strongRecOn with
      | _ j ih =>
        intro at1 oc1 ys1 H locs ls h1 hk X hU hP hS hl
        have fin : ∀ (H : Heap) (locs : List Loc), HP g (mkw ns kf vf oc1 ys1 ow (fset w0 h (hpc (fcm g true) sz (some (at1 1))))) H → va_S (fA g) s.heap H locs → hOrd k at1 (fun a => frk true (kv a)) → W p l e (fRm 5 120 0 0) s m ([.ref h, .ref (at_ j0)] : List Value).toArray below meth c H locs 0 0 (MQ below (fQ g (fxQ ns kf vf oc ys ow w0 h (fcm g true) sz k at_ (fun a => frk true (kv a)))) ([.ref h, .ref (at_ j0)] : List Value).toArray s 0 0 (fA g)) (F0 m 109 ls []) := by
          intro H locs hP hS hO
          exact fw_vret C ⟨rfl, at1, oc1, ys1, rfl, X, hO⟩ hP hS ⟨Nat.le_of_ble_eq_true rfl, Nat.le_of_ble_eq_true rfl⟩ dX1_fixup_109
        have hpar : fPar at1 j = if j ≤ 1 then none else some (at1 (j / 2)) := rfl
        by_cases hj1 : j ≤ 1
        · rw [if_pos hj1] at hpar
          rw [hpar] at hl
          refine lv_aload_nN C.1 C.2.1 dX1_fixup_64 rfl (lv_at hl 0 rfl) ?_
          refine lv_ifnullN (tgt := 109) C.1 C.2.1 dX1_fixup_65 (by decide) ?_
          exact fin H locs hP hS (hUp_end hU (Or.inl hj1))
        · rw [if_neg hj1] at hpar
          rw [hpar] at hl
          obtain ⟨i, hi⟩ : ∃ i, j / 2 = i := ⟨_, rfl⟩
          rw [hi] at hl
          have hKw := hK.set hw (hpc (fcm g true) sz (some (at1 1)))
          have hn := X.1.1 j h1 hk
          have hp := X.1.1 i (by omega) (by omega)
          refine lv_aload_n C.1 C.2.1 dX1_fixup_64 rfl (lv_at hl 0 rfl) ?_
          refine lv_ifnull C.1 C.2.1 dX1_fixup_65 ?_
          refine lv_aload_n C.1 C.2.1 dX1_fixup_68 rfl (lv_at hl 1 rfl) ?_
          refine hx_cmp (v := .ref g.2.2.2.1.2) C hP hh fset_s rfl dX1_fixup_69 ?_
          refine lv_aload_n C.1 C.2.1 dX1_fixup_72 rfl (lv_at hl 2 rfl) ?_
          refine nx_key C hP hn dX1_fixup_73 ?_
          refine lv_aload_n C.1 C.2.1 dX1_fixup_76 rfl (lv_at hl 0 rfl) ?_
          refine nx_key C hP hp dX1_fixup_77 ?_
          refine cx_comp C hKw hn hp ⟨Nat.le_of_ble_eq_true rfl, Nat.le_of_ble_eq_true rfl⟩ hP hS hl.1 (Nat.le_of_ble_eq_true rfl) ⟨Nat.le_of_ble_eq_true rfl, Nat.le_of_ble_eq_true rfl⟩ dX1_fixup_80 (fun H locs hP hS => ?_)
          refine lv_if_lt (tgt := 91) C.1 C.2.1 dX1_fixup_85 (by decide) (fun c1 => ?_) (fun c1 => ?_)
          · refine lv_aload_n C.1 C.2.1 dX1_fixup_91 rfl (lv_at hl 1 rfl) ?_
            refine lv_aload_n C.1 C.2.1 dX1_fixup_92 rfl (lv_at hl 0 rfl) ?_
            refine gx_par C hP hS hh fset_s X.1 X.2.1 (by omega) (by omega) ⟨Nat.le_of_ble_eq_true rfl, Nat.le_of_ble_eq_true rfl⟩ hl.1 (Nat.le_of_ble_eq_true rfl) ⟨Nat.le_of_ble_eq_true rfl, Nat.le_of_ble_eq_true rfl⟩ dX1_fixup_93 (fun H locs hP hS => ?_)
            refine fv_astore_n (lv' := [(3, va_rf (fPar at1 i)), (2, .ref (at1 i)), (0, .ref h), (1, .ref (at1 j))]) C dX1_fixup_96 rfl hl (by decide) rfl (fun ls hl => ?_)
            refine lv_aload_n C.1 C.2.1 dX1_fixup_97 rfl (lv_at hl 2 rfl) ?_
            refine lv_aload_n C.1 C.2.1 dX1_fixup_98 rfl (lv_at hl 3 rfl) ?_
            refine lv_aload_n C.1 C.2.1 dX1_fixup_99 rfl (lv_at hl 1 rfl) ?_
            refine fv_aload_n C dX1_fixup_100 rfl (lv_at hl 0 rfl) ?_
            refine gx_swap C hP hS hA hhA hh fset_s X.1 X.2.1 hi (by omega) hk ⟨Nat.le_of_ble_eq_true rfl, Nat.le_of_ble_eq_true rfl⟩ hl.1 (Nat.le_of_ble_eq_true rfl) ⟨Nat.le_of_ble_eq_true rfl, Nat.le_of_ble_eq_true rfl⟩ dX1_fixup_101 (fun oc2 ys2 H locs hR2 hO1 hO2 hP hS => ?_)
            rw [fset_fset] at hP
            refine fv_aload_n C dX1_fixup_104 rfl (lv_at hl 0 rfl) ?_
            refine fv_astore_n (lv' := [(2, va_rf (fPar at1 i)), (3, va_rf (fPar at1 i)), (0, .ref h), (1, .ref (at1 j))]) C dX1_fixup_105 rfl hl (by decide) rfl (fun ls hl => ?_)
            refine lv_goto (tgt := 64) C.1 C.2.1 dX1_fixup_106 (by decide) ?_
            have hl2 : lv_has ls 4 [(2, va_rf (fPar (fSw at1 i j) i)), (0, .ref h), (1, .ref (fSw at1 i j i))] := by
              rw [fPar_sw (by omega) (by omega), fSw_i]
              exact lv_sub hl [0, 2, 3] rfl
            exact ih i (by omega) (fSw at1 i j) oc2 ys2 H locs ls (by omega) (by omega) (X.sw (by omega) (by omega) hk hR2 hO1 hO2) (hUp_step (by omega) hi hk hU (Int.le_of_lt ((fcp_lt true _ _).mp c1))) hP hS hl2
          · have hle : frk true (kv (at1 i)) ≤ frk true (kv (at1 j)) := Int.not_lt.mp (mt (fcp_lt true _ _).mpr c1)
            refine lv_goto (tgt := 109) C.1 C.2.1 dX1_fixup_88 (by decide) ?_
            exact fin H locs hP hS (hUp_end hU (Or.inr (by rw [hi]; exact hle)))
    refine lv_aload_n C.1 C.2.1 dX1_fixup_0 rfl (lv_at hl 0 rfl) ?_
    refine hx_cmp (v := .ref g.2.2.2.1.2) C hP hh fset_s rfl dX1_fixup_1 ?_
    refine lv_ifnonnull (tgt := 58) C.1 C.2.1 dX1_fixup_4 (by decide) ?_
    refine lv_aload_n C.1 C.2.1 dX1_fixup_58 rfl (lv_at hl 0 rfl) ?_
    refine lv_aload_n C.1 C.2.1 dX1_fixup_59 rfl (lv_at hl 1 rfl) ?_
    refine gx_par C hP hS hh fset_s hI hRe h1 hk ⟨Nat.le_of_ble_eq_true rfl, Nat.le_of_ble_eq_true rfl⟩ hl.1 (Nat.le_of_ble_eq_true rfl) ⟨Nat.le_of_ble_eq_true rfl, Nat.le_of_ble_eq_true rfl⟩ dX1_fixup_60 (fun H locs hP hS => ?_)
    refine fv_astore_n (lv' := [(2, va_rf (fPar at_ j0)), (0, .ref h), (1, .ref (at_ j0))]) C dX1_fixup_63 rfl hl (by decide) rfl (fun ls hl => ?_)
    exact loop j0 at_ oc ys H locs ls h1 hk hX hU hP hS hl
end
section
/-! fixdown -/
set_option maxRecDepth 100000
theorem fPar_dn {at_ : Nat → Nat} {i c : Nat} (hi : 1 ≤ i) (hc : c / 2 = i) : fPar (fSw at_ i c) c = some (at_ c) := by
  unfold fPar
  rw [if_neg (by omega), hc, fSw_i]
set_option maxHeartbeats 4000000 in
/-- fixdown of the root -/
theorem m_fixdown (l : Launch) (g : fG) (ns : List Nat) (kf vf : Nat → Nat) (oc ys : Nat → Option Nat) (ow : Nat → Nat) (w0 : fW) (h : Nat) (dn : Bool) (sz : Int64) (kv : Nat → Int32) (k : Nat) (at_ : Nat → Nat) (hA : ∀ a ∈ ns, g.2.1 ≤ a) (hhA : g.2.1 ≤ h) (hh : h ∉ ns) (hw : w0 h = some (hpc (fcm g dn) sz (some (at_ 1)))) (hK : fKv ns kf w0 kv) (hI : fInj ns k at_) (hRe : fRep k at_ oc ys) (hk : 1 ≤ k) (hU : hDn k at_ (fun a => frk dn (kv a)) 1) :
    fMet l g yX1_fixdown cX1_fixdown 4 none 5 120 0 0 [.ref h, .ref (at_ 1)] (mkw ns kf vf oc ys ow w0) (fxQ ns kf vf oc ys ow w0 h (fcm g dn) sz k at_ (fun a => frk dn (kv a))) := by
  refine fw_of (by decide) (Nat.le_of_ble_eq_true rfl) ?_
  intro p e s m below meth c0 ls C hnm hP hl
  have hS : va_S (fA g) s.heap s.heap [] := va_S.rf
  rw [show w0 = fset w0 h (hpc (fcm g dn) sz (some (at_ 1))) from (fset_id hw).symm] at hP
  have hX : fxI ns k at_ oc ys at_ oc ys := fxI.rf hI hRe
  cases dn with
  | false =>
    have loop : ∀ (f i : Nat) (at1 : Nat → Nat) (oc1 ys1 : Nat → Option Nat) (H : Heap) (locs : List Loc) (ls : Array Slot), k - i = f → 1 ≤ i → i ≤ k → fxI ns k at_ oc ys at1 oc1 ys1 → hDn k at1 (fun a => frk false (kv a)) i → HP g (mkw ns kf vf oc1 ys1 ow (fset w0 h (hpc (fcm g false) sz (some (at1 1))))) H → va_S (fA g) s.heap H locs → lv_has ls 4 [(2, va_rf (fPar at1 i)), (0, .ref h), (1, .ref (at1 i))] →
        W p l e (fRm 5 120 0 0) s m ([.ref h, .ref (at_ 1)] : List Value).toArray below meth c0 H locs 0 0 (MQ below (fQ g (fxQ ns kf vf oc ys ow w0 h (fcm g false) sz k at_ (fun a => frk false (kv a)))) ([.ref h, .ref (at_ 1)] : List Value).toArray s 0 0 (fA g)) (F0 m 13 ls []) := by
      intro f
      induction f using Nat.strongRecOn with
      | _ f ih =>
        intro i at1 oc1 ys1 H locs ls hf h1 hk X hU hP hS hl
        have hKw := hK.set hw (hpc (fcm g false) sz (some (at1 1)))
        have hn := X.1.1 i h1 hk
        have fin : ∀ (H : Heap) (locs : List Loc) (ls : Array Slot), HP g (mkw ns kf vf oc1 ys1 ow (fset w0 h (hpc (fcm g false) sz (some (at1 1))))) H → va_S (fA g) s.heap H locs → hOrd k at1 (fun a => frk false (kv a)) → W p l e (fRm 5 120 0 0) s m ([.ref h, .ref (at_ 1)] : List Value).toArray below meth c0 H locs 0 0 (MQ below (fQ g (fxQ ns kf vf oc ys ow w0 h (fcm g false) sz k at_ (fun a => frk false (kv a)))) ([.ref h, .ref (at_ 1)] : List Value).toArray s 0 0 (fA g)) (F0 m 90 ls []) := by
          intro H locs ls hP hS hO
          refine lv_goto (tgt := 182) C.1 C.2.1 dX1_fixdown_90 (by decide) ?_
          exact fw_vret C ⟨rfl, at1, oc1, ys1, rfl, X, hO⟩ hP hS ⟨Nat.le_of_ble_eq_true rfl, Nat.le_of_ble_eq_true rfl⟩ dX1_fixdown_182
        have mid : ∀ (c : Nat) (H : Heap) (locs : List Loc) (ls : Array Slot), c / 2 = i → c ≤ k → (∀ x, x / 2 = i → x ≤ k → frk false (kv (at1 c)) ≤ frk false (kv (at1 x))) → HP g (mkw ns kf vf oc1 ys1 ow (fset w0 h (hpc (fcm g false) sz (some (at1 1))))) H → va_S (fA g) s.heap H locs → lv_has ls 4 [(3, .ref (at1 c)), (2, va_rf (fPar at1 i)), (0, .ref h), (1, .ref (at1 i))] → W p l e (fRm 5 120 0 0) s m ([.ref h, .ref (at_ 1)] : List Value).toArray below meth c0 H locs 0 0 (MQ below (fQ g (fxQ ns kf vf oc ys ow w0 h (fcm g false) sz k at_ (fun a => frk false (kv a)))) ([.ref h, .ref (at_ 1)] : List Value).toArray s 0 0 (fA g)) (F0 m 58 ls []) := by
          intro c H locs ls hc hck hmin hP hS hl
          have hcn := X.1.1 c (by omega) hck
          refine lv_aload_n C.1 C.2.1 dX1_fixdown_58 rfl (lv_at hl 3 rfl) ?_
          refine nx_key C hP hn dX1_fixdown_59 ?_
          refine cx_cast C hKw hn hP dX1_fixdown_62 ?_
          refine lv_aload_n C.1 C.2.1 dX1_fixdown_65 rfl (lv_at hl 0 rfl) ?_
          refine nx_key C hP hcn dX1_fixdown_66 ?_
          refine cx_order C hKw hn hcn ⟨Nat.le_of_ble_eq_true rfl, Nat.le_of_ble_eq_true rfl⟩ hP hS hl.1 (Nat.le_of_ble_eq_true rfl) ⟨Nat.le_of_ble_eq_true rfl, Nat.le_of_ble_eq_true rfl⟩ dX1_fixdown_69 (fun H locs hP hS => ?_)
          refine lv_if_gt (tgt := 78) C.1 C.2.1 dX1_fixdown_72 (by decide) (fun c1 => ?_) (fun c1 => ?_)
          · have hlt := (fcp_gt false _ _).mp c1
            refine lv_aload_n C.1 C.2.1 dX1_fixdown_78 rfl (lv_at hl 2 rfl) ?_
            refine lv_aload_n C.1 C.2.1 dX1_fixdown_79 rfl (lv_at hl 0 rfl) ?_
            refine lv_aload_n C.1 C.2.1 dX1_fixdown_80 rfl (lv_at hl 3 rfl) ?_
            refine fv_aload_n C dX1_fixdown_81 rfl (lv_at hl 1 rfl) ?_
            refine gx_swap C hP hS hA hhA hh fset_s X.1 X.2.1 hc h1 hck ⟨Nat.le_of_ble_eq_true rfl, Nat.le_of_ble_eq_true rfl⟩ hl.1 (Nat.le_of_ble_eq_true rfl) ⟨Nat.le_of_ble_eq_true rfl, Nat.le_of_ble_eq_true rfl⟩ dX1_fixdown_82 (fun oc2 ys2 H locs hR2 hO1 hO2 hP hS => ?_)
            rw [fset_fset] at hP
            refine lv_aload_n C.1 C.2.1 dX1_fixdown_85 rfl (lv_at hl 0 rfl) ?_
            refine lv_astore_n (lv' := [(2, .ref (at1 c)), (3, .ref (at1 c)), (0, .ref h), (1, .ref (at1 i))]) C.1 C.2.1 dX1_fixdown_86 rfl hl (by decide) rfl (fun ls hl => ?_)
            refine lv_goto (tgt := 13) C.1 C.2.1 dX1_fixdown_87 (by decide) ?_
            have hl2 : lv_has ls 4 [(2, va_rf (fPar (fSw at1 i c) c)), (0, .ref h), (1, .ref (fSw at1 i c c))] := by
              rw [fPar_dn h1 hc, fSw_j]
              exact lv_sub hl [0, 2, 3] rfl
            exact ih (k - c) (by omega) c (fSw at1 i c) oc2 ys2 H locs ls rfl (by omega) hck (X.sw h1 (by omega) hck hR2 hO1 hO2) (hDn_step h1 hc hck hU hmin (Int.le_of_lt hlt)) hP hS hl2
          · have hle : frk false (kv (at1 i)) ≤ frk false (kv (at1 c)) := Int.not_lt.mp (mt (fcp_gt false _ _).mpr c1)
            refine lv_goto (tgt := 90) C.1 C.2.1 dX1_fixdown_75 (by decide) ?_
            exact fin H locs ls hP hS (hDn_end hU (fun x hx hxk => Int.le_trans hle (hmin x hx hxk)))
        have hoc := (X.2.1 i h1 hk).1
        refine lv_aload_n C.1 C.2.1 dX1_fixdown_13 rfl (lv_at hl 2 rfl) ?_
        by_cases h2 : 2 * i ≤ k
        · rw [fOc, if_pos h2] at hoc
          have hcn := X.1.1 (2 * i) (by omega) h2
          have hys := (X.2.1 (2 * i) (by omega) h2).2
          rw [fYs, if_neg (by omega)] at hys
          refine nx_oc (v := .ref (at1 (2 * i))) C hP hn (by rw [hoc]; rfl) dX1_fixdown_14 ?_
          refine lv_ifnull C.1 C.2.1 dX1_fixdown_17 ?_
          refine lv_aload_n C.1 C.2.1 dX1_fixdown_20 rfl (lv_at hl 2 rfl) ?_
          refine nx_oc (v := .ref (at1 (2 * i))) C hP hn (by rw [hoc]; rfl) dX1_fixdown_21 ?_
          refine lv_astore_n (i := 3) (lv' := [(3, .ref (at1 (2 * i))), (2, va_rf (fPar at1 i)), (0, .ref h), (1, .ref (at1 i))]) C.1 C.2.1 dX1_fixdown_24 rfl hl (by decide) (by simp [List.filter, va_rf_cat]) (fun ls hl => ?_)
          refine lv_aload_n C.1 C.2.1 dX1_fixdown_25 rfl (lv_at hl 0 rfl) ?_
          refine nx_ys C hP hcn rfl dX1_fixdown_26 ?_
          refine lv_aload_n C.1 C.2.1 dX1_fixdown_29 rfl (lv_at hl 3 rfl) ?_
          refine lv_acmp_eq (rx := ys1 (at1 (2 * i))) (ry := some (at1 i)) (tgt := 58) C.1 C.2.1 dX1_fixdown_30 (by decide) (fun c1 => ?_) (fun c1 => ?_)
          · have h3 : ¬ 2 * i + 1 ≤ k := by
              intro h3
              rw [if_pos (by omega)] at hys
              rw [hys] at c1
              have := X.1.2 _ _ (by omega) h3 h1 hk (Option.some.inj c1)
              omega
            exact mid (2 * i) H locs ls (by omega) h2 (fun x hx hxk => Int.le_of_eq (by rw [show x = 2 * i by omega])) hP hS hl
          · have h3 : 2 * i + 1 ≤ k := by
              rcases Nat.lt_or_ge k (2 * i + 1) with z | z
              · rw [if_neg (by omega), show 2 * i / 2 = i by omega] at hys
                exact absurd hys c1
              · exact z
            rw [if_pos (by omega)] at hys
            have hrn := X.1.1 (2 * i + 1) (by omega) h3
            refine lv_aload_n C.1 C.2.1 dX1_fixdown_33 rfl (lv_at hl 0 rfl) ?_
            refine nx_ys (v := .ref (at1 (2 * i + 1))) C hP hcn (by rw [hys]; rfl) dX1_fixdown_34 ?_
            refine nx_key C hP hrn dX1_fixdown_37 ?_
            refine cx_cast C hKw hrn hP dX1_fixdown_40 ?_
            refine lv_aload_n C.1 C.2.1 dX1_fixdown_43 rfl (lv_at hl 0 rfl) ?_
            refine nx_key C hP hcn dX1_fixdown_44 ?_
            refine cx_order C hKw hrn hcn ⟨Nat.le_of_ble_eq_true rfl, Nat.le_of_ble_eq_true rfl⟩ hP hS hl.1 (Nat.le_of_ble_eq_true rfl) ⟨Nat.le_of_ble_eq_true rfl, Nat.le_of_ble_eq_true rfl⟩ dX1_fixdown_47 (fun H locs hP hS => ?_)
            refine lv_if_ge (tgt := 58) C.1 C.2.1 dX1_fixdown_50 (by decide) (fun c2 => ?_) (fun c2 => ?_)
            · have hle : frk false (kv (at1 (2 * i))) ≤ frk false (kv (at1 (2 * i + 1))) := Int.not_lt.mp (fun z => Int32.not_le.mpr ((fcp_lt false _ _).mpr z) c2)
              exact mid (2 * i) H locs ls (by omega) h2 (fun x hx hxk => (show x = 2 * i ∨ x = 2 * i + 1 by omega).elim (fun z => Int.le_of_eq (by rw [z])) (fun z => by rw [z]; exact hle)) hP hS hl
            · have hlt := (fcp_lt false _ _).mp (Int32.not_le.mp c2)
              refine lv_aload_n C.1 C.2.1 dX1_fixdown_53 rfl (lv_at hl 0 rfl) ?_
              refine nx_ys (v := .ref (at1 (2 * i + 1))) C hP hcn (by rw [hys]; rfl) dX1_fixdown_54 ?_
              refine lv_astore_n (i := 3) (lv' := [(3, .ref (at1 (2 * i + 1))), (2, va_rf (fPar at1 i)), (0, .ref h), (1, .ref (at1 i))]) C.1 C.2.1 dX1_fixdown_57 rfl hl (by decide) (by simp [List.filter, va_rf_cat]) (fun ls hl => ?_)
              exact mid (2 * i + 1) H locs ls (by omega) h3 (fun x hx hxk => (show x = 2 * i ∨ x = 2 * i + 1 by omega).elim (fun z => by rw [z]; exact Int.le_of_lt hlt) (fun z => Int.le_of_eq (by rw [z]))) hP hS hl
        · rw [fOc, if_neg h2] at hoc
          refine nx_oc (v := .null) C hP hn (by rw [hoc]; rfl) dX1_fixdown_14 ?_
          refine lv_ifnullN (tgt := 90) C.1 C.2.1 dX1_fixdown_17 (by decide) ?_
          exact fin H locs ls hP hS (hDn_end hU (fun x hx hxk => by omega))
    refine lv_aload_n C.1 C.2.1 dX1_fixdown_0 rfl (lv_at hl 0 rfl) ?_
    refine hx_cmp (v := .null) C hP hh fset_s rfl dX1_fixdown_1 ?_
    refine lv_ifnonnullN C.1 C.2.1 dX1_fixdown_4 ?_
    refine lv_aload_n C.1 C.2.1 dX1_fixdown_7 rfl (lv_at hl 0 rfl) ?_
    refine lv_aload_n C.1 C.2.1 dX1_fixdown_8 rfl (lv_at hl 1 rfl) ?_
    refine gx_par C hP hS hh fset_s hI hRe (Nat.le_refl 1) hk ⟨Nat.le_of_ble_eq_true rfl, Nat.le_of_ble_eq_true rfl⟩ hl.1 (Nat.le_of_ble_eq_true rfl) ⟨Nat.le_of_ble_eq_true rfl, Nat.le_of_ble_eq_true rfl⟩ dX1_fixdown_9 (fun H locs hP hS => ?_)
    refine fv_astore_n (lv' := [(2, va_rf (fPar at_ 1)), (0, .ref h), (1, .ref (at_ 1))]) C dX1_fixdown_12 rfl hl (by decide) rfl (fun ls hl => ?_)
    exact loop (k - 1) 1 at_ oc ys H locs ls rfl (Nat.le_refl 1) hk hX hU hP hS hl
  | true =>
    have loop : ∀ (f i : Nat) (at1 : Nat → Nat) (oc1 ys1 : Nat → Option Nat) (H : Heap) (locs : List Loc) (ls : Array Slot), k - i = f → 1 ≤ i → i ≤ k → fxI ns k at_ oc ys at1 oc1 ys1 → hDn k at1 (fun a => frk true (kv a)) i → HP g (mkw ns kf vf oc1 ys1 ow (fset w0 h (hpc (fcm g true) sz (some (at1 1))))) H → va_S (fA g) s.heap H locs → lv_has ls 4 [(2, va_rf (fPar at1 i)), (0, .ref h), (1, .ref (at1 i))] →
        W p l e (fRm 5 120 0 0) s m ([.ref h, .ref (at_ 1)] : List Value).toArray below meth c0 H locs 0 0 (MQ below (fQ g (fxQ ns kf vf oc ys ow w0 h (fcm g true) sz k at_ (fun a => frk true (kv a)))) ([.ref h, .ref (at_ 1)] : List Value).toArray s 0 0 (fA g)) (F0 m 99 ls []) := by
      intro f
      induction f using Nat.strongRecOn with
      | _ f ih =>
        intro i at1 oc1 ys1 H locs ls hf h1 hk X hU hP hS hl
        have hKw := hK.set hw (hpc (fcm g true) sz (some (at1 1)))
        have hn := X.1.1 i h1 hk
        have fin : ∀ (H : Heap) (locs : List Loc) (ls : Array Slot), HP g (mkw ns kf vf oc1 ys1 ow (fset w0 h (hpc (fcm g true) sz (some (at1 1))))) H → va_S (fA g) s.heap H locs → hOrd k at1 (fun a => frk true (kv a)) → W p l e (fRm 5 120 0 0) s m ([.ref h, .ref (at_ 1)] : List Value).toArray below meth c0 H locs 0 0 (MQ below (fQ g (fxQ ns kf vf oc ys ow w0 h (fcm g true) sz k at_ (fun a => frk true (kv a)))) ([.ref h, .ref (at_ 1)] : List Value).toArray s 0 0 (fA g)) (F0 m 182 ls []) := by
          intro H locs ls hP hS hO
          exact fw_vret C ⟨rfl, at1, oc1, ys1, rfl, X, hO⟩ hP hS ⟨Nat.le_of_ble_eq_true rfl, Nat.le_of_ble_eq_true rfl⟩ dX1_fixdown_182
        have mid : ∀ (c : Nat) (H : Heap) (locs : List Loc) (ls : Array Slot), c / 2 = i → c ≤ k → (∀ x, x / 2 = i → x ≤ k → frk true (kv (at1 c)) ≤ frk true (kv (at1 x))) → HP g (mkw ns kf vf oc1 ys1 ow (fset w0 h (hpc (fcm g true) sz (some (at1 1))))) H → va_S (fA g) s.heap H locs → lv_has ls 4 [(3, .ref (at1 c)), (2, va_rf (fPar at1 i)), (0, .ref h), (1, .ref (at1 i))] → W p l e (fRm 5 120 0 0) s m ([.ref h, .ref (at_ 1)] : List Value).toArray below meth c0 H locs 0 0 (MQ below (fQ g (fxQ ns kf vf oc ys ow w0 h (fcm g true) sz k at_ (fun a => frk true (kv a)))) ([.ref h, .ref (at_ 1)] : List Value).toArray s 0 0 (fA g)) (F0 m 147 ls []) := by
          intro c H locs ls hc hck hmin hP hS hl
          have hcn := X.1.1 c (by omega) hck
          refine lv_aload_n C.1 C.2.1 dX1_fixdown_147 rfl (lv_at hl 2 rfl) ?_
          refine hx_cmp (v := .ref g.2.2.2.1.2) C hP hh fset_s rfl dX1_fixdown_148 ?_
          refine lv_aload_n C.1 C.2.1 dX1_fixdown_151 rfl (lv_at hl 3 rfl) ?_
          refine nx_key C hP hn dX1_fixdown_152 ?_
          refine lv_aload_n C.1 C.2.1 dX1_fixdown_155 rfl (lv_at hl 0 rfl) ?_
          refine nx_key C hP hcn dX1_fixdown_156 ?_
          refine cx_comp C hKw hn hcn ⟨Nat.le_of_ble_eq_true rfl, Nat.le_of_ble_eq_true rfl⟩ hP hS hl.1 (Nat.le_of_ble_eq_true rfl) ⟨Nat.le_of_ble_eq_true rfl, Nat.le_of_ble_eq_true rfl⟩ dX1_fixdown_159 (fun H locs hP hS => ?_)
          refine lv_if_gt (tgt := 170) C.1 C.2.1 dX1_fixdown_164 (by decide) (fun c1 => ?_) (fun c1 => ?_)
          · have hlt := (fcp_gt true _ _).mp c1
            refine lv_aload_n C.1 C.2.1 dX1_fixdown_170 rfl (lv_at hl 2 rfl) ?_
            refine lv_aload_n C.1 C.2.1 dX1_fixdown_171 rfl (lv_at hl 0 rfl) ?_
            refine lv_aload_n C.1 C.2.1 dX1_fixdown_172 rfl (lv_at hl 3 rfl) ?_
            refine fv_aload_n C dX1_fixdown_173 rfl (lv_at hl 1 rfl) ?_
            refine gx_swap C hP hS hA hhA hh fset_s X.1 X.2.1 hc h1 hck ⟨Nat.le_of_ble_eq_true rfl, Nat.le_of_ble_eq_true rfl⟩ hl.1 (Nat.le_of_ble_eq_true rfl) ⟨Nat.le_of_ble_eq_true rfl, Nat.le_of_ble_eq_true rfl⟩ dX1_fixdown_174 (fun oc2 ys2 H locs hR2 hO1 hO2 hP hS => ?_)
            rw [fset_fset] at hP
            refine lv_aload_n C.1 C.2.1 dX1_fixdown_177 rfl (lv_at hl 0 rfl) ?_
            refine lv_astore_n (lv' := [(2, .ref (at1 c)), (3, .ref (at1 c)), (0, .ref h), (1, .ref (at1 i))]) C.1 C.2.1 dX1_fixdown_178 rfl hl (by decide) rfl (fun ls hl => ?_)
            refine lv_goto (tgt := 99) C.1 C.2.1 dX1_fixdown_179 (by decide) ?_
            have hl2 : lv_has ls 4 [(2, va_rf (fPar (fSw at1 i c) c)), (0, .ref h), (1, .ref (fSw at1 i c c))] := by
              rw [fPar_dn h1 hc, fSw_j]
              exact lv_sub hl [0, 2, 3] rfl
            exact ih (k - c) (by omega) c (fSw at1 i c) oc2 ys2 H locs ls rfl (by omega) hck (X.sw h1 (by omega) hck hR2 hO1 hO2) (hDn_step h1 hc hck hU hmin (Int.le_of_lt hlt)) hP hS hl2
          · have hle : frk true (kv (at1 i)) ≤ frk true (kv (at1 c)) := Int.not_lt.mp (mt (fcp_gt true _ _).mpr c1)
            refine lv_goto (tgt := 182) C.1 C.2.1 dX1_fixdown_167 (by decide) ?_
            exact fin H locs ls hP hS (hDn_end hU (fun x hx hxk => Int.le_trans hle (hmin x hx hxk)))
        have hoc := (X.2.1 i h1 hk).1
        refine lv_aload_n C.1 C.2.1 dX1_fixdown_99 rfl (lv_at hl 2 rfl) ?_
        by_cases h2 : 2 * i ≤ k
        · rw [fOc, if_pos h2] at hoc
          have hcn := X.1.1 (2 * i) (by omega) h2
          have hys := (X.2.1 (2 * i) (by omega) h2).2
          rw [fYs, if_neg (by omega)] at hys
          refine nx_oc (v := .ref (at1 (2 * i))) C hP hn (by rw [hoc]; rfl) dX1_fixdown_100 ?_
          refine lv_ifnull C.1 C.2.1 dX1_fixdown_103 ?_
          refine lv_aload_n C.1 C.2.1 dX1_fixdown_106 rfl (lv_at hl 2 rfl) ?_
          refine nx_oc (v := .ref (at1 (2 * i))) C hP hn (by rw [hoc]; rfl) dX1_fixdown_107 ?_
          refine lv_astore_n (i := 3) (lv' := [(3, .ref (at1 (2 * i))), (2, va_rf (fPar at1 i)), (0, .ref h), (1, .ref (at1 i))]) C.1 C.2.1 dX1_fixdown_110 rfl hl (by decide) (by simp [List.filter, va_rf_cat]) (fun ls hl => ?_)
          refine lv_aload_n C.1 C.2.1 dX1_fixdown_111 rfl (lv_at hl 0 rfl) ?_
          refine nx_ys C hP hcn rfl dX1_fixdown_112 ?_
          refine lv_aload_n C.1 C.2.1 dX1_fixdown_115 rfl (lv_at hl 3 rfl) ?_
          refine lv_acmp_eq (rx := ys1 (at1 (2 * i))) (ry := some (at1 i)) (tgt := 147) C.1 C.2.1 dX1_fixdown_116 (by decide) (fun c1 => ?_) (fun c1 => ?_)
          · have h3 : ¬ 2 * i + 1 ≤ k := by
              intro h3
              rw [if_pos (by omega)] at hys
              rw [hys] at c1
              have := X.1.2 _ _ (by omega) h3 h1 hk (Option.some.inj c1)
              omega
            exact mid (2 * i) H locs ls (by omega) h2 (fun x hx hxk => Int.le_of_eq (by rw [show x = 2 * i by omega])) hP hS hl
          · have h3 : 2 * i + 1 ≤ k := by
              rcases Nat.lt_or_ge k (2 * i + 1) with z | z
              · rw [if_neg (by omega), show 2 * i / 2 = i by omega] at hys
                exact absurd hys c1
              · exact z
            rw [if_pos (by omega)] at hys
            have hrn := X.1.1 (2 * i + 1) (by omega) h3
            refine lv_aload_n C.1 C.2.1 dX1_fixdown_119 rfl (lv_at hl 2 rfl) ?_
            refine hx_cmp (v := .ref g.2.2.2.1.2) C hP hh fset_s rfl dX1_fixdown_120 ?_
            refine lv_aload_n C.1 C.2.1 dX1_fixdown_123 rfl (lv_at hl 0 rfl) ?_
            refine nx_ys (v := .ref (at1 (2 * i + 1))) C hP hcn (by rw [hys]; rfl) dX1_fixdown_124 ?_
            refine nx_key C hP hrn dX1_fixdown_127 ?_
            refine lv_aload_n C.1 C.2.1 dX1_fixdown_130 rfl (lv_at hl 0 rfl) ?_
            refine nx_key C hP hcn dX1_fixdown_131 ?_
            refine cx_comp C hKw hrn hcn ⟨Nat.le_of_ble_eq_true rfl, Nat.le_of_ble_eq_true rfl⟩ hP hS hl.1 (Nat.le_of_ble_eq_true rfl) ⟨Nat.le_of_ble_eq_true rfl, Nat.le_of_ble_eq_true rfl⟩ dX1_fixdown_134 (fun H locs hP hS => ?_)
            refine lv_if_ge (tgt := 147) C.1 C.2.1 dX1_fixdown_139 (by decide) (fun c2 => ?_) (fun c2 => ?_)
            · have hle : frk true (kv (at1 (2 * i))) ≤ frk true (kv (at1 (2 * i + 1))) := Int.not_lt.mp (fun z => Int32.not_le.mpr ((fcp_lt true _ _).mpr z) c2)
              exact mid (2 * i) H locs ls (by omega) h2 (fun x hx hxk => (show x = 2 * i ∨ x = 2 * i + 1 by omega).elim (fun z => Int.le_of_eq (by rw [z])) (fun z => by rw [z]; exact hle)) hP hS hl
            · have hlt := (fcp_lt true _ _).mp (Int32.not_le.mp c2)
              refine lv_aload_n C.1 C.2.1 dX1_fixdown_142 rfl (lv_at hl 0 rfl) ?_
              refine nx_ys (v := .ref (at1 (2 * i + 1))) C hP hcn (by rw [hys]; rfl) dX1_fixdown_143 ?_
              refine lv_astore_n (i := 3) (lv' := [(3, .ref (at1 (2 * i + 1))), (2, va_rf (fPar at1 i)), (0, .ref h), (1, .ref (at1 i))]) C.1 C.2.1 dX1_fixdown_146 rfl hl (by decide) (by simp [List.filter, va_rf_cat]) (fun ls hl => ?_)
              exact mid (2 * i + 1) H locs ls (by omega) h3 (fun x hx hxk => (show x = 2 * i ∨ x = 2 * i + 1 by omega).elim (fun z => by rw [z]; exact Int.le_of_lt hlt) (fun z => Int.le_of_eq (by rw [z]))) hP hS hl
        · rw [fOc, if_neg h2] at hoc
          refine nx_oc (v := .null) C hP hn (by rw [hoc]; rfl) dX1_fixdown_100 ?_
          refine lv_ifnullN (tgt := 182) C.1 C.2.1 dX1_fixdown_103 (by decide) ?_
          exact fin H locs ls hP hS (hDn_end hU (fun x hx hxk => by omega))
    refine lv_aload_n C.1 C.2.1 dX1_fixdown_0 rfl (lv_at hl 0 rfl) ?_
    refine hx_cmp (v := .ref g.2.2.2.1.2) C hP hh fset_s rfl dX1_fixdown_1 ?_
    refine lv_ifnonnull (tgt := 93) C.1 C.2.1 dX1_fixdown_4 (by decide) ?_
    refine lv_aload_n C.1 C.2.1 dX1_fixdown_93 rfl (lv_at hl 0 rfl) ?_
    refine lv_aload_n C.1 C.2.1 dX1_fixdown_94 rfl (lv_at hl 1 rfl) ?_
    refine gx_par C hP hS hh fset_s hI hRe (Nat.le_refl 1) hk ⟨Nat.le_of_ble_eq_true rfl, Nat.le_of_ble_eq_true rfl⟩ hl.1 (Nat.le_of_ble_eq_true rfl) ⟨Nat.le_of_ble_eq_true rfl, Nat.le_of_ble_eq_true rfl⟩ dX1_fixdown_95 (fun H locs hP hS => ?_)
    refine fv_astore_n (lv' := [(2, va_rf (fPar at_ 1)), (0, .ref h), (1, .ref (at_ 1))]) C dX1_fixdown_98 rfl hl (by decide) rfl (fun ls hl => ?_)
    exact loop (k - 1) 1 at_ oc ys H locs ls rfl (Nat.le_refl 1) hk hX hU hP hS hl
end
section
/-! the JDK's BitSet, as far as findParentNode goes -/
set_option maxRecDepth 100000
def ush (x k : Int32) : Int32 := (x.toUInt32 >>> (k.toUInt32 &&& Int32.toUInt32 31)).toInt32
def lz1 (x y : Int32) : Int32 := y - ush x 1
def lz4 (x y : Int32) : Int32 := if x < 4 then lz1 x y else lz1 (ush x 2) (y + Int32.ofInt (-2))
def lz16 (x y : Int32) : Int32 := if x < 16 then lz4 x y else lz4 (ush x 4) (y + Int32.ofInt (-4))
theorem lz_ok : ∀ m, m < 65 → 1 ≤ m → lz16 (nI m) 31 = nI (31 - Nat.log2 m) := by decide +kernel
theorem lz_in : ∀ m, m < 65 → 1 ≤ m → 0 < nI m ∧ nI m < 65536 ∧ nI m < 256 := by decide +kernel
theorem lz_hi : ∀ m, m < 65 → ((lN m).toUInt64 >>> ((32 : Int32).toInt64.toUInt64 &&& Int64.toUInt64 63)).toInt64.toInt32 = 0 := by decide +kernel
theorem lz_32 : ∀ m, m < 65 → 1 ≤ m → (32 : Int32) + nI (31 - Nat.log2 m) = nI (63 - Nat.log2 m) := by decide +kernel
theorem lz_len : ∀ m, m < 65 → 1 ≤ m → (64 : Int32) * (1 - 1) + (64 - nI (63 - Nat.log2 m)) = nI (Nat.log2 m + 1) := by decide +kernel
theorem lz_bit : ∀ i, i < 7 → ∀ m, m < 65 → ((lN m &&& ((1 : Int64) <<< ((nI i).toInt64 &&& 63))) = 0 ↔ m / 2 ^ i % 2 = 0) := by decide +kernel
theorem lz_wi : ∀ i, i < 7 → (nI i >>> ((6 : Int32) &&& 31)) = 0 ∧ 0 ≤ nI i := by decide +kernel
theorem i11 : (1 - 1 : Int32).toNatClampNeg = 0 := by decide
theorem i00 : (0 : Int32).toNatClampNeg = 0 := by decide
set_option maxHeartbeats 4000000 in
/-- Integer.numberOfLeadingZeros of 1 .. 64 -/
theorem m_inlz (l : Launch) (g : fG) (w : fW) (n : Nat) (h1 : 1 ≤ n) (h2 : n < 65) : fMet l g yJ1_numberOfLeadingZeros cJ1_numberOfLeadingZeros 2 (some .int) 1 0 0 0 [.int (nI n)] w (fun r w1 => r = some (.int (nI (31 - Nat.log2 n))) ∧ w1 = w) := by
  refine fw_of (by decide) (Nat.le_of_ble_eq_true rfl) ?_
  intro p e s m below meth c ls C hnm hP hl
  have hS : va_S (fA g) s.heap s.heap [] := va_S.rf
  obtain ⟨b1, b2, b3⟩ := lz_in n h2 h1
  have j73 : ∀ (x y : Int32) (ls : Array Slot), lv_has ls 2 [(0, .int x), (1, .int y)] → lz1 x y = nI (31 - Nat.log2 n) → W p l e (fRm 1 0 0 0) s m ([.int (nI n)] : List Value).toArray below meth c s.heap [] 0 0 (MQ below (fQ g (fun r w1 => r = some (.int (nI (31 - Nat.log2 n))) ∧ w1 = w)) ([.int (nI n)] : List Value).toArray s 0 0 (fA g)) (F0 m 73 ls []) := by
    intro x y ls hl hv
    refine lv_iload_n C.1 C.2.1 dJ1_numberOfLeadingZeros_73 rfl (lv_at hl 1 rfl) ?_
    refine lv_iload_n C.1 C.2.1 dJ1_numberOfLeadingZeros_74 rfl (lv_at hl 0 rfl) ?_
    refine lv_iconst (v := 1) C.1 C.2.1 dJ1_numberOfLeadingZeros_75 (by decide) ?_
    refine lv_iushr C.1 C.2.1 dJ1_numberOfLeadingZeros_76 rfl ?_
    refine lv_isub C.1 C.2.1 dJ1_numberOfLeadingZeros_77 ?_
    exact fw_iret C ⟨by rw [← hv]; rfl, rfl⟩ hP hS ⟨Nat.le_of_ble_eq_true rfl, Nat.le_of_ble_eq_true rfl⟩ dJ1_numberOfLeadingZeros_78
  have j61 : ∀ (x y : Int32) (ls : Array Slot), lv_has ls 2 [(0, .int x), (1, .int y)] → lz4 x y = nI (31 - Nat.log2 n) → W p l e (fRm 1 0 0 0) s m ([.int (nI n)] : List Value).toArray below meth c s.heap [] 0 0 (MQ below (fQ g (fun r w1 => r = some (.int (nI (31 - Nat.log2 n))) ∧ w1 = w)) ([.int (nI n)] : List Value).toArray s 0 0 (fA g)) (F0 m 61 ls []) := by
    intro x y ls hl hv
    refine lv_iload_n C.1 C.2.1 dJ1_numberOfLeadingZeros_61 rfl (lv_at hl 0 rfl) ?_
    refine lv_iconst (v := 4) C.1 C.2.1 dJ1_numberOfLeadingZeros_62 (by decide) ?_
    refine lv_icmp_lt (tgt := 73) C.1 C.2.1 dJ1_numberOfLeadingZeros_63 (by decide) (fun c1 => ?_) (fun c1 => ?_)
    · rw [lz4, if_pos c1] at hv
      exact j73 x y ls hl hv
    · rw [lz4, if_neg c1] at hv
      refine lv_iinc (k := 1) (lv' := [(1, .int (y + Int32.ofInt (-2))), (0, .int x)]) C.1 C.2.1 dJ1_numberOfLeadingZeros_66 hl rfl rfl (by decide) rfl (fun ls hl => ?_)
      refine lv_iload_n C.1 C.2.1 dJ1_numberOfLeadingZeros_69 rfl (lv_at hl 1 rfl) ?_
      refine lv_iconst (v := 2) C.1 C.2.1 dJ1_numberOfLeadingZeros_70 (by decide) ?_
      refine lv_iushr C.1 C.2.1 dJ1_numberOfLeadingZeros_71 rfl ?_
      refine lv_istore_n (lv' := [(0, .int (ush x 2)), (1, .int (y + Int32.ofInt (-2)))]) C.1 C.2.1 dJ1_numberOfLeadingZeros_72 rfl hl (by decide) rfl (fun ls hl => ?_)
      exact j73 (ush x 2) (y + Int32.ofInt (-2)) ls hl hv
  refine lv_iload_n C.1 C.2.1 dJ1_numberOfLeadingZeros_0 rfl (lv_at hl 0 rfl) ?_
  refine lv_if_gt (tgt := 15) C.1 C.2.1 dJ1_numberOfLeadingZeros_1 (by decide) (fun c0 => ?_) (fun c0 => ?_)
  · refine lv_bipush (v := 31) C.1 C.2.1 dJ1_numberOfLeadingZeros_15 (by decide) ?_
    refine lv_istore_n (lv' := [(1, .int 31), (0, .int (nI n))]) C.1 C.2.1 dJ1_numberOfLeadingZeros_17 rfl hl (by decide) rfl (fun ls hl => ?_)
    refine lv_iload_n C.1 C.2.1 dJ1_numberOfLeadingZeros_18 rfl (lv_at hl 1 rfl) ?_
    refine lv_ldcw C.1 C.2.1 C.2.2.2.2.2.1 (C.2.2.2.2.2.2.1 _ q293) dJ1_numberOfLeadingZeros_19 ?_
    refine lv_icmp_lt (tgt := 33) C.1 C.2.1 dJ1_numberOfLeadingZeros_22 (by decide) (fun c1 => ?_) (fun c1 => ?_)
    · refine lv_iload_n C.1 C.2.1 dJ1_numberOfLeadingZeros_33 rfl (lv_at hl 1 rfl) ?_
      refine lv_sipush (v := 256) C.1 C.2.1 dJ1_numberOfLeadingZeros_34 (by decide) ?_
      refine lv_icmp_lt (tgt := 48) C.1 C.2.1 dJ1_numberOfLeadingZeros_37 (by decide) (fun c2 => ?_) (fun c2 => ?_)
      · have hv := lz_ok n h2 h1
        refine lv_iload_n C.1 C.2.1 dJ1_numberOfLeadingZeros_48 rfl (lv_at hl 1 rfl) ?_
        refine lv_bipush (v := 16) C.1 C.2.1 dJ1_numberOfLeadingZeros_49 (by decide) ?_
        refine lv_icmp_lt (tgt := 61) C.1 C.2.1 dJ1_numberOfLeadingZeros_51 (by decide) (fun c3 => ?_) (fun c3 => ?_)
        · rw [lz16, if_pos c3] at hv
          exact j61 (nI n) 31 ls (lv_sub hl [1, 0] rfl) hv
        · rw [lz16, if_neg c3] at hv
          refine lv_iinc (k := 0) (lv' := [(1, .int (31 + Int32.ofInt (-4))), (0, .int (nI n))]) C.1 C.2.1 dJ1_numberOfLeadingZeros_54 hl rfl rfl (by decide) rfl (fun ls hl => ?_)
          refine lv_iload_n C.1 C.2.1 dJ1_numberOfLeadingZeros_57 rfl (lv_at hl 1 rfl) ?_
          refine lv_iconst (v := 4) C.1 C.2.1 dJ1_numberOfLeadingZeros_58 (by decide) ?_
          refine lv_iushr C.1 C.2.1 dJ1_numberOfLeadingZeros_59 rfl ?_
          refine lv_istore_n (lv' := [(0, .int (ush (nI n) 4)), (1, .int (31 + Int32.ofInt (-4)))]) C.1 C.2.1 dJ1_numberOfLeadingZeros_60 rfl hl (by decide) rfl (fun ls hl => ?_)
          exact j61 (ush (nI n) 4) (31 + Int32.ofInt (-4)) ls hl hv
      · exact absurd b3 c2
    · exact absurd b2 c1
  · exact absurd b1 c0
set_option maxHeartbeats 4000000 in
/-- Long.numberOfLeadingZeros of 1 .. 64 -/
theorem m_lnlz (l : Launch) (g : fG) (w : fW) (n : Nat) (h1 : 1 ≤ n) (h2 : n < 65) : fMet l g yJ9_numberOfLeadingZeros cJ9_numberOfLeadingZeros 3 (some .int) 2 30 0 0 [.long (lN n)] w (fun r w1 => r = some (.int (nI (63 - Nat.log2 n))) ∧ w1 = w) := by
  refine fw_of (by decide) (Nat.le_of_ble_eq_true rfl) ?_
  intro p e s m below meth c ls C hnm hP hl
  have hS : va_S (fA g) s.heap s.heap [] := va_S.rf
  refine lv_lload_n C.1 C.2.1 dJ9_numberOfLeadingZeros_0 rfl (lv_at hl 0 rfl) ?_
  refine lv_bipush (v := 32) C.1 C.2.1 dJ9_numberOfLeadingZeros_1 (by decide) ?_
  refine lv_lushr C.1 C.2.1 dJ9_numberOfLeadingZeros_3 rfl ?_
  refine lv_l2i (v := 0) C.1 C.2.1 dJ9_numberOfLeadingZeros_4 (lz_hi n h2) ?_
  refine lv_istore_n (lv' := [(2, .int 0), (0, .long (lN n))]) C.1 C.2.1 dJ9_numberOfLeadingZeros_5 rfl hl (by decide) rfl (fun ls hl => ?_)
  refine lv_iload_n C.1 C.2.1 dJ9_numberOfLeadingZeros_6 rfl (lv_at hl 0 rfl) ?_
  refine lv_if_ne (tgt := 21) C.1 C.2.1 dJ9_numberOfLeadingZeros_7 (by decide) (fun c1 => ?_) (fun c1 => ?_)
  · exact absurd rfl c1
  · refine lv_bipush (v := 32) C.1 C.2.1 dJ9_numberOfLeadingZeros_10 (by decide) ?_
    refine lv_lload_n C.1 C.2.1 dJ9_numberOfLeadingZeros_12 rfl (lv_at hl 1 rfl) ?_
    refine lv_l2i (v := nI n) C.1 C.2.1 dJ9_numberOfLeadingZeros_13 (lN_i n) ?_
    refine fw_S C 1 (As := [.int (nI n)]) (rest := [.int 32]) (m_inlz l g w n h1 h2) (lw_S q290 q291 q17 q292) (by decide +kernel) ⟨Nat.le_of_ble_eq_true rfl, Nat.le_of_ble_eq_true rfl⟩ hP hS rfl rfl hl.1 (Nat.le_of_ble_eq_true rfl) dJ9_numberOfLeadingZeros_14 ⟨Nat.le_of_ble_eq_true rfl, Nat.le_of_ble_eq_true rfl⟩ ?_
    rintro r w1 H1 locs1 ⟨rfl, e1⟩ hP hS
    rw [e1] at hP
    clear e1 w1
    refine lv_iadd C.1 C.2.1 dJ9_numberOfLeadingZeros_17 ?_
    refine lv_goto (tgt := 25) C.1 C.2.1 dJ9_numberOfLeadingZeros_18 (by decide) ?_
    refine fw_iret C ⟨?_, rfl⟩ hP hS ⟨Nat.le_of_ble_eq_true rfl, Nat.le_of_ble_eq_true rfl⟩ dJ9_numberOfLeadingZeros_25
    rw [← lz_32 n h2 h1]
/-- a row of one long; a BitSet over it -/
abbrev lar (g : fG) (f : Nat → Int64) : va_E := .inl (g.2.2.1 1, 1, .inr (.inl f))
abbrev bsc (q : Nat) : va_E := .inr (5, [.ref q, .int 1, .int 0])
def fLe (w w1 : fW) : Prop := ∀ (z : Nat) (e : va_E), w z = some e → w1 z = some e
theorem fLe.rf {w : fW} : fLe w w := fun _ _ h => h
theorem fLe.tr {w w1 w2 : fW} (h1 : fLe w w1) (h2 : fLe w1 w2) : fLe w w2 := fun z e h => h2 z e (h1 z e h)
theorem fLe.new {w : fW} {q : Nat} (h : w q = none) (e : va_E) : fLe w (fset w q e) := fun z e' hz => by
  rw [fset_n (fun x => by rw [x, h] at hz; cases hz)]
  exact hz
theorem fW_ne {w : fW} {a b : Nat} {e : va_E} (ha : w a = some e) (hb : w b = none) : a ≠ b := fun x => by
  rw [x, hb] at ha
  cases ha
set_option maxHeartbeats 4000000 in
/-- BitSet.length over one word of 1 .. 64 -/
theorem m_blength (l : Launch) (g : fG) (w : fW) (b q : Nat) (f : Nat → Int64) (n : Nat) (hb : w b = some (bsc q)) (hq : w q = some (lar g f)) (hf : f 0 = lN n) (h1 : 1 ≤ n) (h2 : n < 65) : fMet l g yJ6_length cJ6_length 1 (some .int) 3 60 0 0 [.ref b] w (fun r w1 => r = some (.int (nI (Nat.log2 n + 1))) ∧ w1 = w) := by
  refine fw_of (by decide) (Nat.le_of_ble_eq_true rfl) ?_
  intro p e s m below meth c ls C hnm hP hl
  have hS : va_S (fA g) s.heap s.heap [] := va_S.rf
  refine lv_aload_n C.1 C.2.1 dJ6_length_0 rfl (lv_at hl 0 rfl) ?_
  refine fw_get C in_J6 hP hb rfl 1 (by decide) q273 rfl rfl dJ6_length_1 ?_
  refine lv_if_ne (tgt := 9) C.1 C.2.1 dJ6_length_4 (by decide) (fun c1 => ?_) (fun c1 => ?_)
  · refine lv_bipush (v := 64) C.1 C.2.1 dJ6_length_9 (by decide) ?_
    refine lv_aload_n C.1 C.2.1 dJ6_length_11 rfl (lv_at hl 0 rfl) ?_
    refine fw_get C in_J6 hP hb rfl 1 (by decide) q273 rfl rfl dJ6_length_12 ?_
    refine lv_iconst (v := 1) C.1 C.2.1 dJ6_length_15 (by decide) ?_
    refine lv_isub C.1 C.2.1 dJ6_length_16 ?_
    refine lv_imul C.1 C.2.1 dJ6_length_17 ?_
    refine lv_bipush (v := 64) C.1 C.2.1 dJ6_length_18 (by decide) ?_
    refine lv_aload_n C.1 C.2.1 dJ6_length_20 rfl (lv_at hl 0 rfl) ?_
    refine fw_get C in_J6 hP hb rfl 0 (by decide) q272 rfl rfl dJ6_length_21 ?_
    refine lv_aload_n C.1 C.2.1 dJ6_length_24 rfl (lv_at hl 0 rfl) ?_
    refine fw_get C in_J6 hP hb rfl 1 (by decide) q273 rfl rfl dJ6_length_25 ?_
    refine lv_iconst (v := 1) C.1 C.2.1 dJ6_length_28 (by decide) ?_
    refine lv_isub C.1 C.2.1 dJ6_length_29 ?_
    refine fw_lald C hP hq (show ¬ ((1 - 1 : Int32) < 0 ∨ 1 ≤ (1 - 1 : Int32).toNatClampNeg) by decide) dJ6_length_30 ?_
    rw [i11, hf]
    refine fw_S C 1 (As := [.long (lN n)]) (rest := [.int 64, .int (64 * (1 - 1))]) (m_lnlz l g w n h1 h2) (lw_S q287 q288 q28 q289) (by decide +kernel) ⟨Nat.le_of_ble_eq_true rfl, Nat.le_of_ble_eq_true rfl⟩ hP hS rfl rfl hl.1 (Nat.le_of_ble_eq_true rfl) dJ6_length_31 ⟨Nat.le_of_ble_eq_true rfl, Nat.le_of_ble_eq_true rfl⟩ ?_
    rintro r w1 H1 locs1 ⟨rfl, e1⟩ hP hS
    rw [e1] at hP
    clear e1 w1
    refine lv_isub C.1 C.2.1 dJ6_length_34 ?_
    refine lv_iadd C.1 C.2.1 dJ6_length_35 ?_
    refine fw_iret C ⟨?_, rfl⟩ hP hS ⟨Nat.le_of_ble_eq_true rfl, Nat.le_of_ble_eq_true rfl⟩ dJ6_length_36
    rw [← lz_len n h2 h1]
  · exact absurd c1 (by decide)
set_option maxHeartbeats 4000000 in
/-- BitSet.checkInvariants: the assertions are off -/
theorem m_bcheck (l : Launch) (g : fG) (w : fW) (b : Nat) : fMet l g yJ6_checkInvariants cJ6_checkInvariants 1 none 1 0 0 0 [.ref b] w (fun r w1 => r = none ∧ w1 = w) := by
  refine fw_of (by decide) (Nat.le_of_ble_eq_true rfl) ?_
  intro p e s m below meth c ls C hnm hP hl
  have hS : va_S (fA g) s.heap s.heap [] := va_S.rf
  refine va_gets C.1 C.2.1 C.2.2.2.2.2.2.2.2.2.2.2.2.2.1 hS C.2.2.2.2.2.1 (C.2.2.2.2.2.2.1 _ q270) (fun _ h => h) dJ6_checkInvariants_0 ?_
  refine lv_if_ne (tgt := 37) C.1 C.2.1 dJ6_checkInvariants_3 (by decide) (fun c1 => ?_) (fun c1 => ?_)
  · refine va_gets C.1 C.2.1 C.2.2.2.2.2.2.2.2.2.2.2.2.2.1 hS C.2.2.2.2.2.1 (C.2.2.2.2.2.2.1 _ q270) (fun _ h => h) dJ6_checkInvariants_37 ?_
    refine lv_if_ne (tgt := 70) C.1 C.2.1 dJ6_checkInvariants_40 (by decide) (fun c2 => ?_) (fun c2 => ?_)
    · refine va_gets C.1 C.2.1 C.2.2.2.2.2.2.2.2.2.2.2.2.2.1 hS C.2.2.2.2.2.1 (C.2.2.2.2.2.2.1 _ q270) (fun _ h => h) dJ6_checkInvariants_70 ?_
      refine lv_if_ne (tgt := 110) C.1 C.2.1 dJ6_checkInvariants_73 (by decide) (fun c3 => ?_) (fun c3 => ?_)
      · exact fw_vret C ⟨rfl, rfl⟩ hP hS ⟨Nat.le_of_ble_eq_true rfl, Nat.le_of_ble_eq_true rfl⟩ dJ6_checkInvariants_110
      · exact absurd c3 (by decide)
    · exact absurd c2 (by decide)
  · exact absurd c1 (by decide)
set_option maxHeartbeats 4000000 in
theorem m_bword (l : Launch) (g : fG) (w : fW) (x : Int32) : fMet l g yJ6_wordIndex cJ6_wordIndex 1 (some .int) 1 0 0 0 [.int x] w (fun r w1 => r = some (.int (x >>> ((6 : Int32) &&& 31))) ∧ w1 = w) := by
  refine fw_of (by decide) (Nat.le_of_ble_eq_true rfl) ?_
  intro p e s m below meth c ls C hnm hP hl
  have hS : va_S (fA g) s.heap s.heap [] := va_S.rf
  refine lv_iload_n C.1 C.2.1 dJ6_wordIndex_0 rfl (lv_at hl 0 rfl) ?_
  refine lv_bipush (v := 6) C.1 C.2.1 dJ6_wordIndex_1 (by decide) ?_
  refine lv_ishr C.1 C.2.1 dJ6_wordIndex_3 ?_
  exact fw_iret C ⟨rfl, rfl⟩ hP hS ⟨Nat.le_of_ble_eq_true rfl, Nat.le_of_ble_eq_true rfl⟩ dJ6_wordIndex_4
set_option maxHeartbeats 4000000 in
/-- BitSet.get over one word of at most 64 -/
theorem m_bget (l : Launch) (g : fG) (w : fW) (b q : Nat) (f : Nat → Int64) (n i : Nat) (hb : w b = some (bsc q)) (hq : w q = some (lar g f)) (hf : f 0 = lN n) (h2 : n < 65) (hi : i < 7) : fMet l g yJ6_get cJ6_get 3 (some .boolean) 2 30 0 0 [.ref b, .int (nI i)] w (fun r w1 => r = some (.int (if n / 2 ^ i % 2 = 0 then 0 else 1)) ∧ w1 = w) := by
  refine fw_of (by decide) (Nat.le_of_ble_eq_true rfl) ?_
  intro p e s m below meth c ls C hnm hP hl
  have hS : va_S (fA g) s.heap s.heap [] := va_S.rf
  refine lv_iload_n C.1 C.2.1 dJ6_get_0 rfl (lv_at hl 1 rfl) ?_
  refine lv_if_ge (tgt := 31) C.1 C.2.1 dJ6_get_1 (by decide) (fun c1 => ?_) (fun c1 => ?_)
  · refine lv_aload_n C.1 C.2.1 dJ6_get_31 rfl (lv_at hl 0 rfl) ?_
    refine fw_V C 0 (As := []) (rest := []) (m_bcheck l g w b) (lw_V q266 q268 qs3 q24 q269) (by decide +kernel) ⟨Nat.le_of_ble_eq_true rfl, Nat.le_of_ble_eq_true rfl⟩ hP hS hb rfl rfl rfl hl.1 (Nat.le_of_ble_eq_true rfl) dJ6_get_32 ⟨Nat.le_of_ble_eq_true rfl, Nat.le_of_ble_eq_true rfl⟩ ?_
    rintro r w1 H1 locs1 ⟨rfl, e1⟩ hP hS
    rw [e1] at hP
    clear e1 w1
    refine lv_iload_n C.1 C.2.1 dJ6_get_35 rfl (lv_at hl 1 rfl) ?_
    refine fw_S C 1 (As := [.int (nI i)]) (rest := []) (m_bword l g w (nI i)) (lw_S q298 q299 q24 q300) (by decide +kernel) ⟨Nat.le_of_ble_eq_true rfl, Nat.le_of_ble_eq_true rfl⟩ hP hS rfl rfl hl.1 (Nat.le_of_ble_eq_true rfl) dJ6_get_36 ⟨Nat.le_of_ble_eq_true rfl, Nat.le_of_ble_eq_true rfl⟩ ?_
    rw [(lz_wi i hi).1]
    rintro r w1 H1 locs1 ⟨rfl, e1⟩ hP hS
    rw [e1] at hP
    clear e1 w1
    refine lv_istore_n (lv' := [(2, .int 0), (0, .ref b), (1, .int (nI i))]) C.1 C.2.1 dJ6_get_39 rfl hl (by decide) rfl (fun ls hl => ?_)
    refine lv_iload_n C.1 C.2.1 dJ6_get_40 rfl (lv_at hl 0 rfl) ?_
    refine lv_aload_n C.1 C.2.1 dJ6_get_41 rfl (lv_at hl 1 rfl) ?_
    refine fw_get C in_J6 hP hb rfl 1 (by decide) q273 rfl rfl dJ6_get_42 ?_
    refine lv_icmp_ge (tgt := 67) C.1 C.2.1 dJ6_get_45 (by decide) (fun c2 => ?_) (fun c2 => ?_)
    · exact absurd c2 (by decide)
    · refine lv_aload_n C.1 C.2.1 dJ6_get_48 rfl (lv_at hl 1 rfl) ?_
      refine fw_get C in_J6 hP hb rfl 0 (by decide) q272 rfl rfl dJ6_get_49 ?_
      refine lv_iload_n C.1 C.2.1 dJ6_get_52 rfl (lv_at hl 0 rfl) ?_
      refine fw_lald C hP hq (show ¬ ((0 : Int32) < 0 ∨ 1 ≤ (0 : Int32).toNatClampNeg) by decide) dJ6_get_53 ?_
      rw [i00, hf]
      refine lv_lconst (v := 1) C.1 C.2.1 dJ6_get_54 (by decide) ?_
      refine lv_iload_n C.1 C.2.1 dJ6_get_55 rfl (lv_at hl 2 rfl) ?_
      refine lv_lshl C.1 C.2.1 dJ6_get_56 rfl ?_
      refine lv_land C.1 C.2.1 dJ6_get_57 ?_
      refine lv_lconst (v := 0) C.1 C.2.1 dJ6_get_58 (by decide) ?_
      refine W.lcmp C.1 C.2.1 dJ6_get_59 ?_
      refine lv_if_eq (tgt := 67) C.1 C.2.1 dJ6_get_60 (by decide) (fun c3 => ?_) (fun c3 => ?_)
      · refine lv_iconst (v := 0) C.1 C.2.1 dJ6_get_67 (by decide) ?_
        refine fw_zret C narrow_b0 ⟨?_, rfl⟩ hP hS ⟨Nat.le_of_ble_eq_true rfl, Nat.le_of_ble_eq_true rfl⟩ dJ6_get_68
        rw [if_pos ((lz_bit i hi n h2).mp ((lg_cmp_eq _ _).mp c3))]
      · refine lv_iconst (v := 1) C.1 C.2.1 dJ6_get_63 (by decide) ?_
        refine lv_goto (tgt := 68) C.1 C.2.1 dJ6_get_64 (by decide) ?_
        refine fw_zret C narrow_b1 ⟨?_, rfl⟩ hP hS ⟨Nat.le_of_ble_eq_true rfl, Nat.le_of_ble_eq_true rfl⟩ dJ6_get_68
        rw [if_neg (fun z => c3 ((lg_cmp_eq _ _).mpr ((lz_bit i hi n h2).mpr z)))]
  · exact absurd (lz_wi i hi).2 c1
section FCLN
variable {p : Program} {l : Launch} {e : Env} {R : Room} {s : State} {m : MethodId} {args : Array Value} {below : List Frame} {meth : Method} {c : Code} {H : Heap} {locs : List Loc} {cells slots : Nat} {Q : State → Prop}
variable {g : fG} {cc : ByteArray} {nl : Nat} {rt : Option FieldType} {w : fW} {pc a : Nat} {ls : Array Slot} {rest : List Value}
theorem fw_clonel (C : fC g p s m args meth c RJ7 cc nl rt) (hP : HP g w H) (hS : va_S (fA g) s.heap H locs) (hA : g.2.1 ≤ a) {n : Nat} {f : Nat → Int64} (he : w a = some (.inl (g.2.2.1 1, n, .inr (.inl f)))) (hsz : ls.size = nl) (hframes : 1 ≤ R.frames) (hlocals : (rest.map fun v => v.category).sum + 14 ≤ R.locals) (hcells : cells + 1 ≤ R.cells) (hslots : slots + n ≤ R.slots) (hdg : decode cc pc = .ok (.invokevirtual 319, 3))
    (kk : ∀ (q : Nat) (H1 : Heap), HP g (fset w q (.inl (g.2.2.1 1, n, .inr (.inl f)))) H1 → w q = none → g.2.1 ≤ q → va_S (fA g) s.heap H1 locs → W p l e R s m args below meth c H1 locs (cells + 1) (slots + n) Q (F0 m (pc + 3) ls (.ref q :: rest))) : W p l e R s m args below meth c H locs cells slots Q (F0 m pc ls (.ref a :: rest)) := by
  obtain ⟨ws, hPl, hD, hL⟩ := fw_list hP
  obtain ⟨q0, hq⟩ := hL.1 a _ hA he
  refine va_clone C.1 C.2.1 (C.2.2.2.2.1.trans hsz.symm) C.2.2.2.2.2.1 (C.2.2.2.2.2.2.1 _ q249) (C.2.2.2.2.2.2.1 _ q250) (C.2.2.2.2.2.2.1 _ q251) (C.2.2.2.2.2.2.1 _ q252) (C.2.2.2.2.2.2.1 _ q253) C.2.2.2.2.2.2.2.2.2.1.2.1 C.2.2.2.2.2.2.2.1 hPl hD hS (fun q h => Nat.le_trans C.2.2.2.2.2.2.2.2.1 h) q0 1 hq rfl (va_nm_long (C.2.2.2.2.2.2.2.1.2 1 _ rfl).2) ?_ hframes hlocals hcells hslots hdg (fun q H1 h0 h1 h2 h3 => ?_)
  · intro i v hv
    have hlt : i < n := by
      have := (Array.getElem?_eq_some_iff.mp hv).1
      rw [show (vp_cell (g.2.2.1 1) (n, .inr (.inl f))).slots.size = n from arrV_size _ _ _] at this
      exact this
    have hr : (vp_cell (g.2.2.1 1) (n, .inr (.inl f))).slots[i]? = some (.long (f i)) := arrV_read _ _ hlt
    rw [hr] at hv
    cases hv
    rfl
  · obtain ⟨k1, k2, k3⟩ := fw_bpush C.2.2.2.2.2.2.2.2.1 hP hL hS h3 h1 h2
    exact kk q H1 k1 k2 k3 h3
end FCLN
set_option maxHeartbeats 4000000 in
/-- Arrays.copyOf(a, 1) of a row of one -/
theorem m_copyOf (l : Launch) (g : fG) (w : fW) (a : Nat) (f : Nat → Int64) (ha : w a = some (lar g f)) (hA : g.2.1 ≤ a) : fMet l g yJ7_copyOf cJ7_copyOf 3 (some (.array .long)) 1 20 1 1 [.ref a, .int 1] w (fun r w1 => ∃ q : Nat, r = some (.ref q) ∧ w1 = fset w q (lar g f) ∧ w q = none ∧ g.2.1 ≤ q) := by
  refine fw_of (by decide) (Nat.le_of_ble_eq_true rfl) ?_
  intro p e s m below meth c ls C hnm hP hl
  have hS : va_S (fA g) s.heap s.heap [] := va_S.rf
  refine lv_iload_n C.1 C.2.1 dJ7_copyOf_0 rfl (lv_at hl 1 rfl) ?_
  refine lv_aload_n C.1 C.2.1 dJ7_copyOf_1 rfl (lv_at hl 0 rfl) ?_
  refine fw_alen C hP 1 rfl ha (v := 1) rfl dJ7_copyOf_2 ?_
  refine lv_icmp_ne (tgt := 14) C.1 C.2.1 dJ7_copyOf_3 (by decide) (fun c1 => ?_) (fun c1 => ?_)
  · exact absurd rfl c1
  · refine lv_aload_n C.1 C.2.1 dJ7_copyOf_6 rfl (lv_at hl 0 rfl) ?_
    refine fw_clonel C hP hS hA ha hl.1 (Nat.le_of_ble_eq_true rfl) (Nat.le_of_ble_eq_true rfl) (Nat.le_of_ble_eq_true rfl) (Nat.le_of_ble_eq_true rfl) dJ7_copyOf_7 (fun q H1 hP hw hq hS => ?_)
    refine va_castA C.1 C.2.1 C.2.2.2.2.2.1 (C.2.2.2.2.2.2.1 _ q255) (hP.one fset_s) 0 rfl (va_nm_long (C.2.2.2.2.2.2.2.1.2 1 _ rfl).2) dJ7_copyOf_10 ?_
    exact fw_aret (r := some q) C (Or.inr ⟨_, rfl⟩) ⟨q, rfl, rfl, hw, hq⟩ hP hS ⟨Nat.le_of_ble_eq_true rfl, Nat.le_of_ble_eq_true rfl⟩ dJ7_copyOf_13
set_option maxHeartbeats 4000000 in
/-- BitSet.<init>(long[]) -/
theorem m_binit (l : Launch) (g : fG) (w : fW) (b q : Nat) (f : Nat → Int64) (hb : w b = some (.inr (5, [.null, .int 0, .int 0]))) (hA : g.2.1 ≤ b) (hq : w q = some (lar g f)) : fMet l g yJ6_init cJ6_init 2 none 2 30 0 0 [.ref b, .ref q] w (fun r w1 => r = none ∧ w1 = fset w b (bsc q)) := by
  refine fw_of (by decide) (Nat.le_of_ble_eq_true rfl) ?_
  intro p e s m below meth c ls C hnm hP hl
  have hS : va_S (fA g) s.heap s.heap [] := va_S.rf
  have hne : q ≠ b := fun x => by rw [x, hb] at hq; cases hq
  refine lv_aload_n C.1 C.2.1 dJ6_init_0 rfl (lv_at hl 0 rfl) ?_
  refine W.objInit C.1 C.2.1 C.2.2.2.2.2.1 (C.2.2.2.2.2.2.1 _ q265) (C.2.2.2.2.2.2.1 _ q37) (C.2.2.2.2.2.2.1 _ q38) rfl (by rw [C.2.2.2.2.1]; exact hl.1) rfl dJ6_init_1 (Nat.le_of_ble_eq_true rfl) (Nat.le_of_ble_eq_true rfl) ?_
  refine W.eq (g2 := F0 m 4 ls []) rfl ?_
  refine lv_aload_n C.1 C.2.1 dJ6_init_4 rfl (lv_at hl 0 rfl) ?_
  refine lv_iconst (v := 0) C.1 C.2.1 dJ6_init_5 (by decide) ?_
  refine fw_put C in_J6 tyJ6 tyJ6_ok nmJ6 hP hS hA hb rfl 1 (by decide) q273 rfl rfl rfl rfl (Nat.le_of_ble_eq_true rfl) dJ6_init_6 (fun H1 locs1 hP hS => ?_)
  refine lv_aload_n C.1 C.2.1 dJ6_init_9 rfl (lv_at hl 0 rfl) ?_
  refine lv_iconst (v := 0) C.1 C.2.1 dJ6_init_10 (by decide) ?_
  refine fw_put C in_J6 tyJ6 tyJ6_ok nmJ6 hP hS hA fset_s rfl 2 (by decide) q274 rfl rfl rfl rfl (Nat.le_of_ble_eq_true rfl) dJ6_init_11 (fun H1 locs1 hP hS => ?_)
  rw [fset_fset] at hP
  refine lv_aload_n C.1 C.2.1 dJ6_init_14 rfl (lv_at hl 0 rfl) ?_
  refine lv_aload_n C.1 C.2.1 dJ6_init_15 rfl (lv_at hl 1 rfl) ?_
  refine fw_put C in_J6 tyJ6 tyJ6_ok nmJ6 hP hS hA fset_s rfl 0 (by decide) q272 rfl rfl rfl rfl (Nat.le_of_ble_eq_true rfl) dJ6_init_16 (fun H1 locs1 hP hS => ?_)
  rw [fset_fset] at hP
  refine lv_aload_n C.1 C.2.1 dJ6_init_19 rfl (lv_at hl 0 rfl) ?_
  refine lv_aload_n C.1 C.2.1 dJ6_init_20 rfl (lv_at hl 1 rfl) ?_
  refine fw_alen C hP 1 rfl ((fset_n hne).trans hq) (v := 1) rfl dJ6_init_21 ?_
  refine fw_put C in_J6 tyJ6 tyJ6_ok nmJ6 hP hS hA fset_s rfl 1 (by decide) q273 rfl rfl rfl rfl (Nat.le_of_ble_eq_true rfl) dJ6_init_22 (fun H1 locs1 hP hS => ?_)
  rw [fset_fset] at hP
  refine lv_aload_n C.1 C.2.1 dJ6_init_25 rfl (lv_at hl 0 rfl) ?_
  refine fw_V C 0 (As := []) (rest := []) (m_bcheck l g _ b) (lw_V q266 q268 qs3 q24 q269) (by decide +kernel) ⟨Nat.le_of_ble_eq_true rfl, Nat.le_of_ble_eq_true rfl⟩ hP hS fset_s rfl rfl rfl hl.1 (Nat.le_of_ble_eq_true rfl) dJ6_init_26 ⟨Nat.le_of_ble_eq_true rfl, Nat.le_of_ble_eq_true rfl⟩ ?_
  rintro r w1 H1 locs1 ⟨rfl, e1⟩ hP hS
  rw [e1] at hP
  clear e1 w1
  exact fw_vret C ⟨rfl, rfl⟩ hP hS ⟨Nat.le_of_ble_eq_true rfl, Nat.le_of_ble_eq_true rfl⟩ dJ6_init_29
set_option maxHeartbeats 4000000 in
/-- BitSet.valueOf of a row of one word that isn't 0 -/
theorem m_bvalueOf (l : Launch) (g : fG) (w : fW) (a : Nat) (f : Nat → Int64) (ha : w a = some (lar g f)) (hA : g.2.1 ≤ a) (hf : f 0 ≠ 0) : fMet l g yJ6_valueOf cJ6_valueOf 2 (some (.object "java/util/BitSet")) 3 60 2 4 [.ref a] w (fun r w1 => ∃ b q : Nat, r = some (.ref b) ∧ fLe w w1 ∧ w1 b = some (bsc q) ∧ w1 q = some (lar g f)) := by
  refine fw_of (by decide) (Nat.le_of_ble_eq_true rfl) ?_
  intro p e s m below meth c ls C hnm hP hl
  have hS : va_S (fA g) s.heap s.heap [] := va_S.rf
  refine lv_aload_n C.1 C.2.1 dJ6_valueOf_0 rfl (lv_at hl 0 rfl) ?_
  refine fw_alen C hP 1 rfl ha (v := 1) rfl dJ6_valueOf_1 ?_
  refine lv_istore_n (lv' := [(1, .int 1), (0, .ref a)]) C.1 C.2.1 dJ6_valueOf_2 rfl hl (by decide) rfl (fun ls hl => ?_)
  refine lv_iload_n C.1 C.2.1 dJ6_valueOf_3 rfl (lv_at hl 0 rfl) ?_
  refine lv_if_le (tgt := 23) C.1 C.2.1 dJ6_valueOf_4 (by decide) (fun c1 => ?_) (fun c1 => ?_)
  · exact absurd c1 (by decide)
  · refine lv_aload_n C.1 C.2.1 dJ6_valueOf_7 rfl (lv_at hl 1 rfl) ?_
    refine lv_iload_n C.1 C.2.1 dJ6_valueOf_8 rfl (lv_at hl 0 rfl) ?_
    refine lv_iconst (v := 1) C.1 C.2.1 dJ6_valueOf_9 (by decide) ?_
    refine lv_isub C.1 C.2.1 dJ6_valueOf_10 ?_
    refine fw_lald C hP ha (show ¬ ((1 - 1 : Int32) < 0 ∨ 1 ≤ (1 - 1 : Int32).toNatClampNeg) by decide) dJ6_valueOf_11 ?_
    refine lv_lconst (v := 0) C.1 C.2.1 dJ6_valueOf_12 (by decide) ?_
    refine W.lcmp C.1 C.2.1 dJ6_valueOf_13 ?_
    refine lv_if_ne (tgt := 23) C.1 C.2.1 dJ6_valueOf_14 (by decide) (fun c2 => ?_) (fun c2 => ?_)
    · refine fw_new (fs := [.null, .int 0, .int 0]) C in_J6 tyJ6 tyJ6_ok q244 q245 q24 hP hS (ci := 5) rfl (fun j hj => by rcases (show j = 0 ∨ j = 1 ∨ j = 2 by omega) with rfl | rfl | rfl <;> rfl) (Nat.le_of_ble_eq_true rfl) (Nat.le_of_ble_eq_true rfl) dJ6_valueOf_23 (fun b H1 hP hw hbA hS => ?_)
      have hab : a ≠ b := fW_ne ha hw
      refine lv_dup C.1 C.2.1 dJ6_valueOf_26 rfl ?_
      refine lv_aload_n C.1 C.2.1 dJ6_valueOf_27 rfl (lv_at hl 1 rfl) ?_
      refine lv_iload_n C.1 C.2.1 dJ6_valueOf_28 rfl (lv_at hl 0 rfl) ?_
      refine fw_S C 2 (As := [.ref a, .int 1]) (rest := [.ref b, .ref b]) (m_copyOf l g _ a f ((fset_n hab).trans ha) hA) (lw_S q246 q247 q25 q248) (by decide +kernel) ⟨Nat.le_of_ble_eq_true rfl, Nat.le_of_ble_eq_true rfl⟩ hP hS rfl rfl hl.1 (Nat.le_of_ble_eq_true rfl) dJ6_valueOf_29 ⟨Nat.le_of_ble_eq_true rfl, Nat.le_of_ble_eq_true rfl⟩ ?_
      rintro r w1 H1 locs1 ⟨q, rfl, e1, hq0, hqA⟩ hP hS
      rw [e1] at hP
      clear e1 w1
      have hbq : b ≠ q := fW_ne fset_s hq0
      refine fw_I C 1 (As := [.ref q]) (rest := [.ref b]) (m_binit l g _ b q f ((fset_n hbq).trans fset_s) hbA fset_s) q264 q24 q262 q263 rfl (by decide +kernel) ⟨Nat.le_of_ble_eq_true rfl, Nat.le_of_ble_eq_true rfl⟩ hP hS rfl rfl hl.1 (Nat.le_of_ble_eq_true rfl) dJ6_valueOf_32 ⟨Nat.le_of_ble_eq_true rfl, Nat.le_of_ble_eq_true rfl⟩ ?_
      rintro r w1 H1 locs1 ⟨rfl, e1⟩ hP hS
      rw [e1] at hP
      clear e1 w1
      refine fw_aret (r := some b) C (Or.inl ⟨_, rfl⟩) ⟨b, q, rfl, fun z e hz => ?_, fset_s, (fset_n hbq.symm).trans fset_s⟩ hP hS ⟨Nat.le_of_ble_eq_true rfl, Nat.le_of_ble_eq_true rfl⟩ dJ6_valueOf_35
      have hzb : z ≠ b := fW_ne hz hw
      have hzq : z ≠ q := fW_ne ((fset_n hzb).trans hz) hq0
      rw [fset_n hzb, fset_n hzq, fset_n hzb]
      exact hz
    · rw [i11] at c2
      exact absurd ((lg_cmp_eq _ _).mp c2) hf
end
section
/-! findParentNode -/
set_option maxRecDepth 100000
theorem mkw_self {ns : List Nat} {kf vf : Nat → Nat} {oc ys : Nat → Option Nat} {ow : Nat → Nat} {w : fW} (h : ∀ a ∈ ns, w a = some (.inr (3, [.ref (kf a), .ref (vf a), va_rf (oc a), va_rf (ys a), .ref (ow a)]))) : w = mkw ns kf vf oc ys ow w := by
  funext x
  by_cases hx : x ∈ ns
  · rw [mkw_n hx, h x hx]
  · rw [mkw_o hx]
theorem mkw_le {ns : List Nat} {kf vf : Nat → Nat} {oc ys : Nat → Option Nat} {ow : Nat → Nat} {w0 w : fW} (h : fLe (mkw ns kf vf oc ys ow w0) w) : w = mkw ns kf vf oc ys ow w := mkw_self (fun a ha => h a _ (mkw_n ha))
/-- what stands outside the nodes stays, but at h -/
def fEx (ns : List Nat) (h : Nat) (w0 w1 : fW) : Prop := ∀ (z : Nat) (e : va_E), z ∉ ns → z ≠ h → w0 z = some e → w1 z = some e
theorem fd_div (m i : Nat) : m / 2 ^ (i + 1) = m / 2 ^ i / 2 := by rw [Nat.pow_succ, Nat.div_div_eq_div_mul]
theorem fd_le (m i : Nat) : m / 2 ^ (i + 1) ≤ m / 2 := by
  rw [Nat.pow_succ, Nat.mul_comm, ← Nat.div_div_eq_div_mul]
  exact Nat.div_le_self _ _
theorem fd_top : ∀ m, m < 65 → 2 ≤ m → 1 ≤ Nat.log2 m ∧ Nat.log2 m < 7 ∧ m / 2 ^ Nat.log2 m = 1 ∧ nI (Nat.log2 m + 1) - 2 = nI (Nat.log2 m - 1) := by decide +kernel
theorem fd_dec : ∀ i, i < 8 → nI (i + 1) + Int32.ofInt (-1) = nI i ∧ ¬ nI (i + 1) ≤ 0 := by decide +kernel
set_option maxHeartbeats 4000000 in
/-- findParentNode(n): the node at position n / 2; some cells are new -/
theorem m_findParentNode (l : Launch) (g : fG) (ns : List Nat) (kf vf : Nat → Nat) (oc ys : Nat → Option Nat) (ow : Nat → Nat) (w0 : fW) (h : Nat) (cmp : Option Nat) (sz : Int64) (k : Nat) (at_ : Nat → Nat) (n : Nat) (hh : h ∉ ns) (hw : w0 h = some (hpc cmp sz (some (at_ 1)))) (hI : fInj ns k at_) (hRe : fRep k at_ oc ys) (hn2 : 2 ≤ n) (hn : n < 65) (hnk : n / 2 ≤ k) :
    fMet l g yX1_findParentNode cX1_findParentNode 7 (some (.object "BinaryTreeAddressableHeap$Node")) 4 90 3 5 [.ref h, .long (lN n)] (mkw ns kf vf oc ys ow w0) (fun r w1 => r = some (.ref (at_ (n / 2))) ∧ ∃ w2 : fW, w1 = mkw ns kf vf oc ys ow w2 ∧ fLe (mkw ns kf vf oc ys ow w0) w2) := by
  refine fw_of (by decide) (Nat.le_of_ble_eq_true rfl) ?_
  intro p e s m below meth c ls C hnm hP hl
  have hS : va_S (fA g) s.heap s.heap [] := va_S.rf
  refine lv_iconst (v := 1) C.1 C.2.1 dX1_findParentNode_0 (by decide) ?_
  refine fw_newl C q282 hP hS (N' := 1) (by decide) (by decide) (Nat.le_of_ble_eq_true rfl) (Nat.le_of_ble_eq_true rfl) (Nat.le_of_ble_eq_true rfl) dX1_findParentNode_1 (fun a H1 hP hwa haA hS => ?_)
  refine lv_dup C.1 C.2.1 dX1_findParentNode_3 rfl ?_
  refine lv_iconst (v := 0) C.1 C.2.1 dX1_findParentNode_4 (by decide) ?_
  refine lv_lload_n C.1 C.2.1 dX1_findParentNode_5 rfl (lv_at hl 1 rfl) ?_
  refine fw_last C hP hS haA fset_s (show ¬ ((0 : Int32) < 0 ∨ 1 ≤ (0 : Int32).toNatClampNeg) by decide) dX1_findParentNode_6 (fun H1 locs1 hP hS => ?_)
  rw [fset_fset, i00] at hP
  obtain ⟨f, hfe⟩ : ∃ f, f = vp_updL (fun _ => 0) 0 (lN n) := ⟨_, rfl⟩
  have hf0 : f 0 = lN n := by rw [hfe]; exact if_pos rfl
  rw [← hfe] at hP
  clear hfe
  refine lv_astore_n (lv' := [(3, .ref a), (0, .ref h), (1, .long (lN n))]) C.1 C.2.1 dX1_findParentNode_7 rfl hl (by decide) rfl (fun ls hl => ?_)
  refine lv_aload_n C.1 C.2.1 dX1_findParentNode_8 rfl (lv_at hl 0 rfl) ?_
  have hne : f 0 ≠ 0 := by
    rw [hf0]
    exact fun z => absurd ((lN_eq (a := n) (b := 0) (by omega) (by decide)).mp z) (by omega)
  refine fw_S C 1 (As := [.ref a]) (rest := []) (m_bvalueOf l g _ a f fset_s haA hne) (lw_S q241 q242 q24 q243) (by decide +kernel) ⟨Nat.le_of_ble_eq_true rfl, Nat.le_of_ble_eq_true rfl⟩ hP hS rfl rfl hl.1 (Nat.le_of_ble_eq_true rfl) dX1_findParentNode_9 ⟨Nat.le_of_ble_eq_true rfl, Nat.le_of_ble_eq_true rfl⟩ ?_
  rintro r w1 H1 locs1 ⟨b, q, rfl, hle, hb, hq⟩ hP hS
  have hle1 : fLe (mkw ns kf vf oc ys ow w0) w1 := (fLe.new hwa _).tr hle
  have e1 := mkw_le hle1
  have hw1 : mkw ns kf vf oc ys ow w1 h = some (hpc cmp sz (some (at_ 1))) := by
    rw [← e1]
    exact hle1 h _ ((mkw_o hh).trans hw)
  have hw1' : w1 h = some (hpc cmp sz (some (at_ 1))) := hle1 h _ ((mkw_o hh).trans hw)
  have hb : mkw ns kf vf oc ys ow w1 b = some (bsc q) := by rw [← e1]; exact hb
  have hq : mkw ns kf vf oc ys ow w1 q = some (lar g f) := by rw [← e1]; exact hq
  rw [e1] at hP
  refine lv_astore (lv' := [(4, .ref b), (3, .ref a), (0, .ref h), (1, .long (lN n))]) C.1 C.2.1 dX1_findParentNode_12 hl (by decide) rfl (fun ls hl => ?_)
  refine lv_aload_n C.1 C.2.1 dX1_findParentNode_14 rfl (lv_at hl 2 rfl) ?_
  refine hx_root (v := .ref (at_ 1)) C hP hh hw1' rfl dX1_findParentNode_15 ?_
  refine lv_astore (lv' := [(5, .ref (at_ 1)), (4, .ref b), (3, .ref a), (0, .ref h), (1, .long (lN n))]) C.1 C.2.1 dX1_findParentNode_18 hl (by decide) rfl (fun ls hl => ?_)
  refine lv_aload C.1 C.2.1 dX1_findParentNode_20 (lv_at hl 1 rfl) ?_
  refine fw_V C 0 (As := []) (rest := []) (m_blength l g _ b q f n hb hq hf0 (by omega) hn) (lw_V q283 q284 q285 q24 q286) (by decide +kernel) ⟨Nat.le_of_ble_eq_true rfl, Nat.le_of_ble_eq_true rfl⟩ hP hS hb rfl rfl rfl hl.1 (Nat.le_of_ble_eq_true rfl) dX1_findParentNode_22 ⟨Nat.le_of_ble_eq_true rfl, Nat.le_of_ble_eq_true rfl⟩ ?_
  rintro r w2 H1 locs1 ⟨rfl, e2⟩ hP hS
  rw [e2] at hP
  clear e2 w2
  obtain ⟨t1, t2, t3, t4⟩ := fd_top n hn hn2
  refine lv_iconst (v := 2) C.1 C.2.1 dX1_findParentNode_25 (by decide) ?_
  refine lv_isub C.1 C.2.1 dX1_findParentNode_26 ?_
  rw [show nI (Nat.log2 n + 1) - 2 = nI (Nat.log2 n - 1) from t4]
  refine lv_istore (lv' := [(6, .int (nI (Nat.log2 n - 1))), (5, .ref (at_ 1)), (4, .ref b), (3, .ref a), (0, .ref h), (1, .long (lN n))]) C.1 C.2.1 dX1_findParentNode_27 hl (by decide) rfl (fun ls hl => ?_)
  have loop : ∀ (i : Nat) (H : Heap) (locs : List Loc) (ls : Array Slot), i < 6 → 1 ≤ n / 2 ^ (i + 1) → HP g (mkw ns kf vf oc ys ow w1) H → va_S (fA g) s.heap H locs → lv_has ls 7 [(6, .int (nI i)), (5, .ref (at_ (n / 2 ^ (i + 1)))), (4, .ref b)] →
      W p l e (fRm 4 90 3 5) s m ([.ref h, .long (lN n)] : List Value).toArray below meth c H locs 3 5 (MQ below (fQ g (fun r w1 => r = some (.ref (at_ (n / 2))) ∧ ∃ w2 : fW, w1 = mkw ns kf vf oc ys ow w2 ∧ fLe (mkw ns kf vf oc ys ow w0) w2)) ([.ref h, .long (lN n)] : List Value).toArray s 3 5 (fA g)) (F0 m 29 ls []) := by
    intro i
    induction i with
    | zero =>
      intro H locs ls _ _ hP hS hl
      have e0 : n / 2 ^ (0 + 1) = n / 2 := by rw [Nat.zero_add, Nat.pow_one]
      rw [e0] at hl
      refine lv_iload C.1 C.2.1 dX1_findParentNode_29 (lv_at hl 0 rfl) ?_
      refine lv_if_le (tgt := 70) C.1 C.2.1 dX1_findParentNode_31 (by decide) (fun c1 => ?_) (fun c1 => ?_)
      · refine lv_aload C.1 C.2.1 dX1_findParentNode_70 (lv_at hl 1 rfl) ?_
        exact fw_aret (r := some (at_ (n / 2))) C (Or.inl ⟨_, rfl⟩) ⟨rfl, w1, rfl, hle1⟩ hP hS ⟨Nat.le_of_ble_eq_true rfl, Nat.le_of_ble_eq_true rfl⟩ dX1_findParentNode_72
      · exact absurd (show nI 0 ≤ 0 by decide) c1
    | succ i ih =>
      intro H locs ls hi h1 hP hS hl
      obtain ⟨d1, d2⟩ := fd_dec i (by omega)
      have hdiv := fd_div n (i + 1)
      have hle2 := fd_le n i
      obtain ⟨x, hx⟩ : ∃ x, n / 2 ^ (i + 1 + 1) = x := ⟨_, rfl⟩
      rw [hx] at hl h1 hdiv
      have hcn := hI.1 x h1 (by omega)
      have hoc : oc (at_ x) = some (at_ (2 * x)) := by rw [(hRe x h1 (by omega)).1, fOc, if_pos (by omega)]
      have hcn2 := hI.1 (2 * x) (by omega) (by omega)
      refine lv_iload C.1 C.2.1 dX1_findParentNode_29 (lv_at hl 0 rfl) ?_
      refine lv_if_le (tgt := 70) C.1 C.2.1 dX1_findParentNode_31 (by decide) (fun c1 => ?_) (fun c1 => ?_)
      · exact absurd c1 d2
      · refine lv_aload C.1 C.2.1 dX1_findParentNode_34 (lv_at hl 2 rfl) ?_
        refine lv_iload C.1 C.2.1 dX1_findParentNode_36 (lv_at hl 0 rfl) ?_
        refine fw_V C 1 (As := [.int (nI (i + 1))]) (rest := []) (m_bget l g _ b q f n (i + 1) hb hq hf0 hn (by omega)) (lw_V q294 q295 q296 q24 q297) (by decide +kernel) ⟨Nat.le_of_ble_eq_true rfl, Nat.le_of_ble_eq_true rfl⟩ hP hS hb rfl rfl rfl hl.1 (Nat.le_of_ble_eq_true rfl) dX1_findParentNode_38 ⟨Nat.le_of_ble_eq_true rfl, Nat.le_of_ble_eq_true rfl⟩ ?_
        rintro r w2 H1 locs1 ⟨rfl, e2⟩ hP hS
        rw [e2] at hP
        clear e2 w2
        by_cases hbit : n / 2 ^ (i + 1) % 2 = 0
        · rw [if_pos hbit]
          have hx2 : 2 * x = n / 2 ^ (i + 1) := by omega
          refine lv_if_eq (tgt := 57) C.1 C.2.1 dX1_findParentNode_41 (by decide) (fun c2 => ?_) (fun c2 => ?_)
          · refine lv_aload C.1 C.2.1 dX1_findParentNode_57 (lv_at hl 1 rfl) ?_
            refine nx_oc (v := .ref (at_ (2 * x))) C hP hcn (by rw [hoc]; rfl) dX1_findParentNode_59 ?_
            refine lv_astore (lv' := [(5, .ref (at_ (2 * x))), (6, .int (nI (i + 1))), (4, .ref b)]) C.1 C.2.1 dX1_findParentNode_62 hl (by decide) rfl (fun ls hl => ?_)
            refine lv_iinc (k := 1) (lv' := [(6, .int (nI i)), (5, .ref (at_ (2 * x))), (4, .ref b)]) C.1 C.2.1 dX1_findParentNode_64 hl rfl d1 (by decide) rfl (fun ls hl => ?_)
            refine lv_goto (tgt := 29) C.1 C.2.1 dX1_findParentNode_67 (by decide) ?_
            rw [hx2] at hl
            exact ih H1 locs1 ls (by omega) (by omega) hP hS hl
          · exact absurd rfl c2
        · rw [if_neg hbit]
          have hx2 : 2 * x + 1 = n / 2 ^ (i + 1) := by omega
          have hys : ys (at_ (2 * x)) = some (at_ (2 * x + 1)) := by rw [(hRe (2 * x) (by omega) (by omega)).2, fYs, if_neg (by omega), if_pos (by omega)]
          refine lv_if_eq (tgt := 57) C.1 C.2.1 dX1_findParentNode_41 (by decide) (fun c2 => ?_) (fun c2 => ?_)
          · exact absurd c2 (by decide)
          · refine lv_aload C.1 C.2.1 dX1_findParentNode_44 (lv_at hl 1 rfl) ?_
            refine nx_oc (v := .ref (at_ (2 * x))) C hP hcn (by rw [hoc]; rfl) dX1_findParentNode_46 ?_
            refine nx_ys (v := .ref (at_ (2 * x + 1))) C hP hcn2 (by rw [hys]; rfl) dX1_findParentNode_49 ?_
            refine lv_astore (lv' := [(5, .ref (at_ (2 * x + 1))), (6, .int (nI (i + 1))), (4, .ref b)]) C.1 C.2.1 dX1_findParentNode_52 hl (by decide) rfl (fun ls hl => ?_)
            refine lv_goto (tgt := 64) C.1 C.2.1 dX1_findParentNode_54 (by decide) ?_
            refine lv_iinc (k := 1) (lv' := [(6, .int (nI i)), (5, .ref (at_ (2 * x + 1))), (4, .ref b)]) C.1 C.2.1 dX1_findParentNode_64 hl rfl d1 (by decide) rfl (fun ls hl => ?_)
            refine lv_goto (tgt := 29) C.1 C.2.1 dX1_findParentNode_67 (by decide) ?_
            rw [hx2] at hl
            exact ih H1 locs1 ls (by omega) (by omega) hP hS hl
  refine loop (Nat.log2 n - 1) _ _ ls (by omega) ?_ hP hS ?_
  · exact Nat.le_of_eq (by rw [show Nat.log2 n - 1 + 1 = Nat.log2 n by omega, t3])
  · rw [show Nat.log2 n - 1 + 1 = Nat.log2 n by omega, t3]
    exact lv_sub hl [0, 1, 2] rfl
end
section
/-! the heap's small methods, the node's constructor, insert -/
set_option maxRecDepth 100000
def fRt (k : Nat) (at_ : Nat → Nat) : Option Nat := if k = 0 then none else some (at_ 1)
theorem lN_lit : ∀ k, k < 65 → (lN k = 0 ↔ k = 0) ∧ (lN k = 1 ↔ k = 1) ∧ (lN k = 2 ↔ k = 2) ∧ lN k + 1 = lN (k + 1) ∧ lN (k + 1) - 1 = lN k := by decide +kernel
theorem fOut.use {k : Nat} {at_ : Nat → Nat} {f f' : Nat → Option Nat} (h : fOut k at_ f f') {a : Nat} (ha : ¬ fHas k at_ a) : f' a = f a := h a (fun x h1 h2 e => ha ⟨x, h1, h2, e⟩)
theorem fRep.out {k : Nat} {at_ : Nat → Nat} {oc ys : Nat → Option Nat} {a : Nat} (hR : fRep k at_ oc ys) (ha : ¬ fHas k at_ a) (v : Option Nat) : fRep k at_ (va_up oc a v) ys := by
  intro x h1 h2
  refine ⟨?_, (hR x h1 h2).2⟩
  rw [va_up_n (fun e => ha ⟨x, h1, h2, e⟩)]
  exact (hR x h1 h2).1
theorem mkw_new {ns : List Nat} {kf vf : Nat → Nat} {oc ys : Nat → Option Nat} {ow : Nat → Nat} {w0 : fW} {q kb vb h : Nat} : fset (mkw ns kf vf oc ys ow w0) q (.inr (3, [.ref kb, .ref vb, .null, .null, .ref h])) = mkw (q :: ns) (va_up kf q kb) (va_up vf q vb) (va_up oc q none) (va_up ys q none) (va_up ow q h) w0 := by
  funext x
  by_cases hx : x = q
  · subst hx
    rw [fset_s, mkw_n List.mem_cons_self, va_up_s, va_up_s, va_up_s, va_up_s, va_up_s]
    rfl
  · rw [fset_n hx]
    by_cases hm : x ∈ ns
    · rw [mkw_n hm, mkw_n (List.mem_cons_of_mem _ hm), va_up_n hx, va_up_n hx, va_up_n hx, va_up_n hx, va_up_n hx]
    · rw [mkw_o hm, mkw_o (fun z => by rcases List.mem_cons.mp z with z | z; exact hx z; exact hm z)]
section SMALL
variable (l : Launch) (g : fG) (w : fW) (h : Nat) (cmp root : Option Nat) (k : Nat)
set_option maxHeartbeats 4000000 in
theorem m_isEmpty (hw : w h = some (hpc cmp (lN k) root)) (hk : k < 65) : fMet l g yX1_isEmpty cX1_isEmpty 1 (some .boolean) 1 0 0 0 [.ref h] w (fun r w1 => r = some (.int (if k = 0 then 1 else 0)) ∧ w1 = w) := by
  refine fw_of (by decide) (Nat.le_of_ble_eq_true rfl) ?_
  intro p e s m below meth c ls C hnm hP hl
  have hS : va_S (fA g) s.heap s.heap [] := va_S.rf
  refine lv_aload_n C.1 C.2.1 dX1_isEmpty_0 rfl (lv_at hl 0 rfl) ?_
  refine fw_get C in_X1 hP hw rfl 1 (by decide) q57 rfl rfl dX1_isEmpty_1 ?_
  refine lv_lconst (v := 0) C.1 C.2.1 dX1_isEmpty_4 (by decide) ?_
  refine W.lcmp C.1 C.2.1 dX1_isEmpty_5 ?_
  refine lv_if_ne (tgt := 13) C.1 C.2.1 dX1_isEmpty_6 (by decide) (fun c1 => ?_) (fun c1 => ?_)
  · refine lv_iconst (v := 0) C.1 C.2.1 dX1_isEmpty_13 (by decide) ?_
    refine fw_zret C narrow_b0 ⟨?_, rfl⟩ hP hS ⟨Nat.le_of_ble_eq_true rfl, Nat.le_of_ble_eq_true rfl⟩ dX1_isEmpty_14
    rw [if_neg (fun z => c1 ((lg_cmp_eq _ _).mpr ((lN_lit k hk).1.mpr z)))]
  · refine lv_iconst (v := 1) C.1 C.2.1 dX1_isEmpty_9 (by decide) ?_
    refine lv_goto (tgt := 14) C.1 C.2.1 dX1_isEmpty_10 (by decide) ?_
    refine fw_zret C narrow_b1 ⟨?_, rfl⟩ hP hS ⟨Nat.le_of_ble_eq_true rfl, Nat.le_of_ble_eq_true rfl⟩ dX1_isEmpty_14
    rw [if_pos ((lN_lit k hk).1.mp ((lg_cmp_eq _ _).mp c1))]
set_option maxHeartbeats 4000000 in
theorem m_findMin (a : Nat) (hw : w h = some (hpc cmp (lN k) (some a))) (hk : k < 65) (h0 : k ≠ 0) : fMet l g yX1_findMin cX1_findMin 1 (some (.object "AddressableHeap$Handle")) 1 0 0 0 [.ref h] w (fun r w1 => r = some (.ref a) ∧ w1 = w) := by
  refine fw_of (by decide) (Nat.le_of_ble_eq_true rfl) ?_
  intro p e s m below meth c ls C hnm hP hl
  have hS : va_S (fA g) s.heap s.heap [] := va_S.rf
  refine lv_aload_n C.1 C.2.1 dX1_findMin_0 rfl (lv_at hl 0 rfl) ?_
  refine fw_get C in_X1 hP hw rfl 1 (by decide) q57 rfl rfl dX1_findMin_1 ?_
  refine lv_lconst (v := 0) C.1 C.2.1 dX1_findMin_4 (by decide) ?_
  refine W.lcmp C.1 C.2.1 dX1_findMin_5 ?_
  refine lv_if_ne (tgt := 17) C.1 C.2.1 dX1_findMin_6 (by decide) (fun c1 => ?_) (fun c1 => ?_)
  · refine lv_aload_n C.1 C.2.1 dX1_findMin_17 rfl (lv_at hl 0 rfl) ?_
    refine fw_get C in_X1 hP hw rfl 2 (by decide) q58 rfl rfl dX1_findMin_18 ?_
    exact fw_aret (r := some a) C (Or.inl ⟨_, rfl⟩) ⟨rfl, rfl⟩ hP hS ⟨Nat.le_of_ble_eq_true rfl, Nat.le_of_ble_eq_true rfl⟩ dX1_findMin_21
  · exact absurd ((lN_lit k hk).1.mp ((lg_cmp_eq _ _).mp c1)) h0
set_option maxHeartbeats 4000000 in
theorem m_hsize (hw : w h = some (hpc cmp (lN k) root)) : fMet l g yX1_size cX1_size 1 (some .long) 1 0 0 0 [.ref h] w (fun r w1 => r = some (.long (lN k)) ∧ w1 = w) := by
  refine fw_of (by decide) (Nat.le_of_ble_eq_true rfl) ?_
  intro p e s m below meth c ls C hnm hP hl
  have hS : va_S (fA g) s.heap s.heap [] := va_S.rf
  refine lv_aload_n C.1 C.2.1 dX1_size_0 rfl (lv_at hl 0 rfl) ?_
  refine fw_get C in_X1 hP hw rfl 1 (by decide) q57 rfl rfl dX1_size_1 ?_
  exact fw_lret C ⟨rfl, rfl⟩ hP hS ⟨Nat.le_of_ble_eq_true rfl, Nat.le_of_ble_eq_true rfl⟩ dX1_size_4
set_option maxHeartbeats 4000000 in
theorem m_hclear (hw : w h = some (hpc cmp (lN k) root)) (hA : g.2.1 ≤ h) : fMet l g yX1_clear cX1_clear 1 none 1 0 0 0 [.ref h] w (fun r w1 => r = none ∧ w1 = fset w h (hpc cmp (lN 0) none)) := by
  refine fw_of (by decide) (Nat.le_of_ble_eq_true rfl) ?_
  intro p e s m below meth c ls C hnm hP hl
  have hS : va_S (fA g) s.heap s.heap [] := va_S.rf
  refine lv_aload_n C.1 C.2.1 dX1_clear_0 rfl (lv_at hl 0 rfl) ?_
  refine lv_null C.1 C.2.1 dX1_clear_1 ?_
  refine fw_put C in_X1 tyX1 tyX1_ok nmX1 hP hS hA hw rfl 2 (by decide) q58 rfl rfl rfl rfl (Nat.le_of_ble_eq_true rfl) dX1_clear_2 (fun H1 locs1 hP hS => ?_)
  refine lv_aload_n C.1 C.2.1 dX1_clear_5 rfl (lv_at hl 0 rfl) ?_
  refine lv_lconst (v := 0) C.1 C.2.1 dX1_clear_6 (by decide) ?_
  refine fw_put C in_X1 tyX1 tyX1_ok nmX1 hP hS hA fset_s rfl 1 (by decide) q57 rfl rfl rfl rfl (Nat.le_of_ble_eq_true rfl) dX1_clear_7 (fun H1 locs1 hP hS => ?_)
  rw [fset_fset] at hP
  exact fw_vret C ⟨rfl, rfl⟩ hP hS ⟨Nat.le_of_ble_eq_true rfl, Nat.le_of_ble_eq_true rfl⟩ dX1_clear_10
set_option maxHeartbeats 4000000 in
theorem m_hinit2 (hw : w h = some (.inr (1, [.null, .long 0, .null]))) (hA : g.2.1 ≤ h) : fMet l g yX1_init_2 cX1_init_2 2 none 1 12 0 0 [.ref h, va_rf cmp] w (fun r w1 => r = none ∧ w1 = fset w h (hpc cmp (lN 0) none)) := by
  refine fw_of (by decide) (by cases cmp <;> exact Nat.le_of_ble_eq_true rfl) ?_
  intro p e s m below meth c ls C hnm hP hl
  have hS : va_S (fA g) s.heap s.heap [] := va_S.rf
  have hl : lv_has ls 2 [(0, .ref h), (1, va_rf cmp)] := by
    cases cmp with
    | none => exact hl
    | some x => exact hl
  refine lv_aload_n C.1 C.2.1 dX1_init_2_0 rfl (lv_at hl 0 rfl) ?_
  refine W.objInit C.1 C.2.1 C.2.2.2.2.2.1 (C.2.2.2.2.2.2.1 _ q54) (C.2.2.2.2.2.2.1 _ q37) (C.2.2.2.2.2.2.1 _ q38) rfl (by rw [C.2.2.2.2.1]; exact hl.1) rfl dX1_init_2_1 (Nat.le_of_ble_eq_true rfl) (Nat.le_of_ble_eq_true rfl) ?_
  refine W.eq (g2 := F0 m 4 ls []) rfl ?_
  refine lv_aload_n C.1 C.2.1 dX1_init_2_4 rfl (lv_at hl 0 rfl) ?_
  refine fv_aload_n C dX1_init_2_5 rfl (lv_at hl 1 rfl) ?_
  refine fw_putF C in_X1 tyX1 tyX1_ok nmX1 hP hS hA hw rfl 0 (by decide) q55 rfl rfl (hnm.trans rfl) rfl (by cases cmp <;> rfl) (by cases cmp <;> rfl) (Nat.le_of_ble_eq_true rfl) dX1_init_2_6 (fun H1 locs1 hP hS => ?_)
  refine lv_aload_n C.1 C.2.1 dX1_init_2_9 rfl (lv_at hl 0 rfl) ?_
  refine lv_lconst (v := 0) C.1 C.2.1 dX1_init_2_10 (by decide) ?_
  refine fw_put C in_X1 tyX1 tyX1_ok nmX1 hP hS hA fset_s rfl 1 (by decide) q57 rfl rfl rfl rfl (Nat.le_of_ble_eq_true rfl) dX1_init_2_11 (fun H1 locs1 hP hS => ?_)
  rw [fset_fset] at hP
  refine lv_aload_n C.1 C.2.1 dX1_init_2_14 rfl (lv_at hl 0 rfl) ?_
  refine lv_null C.1 C.2.1 dX1_init_2_15 ?_
  refine fw_put C in_X1 tyX1 tyX1_ok nmX1 hP hS hA fset_s rfl 2 (by decide) q58 rfl rfl rfl rfl (Nat.le_of_ble_eq_true rfl) dX1_init_2_16 (fun H1 locs1 hP hS => ?_)
  rw [fset_fset] at hP
  exact fw_vret C ⟨rfl, rfl⟩ hP hS ⟨Nat.le_of_ble_eq_true rfl, Nat.le_of_ble_eq_true rfl⟩ dX1_init_2_19
set_option maxHeartbeats 4000000 in
theorem m_hinit (hw : w h = some (.inr (1, [.null, .long 0, .null]))) (hA : g.2.1 ≤ h) : fMet l g yX1_init cX1_init 1 none 2 40 0 0 [.ref h] w (fun r w1 => r = none ∧ w1 = fset w h (hpc none (lN 0) none)) := by
  refine fw_of (by decide) (Nat.le_of_ble_eq_true rfl) ?_
  intro p e s m below meth c ls C hnm hP hl
  have hS : va_S (fA g) s.heap s.heap [] := va_S.rf
  refine lv_aload_n C.1 C.2.1 dX1_init_0 rfl (lv_at hl 0 rfl) ?_
  refine lv_null C.1 C.2.1 dX1_init_1 ?_
  refine fw_I C 1 (As := [.null]) (rest := []) (m_hinit2 l g w h none hw hA) q53 q14 q51 q52 rfl (by decide +kernel) ⟨Nat.le_of_ble_eq_true rfl, Nat.le_of_ble_eq_true rfl⟩ hP hS rfl rfl hl.1 (Nat.le_of_ble_eq_true rfl) dX1_init_2 ⟨Nat.le_of_ble_eq_true rfl, Nat.le_of_ble_eq_true rfl⟩ ?_
  rintro r w1 H1 locs1 ⟨rfl, e1⟩ hP hS
  rw [e1] at hP
  clear e1 w1
  exact fw_vret C ⟨rfl, rfl⟩ hP hS ⟨Nat.le_of_ble_eq_true rfl, Nat.le_of_ble_eq_true rfl⟩ dX1_init_5
end SMALL
set_option maxHeartbeats 4000000 in
/-- Node.<init> -/
theorem m_ninit (l : Launch) (g : fG) (w : fW) (q h kb vb : Nat) (hq : w q = some (.inr (3, [.null, .null, .null, .null, .null]))) (hA : g.2.1 ≤ q) : fMet l g yX3_init cX3_init 4 none 1 12 0 0 [.ref q, .ref h, .ref kb, .ref vb] w (fun r w1 => r = none ∧ w1 = fset w q (.inr (3, [.ref kb, .ref vb, .null, .null, .ref h]))) := by
  refine fw_of (by decide) (Nat.le_of_ble_eq_true rfl) ?_
  intro p e s m below meth c ls C hnm hP hl
  have hS : va_S (fA g) s.heap s.heap [] := va_S.rf
  refine lv_aload_n C.1 C.2.1 dX3_init_0 rfl (lv_at hl 0 rfl) ?_
  refine lv_aload_n C.1 C.2.1 dX3_init_1 rfl (lv_at hl 1 rfl) ?_
  refine fw_putF C in_X3 tyX3 tyX3_ok nmX3 hP hS hA hq rfl 4 (by decide) q199 rfl rfl (hnm.trans rfl) rfl rfl rfl (Nat.le_of_ble_eq_true rfl) dX3_init_2 (fun H1 locs1 hP hS => ?_)
  refine lv_aload_n C.1 C.2.1 dX3_init_5 rfl (lv_at hl 0 rfl) ?_
  refine W.objInit C.1 C.2.1 C.2.2.2.2.2.1 (C.2.2.2.2.2.2.1 _ q191) (C.2.2.2.2.2.2.1 _ q37) (C.2.2.2.2.2.2.1 _ q38) rfl (by rw [C.2.2.2.2.1]; exact hl.1) rfl dX3_init_6 (Nat.le_of_ble_eq_true rfl) (Nat.le_of_ble_eq_true rfl) ?_
  refine W.eq (g2 := F0 m 9 ls []) rfl ?_
  refine lv_aload_n C.1 C.2.1 dX3_init_9 rfl (lv_at hl 0 rfl) ?_
  refine lv_aload_n C.1 C.2.1 dX3_init_10 rfl (lv_at hl 2 rfl) ?_
  refine fw_put C in_X3 tyX3 tyX3_ok nmX3 hP hS hA fset_s rfl 0 (by decide) q192 rfl rfl rfl rfl (Nat.le_of_ble_eq_true rfl) dX3_init_11 (fun H1 locs1 hP hS => ?_)
  rw [fset_fset] at hP
  refine lv_aload_n C.1 C.2.1 dX3_init_14 rfl (lv_at hl 0 rfl) ?_
  refine lv_aload_n C.1 C.2.1 dX3_init_15 rfl (lv_at hl 3 rfl) ?_
  refine fw_put C in_X3 tyX3 tyX3_ok nmX3 hP hS hA fset_s rfl 1 (by decide) q194 rfl rfl rfl rfl (Nat.le_of_ble_eq_true rfl) dX3_init_16 (fun H1 locs1 hP hS => ?_)
  rw [fset_fset] at hP
  refine lv_aload_n C.1 C.2.1 dX3_init_19 rfl (lv_at hl 0 rfl) ?_
  refine lv_null C.1 C.2.1 dX3_init_20 ?_
  refine fw_put C in_X3 tyX3 tyX3_ok nmX3 hP hS hA fset_s rfl 2 (by decide) q195 rfl rfl rfl rfl (Nat.le_of_ble_eq_true rfl) dX3_init_21 (fun H1 locs1 hP hS => ?_)
  rw [fset_fset] at hP
  refine lv_aload_n C.1 C.2.1 dX3_init_24 rfl (lv_at hl 0 rfl) ?_
  refine lv_null C.1 C.2.1 dX3_init_25 ?_
  refine fw_put C in_X3 tyX3 tyX3_ok nmX3 hP hS hA fset_s rfl 3 (by decide) q197 rfl rfl rfl rfl (Nat.le_of_ble_eq_true rfl) dX3_init_26 (fun H1 locs1 hP hS => ?_)
  rw [fset_fset] at hP
  exact fw_vret C ⟨rfl, rfl⟩ hP hS ⟨Nat.le_of_ble_eq_true rfl, Nat.le_of_ble_eq_true rfl⟩ dX3_init_29
section CMPA
variable {p : Program} {l : Launch} {e : Env} {R : Room} {s : State} {m : MethodId} {args : Array Value} {below : List Frame} {meth : Method} {c : Code} {H : Heap} {locs : List Loc} {cells slots : Nat} {Q : State → Prop}
variable {g : fG} {own : String} {cc : ByteArray} {nl : Nat} {rt : Option FieldType} {pc : Nat} {ls : Array Slot} {rest : List Value} {w : fW} {a b : Nat} {x y : Int32}
theorem ca_cast (C : fC g p s m args meth c own cc nl rt) (hP : HP g w H) (ha : w a = some (fInt x)) {index : Nat} (hcl : Cond.classLink own index "java/lang/Comparable" ∈ lw_all) (hdg : decode cc pc = .ok (.checkcast index, 3))
    (kk : W p l e R s m args below meth c H locs cells slots Q (F0 m (pc + 3) ls (.ref a :: rest))) : W p l e R s m args below meth c H locs cells slots Q (F0 m pc ls (.ref a :: rest)) :=
  va_castY C.1 C.2.1 C.2.2.2.2.2.1 (C.2.2.2.2.2.2.1 _ hcl) C.2.2.2.2.2.2.2.2.2.1.1 (fw_recv (ci := 4) C hP ha rfl) hdg kk
theorem ca_order (C : fC g p s m args meth c own cc nl rt) (hP : HP g w H) (hS : va_S (fA g) s.heap H locs) (ha : w a = some (fInt x)) (hb : w b = some (fInt y)) {index : Nat} (hlk : Cond.methodLink own index yX0_order ∈ lw_all) (hR : 4 ≤ R.frames ∧ 92 ≤ R.locals) (hsz : ls.size = nl) (hroom : (rest.map fun v => v.category).sum ≤ 8) (hf : cells ≤ R.cells ∧ slots ≤ R.slots) (hdg : decode cc pc = .ok (.invokestatic index, 3))
    (kk : ∀ (H1 : Heap) (locs1 : List Loc), HP g w H1 → va_S (fA g) s.heap H1 locs1 → W p l e R s m args below meth c H1 locs1 cells slots Q (F0 m (pc + 3) ls (.int (fcp false x y) :: rest))) : W p l e R s m args below meth c H locs cells slots Q (F0 m pc ls (.ref b :: .ref a :: rest)) := by
  refine fw_S C 2 (As := [.ref a, .ref b]) (rest := rest) (m_order l g w a b x y ha hb) (lw_S hlk q213 q13 q214) (by decide +kernel) ⟨Nat.le_trans (Nat.le_of_ble_eq_true rfl) hR.1, Nat.le_trans (Nat.le_of_ble_eq_true rfl) hR.2⟩ hP hS rfl rfl hsz hroom hdg hf ?_
  rintro r w1 H1 locs1 ⟨rfl, e1⟩ hP hS
  rw [e1] at hP
  rw [← fcp_f x y]
  exact kk H1 locs1 hP hS
theorem ca_comp (C : fC g p s m args meth c own cc nl rt) (hP : HP g w H) (hS : va_S (fA g) s.heap H locs) (ha : w a = some (fInt x)) (hb : w b = some (fInt y)) {index : Nat} (hlk : Cond.methodLink own index ⟨"java/util/Comparator", "compare", "(Ljava/lang/Object;Ljava/lang/Object;)I"⟩ ∈ lw_all) (hR : 4 ≤ R.frames ∧ 92 ≤ R.locals) (hsz : ls.size = nl) (hroom : (rest.map fun v => v.category).sum ≤ 8) (hf : cells ≤ R.cells ∧ slots ≤ R.slots) (hdg : decode cc pc = .ok (.invokeinterface index 3, 5))
    (kk : ∀ (H1 : Heap) (locs1 : List Loc), HP g w H1 → va_S (fA g) s.heap H1 locs1 → W p l e R s m args below meth c H1 locs1 cells slots Q (F0 m (pc + 5) ls (.int (fcp true x y) :: rest))) : W p l e R s m args below meth c H locs cells slots Q (F0 m pc ls (.ref b :: .ref a :: .ref g.2.2.2.1.2 :: rest)) := by
  refine fw_F C 2 (x := ⟨"java/util/Comparator", "compare", "(Ljava/lang/Object;Ljava/lang/Object;)I"⟩) (Cn := "BinaryTreeAddressableHeapDesk$Down") (As := [.ref a, .ref b]) (rest := rest) (m_compare l g w a b x y ha hb) (fw_lF hlk q225 q227 q560 q229) C.2.2.2.2.2.2.2.2.2.1.2.2.2.2.2.2.2.2.2.2.1 (by decide +kernel) ⟨Nat.le_trans (Nat.le_of_ble_eq_true rfl) hR.1, Nat.le_trans (Nat.le_of_ble_eq_true rfl) hR.2⟩ hP hS (va_Orecv C.2.2.2.2.2.2.2.2.2.2.2.2.2.2.2 hS) rfl rfl hsz hroom hdg hf ?_
  rintro r w1 H1 locs1 ⟨rfl, e1⟩ hP hS
  rw [e1] at hP
  rw [← fcp_t x y]
  exact kk H1 locs1 hP hS
end CMPA
end
section
/-! insert -/
set_option maxRecDepth 100000
def inQ (g : fG) (ns : List Nat) (kf vf : Nat → Nat) (oc ys : Nat → Option Nat) (ow : Nat → Nat) (w0 : fW) (h : Nat) (dn : Bool) (kv : Nat → Int32) (k : Nat) (at_ : Nat → Nat) (kb vb : Nat) (v : Int32) : Option Value → fW → Prop := fun r w1 => ∃ (q : Nat) (at1 : Nat → Nat) (oc1 ys1 : Nat → Option Nat) (w2 : fW), r = some (.ref q) ∧ mkw ns kf vf oc ys ow w0 q = none ∧ g.2.1 ≤ q ∧ w1 = mkw (q :: ns) (va_up kf q kb) (va_up vf q vb) oc1 ys1 (va_up ow q h) w2 ∧ w2 h = some (hpc (fcm g dn) (lN (k + 1)) (some (at1 1))) ∧ fEx (q :: ns) h w0 w2 ∧ fInj (q :: ns) (k + 1) at1 ∧ fRep (k + 1) at1 oc1 ys1 ∧ hOrd (k + 1) at1 (fun a => frk dn (va_up kv q v a)) ∧ (∀ a, fHas (k + 1) at1 a ↔ a = q ∨ fHas k at_ a) ∧ (∀ a, a ≠ q → ¬ fHas k at_ a → oc1 a = oc a ∧ ys1 a = ys a)
section INS
variable {ns : List Nat} {k : Nat} {at_ : Nat → Nat} {oc ys : Nat → Option Nat} {q : Nat}
theorem in_0 (hoc : oc q = none) (hys : ys q = none) : fRep 1 (fNw 0 at_ q) oc ys := by
  intro x h1 h2
  have hx : x = 0 + 1 := by omega
  rw [hx, fNw_n, hoc, hys]
  exact ⟨rfl, rfl⟩
theorem in_1a (hI : fInj ns 1 at_) (hR : fRep 1 at_ oc ys) (hq : q ∉ ns) (hys : ys q = none) : fRep 2 (fSw (fNw 1 at_ q) 1 2) (va_up oc q (some (at_ 1))) (va_up ys (at_ 1) (some q)) := by
  have hne : at_ 1 ≠ q := fun e => hq (by rw [← e]; exact hI.1 1 (by omega) (by omega))
  have e2 : fNw 1 at_ q 2 = q := if_pos rfl
  have e1 : fNw 1 at_ q 1 = at_ 1 := if_neg (by decide)
  have h1 := hR 1 (by omega) (by omega)
  intro x hx1 hx2
  rcases (show x = 1 ∨ x = 2 by omega) with z | z
  · rw [z, fSw_i, e2, va_up_s, va_up_n (fun e => hne e.symm), hys]
    refine ⟨?_, rfl⟩
    show some (at_ 1) = if 2 * 1 ≤ 2 then some (fSw (fNw 1 at_ q) 1 2 2) else none
    rw [if_pos (by decide), fSw_j, e1]
  · rw [z, fSw_j, e1, va_up_s, va_up_n hne, h1.1]
    refine ⟨rfl, ?_⟩
    show some q = if 2 ≤ 1 then none else if 2 % 2 = 0 ∧ 2 + 1 ≤ 2 then some (fSw (fNw 1 at_ q) 1 2 3) else some (fSw (fNw 1 at_ q) 1 2 1)
    rw [if_neg (by decide), if_neg (by decide), fSw_i, e2]
theorem in_1b (hI : fInj ns 1 at_) (hR : fRep 1 at_ oc ys) (hq : q ∉ ns) (hoc : oc q = none) : fRep 2 (fNw 1 at_ q) (va_up oc (at_ 1) (some q)) (va_up ys q (some (at_ 1))) := by
  have hne : at_ 1 ≠ q := fun e => hq (by rw [← e]; exact hI.1 1 (by omega) (by omega))
  have e2 : fNw 1 at_ q 2 = q := if_pos rfl
  have e1 : fNw 1 at_ q 1 = at_ 1 := if_neg (by decide)
  have h1 := hR 1 (by omega) (by omega)
  intro x hx1 hx2
  rcases (show x = 1 ∨ x = 2 by omega) with z | z
  · rw [z, e1, va_up_s, va_up_n hne, h1.2]
    refine ⟨?_, rfl⟩
    show some q = if 2 * 1 ≤ 2 then some (fNw 1 at_ q 2) else none
    rw [if_pos (by decide), e2]
  · rw [z, e2, va_up_s, va_up_n (fun e => hne e.symm), hoc]
    refine ⟨rfl, ?_⟩
    show some (at_ 1) = if 2 ≤ 1 then none else if 2 % 2 = 0 ∧ 2 + 1 ≤ 2 then some (fNw 1 at_ q 3) else some (fNw 1 at_ q 1)
    rw [if_neg (by decide), if_neg (by decide), e1]
end INS
theorem fKv.new {ns : List Nat} {kf : Nat → Nat} {w0 : fW} {kv : Nat → Int32} {q kb : Nat} {v : Int32} (hK : fKv ns kf w0 kv) (hq : w0 q = none) (hkb : kb ∉ ns) (hkw : w0 kb = some (fInt v)) (hqn : q ∉ ns) : fKv (q :: ns) (va_up kf q kb) w0 (va_up kv q v) := by
  intro a ha
  by_cases h : a = q
  · rw [h, va_up_s, va_up_s]
    refine ⟨fun z => ?_, hkw⟩
    rcases List.mem_cons.mp z with z | z
    · rw [z, hq] at hkw
      cases hkw
    · exact hkb z
  · rw [va_up_n h, va_up_n h]
    have hm : a ∈ ns := (List.mem_cons.mp ha).resolve_left h
    refine ⟨fun z => ?_, (hK a hm).2⟩
    rcases List.mem_cons.mp z with z | z
    · have := (hK a hm).2
      rw [z, hq] at this
      cases this
    · exact (hK a hm).1 z
set_option maxHeartbeats 4000000 in
/-- insert of a key v in the box kb -/
theorem m_insert (l : Launch) (g : fG) (ns : List Nat) (kf vf : Nat → Nat) (oc ys : Nat → Option Nat) (ow : Nat → Nat) (w0 : fW) (h : Nat) (dn : Bool) (kv : Nat → Int32) (k : Nat) (at_ : Nat → Nat) (kb vb : Nat) (v : Int32) (hA : ∀ a ∈ ns, g.2.1 ≤ a) (hhA : g.2.1 ≤ h) (hh : h ∉ ns) (hw : w0 h = some (hpc (fcm g dn) (lN k) (fRt k at_))) (hK : fKv ns kf w0 kv) (hI : fInj ns k at_) (hRe : fRep k at_ oc ys) (hO : hOrd k at_ (fun a => frk dn (kv a))) (hk : k < 64) (hkb : kb ∉ ns) (hkw : w0 kb = some (fInt v)) :
    fMet l g yX1_insert cX1_insert 5 (some (.object "AddressableHeap$Handle")) 6 150 4 10 [.ref h, .ref kb, .ref vb] (mkw ns kf vf oc ys ow w0) (inQ g ns kf vf oc ys ow w0 h dn kv k at_ kb vb v) := by
  refine fw_of (by decide) (Nat.le_of_ble_eq_true rfl) ?_
  intro p e s m below meth c ls C hnm hP hl
  have hS : va_S (fA g) s.heap s.heap [] := va_S.rf
  refine lv_aload_n C.1 C.2.1 dX1_insert_0 rfl (lv_at hl 1 rfl) ?_
  refine lv_ifnonnull (tgt := 14) C.1 C.2.1 dX1_insert_1 (by decide) ?_
  refine fw_new (fs := [.null, .null, .null, .null, .null]) C in_X3 tyX3 tyX3_ok q186 q187 q23 hP hS (ci := 3) rfl (fun j hj => by rcases (show j = 0 ∨ j = 1 ∨ j = 2 ∨ j = 3 ∨ j = 4 by omega) with rfl | rfl | rfl | rfl | rfl <;> rfl) (Nat.le_of_ble_eq_true rfl) (Nat.le_of_ble_eq_true rfl) dX1_insert_14 (fun q H1 hP hwq hqA hS => ?_)
  refine lv_dup C.1 C.2.1 dX1_insert_17 rfl ?_
  refine lv_aload_n C.1 C.2.1 dX1_insert_18 rfl (lv_at hl 0 rfl) ?_
  refine lv_aload_n C.1 C.2.1 dX1_insert_19 rfl (lv_at hl 1 rfl) ?_
  refine lv_aload_n C.1 C.2.1 dX1_insert_20 rfl (lv_at hl 2 rfl) ?_
  refine fw_I C 3 (As := [.ref h, .ref kb, .ref vb]) (rest := [.ref q]) (m_ninit l g _ q h kb vb fset_s hqA) q190 q23 q188 q189 rfl (by decide +kernel) ⟨Nat.le_of_ble_eq_true rfl, Nat.le_of_ble_eq_true rfl⟩ hP hS rfl rfl hl.1 (Nat.le_of_ble_eq_true rfl) dX1_insert_21 ⟨Nat.le_of_ble_eq_true rfl, Nat.le_of_ble_eq_true rfl⟩ ?_
  rintro r w1 H1 locs1 ⟨rfl, e1⟩ hP hS
  rw [e1] at hP
  clear e1 w1
  rw [fset_fset, mkw_new] at hP
  refine lv_astore_n (lv' := [(3, .ref q), (0, .ref h), (1, .ref kb), (2, .ref vb)]) C.1 C.2.1 dX1_insert_24 rfl hl (by decide) rfl (fun ls hl => ?_)
  have hqn : q ∉ ns := fun z => by rw [mkw_n z] at hwq; cases hwq
  have hq0 : w0 q = none := (mkw_o hqn).symm.trans hwq
  have hhq : h ≠ q := fun z => by rw [z, hq0] at hw; cases hw
  have hh' : h ∉ q :: ns := fun z => by rcases List.mem_cons.mp z with z | z; exact hhq z; exact hh z
  have hA' : ∀ a ∈ q :: ns, g.2.1 ≤ a := fun a ha => by
    rcases List.mem_cons.mp ha with z | z
    · rw [z]; exact hqA
    · exact hA a z
  have hK' := fKv.new hK hq0 hkb hkw hqn
  have hI' : fInj (q :: ns) k at_ := ⟨fun x h1 h2 => List.mem_cons_of_mem _ (hI.1 x h1 h2), hI.2⟩
  have hne : ∀ x, 1 ≤ x → x ≤ k → at_ x ≠ q := fun x h1 h2 z => hqn (by rw [← z]; exact hI.1 x h1 h2)
  have hRe' : fRep k at_ (va_up oc q none) (va_up ys q none) := fun x h1 h2 => by
    rw [va_up_n (hne x h1 h2), va_up_n (hne x h1 h2)]
    exact hRe x h1 h2
  have hO' : hOrd k at_ (fun a => frk dn (va_up kv q v a)) := fun x h1 h2 => by
    show frk dn (va_up kv q v (at_ (x / 2))) ≤ frk dn (va_up kv q v (at_ x))
    rw [va_up_n (hne x (by omega) h2), va_up_n (hne (x / 2) (by omega) (by omega))]
    exact hO x h1 h2
  have hoq : va_up oc q none q = none := va_up_s
  have hyq : va_up ys q none q = none := va_up_s
  have hkq : va_up kf q kb q = kb := va_up_s
  have hout : ∀ a, a ≠ q → ¬ fHas k at_ a → ∀ x, 1 ≤ x → x ≤ k → at_ x ≠ a := fun a _ hb x h1 h2 e => hb ⟨x, h1, h2, e⟩
  have lit := lN_lit k (by omega)
  refine lv_aload_n C.1 C.2.1 dX1_insert_25 rfl (lv_at hl 1 rfl) ?_
  refine hx_size C hP hh' hw dX1_insert_26 ?_
  refine lv_lconst (v := 0) C.1 C.2.1 dX1_insert_29 (by decide) ?_
  refine W.lcmp C.1 C.2.1 dX1_insert_30 ?_
  refine lv_if_ne (tgt := 46) C.1 C.2.1 dX1_insert_31 (by decide) (fun c1 => ?_) (fun c1 => ?_)
  · have hk0 : k ≠ 0 := fun z => c1 ((lg_cmp_eq _ _).mpr (lit.1.mpr z))
    have hrt : fRt k at_ = some (at_ 1) := if_neg hk0
    rw [hrt] at hw
    refine lv_aload_n C.1 C.2.1 dX1_insert_46 rfl (lv_at hl 1 rfl) ?_
    refine hx_size C hP hh' hw dX1_insert_47 ?_
    refine lv_lconst (v := 1) C.1 C.2.1 dX1_insert_50 (by decide) ?_
    refine W.lcmp C.1 C.2.1 dX1_insert_51 ?_
    refine lv_if_ne (tgt := 154) C.1 C.2.1 dX1_insert_52 (by decide) (fun c2 => ?_) (fun c2 => ?_)
    · have hk1 : k ≠ 1 := fun z => c2 ((lg_cmp_eq _ _).mpr (lit.2.1.mpr z))
      refine lv_aload_n C.1 C.2.1 dX1_insert_154 rfl (lv_at hl 1 rfl) ?_
      refine lv_aload_n C.1 C.2.1 dX1_insert_155 rfl (lv_at hl 1 rfl) ?_
      refine hx_size C hP hh' hw dX1_insert_156 ?_
      refine lv_lconst (v := 1) C.1 C.2.1 dX1_insert_159 (by decide) ?_
      refine lv_ladd C.1 C.2.1 dX1_insert_160 ?_
      rw [lit.2.2.2.1]
      refine fw_V C 1 (As := [.long (lN (k + 1))]) (rest := []) (m_findParentNode l g (q :: ns) _ _ _ _ _ w0 h (fcm g dn) (lN k) k at_ (k + 1) hh' hw hI' hRe' (by omega) (by omega) (by omega)) (lw_V q237 q239 qs2 q14 q240) (by decide +kernel) ⟨Nat.le_of_ble_eq_true rfl, Nat.le_of_ble_eq_true rfl⟩ hP hS ((mkw_o hh').trans hw) rfl rfl rfl hl.1 (Nat.le_of_ble_eq_true rfl) dX1_insert_161 ⟨Nat.le_of_ble_eq_true rfl, Nat.le_of_ble_eq_true rfl⟩ ?_
      rintro r w1 H1 locs1 ⟨rfl, w2, e1, hle⟩ hP hS
      rw [e1] at hP
      clear e1 w1
      have hw2 : w2 h = some (hpc (fcm g dn) (lN k) (some (at_ 1))) := hle h _ ((mkw_o hh').trans hw)
      have hK2 : fKv (q :: ns) (va_up kf q kb) w2 (va_up kv q v) := fun a ha => ⟨(hK' a ha).1, hle _ _ ((mkw_o (hK' a ha).1).trans (hK' a ha).2)⟩
      have hEx2 : ∀ (E : va_E), fEx (q :: ns) h w0 (fset w2 h E) := fun E z e' hz hzh hze => by
        rw [fset_n hzh]
        exact hle z e' ((mkw_o hz).trans hze)
      refine lv_astore (lv' := [(4, .ref (at_ ((k + 1) / 2))), (3, .ref q), (0, .ref h), (1, .ref kb), (2, .ref vb)]) C.1 C.2.1 dX1_insert_164 hl (by decide) rfl (fun ls hl => ?_)
      have hpn := hI'.1 ((k + 1) / 2) (by omega) (by omega)
      have hpoc := (hRe' ((k + 1) / 2) (by omega) (by omega)).1
      have tail : ∀ (oc1 ys1 : Nat → Option Nat) (H : Heap) (locs : List Loc) (ls : Array Slot), fRep (k + 1) (fNw k at_ q) oc1 (va_up ys1 q (some (at_ ((k + 1) / 2)))) → (∀ a, a ≠ q → ¬ fHas k at_ a → oc1 a = oc a ∧ ys1 a = ys a) → HP g (mkw (q :: ns) (va_up kf q kb) (va_up vf q vb) oc1 ys1 (va_up ow q h) w2) H → va_S (fA g) s.heap H locs → lv_has ls 5 [(4, .ref (at_ ((k + 1) / 2))), (3, .ref q), (0, .ref h)] →
          W p l e (fRm 6 150 4 10) s m ([.ref h, .ref kb, .ref vb] : List Value).toArray below meth c H locs 4 10 (MQ below (fQ g (inQ g ns kf vf oc ys ow w0 h dn kv k at_ kb vb v)) ([.ref h, .ref kb, .ref vb] : List Value).toArray s 4 10 (fA g)) (F0 m 192 ls []) := by
        intro oc1 ys1 H locs ls hR1 hO1 hP hS hl
        refine lv_aload_n C.1 C.2.1 dX1_insert_192 rfl (lv_at hl 1 rfl) ?_
        refine lv_aload C.1 C.2.1 dX1_insert_193 (lv_at hl 0 rfl) ?_
        refine nx_pys (r := some (at_ ((k + 1) / 2))) C hA' hP hS List.mem_cons_self dX1_insert_195 (fun H locs hP hS => ?_)
        refine lv_aload_n C.1 C.2.1 dX1_insert_198 rfl (lv_at hl 2 rfl) ?_
        refine lv_dup C.1 C.2.1 dX1_insert_199 rfl ?_
        refine hx_size C hP hh' hw2 dX1_insert_200 ?_
        refine lv_lconst (v := 1) C.1 C.2.1 dX1_insert_203 (by decide) ?_
        refine lv_ladd C.1 C.2.1 dX1_insert_204 ?_
        rw [lit.2.2.2.1]
        refine hx_psize C hhA hP hS hh' hw2 dX1_insert_205 (fun H locs hP hS => ?_)
        refine lv_aload_n C.1 C.2.1 dX1_insert_208 rfl (lv_at hl 2 rfl) ?_
        refine lv_aload_n C.1 C.2.1 dX1_insert_209 rfl (lv_at hl 1 rfl) ?_
        have hM := m_fixup l g (q :: ns) (va_up kf q kb) (va_up vf q vb) oc1 (va_up ys1 q (some (at_ ((k + 1) / 2)))) (va_up ow q h) (fset w2 h (hpc (fcm g dn) (lN (k + 1)) (some (at_ 1)))) h dn (lN (k + 1)) (va_up kv q v) (k + 1) (fNw k at_ q) (k + 1) hA' hhA hh' (by rw [fset_s, fNw_o (by omega)]) (hK2.set hw2 _) (fNw_inj hI hqn) hR1 (by omega) (Nat.le_refl _) (fNw_up hO')
        rw [fNw_n] at hM
        refine fw_V C 1 (As := [.ref q]) (rest := []) hM (lw_V q301 q303 qs4 q14 q304) (by decide +kernel) ⟨Nat.le_of_ble_eq_true rfl, Nat.le_of_ble_eq_true rfl⟩ hP hS ((mkw_o hh').trans fset_s) rfl rfl rfl hl.1 (Nat.le_of_ble_eq_true rfl) dX1_insert_210 ⟨Nat.le_of_ble_eq_true rfl, Nat.le_of_ble_eq_true rfl⟩ ?_
        rintro r w1 H1 locs1 ⟨rfl, at1, oc2, ys2, e1, X, hOr⟩ hP hS
        rw [e1, fset_fset] at hP
        clear e1 w1
        refine lv_aload_n C.1 C.2.1 dX1_insert_213 rfl (lv_at hl 1 rfl) ?_
        refine fw_aret (r := some q) C (Or.inl ⟨_, rfl⟩) ⟨q, at1, oc2, ys2, _, rfl, hwq, hqA, rfl, fset_s, hEx2 _, X.1, X.2.1, hOr, fun a => (X.2.2.1 a).trans (fNw_has a), fun a ha hb => ?_⟩ hP hS ⟨Nat.le_of_ble_eq_true rfl, Nat.le_of_ble_eq_true rfl⟩ dX1_insert_214
        have hna : ¬ fHas (k + 1) (fNw k at_ q) a := fun z => by rcases (fNw_has a).mp z with z | z; exact ha z; exact hb z
        refine ⟨(X.2.2.2.1.use hna).trans (hO1 a ha hb).1, (X.2.2.2.2.use hna).trans ?_⟩
        rw [va_up_n ha]
        exact (hO1 a ha hb).2
      refine lv_aload C.1 C.2.1 dX1_insert_166 (lv_at hl 0 rfl) ?_
      by_cases hev : (k + 1) % 2 = 0
      · rw [fOc, if_neg (by omega)] at hpoc
        refine nx_oc (v := .null) C hP hpn (by rw [hpoc]; rfl) dX1_insert_168 ?_
        refine lv_ifnonnullN C.1 C.2.1 dX1_insert_171 ?_
        refine lv_aload C.1 C.2.1 dX1_insert_174 (lv_at hl 0 rfl) ?_
        refine lv_aload_n C.1 C.2.1 dX1_insert_176 rfl (lv_at hl 1 rfl) ?_
        refine nx_poc (r := some q) C hA' hP hS hpn dX1_insert_177 (fun H locs hP hS => ?_)
        refine lv_goto (tgt := 192) C.1 C.2.1 dX1_insert_180 (by decide) ?_
        refine tail _ _ H locs ls (in_e hI hRe' hqn (by omega) hev hoq) (fun a ha hb => ?_) hP hS (lv_sub hl [0, 1, 2] rfl)
        rw [va_up_n (fun e => hout a ha hb _ (by omega) (by omega) e.symm), va_up_n ha, va_up_n ha]
        exact ⟨rfl, rfl⟩
      · rw [fOc, if_pos (by omega), show 2 * ((k + 1) / 2) = k by omega] at hpoc
        refine nx_oc (v := .ref (at_ k)) C hP hpn (by rw [hpoc]; rfl) dX1_insert_168 ?_
        refine lv_ifnonnull (tgt := 183) C.1 C.2.1 dX1_insert_171 (by decide) ?_
        refine lv_aload C.1 C.2.1 dX1_insert_183 (lv_at hl 0 rfl) ?_
        refine nx_oc (v := .ref (at_ k)) C hP hpn (by rw [hpoc]; rfl) dX1_insert_185 ?_
        refine lv_aload_n C.1 C.2.1 dX1_insert_188 rfl (lv_at hl 1 rfl) ?_
        refine nx_pys (r := some q) C hA' hP hS (hI'.1 k (by omega) (by omega)) dX1_insert_189 (fun H locs hP hS => ?_)
        refine tail _ _ H locs ls (in_o hI hRe' hqn (by omega) (by omega) hoq) (fun a ha hb => ?_) hP hS (lv_sub hl [0, 1, 2] rfl)
        rw [va_up_n ha, va_up_n (fun e => hout a ha hb _ (by omega) (by omega) e.symm), va_up_n ha]
        exact ⟨rfl, rfl⟩
    · have hk1 : k = 1 := lit.2.1.mp ((lg_cmp_eq _ _).mp c2)
      subst hk1
      have h1n := hI'.1 1 (by omega) (by omega)
      have hkw' : mkw (q :: ns) (va_up kf q kb) (va_up vf q vb) (va_up oc q none) (va_up ys q none) (va_up ow q h) w0 kb = some (fInt v) := by
        have := hK' q List.mem_cons_self
        rw [hkq] at this
        rw [mkw_o this.1]
        exact hkw
      have hk1' : mkw (q :: ns) (va_up kf q kb) (va_up vf q vb) (va_up oc q none) (va_up ys q none) (va_up ow q h) w0 (va_up kf q kb (at_ 1)) = some (fInt (kv (at_ 1))) := by
        have := hK' (at_ 1) h1n
        rw [mkw_o this.1, this.2, va_up_n (hne 1 (by omega) (by omega))]
      have j100 : ∀ (H : Heap) (locs : List Loc) (ls : Array Slot), HP g (mkw (q :: ns) (va_up kf q kb) (va_up vf q vb) (va_up oc q none) (va_up ys q none) (va_up ow q h) w0) H → va_S (fA g) s.heap H locs → lv_has ls 5 [(4, .int (fcp dn v (kv (at_ 1)))), (3, .ref q), (0, .ref h)] →
          W p l e (fRm 6 150 4 10) s m ([.ref h, .ref kb, .ref vb] : List Value).toArray below meth c H locs 1 5 (MQ below (fQ g (inQ g ns kf vf oc ys ow w0 h dn kv 1 at_ kb vb v)) ([.ref h, .ref kb, .ref vb] : List Value).toArray s 4 10 (fA g)) (F0 m 100 ls []) := by
        intro H locs ls hP hS hl
        have hEx2 : ∀ (E : va_E), fEx (q :: ns) h w0 (fset w0 h E) := fun E z e' hz hzh hze => by
          rw [fset_n hzh]
          exact hze
        have j145 : ∀ (at1 : Nat → Nat) (oc1 ys1 : Nat → Option Nat) (rt : Nat) (H : Heap) (locs : List Loc), rt = at1 1 → fInj (q :: ns) 2 at1 → fRep 2 at1 oc1 ys1 → hOrd 2 at1 (fun a => frk dn (va_up kv q v a)) → (∀ a, fHas 2 at1 a ↔ a = q ∨ fHas 1 at_ a) → (∀ a, a ≠ q → ¬ fHas 1 at_ a → oc1 a = oc a ∧ ys1 a = ys a) → HP g (mkw (q :: ns) (va_up kf q kb) (va_up vf q vb) oc1 ys1 (va_up ow q h) (fset w0 h (hpc (fcm g dn) (lN 1) (some rt)))) H → va_S (fA g) s.heap H locs →
            W p l e (fRm 6 150 4 10) s m ([.ref h, .ref kb, .ref vb] : List Value).toArray below meth c H locs 1 5 (MQ below (fQ g (inQ g ns kf vf oc ys ow w0 h dn kv 1 at_ kb vb v)) ([.ref h, .ref kb, .ref vb] : List Value).toArray s 4 10 (fA g)) (F0 m 145 ls []) := by
          intro at1 oc1 ys1 rt H locs a0 a1 a2 a3 a4 a5 hP hS
          refine lv_aload_n C.1 C.2.1 dX1_insert_145 rfl (lv_at hl 2 rfl) ?_
          refine lv_ldc2 C.1 C.2.1 C.2.2.2.2.2.1 (C.2.2.2.2.2.2.1 _ q236) dX1_insert_146 ?_
          refine hx_psize C hhA hP hS hh' fset_s dX1_insert_149 (fun H locs hP hS => ?_)
          rw [fset_fset] at hP
          refine lv_aload_n C.1 C.2.1 dX1_insert_152 rfl (lv_at hl 1 rfl) ?_
          exact fw_aret (r := some q) C (Or.inl ⟨_, rfl⟩) ⟨q, at1, oc1, ys1, _, rfl, hwq, hqA, rfl, Eq.trans fset_s (congrArg (fun z => some (hpc (fcm g dn) (lN 2) (some z))) a0), hEx2 _, a1, a2, a3, a4, a5⟩ hP hS ⟨Nat.le_of_ble_eq_true rfl, Nat.le_of_ble_eq_true rfl⟩ dX1_insert_153
        have hi2 := fNw_inj hI hqn
        have f1 : fNw 1 at_ q 1 = at_ 1 := if_neg (by decide)
        have f2 : fNw 1 at_ q 2 = q := if_pos rfl
        refine lv_iload C.1 C.2.1 dX1_insert_100 (lv_at hl 0 rfl) ?_
        refine lv_if_ge (tgt := 129) C.1 C.2.1 dX1_insert_102 (by decide) (fun c3 => ?_) (fun c3 => ?_)
        · have hle : ¬ frk dn v < frk dn (kv (at_ 1)) := fun z => Int32.not_le.mpr ((fcp_lt dn _ _).mpr z) c3
          refine lv_aload_n C.1 C.2.1 dX1_insert_129 rfl (lv_at hl 2 rfl) ?_
          refine hx_root (v := .ref (at_ 1)) C hP hh' hw rfl dX1_insert_130 ?_
          refine lv_aload_n C.1 C.2.1 dX1_insert_133 rfl (lv_at hl 1 rfl) ?_
          refine nx_poc (r := some q) C hA' hP hS h1n dX1_insert_134 (fun H locs hP hS => ?_)
          refine lv_aload_n C.1 C.2.1 dX1_insert_137 rfl (lv_at hl 1 rfl) ?_
          refine lv_aload_n C.1 C.2.1 dX1_insert_138 rfl (lv_at hl 2 rfl) ?_
          refine hx_root (v := .ref (at_ 1)) C hP hh' hw rfl dX1_insert_139 ?_
          refine nx_pys (r := some (at_ 1)) C hA' hP hS List.mem_cons_self dX1_insert_142 (fun H locs hP hS => ?_)
          rw [show w0 = fset w0 h (hpc (fcm g dn) (lN 1) (some (at_ 1))) from (fset_id hw).symm] at hP
          refine j145 (fNw 1 at_ q) _ _ (at_ 1) H locs f1.symm hi2 (in_1b hI hRe' hqn hoq) ?_ fNw_has (fun a ha hb => ?_) hP hS
          · intro x h1 h2
            have hx : x = 2 := by omega
            subst hx
            show frk dn (va_up kv q v (fNw 1 at_ q 1)) ≤ frk dn (va_up kv q v (fNw 1 at_ q 2))
            rw [f1, f2, va_up_s, va_up_n (hne 1 (by omega) (by omega))]
            exact Int.not_lt.mp hle
          · rw [va_up_n (fun e => hout a ha hb 1 (by omega) (by omega) e.symm), va_up_n ha, va_up_n ha, va_up_n ha]
            exact ⟨rfl, rfl⟩
        · have hlt := (fcp_lt dn _ _).mp (Int32.not_le.mp c3)
          refine lv_aload_n C.1 C.2.1 dX1_insert_105 rfl (lv_at hl 1 rfl) ?_
          refine lv_aload_n C.1 C.2.1 dX1_insert_106 rfl (lv_at hl 2 rfl) ?_
          refine hx_root (v := .ref (at_ 1)) C hP hh' hw rfl dX1_insert_107 ?_
          refine nx_poc (r := some (at_ 1)) C hA' hP hS List.mem_cons_self dX1_insert_110 (fun H locs hP hS => ?_)
          refine lv_aload_n C.1 C.2.1 dX1_insert_113 rfl (lv_at hl 2 rfl) ?_
          refine hx_root (v := .ref (at_ 1)) C hP hh' hw rfl dX1_insert_114 ?_
          refine lv_aload_n C.1 C.2.1 dX1_insert_117 rfl (lv_at hl 1 rfl) ?_
          refine nx_pys (r := some q) C hA' hP hS h1n dX1_insert_118 (fun H locs hP hS => ?_)
          refine lv_aload_n C.1 C.2.1 dX1_insert_121 rfl (lv_at hl 2 rfl) ?_
          refine lv_aload_n C.1 C.2.1 dX1_insert_122 rfl (lv_at hl 1 rfl) ?_
          refine hx_proot (r := some q) C hhA hP hS hh' hw dX1_insert_123 (fun H locs hP hS => ?_)
          refine lv_goto (tgt := 145) C.1 C.2.1 dX1_insert_126 (by decide) ?_
          refine j145 (fSw (fNw 1 at_ q) 1 2) _ _ q H locs (by rw [fSw_i]; exact f2.symm) (fSw_inj hi2 (by omega) (by omega) (by omega)) (in_1a hI hRe' hqn hyq) ?_ (fun a => (fSw_has (by omega) (by omega) (by omega) a).trans (fNw_has a)) (fun a ha hb => ?_) hP hS
          · intro x h1 h2
            have hx : x = 2 := by omega
            subst hx
            show frk dn (va_up kv q v (fSw (fNw 1 at_ q) 1 2 1)) ≤ frk dn (va_up kv q v (fSw (fNw 1 at_ q) 1 2 2))
            rw [fSw_i, fSw_j, f1, f2, va_up_s, va_up_n (hne 1 (by omega) (by omega))]
            exact Int.le_of_lt hlt
          · rw [va_up_n ha, va_up_n ha, va_up_n (fun e => hout a ha hb 1 (by omega) (by omega) e.symm), va_up_n ha]
            exact ⟨rfl, rfl⟩
      refine lv_aload_n C.1 C.2.1 dX1_insert_55 rfl (lv_at hl 1 rfl) ?_
      cases dn with
      | false =>
        refine hx_cmp (v := .null) C hP hh' hw rfl dX1_insert_56 ?_
        refine lv_ifnonnullN C.1 C.2.1 dX1_insert_59 ?_
        refine lv_aload_n C.1 C.2.1 dX1_insert_62 rfl (lv_at hl 2 rfl) ?_
        refine ca_cast C hP hkw' q211 dX1_insert_63 ?_
        refine lv_aload_n C.1 C.2.1 dX1_insert_66 rfl (lv_at hl 1 rfl) ?_
        refine hx_root (v := .ref (at_ 1)) C hP hh' hw rfl dX1_insert_67 ?_
        refine nx_key C hP h1n dX1_insert_70 ?_
        refine ca_order C hP hS hkw' hk1' q212 ⟨Nat.le_of_ble_eq_true rfl, Nat.le_of_ble_eq_true rfl⟩ hl.1 (Nat.le_of_ble_eq_true rfl) ⟨Nat.le_of_ble_eq_true rfl, Nat.le_of_ble_eq_true rfl⟩ dX1_insert_73 (fun H locs hP hS => ?_)
        refine lv_istore (lv' := [(4, .int (fcp false v (kv (at_ 1)))), (3, .ref q), (0, .ref h), (1, .ref kb), (2, .ref vb)]) C.1 C.2.1 dX1_insert_76 hl (by decide) rfl (fun ls hl => ?_)
        refine lv_goto (tgt := 100) C.1 C.2.1 dX1_insert_78 (by decide) ?_
        exact j100 H locs ls hP hS (lv_sub hl [0, 1, 2] rfl)
      | true =>
        refine hx_cmp (v := .ref g.2.2.2.1.2) C hP hh' hw rfl dX1_insert_56 ?_
        refine lv_ifnonnull (tgt := 81) C.1 C.2.1 dX1_insert_59 (by decide) ?_
        refine lv_aload_n C.1 C.2.1 dX1_insert_81 rfl (lv_at hl 1 rfl) ?_
        refine hx_cmp (v := .ref g.2.2.2.1.2) C hP hh' hw rfl dX1_insert_82 ?_
        refine lv_aload_n C.1 C.2.1 dX1_insert_85 rfl (lv_at hl 2 rfl) ?_
        refine lv_aload_n C.1 C.2.1 dX1_insert_86 rfl (lv_at hl 1 rfl) ?_
        refine hx_root (v := .ref (at_ 1)) C hP hh' hw rfl dX1_insert_87 ?_
        refine nx_key C hP h1n dX1_insert_90 ?_
        refine ca_comp C hP hS hkw' hk1' q221 ⟨Nat.le_of_ble_eq_true rfl, Nat.le_of_ble_eq_true rfl⟩ hl.1 (Nat.le_of_ble_eq_true rfl) ⟨Nat.le_of_ble_eq_true rfl, Nat.le_of_ble_eq_true rfl⟩ dX1_insert_93 (fun H locs hP hS => ?_)
        refine lv_istore (lv' := [(4, .int (fcp true v (kv (at_ 1)))), (3, .ref q), (0, .ref h), (1, .ref kb), (2, .ref vb)]) C.1 C.2.1 dX1_insert_98 hl (by decide) rfl (fun ls hl => ?_)
        exact j100 H locs ls hP hS (lv_sub hl [0, 1, 2] rfl)
  · have hk0 : k = 0 := lit.1.mp ((lg_cmp_eq _ _).mp c1)
    subst hk0
    refine lv_aload_n C.1 C.2.1 dX1_insert_34 rfl (lv_at hl 1 rfl) ?_
    refine lv_aload_n C.1 C.2.1 dX1_insert_35 rfl (lv_at hl 0 rfl) ?_
    refine hx_proot (r := some q) C hhA hP hS hh' hw dX1_insert_36 (fun H locs hP hS => ?_)
    refine lv_aload_n C.1 C.2.1 dX1_insert_39 rfl (lv_at hl 1 rfl) ?_
    refine lv_lconst (v := 1) C.1 C.2.1 dX1_insert_40 (by decide) ?_
    refine hx_psize C hhA hP hS hh' fset_s dX1_insert_41 (fun H locs hP hS => ?_)
    rw [fset_fset] at hP
    refine lv_aload_n C.1 C.2.1 dX1_insert_44 rfl (lv_at hl 0 rfl) ?_
    have f1 : fNw 0 at_ q 1 = q := if_pos rfl
    refine fw_aret (r := some q) C (Or.inl ⟨_, rfl⟩) ⟨q, fNw 0 at_ q, _, _, _, rfl, hwq, hqA, rfl, Eq.trans fset_s (congrArg (fun z => some (hpc (fcm g dn) (lN 1) (some z))) f1.symm), ?_, fNw_inj hI hqn, in_0 hoq hyq, fun x h1 h2 => absurd h2 (by omega), fNw_has, fun a ha hb => ?_⟩ hP hS ⟨Nat.le_of_ble_eq_true rfl, Nat.le_of_ble_eq_true rfl⟩ dX1_insert_45
    · intro z e' hz hzh hze
      rw [fset_n hzh]
      exact hze
    · rw [va_up_n ha, va_up_n ha]
      exact ⟨rfl, rfl⟩
end
section
/-! deleteMin -/
set_option maxRecDepth 100000
def dmQ (g : fG) (ns : List Nat) (kf vf : Nat → Nat) (oc ys : Nat → Option Nat) (ow : Nat → Nat) (w0 : fW) (h : Nat) (dn : Bool) (kv : Nat → Int32) (k : Nat) (at_ : Nat → Nat) : fW → Prop := fun w1 => ∃ (at1 : Nat → Nat) (oc1 ys1 : Nat → Option Nat) (w2 : fW), w1 = mkw ns kf vf oc1 ys1 ow w2 ∧ w2 h = some (hpc (fcm g dn) (lN (k - 1)) (fRt (k - 1) at1)) ∧ fEx ns h w0 w2 ∧ fInj ns (k - 1) at1 ∧ fRep (k - 1) at1 oc1 ys1 ∧ hOrd (k - 1) at1 (fun a => frk dn (kv a)) ∧ (∀ a, fHas (k - 1) at1 a ↔ fHas k at_ a ∧ a ≠ at_ 1) ∧ (∀ a, ¬ fHas k at_ a → oc1 a = oc a ∧ ys1 a = ys a)
theorem dm_2 {ns : List Nat} {at_ : Nat → Nat} {oc ys : Nat → Option Nat} (hI : fInj ns 2 at_) : fRep 1 (fLt 2 at_) (va_up (va_up oc (at_ 2) none) (at_ 1) none) (va_up ys (at_ 2) none) := by
  intro x h1 h2
  have hx : x = 1 := by omega
  have hne : at_ 2 ≠ at_ 1 := fun e => by have := hI.2 2 1 (by omega) (by omega) (by omega) (by omega) e; omega
  rw [hx, fLt_1, va_up_n hne, va_up_s, va_up_s]
  exact ⟨rfl, rfl⟩
set_option maxHeartbeats 4000000 in
/-- deleteMin of a heap whose nodes below the root are in order -/
theorem m_deleteMin (l : Launch) (g : fG) (ns : List Nat) (kf vf : Nat → Nat) (oc ys : Nat → Option Nat) (ow : Nat → Nat) (w0 : fW) (h : Nat) (dn : Bool) (kv : Nat → Int32) (k : Nat) (at_ : Nat → Nat) (hA : ∀ a ∈ ns, g.2.1 ≤ a) (hhA : g.2.1 ≤ h) (hh : h ∉ ns) (hw : w0 h = some (hpc (fcm g dn) (lN k) (some (at_ 1)))) (hK : fKv ns kf w0 kv) (hI : fInj ns k at_) (hRe : fRep k at_ oc ys) (hO : ∀ x, 4 ≤ x → x ≤ k → frk dn (kv (at_ (x / 2))) ≤ frk dn (kv (at_ x))) (hk0 : 1 ≤ k) (hk : k < 65) :
    fMet l g yX1_deleteMin cX1_deleteMin 5 (some (.object "AddressableHeap$Handle")) 6 150 3 5 [.ref h] (mkw ns kf vf oc ys ow w0) (fun r w1 => r = some (.ref (at_ 1)) ∧ dmQ g ns kf vf oc ys ow w0 h dn kv k at_ w1) := by
  refine fw_of (by decide) (Nat.le_of_ble_eq_true rfl) ?_
  intro p e s m below meth c ls C hnm hP hl
  have hS : va_S (fA g) s.heap s.heap [] := va_S.rf
  have lit := lN_lit k hk
  have h1n := hI.1 1 (by omega) hk0
  have hEx0 : ∀ (E : va_E), fEx ns h w0 (fset w0 h E) := fun E z e' hz hzh hze => by
    rw [fset_n hzh]
    exact hze
  refine lv_aload_n C.1 C.2.1 dX1_deleteMin_0 rfl (lv_at hl 0 rfl) ?_
  refine hx_size C hP hh hw dX1_deleteMin_1 ?_
  refine lv_lconst (v := 0) C.1 C.2.1 dX1_deleteMin_4 (by decide) ?_
  refine W.lcmp C.1 C.2.1 dX1_deleteMin_5 ?_
  refine lv_if_ne (tgt := 17) C.1 C.2.1 dX1_deleteMin_6 (by decide) (fun c0 => ?_) (fun c0 => ?_)
  · refine lv_aload_n C.1 C.2.1 dX1_deleteMin_17 rfl (lv_at hl 0 rfl) ?_
    refine hx_root (v := .ref (at_ 1)) C hP hh hw rfl dX1_deleteMin_18 ?_
    refine lv_astore_n (lv' := [(1, .ref (at_ 1)), (0, .ref h)]) C.1 C.2.1 dX1_deleteMin_21 rfl hl (by decide) rfl (fun ls hl => ?_)
    refine lv_aload_n C.1 C.2.1 dX1_deleteMin_22 rfl (lv_at hl 1 rfl) ?_
    refine hx_size C hP hh hw dX1_deleteMin_23 ?_
    refine lv_lconst (v := 1) C.1 C.2.1 dX1_deleteMin_26 (by decide) ?_
    refine W.lcmp C.1 C.2.1 dX1_deleteMin_27 ?_
    refine lv_if_ne (tgt := 43) C.1 C.2.1 dX1_deleteMin_28 (by decide) (fun c1 => ?_) (fun c1 => ?_)
    · have hk1 : k ≠ 1 := fun z => c1 ((lg_cmp_eq _ _).mpr (lit.2.1.mpr z))
      refine lv_aload_n C.1 C.2.1 dX1_deleteMin_43 rfl (lv_at hl 1 rfl) ?_
      refine hx_size C hP hh hw dX1_deleteMin_44 ?_
      refine lv_ldc2 C.1 C.2.1 C.2.2.2.2.2.1 (C.2.2.2.2.2.2.1 _ q236) dX1_deleteMin_47 ?_
      refine W.lcmp C.1 C.2.1 dX1_deleteMin_50 ?_
      refine lv_if_ne (tgt := 93) C.1 C.2.1 dX1_deleteMin_51 (by decide) (fun c2 => ?_) (fun c2 => ?_)
      · have hk2 : k ≠ 2 := fun z => c2 ((lg_cmp_eq _ _).mpr (lit.2.2.1.mpr z))
        refine lv_aload_n C.1 C.2.1 dX1_deleteMin_93 rfl (lv_at hl 1 rfl) ?_
        refine lv_aload_n C.1 C.2.1 dX1_deleteMin_94 rfl (lv_at hl 1 rfl) ?_
        refine hx_size C hP hh hw dX1_deleteMin_95 ?_
        refine fw_V C 1 (As := [.long (lN k)]) (rest := []) (m_findParentNode l g ns kf vf oc ys ow w0 h (fcm g dn) (lN k) k at_ k hh hw hI hRe (by omega) hk (by omega)) (lw_V q237 q239 qs2 q14 q240) (by decide +kernel) ⟨Nat.le_of_ble_eq_true rfl, Nat.le_of_ble_eq_true rfl⟩ hP hS ((mkw_o hh).trans hw) rfl rfl rfl hl.1 (Nat.le_of_ble_eq_true rfl) dX1_deleteMin_98 ⟨Nat.le_of_ble_eq_true rfl, Nat.le_of_ble_eq_true rfl⟩ ?_
        rintro r w1 H1 locs1 ⟨rfl, w2, e1, hle⟩ hP hS
        rw [e1] at hP
        clear e1 w1
        have hw2 : w2 h = some (hpc (fcm g dn) (lN k) (some (at_ 1))) := hle h _ ((mkw_o hh).trans hw)
        have hK2 : fKv ns kf w2 kv := fun a ha => ⟨(hK a ha).1, hle _ _ ((mkw_o (hK a ha).1).trans (hK a ha).2)⟩
        have hEx2 : ∀ (E : va_E), fEx ns h w0 (fset w2 h E) := fun E z e' hz hzh hze => by
          rw [fset_n hzh]
          exact hle z e' ((mkw_o hz).trans hze)
        refine lv_astore_n (lv' := [(2, .ref (at_ (k / 2))), (1, .ref (at_ 1)), (0, .ref h)]) C.1 C.2.1 dX1_deleteMin_101 rfl hl (by decide) rfl (fun ls hl => ?_)
        have hkn := hI.1 k hk0 (Nat.le_refl k)
        have h2n := hI.1 2 (by omega) (by omega)
        have h3n := hI.1 3 (by omega) (by omega)
        have hsub : lN k - 1 = lN (k - 1) := by
          have := (lN_lit (k - 1) (by omega)).2.2.2.2
          rw [show k - 1 + 1 = k by omega] at this
          exact this
        have hoc1 : oc (at_ 1) = some (at_ 2) := by rw [(hRe 1 (by omega) hk0).1, fOc, if_pos (by omega)]
        have tail : ∀ (oc1 ys3 : Nat → Option Nat) (H : Heap) (locs : List Loc) (ls : Array Slot), fRep (k - 1) (fLt k at_) (va_up oc1 (at_ k) (some (at_ 2))) ys3 → fOut k at_ oc oc1 → fOut k at_ ys ys3 → oc1 (at_ 1) = some (at_ 2) → HP g (mkw ns kf vf oc1 ys3 ow (fset w2 h (hpc (fcm g dn) (lN (k - 1)) (some (at_ 1))))) H → va_S (fA g) s.heap H locs → lv_has ls 5 [(3, .ref (at_ k)), (0, .ref h), (1, .ref (at_ 1))] →
            W p l e (fRm 6 150 3 5) s m ([.ref h] : List Value).toArray below meth c H locs 3 5 (MQ below (fQ g (fun r w1 => r = some (.ref (at_ 1)) ∧ dmQ g ns kf vf oc ys ow w0 h dn kv k at_ w1)) ([.ref h] : List Value).toArray s 3 5 (fA g)) (F0 m 198 ls []) := by
          intro oc1 ys3 H locs ls hR3 hO1 hO3 hoc2 hP hS hl
          refine lv_aload_n C.1 C.2.1 dX1_deleteMin_198 rfl (lv_at hl 0 rfl) ?_
          refine lv_aload_n C.1 C.2.1 dX1_deleteMin_199 rfl (lv_at hl 1 rfl) ?_
          refine hx_root (v := .ref (at_ 1)) C hP hh fset_s rfl dX1_deleteMin_200 ?_
          refine nx_oc (v := .ref (at_ 2)) C hP h1n (by rw [hoc2]; rfl) dX1_deleteMin_203 ?_
          refine nx_poc (r := some (at_ 2)) C hA hP hS hkn dX1_deleteMin_206 (fun H locs hP hS => ?_)
          refine lv_aload_n C.1 C.2.1 dX1_deleteMin_209 rfl (lv_at hl 1 rfl) ?_
          refine lv_aload_n C.1 C.2.1 dX1_deleteMin_210 rfl (lv_at hl 0 rfl) ?_
          refine hx_proot (r := some (at_ k)) C hhA hP hS hh fset_s dX1_deleteMin_211 (fun H locs hP hS => ?_)
          rw [fset_fset] at hP
          refine lv_aload_n C.1 C.2.1 dX1_deleteMin_214 rfl (lv_at hl 1 rfl) ?_
          refine lv_aload_n C.1 C.2.1 dX1_deleteMin_215 rfl (lv_at hl 1 rfl) ?_
          refine hx_root (v := .ref (at_ k)) C hP hh fset_s rfl dX1_deleteMin_216 ?_
          have hM := m_fixdown l g ns kf vf (va_up oc1 (at_ k) (some (at_ 2))) ys3 ow (fset w2 h (hpc (fcm g dn) (lN (k - 1)) (some (at_ k)))) h dn (lN (k - 1)) kv (k - 1) (fLt k at_) hA hhA hh (by rw [fset_s, fLt_1]) (hK2.set hw2 _) (fLt_inj hI (by omega)) hR3 (by omega) (fLt_dn hO)
          rw [fLt_1] at hM
          refine fw_V C 1 (As := [.ref (at_ k)]) (rest := []) hM (lw_V q396 q398 qs8 q14 q399) (by decide +kernel) ⟨Nat.le_of_ble_eq_true rfl, Nat.le_of_ble_eq_true rfl⟩ hP hS ((mkw_o hh).trans fset_s) rfl rfl rfl hl.1 (Nat.le_of_ble_eq_true rfl) dX1_deleteMin_219 ⟨Nat.le_of_ble_eq_true rfl, Nat.le_of_ble_eq_true rfl⟩ ?_
          rintro r w1 H1 locs1 ⟨rfl, at1, oc2, ys2, e1, X, hOr⟩ hP hS
          rw [e1, fset_fset] at hP
          clear e1 w1
          refine lv_aload_n C.1 C.2.1 dX1_deleteMin_222 rfl (lv_at hl 2 rfl) ?_
          refine lv_null C.1 C.2.1 dX1_deleteMin_223 ?_
          refine nx_poc (r := none) C hA hP hS h1n dX1_deleteMin_224 (fun H locs hP hS => ?_)
          refine lv_aload_n C.1 C.2.1 dX1_deleteMin_227 rfl (lv_at hl 2 rfl) ?_
          have hhas : ∀ a, fHas (k - 1) at1 a ↔ fHas k at_ a ∧ a ≠ at_ 1 := fun a => (X.2.2.1 a).trans (fLt_has hI (by omega) a)
          refine fw_aret (r := some (at_ 1)) C (Or.inl ⟨_, rfl⟩) ⟨rfl, at1, _, ys2, _, rfl, Eq.trans fset_s (congrArg (fun z => some (hpc (fcm g dn) (lN (k - 1)) z)) (if_neg (by omega)).symm), hEx2 _, X.1, X.2.1.out (fun z => ((hhas _).mp z).2 rfl) none, hOr, hhas, fun a ha => ?_⟩ hP hS ⟨Nat.le_of_ble_eq_true rfl, Nat.le_of_ble_eq_true rfl⟩ dX1_deleteMin_228
          have hna : ¬ fHas (k - 1) (fLt k at_) a := fun z => ha ((fLt_has hI (by omega) a).mp z).1
          have hak : a ≠ at_ k := fun z => ha ⟨k, hk0, Nat.le_refl k, z.symm⟩
          have ha1 : a ≠ at_ 1 := fun z => ha ⟨1, Nat.le_refl 1, hk0, z.symm⟩
          rw [va_up_n ha1, X.2.2.2.1.use hna, X.2.2.2.2.use hna, va_up_n hak]
          exact ⟨hO1.use ha, hO3.use ha⟩
        have mid : ∀ (oc1 ys1 : Nat → Option Nat) (H : Heap) (locs : List Loc) (ls : Array Slot), fOut k at_ oc oc1 → fOut k at_ ys ys1 → oc1 (at_ 1) = some (at_ 2) → ((ys1 (at_ 2) = some (at_ 1) ∧ k = 3 ∧ fRep (k - 1) (fLt k at_) (va_up oc1 (at_ k) (some (at_ 2))) (va_up (va_up ys1 (at_ k) none) (at_ 2) (some (at_ k)))) ∨ (ys1 (at_ 2) = some (at_ 3) ∧ 4 ≤ k ∧ fRep (k - 1) (fLt k at_) (va_up oc1 (at_ k) (some (at_ 2))) (va_up (va_up ys1 (at_ k) none) (at_ 3) (some (at_ k))))) → HP g (mkw ns kf vf oc1 ys1 ow w2) H → va_S (fA g) s.heap H locs → lv_has ls 5 [(3, .ref (at_ k)), (0, .ref h), (1, .ref (at_ 1))] →
            W p l e (fRm 6 150 3 5) s m ([.ref h] : List Value).toArray below meth c H locs 3 5 (MQ below (fQ g (fun r w1 => r = some (.ref (at_ 1)) ∧ dmQ g ns kf vf oc ys ow w0 h dn kv k at_ w1)) ([.ref h] : List Value).toArray s 3 5 (fA g)) (F0 m 138 ls []) := by
          intro oc1 ys1 H locs ls hO1 hO3 hoc2 hcs hP hS hl
          have hO4 : fOut k at_ ys (va_up ys1 (at_ k) none) := hO3.up hk0 (Nat.le_refl k)
          have h2k : at_ 2 ≠ at_ k := fun e => by have := hI.2 2 k (by omega) (by omega) hk0 (Nat.le_refl k) e; omega
          refine lv_aload_n C.1 C.2.1 dX1_deleteMin_138 rfl (lv_at hl 0 rfl) ?_
          refine lv_null C.1 C.2.1 dX1_deleteMin_139 ?_
          refine nx_pys (r := none) C hA hP hS hkn dX1_deleteMin_140 (fun H locs hP hS => ?_)
          refine lv_aload_n C.1 C.2.1 dX1_deleteMin_143 rfl (lv_at hl 1 rfl) ?_
          refine lv_dup C.1 C.2.1 dX1_deleteMin_144 rfl ?_
          refine hx_size C hP hh hw2 dX1_deleteMin_145 ?_
          refine lv_lconst (v := 1) C.1 C.2.1 dX1_deleteMin_148 (by decide) ?_
          refine lv_lsub C.1 C.2.1 dX1_deleteMin_149 ?_
          rw [hsub]
          refine hx_psize C hhA hP hS hh hw2 dX1_deleteMin_150 (fun H locs hP hS => ?_)
          refine lv_aload_n C.1 C.2.1 dX1_deleteMin_153 rfl (lv_at hl 1 rfl) ?_
          refine hx_root (v := .ref (at_ 1)) C hP hh fset_s rfl dX1_deleteMin_154 ?_
          refine nx_oc (v := .ref (at_ 2)) C hP h1n (by rw [hoc2]; rfl) dX1_deleteMin_157 ?_
          refine nx_ys (v := va_rf (ys1 (at_ 2))) C hP h2n (by rw [va_up_n h2k]) dX1_deleteMin_160 ?_
          refine lv_aload_n C.1 C.2.1 dX1_deleteMin_163 rfl (lv_at hl 1 rfl) ?_
          refine hx_root (v := .ref (at_ 1)) C hP hh fset_s rfl dX1_deleteMin_164 ?_
          refine lv_acmp_ne (rx := ys1 (at_ 2)) (ry := some (at_ 1)) (tgt := 184) C.1 C.2.1 dX1_deleteMin_167 (by decide) (fun c3 => ?_) (fun c3 => ?_)
          · rcases hcs with ⟨b1, b2, b3⟩ | ⟨b1, b2, b3⟩
            · exact absurd b1 c3
            · refine lv_aload_n C.1 C.2.1 dX1_deleteMin_184 rfl (lv_at hl 1 rfl) ?_
              refine hx_root (v := .ref (at_ 1)) C hP hh fset_s rfl dX1_deleteMin_185 ?_
              refine nx_oc (v := .ref (at_ 2)) C hP h1n (by rw [hoc2]; rfl) dX1_deleteMin_188 ?_
              refine nx_ys (v := .ref (at_ 3)) C hP h2n (by rw [va_up_n h2k, b1]; rfl) dX1_deleteMin_191 ?_
              refine lv_aload_n C.1 C.2.1 dX1_deleteMin_194 rfl (lv_at hl 0 rfl) ?_
              refine nx_pys (r := some (at_ k)) C hA hP hS h3n dX1_deleteMin_195 (fun H locs hP hS => ?_)
              exact tail _ _ H locs ls b3 hO1 (hO4.up (by omega) (by omega)) hoc2 hP hS hl
          · rcases hcs with ⟨b1, b2, b3⟩ | ⟨b1, b2, b3⟩
            · refine lv_aload_n C.1 C.2.1 dX1_deleteMin_170 rfl (lv_at hl 1 rfl) ?_
              refine hx_root (v := .ref (at_ 1)) C hP hh fset_s rfl dX1_deleteMin_171 ?_
              refine nx_oc (v := .ref (at_ 2)) C hP h1n (by rw [hoc2]; rfl) dX1_deleteMin_174 ?_
              refine lv_aload_n C.1 C.2.1 dX1_deleteMin_177 rfl (lv_at hl 0 rfl) ?_
              refine nx_pys (r := some (at_ k)) C hA hP hS h2n dX1_deleteMin_178 (fun H locs hP hS => ?_)
              refine lv_goto (tgt := 198) C.1 C.2.1 dX1_deleteMin_181 (by decide) ?_
              exact tail _ _ H locs ls b3 hO1 (hO4.up (by omega) (by omega)) hoc2 hP hS hl
            · rw [b1] at c3
              have := hI.2 3 1 (by omega) (by omega) (by omega) hk0 (Option.some.inj c3)
              omega
        have hpn := hI.1 (k / 2) (by omega) (by omega)
        have hpoc := (hRe (k / 2) (by omega) (by omega)).1
        rw [fOc, if_pos (by omega)] at hpoc
        have hys := (hRe (2 * (k / 2)) (by omega) (by omega)).2
        rw [fYs, if_neg (by omega)] at hys
        refine lv_aload_n C.1 C.2.1 dX1_deleteMin_102 rfl (lv_at hl 0 rfl) ?_
        by_cases hev : k % 2 = 0
        · rw [show 2 * (k / 2) = k by omega] at hpoc hys
          rw [if_neg (by omega)] at hys
          refine nx_oc (v := .ref (at_ k)) C hP hpn (by rw [hpoc]; rfl) dX1_deleteMin_103 ?_
          refine lv_astore_n (lv' := [(3, .ref (at_ k)), (2, .ref (at_ (k / 2))), (1, .ref (at_ 1)), (0, .ref h)]) C.1 C.2.1 dX1_deleteMin_106 rfl hl (by decide) rfl (fun ls hl => ?_)
          refine lv_aload_n C.1 C.2.1 dX1_deleteMin_107 rfl (lv_at hl 0 rfl) ?_
          refine nx_ys C hP hkn rfl dX1_deleteMin_108 ?_
          refine lv_aload_n C.1 C.2.1 dX1_deleteMin_111 rfl (lv_at hl 1 rfl) ?_
          refine lv_acmp_eq (rx := ys (at_ k)) (ry := some (at_ (k / 2))) (tgt := 133) C.1 C.2.1 dX1_deleteMin_112 (by decide) (fun c3 => ?_) (fun c3 => ?_)
          · refine lv_aload_n C.1 C.2.1 dX1_deleteMin_133 rfl (lv_at hl 1 rfl) ?_
            refine lv_null C.1 C.2.1 dX1_deleteMin_134 ?_
            refine nx_poc (r := none) C hA hP hS hpn dX1_deleteMin_135 (fun H locs hP hS => ?_)
            refine mid _ _ H locs ls (fOut.rf.up (by omega) (by omega)) fOut.rf ?_ (Or.inr ⟨?_, by omega, dm_e hI hRe (by omega) hev⟩) hP hS (lv_sub hl [0, 3, 2] rfl)
            · rw [va_up_n (fun e => by have := hI.2 1 (k / 2) (by omega) hk0 (by omega) (by omega) e; omega)]
              exact hoc1
            · rw [(hRe 2 (by omega) (by omega)).2, fYs, if_neg (by omega), if_pos (by omega)]
          · exact absurd hys c3
        · rw [show 2 * (k / 2) = k - 1 by omega] at hpoc hys
          rw [if_pos (by omega), show k - 1 + 1 = k by omega] at hys
          have hln := hI.1 (k - 1) (by omega) (by omega)
          refine nx_oc (v := .ref (at_ (k - 1))) C hP hpn (by rw [hpoc]; rfl) dX1_deleteMin_103 ?_
          refine lv_astore_n (lv' := [(3, .ref (at_ (k - 1))), (2, .ref (at_ (k / 2))), (1, .ref (at_ 1)), (0, .ref h)]) C.1 C.2.1 dX1_deleteMin_106 rfl hl (by decide) rfl (fun ls hl => ?_)
          refine lv_aload_n C.1 C.2.1 dX1_deleteMin_107 rfl (lv_at hl 0 rfl) ?_
          refine nx_ys C hP hln rfl dX1_deleteMin_108 ?_
          refine lv_aload_n C.1 C.2.1 dX1_deleteMin_111 rfl (lv_at hl 1 rfl) ?_
          refine lv_acmp_eq (rx := ys (at_ (k - 1))) (ry := some (at_ (k / 2))) (tgt := 133) C.1 C.2.1 dX1_deleteMin_112 (by decide) (fun c3 => ?_) (fun c3 => ?_)
          · rw [hys] at c3
            have := hI.2 k (k / 2) hk0 (Nat.le_refl k) (by omega) (by omega) (Option.some.inj c3)
            omega
          · refine lv_aload_n C.1 C.2.1 dX1_deleteMin_115 rfl (lv_at hl 0 rfl) ?_
            refine lv_astore (lv' := [(4, .ref (at_ (k - 1))), (3, .ref (at_ (k - 1))), (2, .ref (at_ (k / 2))), (1, .ref (at_ 1)), (0, .ref h)]) C.1 C.2.1 dX1_deleteMin_116 hl (by decide) rfl (fun ls hl => ?_)
            refine lv_aload C.1 C.2.1 dX1_deleteMin_118 (lv_at hl 0 rfl) ?_
            refine nx_ys (v := .ref (at_ k)) C hP hln (by rw [hys]; rfl) dX1_deleteMin_120 ?_
            refine lv_astore_n (lv' := [(3, .ref (at_ k)), (4, .ref (at_ (k - 1))), (2, .ref (at_ (k / 2))), (1, .ref (at_ 1)), (0, .ref h)]) C.1 C.2.1 dX1_deleteMin_123 rfl hl (by decide) rfl (fun ls hl => ?_)
            refine lv_aload C.1 C.2.1 dX1_deleteMin_124 (lv_at hl 1 rfl) ?_
            refine lv_aload_n C.1 C.2.1 dX1_deleteMin_126 rfl (lv_at hl 2 rfl) ?_
            refine nx_pys (r := some (at_ (k / 2))) C hA hP hS hln dX1_deleteMin_127 (fun H locs hP hS => ?_)
            refine lv_goto (tgt := 138) C.1 C.2.1 dX1_deleteMin_130 (by decide) ?_
            refine mid _ _ H locs ls fOut.rf (fOut.rf.up (by omega) (by omega)) hoc1 ?_ hP hS (lv_sub hl [0, 4, 3] rfl)
            by_cases hk3 : k = 3
            · refine Or.inl ⟨?_, hk3, dm_3 hI hRe hk3⟩
              rw [show k - 1 = 2 by omega, va_up_s, show k / 2 = 1 by omega]
            · refine Or.inr ⟨?_, by omega, dm_o hI hRe (by omega) (by omega)⟩
              rw [va_up_n (fun e => by have := hI.2 2 (k - 1) (by omega) (by omega) (by omega) (by omega) e; omega), (hRe 2 (by omega) (by omega)).2, fYs, if_neg (by omega), if_pos (by omega)]
      · have hk2 : k = 2 := lit.2.2.1.mp ((lg_cmp_eq _ _).mp c2)
        subst hk2
        have h2n := hI.1 2 (by omega) (by omega)
        have hoc1 : oc (at_ 1) = some (at_ 2) := (hRe 1 (by omega) (by omega)).1
        refine lv_aload_n C.1 C.2.1 dX1_deleteMin_54 rfl (lv_at hl 1 rfl) ?_
        refine lv_aload_n C.1 C.2.1 dX1_deleteMin_55 rfl (lv_at hl 1 rfl) ?_
        refine hx_root (v := .ref (at_ 1)) C hP hh hw rfl dX1_deleteMin_56 ?_
        refine nx_oc (v := .ref (at_ 2)) C hP h1n (by rw [hoc1]; rfl) dX1_deleteMin_59 ?_
        refine hx_proot (r := some (at_ 2)) C hhA hP hS hh hw dX1_deleteMin_62 (fun H locs hP hS => ?_)
        refine lv_aload_n C.1 C.2.1 dX1_deleteMin_65 rfl (lv_at hl 1 rfl) ?_
        refine hx_root (v := .ref (at_ 2)) C hP hh fset_s rfl dX1_deleteMin_66 ?_
        refine lv_null C.1 C.2.1 dX1_deleteMin_69 ?_
        refine nx_poc (r := none) C hA hP hS h2n dX1_deleteMin_70 (fun H locs hP hS => ?_)
        refine lv_aload_n C.1 C.2.1 dX1_deleteMin_73 rfl (lv_at hl 1 rfl) ?_
        refine hx_root (v := .ref (at_ 2)) C hP hh fset_s rfl dX1_deleteMin_74 ?_
        refine lv_null C.1 C.2.1 dX1_deleteMin_77 ?_
        refine nx_pys (r := none) C hA hP hS h2n dX1_deleteMin_78 (fun H locs hP hS => ?_)
        refine lv_aload_n C.1 C.2.1 dX1_deleteMin_81 rfl (lv_at hl 1 rfl) ?_
        refine lv_lconst (v := 1) C.1 C.2.1 dX1_deleteMin_82 (by decide) ?_
        refine hx_psize C hhA hP hS hh fset_s dX1_deleteMin_83 (fun H locs hP hS => ?_)
        rw [fset_fset] at hP
        refine lv_aload_n C.1 C.2.1 dX1_deleteMin_86 rfl (lv_at hl 0 rfl) ?_
        refine lv_null C.1 C.2.1 dX1_deleteMin_87 ?_
        refine nx_poc (r := none) C hA hP hS h1n dX1_deleteMin_88 (fun H locs hP hS => ?_)
        refine lv_aload_n C.1 C.2.1 dX1_deleteMin_91 rfl (lv_at hl 0 rfl) ?_
        refine fw_aret (r := some (at_ 1)) C (Or.inl ⟨_, rfl⟩) ⟨rfl, fLt 2 at_, _, _, _, rfl, Eq.trans fset_s (congrArg (fun z => some (hpc (fcm g dn) (lN 1) (some z))) fLt_1.symm), hEx0 _, fLt_inj hI (by omega), dm_2 hI, fun x h1 h2 => absurd h2 (by omega), fLt_has hI (by omega), fun a ha => ?_⟩ hP hS ⟨Nat.le_of_ble_eq_true rfl, Nat.le_of_ble_eq_true rfl⟩ dX1_deleteMin_92
        have ha2 : a ≠ at_ 2 := fun z => ha ⟨2, by omega, by omega, z.symm⟩
        have ha1 : a ≠ at_ 1 := fun z => ha ⟨1, by omega, by omega, z.symm⟩
        rw [va_up_n ha1, va_up_n ha2, va_up_n ha2]
        exact ⟨rfl, rfl⟩
    · have hk1 : k = 1 := lit.2.1.mp ((lg_cmp_eq _ _).mp c1)
      subst hk1
      refine lv_aload_n C.1 C.2.1 dX1_deleteMin_31 rfl (lv_at hl 1 rfl) ?_
      refine lv_null C.1 C.2.1 dX1_deleteMin_32 ?_
      refine hx_proot (r := none) C hhA hP hS hh hw dX1_deleteMin_33 (fun H locs hP hS => ?_)
      refine lv_aload_n C.1 C.2.1 dX1_deleteMin_36 rfl (lv_at hl 1 rfl) ?_
      refine lv_lconst (v := 0) C.1 C.2.1 dX1_deleteMin_37 (by decide) ?_
      refine hx_psize C hhA hP hS hh fset_s dX1_deleteMin_38 (fun H locs hP hS => ?_)
      rw [fset_fset] at hP
      refine lv_aload_n C.1 C.2.1 dX1_deleteMin_41 rfl (lv_at hl 0 rfl) ?_
      refine fw_aret (r := some (at_ 1)) C (Or.inl ⟨_, rfl⟩) ⟨rfl, at_, oc, ys, _, rfl, fset_s, hEx0 _, ⟨fun x h1 h2 => absurd h2 (by omega), fun x y h1 h2 => absurd h2 (by omega)⟩, fun x h1 h2 => absurd h2 (by omega), fun x h1 h2 => absurd h2 (by omega), fun a => ⟨?_, ?_⟩, fun a ha => ⟨rfl, rfl⟩⟩ hP hS ⟨Nat.le_of_ble_eq_true rfl, Nat.le_of_ble_eq_true rfl⟩ dX1_deleteMin_42
      · rintro ⟨x, h1, h2, h3⟩
        omega
      · rintro ⟨⟨x, h1, h2, h3⟩, hne⟩
        exact absurd (by rw [← h3, show x = 1 by omega]) hne
  · exact absurd (lit.1.mp ((lg_cmp_eq _ _).mp c0)) (by omega)
end
section
/-! the node's methods: getKey, getValue, setValue, decreaseKey, delete -/
set_option maxRecDepth 100000
section NZ
variable {ns : List Nat} {kf vf : Nat → Nat} {oc ys : Nat → Option Nat} {ow : Nat → Nat} {w0 : fW} {n h : Nat}
variable {p : Program} {l : Launch} {e : Env} {R : Room} {s : State} {m : MethodId} {args : Array Value} {below : List Frame} {meth : Method} {c : Code} {H : Heap} {locs : List Loc} {cells slots : Nat} {Q : State → Prop}
variable {g : fG} {cc : ByteArray} {nl : Nat} {rt : Option FieldType} {pc : Nat} {ls : Array Slot} {rest : List Value} {v : Value} {r : Option Nat} {cmp root : Option Nat} {sz : Int64}
theorem nz_own (C : fC g p s m args meth c RX3 cc nl rt) (hP : HP g (mkw ns kf vf oc ys ow w0) H) (hn : n ∈ ns) (hv : ow n = h) (hdg : decode cc pc = .ok (.getfield 1, 3))
    (kk : W p l e R s m args below meth c H locs cells slots Q (F0 m (pc + 3) ls (.ref h :: rest))) : W p l e R s m args below meth c H locs cells slots Q (F0 m pc ls (.ref n :: rest)) :=
  fw_get C in_X3 hP (mkw_n hn) rfl 4 (by decide) q199 rfl (by rw [← hv]; rfl) hdg kk
theorem nz_key (C : fC g p s m args meth c RX3 cc nl rt) (hP : HP g (mkw ns kf vf oc ys ow w0) H) (hn : n ∈ ns) (hdg : decode cc pc = .ok (.getfield 13, 3))
    (kk : W p l e R s m args below meth c H locs cells slots Q (F0 m (pc + 3) ls (.ref (kf n) :: rest))) : W p l e R s m args below meth c H locs cells slots Q (F0 m pc ls (.ref n :: rest)) :=
  fw_get C in_X3 hP (mkw_n hn) rfl 0 (by decide) q192 rfl rfl hdg kk
theorem nz_val (C : fC g p s m args meth c RX3 cc nl rt) (hP : HP g (mkw ns kf vf oc ys ow w0) H) (hn : n ∈ ns) (hdg : decode cc pc = .ok (.getfield 17, 3))
    (kk : W p l e R s m args below meth c H locs cells slots Q (F0 m (pc + 3) ls (.ref (vf n) :: rest))) : W p l e R s m args below meth c H locs cells slots Q (F0 m pc ls (.ref n :: rest)) :=
  fw_get C in_X3 hP (mkw_n hn) rfl 1 (by decide) q194 rfl rfl hdg kk
theorem nz_ys (C : fC g p s m args meth c RX3 cc nl rt) (hP : HP g (mkw ns kf vf oc ys ow w0) H) (hn : n ∈ ns) (hv : va_rf (ys n) = v) (hdg : decode cc pc = .ok (.getfield 24, 3))
    (kk : W p l e R s m args below meth c H locs cells slots Q (F0 m (pc + 3) ls (v :: rest))) : W p l e R s m args below meth c H locs cells slots Q (F0 m pc ls (.ref n :: rest)) :=
  fw_get C in_X3 hP (mkw_n hn) rfl 3 (by decide) q197 rfl (by rw [← hv]; rfl) hdg kk
theorem nz_root (C : fC g p s m args meth c RX3 cc nl rt) (hP : HP g (mkw ns kf vf oc ys ow w0) H) (hh : h ∉ ns) (hw : w0 h = some (hpc cmp sz root)) (hv : va_rf root = v) (hdg : decode cc pc = .ok (.getfield 27, 3))
    (kk : W p l e R s m args below meth c H locs cells slots Q (F0 m (pc + 3) ls (v :: rest))) : W p l e R s m args below meth c H locs cells slots Q (F0 m pc ls (.ref h :: rest)) :=
  fw_getN C in_X1 hP ((mkw_o hh).trans hw) rfl 2 (by decide) C.2.2.2.2.2.2.2.2.2.1.2.2.2.2.1 rfl (by rw [← hv]; rfl) hdg kk
theorem nz_cmp (C : fC g p s m args meth c RX3 cc nl rt) (hP : HP g (mkw ns kf vf oc ys ow w0) H) (hh : h ∉ ns) (hw : w0 h = some (hpc cmp sz root)) (hv : va_rf cmp = v) (hdg : decode cc pc = .ok (.getfield 39, 3))
    (kk : W p l e R s m args below meth c H locs cells slots Q (F0 m (pc + 3) ls (v :: rest))) : W p l e R s m args below meth c H locs cells slots Q (F0 m pc ls (.ref h :: rest)) :=
  fw_getN C in_X1 hP ((mkw_o hh).trans hw) rfl 0 (by decide) C.2.2.2.2.2.2.2.2.2.1.2.2.2.1 rfl (by rw [← hv]; rfl) hdg kk
theorem nz_pkey (C : fC g p s m args meth c RX3 cc nl rt) (hA : ∀ a ∈ ns, g.2.1 ≤ a) (hP : HP g (mkw ns kf vf oc ys ow w0) H) (hS : va_S (fA g) s.heap H locs) (hn : n ∈ ns) {b : Nat} (hdg : decode cc pc = .ok (.putfield 13, 3))
    (kk : ∀ (H1 : Heap) (locs1 : List Loc), HP g (mkw ns (va_up kf n b) vf oc ys ow w0) H1 → va_S (fA g) s.heap H1 locs1 → W p l e R s m args below meth c H1 locs1 cells slots Q (F0 m (pc + 3) ls rest)) : W p l e R s m args below meth c H locs cells slots Q (F0 m pc ls (.ref b :: .ref n :: rest)) :=
  fw_put C in_X3 tyX3 tyX3_ok nmX3 hP hS (hA n hn) (mkw_n hn) rfl 0 (by decide) q192 rfl rfl rfl rfl (Nat.le_of_ble_eq_true rfl) hdg (fun H1 locs1 h1 h2 => kk H1 locs1 (by rw [← mkw_kf hn b]; exact h1) h2)
theorem nz_pval (C : fC g p s m args meth c RX3 cc nl rt) (hA : ∀ a ∈ ns, g.2.1 ≤ a) (hP : HP g (mkw ns kf vf oc ys ow w0) H) (hS : va_S (fA g) s.heap H locs) (hn : n ∈ ns) {b : Nat} (hdg : decode cc pc = .ok (.putfield 17, 3))
    (kk : ∀ (H1 : Heap) (locs1 : List Loc), HP g (mkw ns kf (va_up vf n b) oc ys ow w0) H1 → va_S (fA g) s.heap H1 locs1 → W p l e R s m args below meth c H1 locs1 cells slots Q (F0 m (pc + 3) ls rest)) : W p l e R s m args below meth c H locs cells slots Q (F0 m pc ls (.ref b :: .ref n :: rest)) :=
  fw_put C in_X3 tyX3 tyX3_ok nmX3 hP hS (hA n hn) (mkw_n hn) rfl 1 (by decide) q194 rfl rfl rfl rfl (Nat.le_of_ble_eq_true rfl) hdg (fun H1 locs1 h1 h2 => kk H1 locs1 (by rw [← mkw_vf hn b]; exact h1) h2)
theorem nz_poc (C : fC g p s m args meth c RX3 cc nl rt) (hA : ∀ a ∈ ns, g.2.1 ≤ a) (hP : HP g (mkw ns kf vf oc ys ow w0) H) (hS : va_S (fA g) s.heap H locs) (hn : n ∈ ns) (hdg : decode cc pc = .ok (.putfield 20, 3))
    (kk : ∀ (H1 : Heap) (locs1 : List Loc), HP g (mkw ns kf vf (va_up oc n r) ys ow w0) H1 → va_S (fA g) s.heap H1 locs1 → W p l e R s m args below meth c H1 locs1 cells slots Q (F0 m (pc + 3) ls rest)) : W p l e R s m args below meth c H locs cells slots Q (F0 m pc ls (va_rf r :: .ref n :: rest)) :=
  fw_put C in_X3 tyX3 tyX3_ok nmX3 hP hS (hA n hn) (mkw_n hn) rfl 2 (by decide) q195 rfl rfl (by cases r <;> rfl) (by cases r <;> rfl) (Nat.le_of_ble_eq_true rfl) hdg (fun H1 locs1 h1 h2 => kk H1 locs1 (by rw [← mkw_oc hn r]; exact h1) h2)
theorem nz_pys (C : fC g p s m args meth c RX3 cc nl rt) (hA : ∀ a ∈ ns, g.2.1 ≤ a) (hP : HP g (mkw ns kf vf oc ys ow w0) H) (hS : va_S (fA g) s.heap H locs) (hn : n ∈ ns) (hdg : decode cc pc = .ok (.putfield 24, 3))
    (kk : ∀ (H1 : Heap) (locs1 : List Loc), HP g (mkw ns kf vf oc (va_up ys n r) ow w0) H1 → va_S (fA g) s.heap H1 locs1 → W p l e R s m args below meth c H1 locs1 cells slots Q (F0 m (pc + 3) ls rest)) : W p l e R s m args below meth c H locs cells slots Q (F0 m pc ls (va_rf r :: .ref n :: rest)) :=
  fw_put C in_X3 tyX3 tyX3_ok nmX3 hP hS (hA n hn) (mkw_n hn) rfl 3 (by decide) q197 rfl rfl (by cases r <;> rfl) (by cases r <;> rfl) (Nat.le_of_ble_eq_true rfl) hdg (fun H1 locs1 h1 h2 => kk H1 locs1 (by rw [← mkw_ys hn r]; exact h1) h2)
variable {k i j : Nat} {at_ : Nat → Nat}
theorem nz_par (C : fC g p s m args meth c RX3 cc nl rt) (hP : HP g (mkw ns kf vf oc ys ow w0) H) (hS : va_S (fA g) s.heap H locs) (hh : h ∉ ns) (hw : w0 h = some (hpc cmp sz root)) (hI : fInj ns k at_) (hRe : fRep k at_ oc ys) (h1 : 1 ≤ j) (hk : j ≤ k) (hR : 4 ≤ R.frames ∧ 92 ≤ R.locals) (hsz : ls.size = nl) (hroom : (rest.map fun v => v.category).sum ≤ 8) (hf : cells ≤ R.cells ∧ slots ≤ R.slots) (hdg : decode cc pc = .ok (.invokevirtual 62, 3))
    (kk : ∀ (H1 : Heap) (locs1 : List Loc), HP g (mkw ns kf vf oc ys ow w0) H1 → va_S (fA g) s.heap H1 locs1 → W p l e R s m args below meth c H1 locs1 cells slots Q (F0 m (pc + 3) ls (va_rf (fPar at_ j) :: rest))) : W p l e R s m args below meth c H locs cells slots Q (F0 m pc ls (.ref (at_ j) :: .ref h :: rest)) := by
  refine fw_VN C 1 (As := [.ref (at_ j)]) (rest := rest) (m_getParent l g ns kf vf oc ys ow w0 h k at_ j hI hRe h1 hk) q308 C.2.2.2.2.2.2.2.2.2.1.2.2.2.2.2.2.1 q14 q307 qs5 (by decide +kernel) ⟨Nat.le_trans (Nat.le_of_ble_eq_true rfl) hR.1, Nat.le_trans (Nat.le_of_ble_eq_true rfl) hR.2⟩ hP hS ((mkw_o hh).trans hw) rfl rfl rfl hsz hroom hdg hf ?_
  rintro r w1 H1 locs1 ⟨rfl, e1⟩ hP hS
  rw [e1] at hP
  exact kk H1 locs1 hP hS
theorem nz_swap (C : fC g p s m args meth c RX3 cc nl rt) (hP : HP g (mkw ns kf vf oc ys ow w0) H) (hS : va_S (fA g) s.heap H locs) (hA : ∀ a ∈ ns, g.2.1 ≤ a) (hhA : g.2.1 ≤ h) (hh : h ∉ ns) (hw : w0 h = some (hpc cmp sz (some (at_ 1)))) (hI : fInj ns k at_) (hRe : fRep k at_ oc ys) (hj : j / 2 = i) (hi : 1 ≤ i) (hk : j ≤ k) (hR : 4 ≤ R.frames ∧ 92 ≤ R.locals) (hsz : ls.size = nl) (hroom : (rest.map fun v => v.category).sum ≤ 8) (hf : cells ≤ R.cells ∧ slots ≤ R.slots) (hdg : decode cc pc = .ok (.invokevirtual 66, 3))
    (kk : ∀ (oc2 ys2 : Nat → Option Nat) (H1 : Heap) (locs1 : List Loc), fRep k (fSw at_ i j) oc2 ys2 → fOut k at_ oc oc2 → fOut k at_ ys ys2 → HP g (mkw ns kf vf oc2 ys2 ow (fset w0 h (hpc cmp sz (some (fSw at_ i j 1))))) H1 → va_S (fA g) s.heap H1 locs1 → W p l e R s m args below meth c H1 locs1 cells slots Q (F0 m (pc + 3) ls rest)) : W p l e R s m args below meth c H locs cells slots Q (F0 m pc ls (va_rf (fPar at_ i) :: .ref (at_ i) :: .ref (at_ j) :: .ref h :: rest)) := by
  refine fw_VN C 3 (As := [.ref (at_ j), .ref (at_ i), va_rf (fPar at_ i)]) (rest := rest) (m_swap l g ns kf vf oc ys ow w0 h cmp sz k at_ i j hA hhA hh hw hI hRe (by omega) hi hk) q312 C.2.2.2.2.2.2.2.2.2.1.2.2.2.2.2.2.2.1 q14 q311 qs6 (by decide +kernel) ⟨Nat.le_trans (Nat.le_of_ble_eq_true rfl) hR.1, Nat.le_trans (Nat.le_of_ble_eq_true rfl) hR.2⟩ hP hS ((mkw_o hh).trans hw) rfl rfl rfl hsz hroom hdg hf ?_
  rintro r w1 H1 locs1 ⟨rfl, oc2, ys2, e1, hR2, hO1, hO2⟩ hP hS
  rw [e1] at hP
  exact kk oc2 ys2 H1 locs1 hR2 hO1 hO2 hP hS
end NZ
section NM
variable (l : Launch) (g : fG) (ns : List Nat) (kf vf : Nat → Nat) (oc ys : Nat → Option Nat) (ow : Nat → Nat) (w0 : fW) (n : Nat)
set_option maxHeartbeats 4000000 in
theorem m_getKey (hn : n ∈ ns) : fMet l g yX3_getKey cX3_getKey 1 (some (.object "java/lang/Object")) 1 0 0 0 [.ref n] (mkw ns kf vf oc ys ow w0) (fun r w1 => r = some (.ref (kf n)) ∧ w1 = mkw ns kf vf oc ys ow w0) := by
  refine fw_of (by decide) (Nat.le_of_ble_eq_true rfl) ?_
  intro p e s m below meth c ls C hnm hP hl
  have hS : va_S (fA g) s.heap s.heap [] := va_S.rf
  refine lv_aload_n C.1 C.2.1 dX3_getKey_0 rfl (lv_at hl 0 rfl) ?_
  refine nz_key C hP hn dX3_getKey_1 ?_
  exact fw_aret (r := some (kf n)) C (Or.inl ⟨_, rfl⟩) ⟨rfl, rfl⟩ hP hS ⟨Nat.le_of_ble_eq_true rfl, Nat.le_of_ble_eq_true rfl⟩ dX3_getKey_4
set_option maxHeartbeats 4000000 in
theorem m_getValue (hn : n ∈ ns) : fMet l g yX3_getValue cX3_getValue 1 (some (.object "java/lang/Object")) 1 0 0 0 [.ref n] (mkw ns kf vf oc ys ow w0) (fun r w1 => r = some (.ref (vf n)) ∧ w1 = mkw ns kf vf oc ys ow w0) := by
  refine fw_of (by decide) (Nat.le_of_ble_eq_true rfl) ?_
  intro p e s m below meth c ls C hnm hP hl
  have hS : va_S (fA g) s.heap s.heap [] := va_S.rf
  refine lv_aload_n C.1 C.2.1 dX3_getValue_0 rfl (lv_at hl 0 rfl) ?_
  refine nz_val C hP hn dX3_getValue_1 ?_
  exact fw_aret (r := some (vf n)) C (Or.inl ⟨_, rfl⟩) ⟨rfl, rfl⟩ hP hS ⟨Nat.le_of_ble_eq_true rfl, Nat.le_of_ble_eq_true rfl⟩ dX3_getValue_4
set_option maxHeartbeats 4000000 in
theorem m_setValue (b : Nat) (hA : ∀ a ∈ ns, g.2.1 ≤ a) (hn : n ∈ ns) : fMet l g yX3_setValue cX3_setValue 2 none 1 0 0 0 [.ref n, .ref b] (mkw ns kf vf oc ys ow w0) (fun r w1 => r = none ∧ w1 = mkw ns kf (va_up vf n b) oc ys ow w0) := by
  refine fw_of (by decide) (Nat.le_of_ble_eq_true rfl) ?_
  intro p e s m below meth c ls C hnm hP hl
  have hS : va_S (fA g) s.heap s.heap [] := va_S.rf
  refine lv_aload_n C.1 C.2.1 dX3_setValue_0 rfl (lv_at hl 0 rfl) ?_
  refine lv_aload_n C.1 C.2.1 dX3_setValue_1 rfl (lv_at hl 1 rfl) ?_
  refine nz_pval C hA hP hS hn dX3_setValue_2 (fun H locs hP hS => ?_)
  exact fw_vret C ⟨rfl, rfl⟩ hP hS ⟨Nat.le_of_ble_eq_true rfl, Nat.le_of_ble_eq_true rfl⟩ dX3_setValue_5
end NM
def dkQ (g : fG) (ns : List Nat) (kf vf : Nat → Nat) (oc ys : Nat → Option Nat) (ow : Nat → Nat) (w0 : fW) (h : Nat) (dn : Bool) (sz : Int64) (kv : Nat → Int32) (k : Nat) (at_ : Nat → Nat) (n kb : Nat) (v : Int32) : Option Value → fW → Prop := fun r w1 => r = none ∧ ∃ (at1 : Nat → Nat) (oc1 ys1 : Nat → Option Nat), w1 = mkw ns (va_up kf n kb) vf oc1 ys1 ow (fset w0 h (hpc (fcm g dn) sz (some (at1 1)))) ∧ fxI ns k at_ oc ys at1 oc1 ys1 ∧ hOrd k at1 (fun a => frk dn (va_up kv n v a))
theorem fKv.put {ns : List Nat} {kf : Nat → Nat} {w0 : fW} {kv : Nat → Int32} {n kb : Nat} {v : Int32} (hK : fKv ns kf w0 kv) (hkb : kb ∉ ns) (hkw : w0 kb = some (fInt v)) : fKv ns (va_up kf n kb) w0 (va_up kv n v) := by
  intro a ha
  by_cases h : a = n
  · rw [h, va_up_s, va_up_s]
    exact ⟨hkb, hkw⟩
  · rw [va_up_n h, va_up_n h]
    exact hK a ha
set_option maxHeartbeats 4000000 in
/-- decreaseKey of the node at position j -/
theorem m_decreaseKey (l : Launch) (g : fG) (ns : List Nat) (kf vf : Nat → Nat) (oc ys : Nat → Option Nat) (ow : Nat → Nat) (w0 : fW) (h : Nat) (dn : Bool) (sz : Int64) (kv : Nat → Int32) (k : Nat) (at_ : Nat → Nat) (j kb : Nat) (v : Int32) (hA : ∀ a ∈ ns, g.2.1 ≤ a) (hhA : g.2.1 ≤ h) (hh : h ∉ ns) (hw : w0 h = some (hpc (fcm g dn) sz (some (at_ 1)))) (hK : fKv ns kf w0 kv) (hI : fInj ns k at_) (hRe : fRep k at_ oc ys) (hO : hOrd k at_ (fun a => frk dn (kv a))) (h1 : 1 ≤ j) (hk : j ≤ k) (how : ow (at_ j) = h) (hkb : kb ∉ ns) (hkw : w0 kb = some (fInt v)) (hle : frk dn v ≤ frk dn (kv (at_ j))) :
    fMet l g yX3_decreaseKey cX3_decreaseKey 3 none 6 150 0 0 [.ref (at_ j), .ref kb] (mkw ns kf vf oc ys ow w0) (dkQ g ns kf vf oc ys ow w0 h dn sz kv k at_ (at_ j) kb v) := by
  refine fw_of (by decide) (Nat.le_of_ble_eq_true rfl) ?_
  intro p e s m below meth c ls C hnm hP hl
  have hS : va_S (fA g) s.heap s.heap [] := va_S.rf
  have hn := hI.1 j h1 hk
  have hke : mkw ns kf vf oc ys ow w0 kb = some (fInt v) := (mkw_o hkb).trans hkw
  have hkn : mkw ns kf vf oc ys ow w0 (kf (at_ j)) = some (fInt (kv (at_ j))) := cx_key hK hn
  have hK2 := hK.put (n := at_ j) hkb hkw
  have hoth : ∀ x, 1 ≤ x → x ≤ k → x ≠ j → frk dn (va_up kv (at_ j) v (at_ x)) = frk dn (kv (at_ x)) := fun x a1 a2 a3 => by rw [va_up_n (fun e => a3 (hI.2 x j a1 a2 h1 hk e))]
  have hU : hUp k at_ (fun a => frk dn (va_up kv (at_ j) v a)) j := hUp_low h1 hk hO hoth (by show frk dn (va_up kv (at_ j) v (at_ j)) ≤ _; rw [va_up_s]; exact hle)
  have j105 : ∀ (H : Heap) (locs : List Loc) (ls : Array Slot), HP g (mkw ns (va_up kf (at_ j) kb) vf oc ys ow w0) H → va_S (fA g) s.heap H locs → hOrd k at_ (fun a => frk dn (va_up kv (at_ j) v a)) →
      W p l e (fRm 6 150 0 0) s m ([.ref (at_ j), .ref kb] : List Value).toArray below meth c H locs 0 0 (MQ below (fQ g (dkQ g ns kf vf oc ys ow w0 h dn sz kv k at_ (at_ j) kb v)) ([.ref (at_ j), .ref kb] : List Value).toArray s 0 0 (fA g)) (F0 m 105 ls []) := by
    intro H locs ls hP hS hO2
    exact fw_vret C ⟨rfl, at_, oc, ys, by rw [fset_id hw], fxI.rf hI hRe, hO2⟩ hP hS ⟨Nat.le_of_ble_eq_true rfl, Nat.le_of_ble_eq_true rfl⟩ dX3_decreaseKey_105
  have j71 : ∀ (H : Heap) (locs : List Loc) (ls : Array Slot), HP g (mkw ns kf vf oc ys ow w0) H → va_S (fA g) s.heap H locs → lv_has ls 3 [(2, .int (fcp dn v (kv (at_ j)))), (0, .ref (at_ j)), (1, .ref kb)] →
      W p l e (fRm 6 150 0 0) s m ([.ref (at_ j), .ref kb] : List Value).toArray below meth c H locs 0 0 (MQ below (fQ g (dkQ g ns kf vf oc ys ow w0 h dn sz kv k at_ (at_ j) kb v)) ([.ref (at_ j), .ref kb] : List Value).toArray s 0 0 (fA g)) (F0 m 71 ls []) := by
    intro H locs ls hP hS hl
    refine lv_iload_n C.1 C.2.1 dX3_decreaseKey_71 rfl (lv_at hl 0 rfl) ?_
    refine lv_if_le (tgt := 85) C.1 C.2.1 dX3_decreaseKey_72 (by decide) (fun c1 => ?_) (fun c1 => ?_)
    · refine lv_aload_n C.1 C.2.1 dX3_decreaseKey_85 rfl (lv_at hl 1 rfl) ?_
      refine lv_aload_n C.1 C.2.1 dX3_decreaseKey_86 rfl (lv_at hl 2 rfl) ?_
      refine nz_pkey C hA hP hS hn dX3_decreaseKey_87 (fun H locs hP hS => ?_)
      refine lv_iload_n C.1 C.2.1 dX3_decreaseKey_90 rfl (lv_at hl 0 rfl) ?_
      refine lv_if_eq (tgt := 105) C.1 C.2.1 dX3_decreaseKey_91 (by decide) (fun c2 => ?_) (fun c2 => ?_)
      · refine j105 H locs ls hP hS (hUp_end hU ?_)
        by_cases hj1 : j ≤ 1
        · exact Or.inl hj1
        · refine Or.inr ?_
          show frk dn (va_up kv (at_ j) v (at_ (j / 2))) ≤ frk dn (va_up kv (at_ j) v (at_ j))
          rw [hoth (j / 2) (by omega) (by omega) (by omega), va_up_s, fcp_0 dn _ _ c2]
          exact hO j (by omega) hk
      · refine lv_aload_n C.1 C.2.1 dX3_decreaseKey_94 rfl (lv_at hl 1 rfl) ?_
        refine nz_own C hP hn how dX3_decreaseKey_95 ?_
        refine nz_root (v := .ref (at_ 1)) C hP hh hw rfl dX3_decreaseKey_98 ?_
        refine lv_aload_n C.1 C.2.1 dX3_decreaseKey_101 rfl (lv_at hl 1 rfl) ?_
        refine lv_acmp_ne (rx := some (at_ 1)) (ry := some (at_ j)) (tgt := 106) C.1 C.2.1 dX3_decreaseKey_102 (by decide) (fun c3 => ?_) (fun c3 => ?_)
        · refine lv_aload_n C.1 C.2.1 dX3_decreaseKey_106 rfl (lv_at hl 1 rfl) ?_
          refine nz_own C hP hn how dX3_decreaseKey_107 ?_
          refine lv_aload_n C.1 C.2.1 dX3_decreaseKey_110 rfl (lv_at hl 1 rfl) ?_
          refine fw_VN C 1 (As := [.ref (at_ j)]) (rest := []) (m_fixup l g ns (va_up kf (at_ j) kb) vf oc ys ow w0 h dn sz (va_up kv (at_ j) v) k at_ j hA hhA hh hw hK2 hI hRe h1 hk hU) q304 C.2.2.2.2.2.2.2.2.2.1.2.2.2.2.2.1 q14 q303 qs4 (by decide +kernel) ⟨Nat.le_of_ble_eq_true rfl, Nat.le_of_ble_eq_true rfl⟩ hP hS ((mkw_o hh).trans hw) rfl rfl rfl hl.1 (Nat.le_of_ble_eq_true rfl) dX3_decreaseKey_111 ⟨Nat.le_of_ble_eq_true rfl, Nat.le_of_ble_eq_true rfl⟩ ?_
          rintro r w1 H1 locs1 ⟨rfl, hq⟩ hP hS
          exact fw_vret C ⟨rfl, hq⟩ hP hS ⟨Nat.le_of_ble_eq_true rfl, Nat.le_of_ble_eq_true rfl⟩ dX3_decreaseKey_114
        · have hj1 : j = 1 := (hI.2 1 j (by omega) (by omega) h1 hk (Option.some.inj c3)).symm
          exact j105 H locs ls hP hS (hUp_end hU (Or.inl (by omega)))
    · have := (fcp_gt dn _ _).mp (Int32.not_le.mp c1)
      omega
  have j28 : W p l e (fRm 6 150 0 0) s m ([.ref (at_ j), .ref kb] : List Value).toArray below meth c s.heap [] 0 0 (MQ below (fQ g (dkQ g ns kf vf oc ys ow w0 h dn sz kv k at_ (at_ j) kb v)) ([.ref (at_ j), .ref kb] : List Value).toArray s 0 0 (fA g)) (F0 m 28 ls []) := by
    refine lv_aload_n C.1 C.2.1 dX3_decreaseKey_28 rfl (lv_at hl 0 rfl) ?_
    refine nz_own C hP hn how dX3_decreaseKey_29 ?_
    cases dn with
    | false =>
      refine nz_cmp (v := .null) C hP hh hw rfl dX3_decreaseKey_32 ?_
      refine lv_ifnonnullN C.1 C.2.1 dX3_decreaseKey_35 ?_
      refine lv_aload_n C.1 C.2.1 dX3_decreaseKey_38 rfl (lv_at hl 1 rfl) ?_
      refine ca_cast C hP hke q434 dX3_decreaseKey_39 ?_
      refine lv_aload_n C.1 C.2.1 dX3_decreaseKey_42 rfl (lv_at hl 0 rfl) ?_
      refine nz_key C hP hn dX3_decreaseKey_43 ?_
      refine ca_order C hP hS hke hkn q435 ⟨Nat.le_of_ble_eq_true rfl, Nat.le_of_ble_eq_true rfl⟩ hl.1 (Nat.le_of_ble_eq_true rfl) ⟨Nat.le_of_ble_eq_true rfl, Nat.le_of_ble_eq_true rfl⟩ dX3_decreaseKey_46 (fun H locs hP hS => ?_)
      refine lv_istore_n (lv' := [(2, .int (fcp false v (kv (at_ j)))), (0, .ref (at_ j)), (1, .ref kb)]) C.1 C.2.1 dX3_decreaseKey_49 rfl hl (by decide) rfl (fun ls hl => ?_)
      refine lv_goto (tgt := 71) C.1 C.2.1 dX3_decreaseKey_50 (by decide) ?_
      exact j71 H locs ls hP hS hl
    | true =>
      refine nz_cmp (v := .ref g.2.2.2.1.2) C hP hh hw rfl dX3_decreaseKey_32 ?_
      refine lv_ifnonnull (tgt := 53) C.1 C.2.1 dX3_decreaseKey_35 (by decide) ?_
      refine lv_aload_n C.1 C.2.1 dX3_decreaseKey_53 rfl (lv_at hl 0 rfl) ?_
      refine nz_own C hP hn how dX3_decreaseKey_54 ?_
      refine nz_cmp (v := .ref g.2.2.2.1.2) C hP hh hw rfl dX3_decreaseKey_57 ?_
      refine lv_aload_n C.1 C.2.1 dX3_decreaseKey_60 rfl (lv_at hl 1 rfl) ?_
      refine lv_aload_n C.1 C.2.1 dX3_decreaseKey_61 rfl (lv_at hl 0 rfl) ?_
      refine nz_key C hP hn dX3_decreaseKey_62 ?_
      refine ca_comp C hP hS hke hkn q437 ⟨Nat.le_of_ble_eq_true rfl, Nat.le_of_ble_eq_true rfl⟩ hl.1 (Nat.le_of_ble_eq_true rfl) ⟨Nat.le_of_ble_eq_true rfl, Nat.le_of_ble_eq_true rfl⟩ dX3_decreaseKey_65 (fun H locs hP hS => ?_)
      refine lv_istore_n (lv' := [(2, .int (fcp true v (kv (at_ j)))), (0, .ref (at_ j)), (1, .ref kb)]) C.1 C.2.1 dX3_decreaseKey_70 rfl hl (by decide) rfl (fun ls hl => ?_)
      exact j71 H locs ls hP hS hl
  refine lv_aload_n C.1 C.2.1 dX3_decreaseKey_0 rfl (lv_at hl 0 rfl) ?_
  refine lv_aload_n C.1 C.2.1 dX3_decreaseKey_1 rfl (lv_at hl 0 rfl) ?_
  refine nz_own C hP hn how dX3_decreaseKey_2 ?_
  refine nz_root (v := .ref (at_ 1)) C hP hh hw rfl dX3_decreaseKey_5 ?_
  refine lv_acmp_eq (rx := some (at_ j)) (ry := some (at_ 1)) (tgt := 28) C.1 C.2.1 dX3_decreaseKey_8 (by decide) (fun c0 => j28) (fun c0 => ?_)
  have hj1 : j ≠ 1 := fun z => c0 (by rw [z])
  have hys := (hRe j h1 hk).2
  rw [fYs, if_neg (by omega)] at hys
  refine lv_aload_n C.1 C.2.1 dX3_decreaseKey_11 rfl (lv_at hl 0 rfl) ?_
  by_cases hsib : j % 2 = 0 ∧ j + 1 ≤ k
  · rw [if_pos hsib] at hys
    refine nz_ys (v := .ref (at_ (j + 1))) C hP hn (by rw [hys]; rfl) dX3_decreaseKey_12 ?_
    exact lv_ifnonnull (tgt := 28) C.1 C.2.1 dX3_decreaseKey_15 (by decide) j28
  · rw [if_neg hsib] at hys
    refine nz_ys (v := .ref (at_ (j / 2))) C hP hn (by rw [hys]; rfl) dX3_decreaseKey_12 ?_
    exact lv_ifnonnull (tgt := 28) C.1 C.2.1 dX3_decreaseKey_15 (by decide) j28
end
section
/-! the node's delete -/
set_option maxRecDepth 100000
def flo (dn : Bool) (kv : Nat → Int32) (n : Nat) : Nat → Int := fun a => if a = n then -4294967296 else frk dn (kv a)
theorem frk_lo (dn : Bool) (v : Int32) : -4294967296 ≤ frk dn v := by
  have h1 := Int32.le_toInt v
  have h2 := Int32.toInt_lt v
  unfold frk
  split <;> omega
theorem flo_n {dn : Bool} {kv : Nat → Int32} {n : Nat} : flo dn kv n n = -4294967296 := if_pos rfl
theorem flo_o {dn : Bool} {kv : Nat → Int32} {n a : Nat} (h : a ≠ n) : flo dn kv n a = frk dn (kv a) := if_neg h
theorem flo_le {dn : Bool} {kv : Nat → Int32} {n a : Nat} : flo dn kv n n ≤ flo dn kv n a := by
  rw [flo_n]
  unfold flo
  split
  · omega
  · exact frk_lo dn _
theorem fRep.outY {k : Nat} {at_ : Nat → Nat} {oc ys : Nat → Option Nat} {a : Nat} (hR : fRep k at_ oc ys) (ha : ¬ fHas k at_ a) (v : Option Nat) : fRep k at_ oc (va_up ys a v) := by
  intro x h1 h2
  refine ⟨(hR x h1 h2).1, ?_⟩
  rw [va_up_n (fun e => ha ⟨x, h1, h2, e⟩)]
  exact (hR x h1 h2).2
def deQ (g : fG) (ns : List Nat) (kf vf : Nat → Nat) (oc ys : Nat → Option Nat) (ow : Nat → Nat) (w0 : fW) (h : Nat) (dn : Bool) (kv : Nat → Int32) (k : Nat) (at_ : Nat → Nat) (n : Nat) : fW → Prop := fun w1 => ∃ (at1 : Nat → Nat) (oc1 ys1 : Nat → Option Nat) (w2 : fW), w1 = mkw ns kf vf oc1 ys1 ow w2 ∧ w2 h = some (hpc (fcm g dn) (lN (k - 1)) (fRt (k - 1) at1)) ∧ fEx ns h w0 w2 ∧ fInj ns (k - 1) at1 ∧ fRep (k - 1) at1 oc1 ys1 ∧ hOrd (k - 1) at1 (fun a => frk dn (kv a)) ∧ (∀ a, fHas (k - 1) at1 a ↔ fHas k at_ a ∧ a ≠ n) ∧ (∀ a, ¬ fHas k at_ a → oc1 a = oc a ∧ ys1 a = ys a)
set_option maxHeartbeats 4000000 in
/-- delete of the node at position j0 -/
theorem m_delete (l : Launch) (g : fG) (ns : List Nat) (kf vf : Nat → Nat) (oc ys : Nat → Option Nat) (ow : Nat → Nat) (w0 : fW) (h : Nat) (dn : Bool) (kv : Nat → Int32) (k : Nat) (at_ : Nat → Nat) (j0 : Nat) (hA : ∀ a ∈ ns, g.2.1 ≤ a) (hhA : g.2.1 ≤ h) (hh : h ∉ ns) (hw : w0 h = some (hpc (fcm g dn) (lN k) (some (at_ 1)))) (hK : fKv ns kf w0 kv) (hI : fInj ns k at_) (hRe : fRep k at_ oc ys) (hO : hOrd k at_ (fun a => frk dn (kv a))) (h1 : 1 ≤ j0) (hk : j0 ≤ k) (hk64 : k < 65) (how : ow (at_ j0) = h) :
    fMet l g yX3_delete cX3_delete 3 none 7 180 3 5 [.ref (at_ j0)] (mkw ns kf vf oc ys ow w0) (fun r w1 => r = none ∧ deQ g ns kf vf oc ys ow w0 h dn kv k at_ (at_ j0) w1) := by
  refine fw_of (by decide) (Nat.le_of_ble_eq_true rfl) ?_
  intro p e s m below meth c ls C hnm hP hl
  have hS : va_S (fA g) s.heap s.heap [] := va_S.rf
  have hn := hI.1 j0 h1 hk
  have hX : fxI ns k at_ oc ys at_ oc ys := fxI.rf hI hRe
  have hU : hUp k at_ (flo dn kv (at_ j0)) j0 := hUp_low h1 hk hO (fun x a1 a2 a3 => flo_o (fun e => a3 (hI.2 x j0 a1 a2 h1 hk e))) (by rw [flo_n]; exact frk_lo dn _)
  have hroot : w0 = fset w0 h (hpc (fcm g dn) (lN k) (some (at_ 1))) := (fset_id hw).symm
  have loop : ∀ (j : Nat) (at1 : Nat → Nat) (oc1 ys1 : Nat → Option Nat) (H : Heap) (locs : List Loc) (ls : Array Slot), 1 ≤ j → j ≤ k → at1 j = at_ j0 → fxI ns k at_ oc ys at1 oc1 ys1 → hUp k at1 (flo dn kv (at_ j0)) j → HP g (mkw ns kf vf oc1 ys1 ow (fset w0 h (hpc (fcm g dn) (lN k) (some (at1 1))))) H → va_S (fA g) s.heap H locs → lv_has ls 3 [(1, va_rf (fPar at1 j)), (0, .ref (at1 j))] →
      W p l e (fRm 7 180 3 5) s m ([.ref (at_ j0)] : List Value).toArray below meth c H locs 0 0 (MQ below (fQ g (fun r w1 => r = none ∧ deQ g ns kf vf oc ys ow w0 h dn kv k at_ (at_ j0) w1)) ([.ref (at_ j0)] : List Value).toArray s 3 5 (fA g)) (F0 m 37 ls []) := by
    intro j
    induction j using Nat.strongRecOn with
    | _ j ih =>
      intro at1 oc1 ys1 H locs ls h1 hk hat X hU hP hS hl
      have how1 : ow (at1 j) = h := by rw [hat]; exact how
      have hn1 := X.1.1 j h1 hk
      have hpar : fPar at1 j = if j ≤ 1 then none else some (at1 (j / 2)) := rfl
      by_cases hj1 : j ≤ 1
      · rw [if_pos hj1] at hpar
        rw [hpar] at hl
        have hj : j = 1 := by omega
        subst hj
        have hKw := hK.set hw (hpc (fcm g dn) (lN k) (some (at1 1)))
        have hOr := hUp_end hU (Or.inl (Nat.le_refl 1))
        have hO4 : ∀ x, 4 ≤ x → x ≤ k → frk dn (kv (at1 (x / 2))) ≤ frk dn (kv (at1 x)) := fun x a1 a2 => by
          have hb := hOr x (by omega) a2
          rw [← hat, flo_o (fun e => by have := X.1.2 (x / 2) 1 (by omega) (by omega) (by omega) hk e; omega), flo_o (fun e => by have := X.1.2 x 1 (by omega) a2 (by omega) hk e; omega)] at hb
          exact hb
        refine lv_aload_nN C.1 C.2.1 dX3_delete_37 rfl (lv_at hl 0 rfl) ?_
        refine lv_ifnullN (tgt := 65) C.1 C.2.1 dX3_delete_38 (by decide) ?_
        refine lv_aload_n C.1 C.2.1 dX3_delete_65 rfl (lv_at hl 1 rfl) ?_
        refine nz_own C hP hn1 how1 dX3_delete_66 ?_
        refine fw_V C 0 (As := []) (rest := []) (m_deleteMin l g ns kf vf oc1 ys1 ow (fset w0 h (hpc (fcm g dn) (lN k) (some (at1 1)))) h dn kv k at1 hA hhA hh fset_s hKw X.1 X.2.1 hO4 (by omega) hk64) (lw_V q455 q393 q394 q14 q395) (by decide +kernel) ⟨Nat.le_of_ble_eq_true rfl, Nat.le_of_ble_eq_true rfl⟩ hP hS ((mkw_o hh).trans fset_s) rfl rfl rfl hl.1 (Nat.le_of_ble_eq_true rfl) dX3_delete_69 ⟨Nat.le_of_ble_eq_true rfl, Nat.le_of_ble_eq_true rfl⟩ ?_
        rintro r w1 H1 locs1 ⟨rfl, at2, oc2, ys2, w2, e1, hw2, hEx, hI2, hR2, hO2, hhas, hout⟩ hP hS
        rw [e1] at hP
        clear e1 w1
        refine lv_pop C.1 C.2.1 dX3_delete_72 rfl ?_
        refine lv_aload_n C.1 C.2.1 dX3_delete_73 rfl (lv_at hl 1 rfl) ?_
        refine lv_null C.1 C.2.1 dX3_delete_74 ?_
        refine nz_poc (r := none) C hA hP hS hn1 dX3_delete_75 (fun H locs hP hS => ?_)
        refine lv_aload_n C.1 C.2.1 dX3_delete_78 rfl (lv_at hl 1 rfl) ?_
        refine lv_null C.1 C.2.1 dX3_delete_79 ?_
        refine nz_pys (r := none) C hA hP hS hn1 dX3_delete_80 (fun H locs hP hS => ?_)
        have hno : ¬ fHas (k - 1) at2 (at1 1) := fun z => ((hhas _).mp z).2 rfl
        refine fw_vret C ⟨rfl, at2, _, _, w2, rfl, hw2, fun z e' hz hzh hze => hEx z e' hz hzh ((fset_n hzh).trans hze), hI2, (hR2.out hno none).outY hno none, hO2, fun a => ?_, fun a ha => ?_⟩ hP hS ⟨Nat.le_of_ble_eq_true rfl, Nat.le_of_ble_eq_true rfl⟩ dX3_delete_83
        · rw [hhas a, X.2.2.1 a, hat]
        · have ha1 : ¬ fHas k at1 a := fun z => ha ((X.2.2.1 a).mp z)
          have hne : a ≠ at1 1 := fun z => ha1 ⟨1, Nat.le_refl 1, hk, z.symm⟩
          rw [va_up_n hne, va_up_n hne, (hout a ha1).1, (hout a ha1).2]
          exact ⟨X.2.2.2.1.use ha, X.2.2.2.2.use ha⟩
      · rw [if_neg hj1] at hpar
        rw [hpar] at hl
        obtain ⟨i, hi⟩ : ∃ i, j / 2 = i := ⟨_, rfl⟩
        rw [hi] at hl
        refine lv_aload_n C.1 C.2.1 dX3_delete_37 rfl (lv_at hl 0 rfl) ?_
        refine lv_ifnull C.1 C.2.1 dX3_delete_38 ?_
        refine lv_aload_n C.1 C.2.1 dX3_delete_41 rfl (lv_at hl 1 rfl) ?_
        refine nz_own C hP hn1 how1 dX3_delete_42 ?_
        refine lv_aload_n C.1 C.2.1 dX3_delete_45 rfl (lv_at hl 0 rfl) ?_
        refine nz_par C hP hS hh fset_s X.1 X.2.1 (by omega) (by omega) ⟨Nat.le_of_ble_eq_true rfl, Nat.le_of_ble_eq_true rfl⟩ hl.1 (Nat.le_of_ble_eq_true rfl) ⟨Nat.le_of_ble_eq_true rfl, Nat.le_of_ble_eq_true rfl⟩ dX3_delete_46 (fun H locs hP hS => ?_)
        refine fv_astore_n (lv' := [(2, va_rf (fPar at1 i)), (1, .ref (at1 i)), (0, .ref (at1 j))]) C dX3_delete_49 rfl hl (by decide) rfl (fun ls hl => ?_)
        refine lv_aload_n C.1 C.2.1 dX3_delete_50 rfl (lv_at hl 2 rfl) ?_
        refine nz_own C hP hn1 how1 dX3_delete_51 ?_
        refine lv_aload_n C.1 C.2.1 dX3_delete_54 rfl (lv_at hl 2 rfl) ?_
        refine lv_aload_n C.1 C.2.1 dX3_delete_55 rfl (lv_at hl 1 rfl) ?_
        refine fv_aload_n C dX3_delete_56 rfl (lv_at hl 0 rfl) ?_
        refine nz_swap C hP hS hA hhA hh fset_s X.1 X.2.1 hi (by omega) hk ⟨Nat.le_of_ble_eq_true rfl, Nat.le_of_ble_eq_true rfl⟩ hl.1 (Nat.le_of_ble_eq_true rfl) ⟨Nat.le_of_ble_eq_true rfl, Nat.le_of_ble_eq_true rfl⟩ dX3_delete_57 (fun oc2 ys2 H locs hR2 hO1 hO2 hP hS => ?_)
        rw [fset_fset] at hP
        refine fv_aload_n C dX3_delete_60 rfl (lv_at hl 0 rfl) ?_
        refine fv_astore_n (lv' := [(1, va_rf (fPar at1 i)), (2, va_rf (fPar at1 i)), (0, .ref (at1 j))]) C dX3_delete_61 rfl hl (by decide) rfl (fun ls hl => ?_)
        refine lv_goto (tgt := 37) C.1 C.2.1 dX3_delete_62 (by decide) ?_
        have hl2 : lv_has ls 3 [(1, va_rf (fPar (fSw at1 i j) i)), (0, .ref (fSw at1 i j i))] := by
          rw [fPar_sw (by omega) (by omega), fSw_i]
          exact lv_sub hl [0, 2] rfl
        refine ih i (by omega) (fSw at1 i j) oc2 ys2 H locs ls (by omega) (by omega) (by rw [fSw_i]; exact hat) (X.sw (by omega) (by omega) hk hR2 hO1 hO2) (hUp_step (by omega) hi hk hU ?_) hP hS hl2
        rw [hat]
        exact flo_le
  have j28 : W p l e (fRm 7 180 3 5) s m ([.ref (at_ j0)] : List Value).toArray below meth c s.heap [] 0 0 (MQ below (fQ g (fun r w1 => r = none ∧ deQ g ns kf vf oc ys ow w0 h dn kv k at_ (at_ j0) w1)) ([.ref (at_ j0)] : List Value).toArray s 3 5 (fA g)) (F0 m 28 ls []) := by
    refine lv_aload_n C.1 C.2.1 dX3_delete_28 rfl (lv_at hl 0 rfl) ?_
    refine nz_own C hP hn how dX3_delete_29 ?_
    refine lv_aload_n C.1 C.2.1 dX3_delete_32 rfl (lv_at hl 0 rfl) ?_
    refine nz_par C hP hS hh hw hI hRe h1 hk ⟨Nat.le_of_ble_eq_true rfl, Nat.le_of_ble_eq_true rfl⟩ hl.1 (Nat.le_of_ble_eq_true rfl) ⟨Nat.le_of_ble_eq_true rfl, Nat.le_of_ble_eq_true rfl⟩ dX3_delete_33 (fun H locs hP hS => ?_)
    refine fv_astore_n (lv' := [(1, va_rf (fPar at_ j0)), (0, .ref (at_ j0))]) C dX3_delete_36 rfl hl (by decide) rfl (fun ls hl => ?_)
    rw [hroot] at hP
    exact loop j0 at_ oc ys H locs ls h1 hk rfl hX hU hP hS hl
  refine lv_aload_n C.1 C.2.1 dX3_delete_0 rfl (lv_at hl 0 rfl) ?_
  refine lv_aload_n C.1 C.2.1 dX3_delete_1 rfl (lv_at hl 0 rfl) ?_
  refine nz_own C hP hn how dX3_delete_2 ?_
  refine nz_root (v := .ref (at_ 1)) C hP hh hw rfl dX3_delete_5 ?_
  refine lv_acmp_eq (rx := some (at_ j0)) (ry := some (at_ 1)) (tgt := 28) C.1 C.2.1 dX3_delete_8 (by decide) (fun c0 => j28) (fun c0 => ?_)
  have hj1 : j0 ≠ 1 := fun z => c0 (by rw [z])
  have hys := (hRe j0 h1 hk).2
  rw [fYs, if_neg (by omega)] at hys
  refine lv_aload_n C.1 C.2.1 dX3_delete_11 rfl (lv_at hl 0 rfl) ?_
  by_cases hsib : j0 % 2 = 0 ∧ j0 + 1 ≤ k
  · rw [if_pos hsib] at hys
    refine nz_ys (v := .ref (at_ (j0 + 1))) C hP hn (by rw [hys]; rfl) dX3_delete_12 ?_
    exact lv_ifnonnull (tgt := 28) C.1 C.2.1 dX3_delete_15 (by decide) j28
  · rw [if_neg hsib] at hys
    refine nz_ys (v := .ref (at_ (j0 / 2))) C hP hn (by rw [hys]; rfl) dX3_delete_12 ?_
    exact lv_ifnonnull (tgt := 28) C.1 C.2.1 dX3_delete_15 (by decide) j28
end
section
/-! the plain state: next, keys, values, homes; what the law's calls answer -/
set_option maxRecDepth 100000
def dnr (r : Nat) : Bool := decide (2 ≤ r)
def cnt (fh : Nat → Int32) (r : Nat) : Nat → Nat
  | 0 => 0
  | n + 1 => cnt fh r n + (if fh n = nI (1 + r) then 1 else 0)
def fstN (fk fh : Nat → Int32) (r : Nat) : Nat → Option Nat
  | 0 => none
  | n + 1 => match fstN fk fh r n with
    | none => if fh n = nI (1 + r) then some n else none
    | some b => if fh n = nI (1 + r) ∧ frk (dnr r) (fk n) < frk (dnr r) (fk b) then some n else some b
def ob : Option Nat → Int32
  | none => -1
  | some b => nI b
/-- the answer at a found place -/
def obf (f : Nat → Int32) : Option Nat → Int32
  | none => -1
  | some b => f b
def ob01 : Option Nat → Int32
  | none => 0
  | some _ => 1
def upo (f : Nat → Int32) (o : Option Nat) (v : Nat → Int32) : Nat → Int32 := match o with
  | none => f
  | some i => upd f i (v i)
def idx (e : Int32) (nx : Nat) : Nat := e.toBitVec.toNat % 2 ^ 31 % nx
def thr (nx : Nat) (fh : Nat → Int32) (e : Int32) : Option Nat := if nx = 0 then none else if fh (idx e nx) = 0 then none else some (idx e nx)
def lkey (key : Int32) (i : Nat) : Int32 := 64 * (key &&& 65535) + nI i
def lbad (fk fh : Nat → Int32) (i : Nat) (k : Int32) : Prop := if fh i < 3 then fk i < k else k < fk i
def lwS (nx : Nat) (fk fh : Nat → Int32) (e key : Int32) : Option Nat := match thr nx fh e with
  | none => none
  | some i => if fh i < 3 then (if fk i < lkey key i then none else some i) else (if lkey key i < fk i then none else some i)
def clr (nx : Nat) (fh : Nat → Int32) (r : Nat) : Nat → Int32 := fun i => if i < nx ∧ fh i = nI (1 + r) then 0 else fh i
section PURE
variable {fk fh fh' : Nat → Int32} {r n b : Nat}
theorem fst_no (h : fh n ≠ nI (1 + r)) : fstN fk fh r (n + 1) = fstN fk fh r n := by
  show (match fstN fk fh r n with | none => if fh n = nI (1 + r) then some n else none | some b => if fh n = nI (1 + r) ∧ frk (dnr r) (fk n) < frk (dnr r) (fk b) then some n else some b) = _
  cases fstN fk fh r n with
  | none => exact if_neg h
  | some b => exact if_neg (fun z => h z.1)
theorem fst_new (h0 : fstN fk fh r n = none) (h : fh n = nI (1 + r)) : fstN fk fh r (n + 1) = some n := by
  show (match fstN fk fh r n with | none => if fh n = nI (1 + r) then some n else none | some b => if fh n = nI (1 + r) ∧ frk (dnr r) (fk n) < frk (dnr r) (fk b) then some n else some b) = _
  rw [h0]
  exact if_pos h
theorem fst_lt (h0 : fstN fk fh r n = some b) (h : fh n = nI (1 + r)) (hl : frk (dnr r) (fk n) < frk (dnr r) (fk b)) : fstN fk fh r (n + 1) = some n := by
  show (match fstN fk fh r n with | none => if fh n = nI (1 + r) then some n else none | some b => if fh n = nI (1 + r) ∧ frk (dnr r) (fk n) < frk (dnr r) (fk b) then some n else some b) = _
  rw [h0]
  exact if_pos ⟨h, hl⟩
theorem fst_ge (h0 : fstN fk fh r n = some b) (hl : ¬ frk (dnr r) (fk n) < frk (dnr r) (fk b)) : fstN fk fh r (n + 1) = some b := by
  show (match fstN fk fh r n with | none => if fh n = nI (1 + r) then some n else none | some b => if fh n = nI (1 + r) ∧ frk (dnr r) (fk n) < frk (dnr r) (fk b) then some n else some b) = _
  rw [h0]
  exact if_neg (fun z => hl z.2)
theorem fst_spec : (fstN fk fh r n = none → ∀ i, i < n → fh i ≠ nI (1 + r)) ∧ ∀ b, fstN fk fh r n = some b → b < n ∧ fh b = nI (1 + r) ∧ ∀ i, i < n → fh i = nI (1 + r) → frk (dnr r) (fk b) ≤ frk (dnr r) (fk i) := by
  induction n with
  | zero => exact ⟨fun _ i hi => absurd hi (by omega), fun b hb => by cases hb⟩
  | succ n ih =>
    by_cases hn : fh n = nI (1 + r)
    · cases h0 : fstN fk fh r n with
      | none =>
        rw [fst_new h0 hn]
        refine ⟨fun z => (by cases z), fun b hb => ?_⟩
        cases hb
        refine ⟨by omega, hn, fun i hi he => ?_⟩
        by_cases hin : i = n
        · rw [hin]; exact Int.le_of_eq rfl
        · exact absurd he (ih.1 h0 i (by omega))
      | some c =>
        obtain ⟨c1, c2, c3⟩ := ih.2 c h0
        by_cases hl : frk (dnr r) (fk n) < frk (dnr r) (fk c)
        · rw [fst_lt h0 hn hl]
          refine ⟨fun z => (by cases z), fun b hb => ?_⟩
          cases hb
          refine ⟨by omega, hn, fun i hi he => ?_⟩
          by_cases hin : i = n
          · exact Int.le_of_eq (by rw [hin])
          · exact Int.le_trans (Int.le_of_lt hl) (c3 i (by omega) he)
        · rw [fst_ge h0 hl]
          refine ⟨fun z => (by cases z), fun b hb => ?_⟩
          cases hb
          refine ⟨by omega, c2, fun i hi he => ?_⟩
          by_cases hin : i = n
          · rw [hin]; exact Int.not_lt.mp hl
          · exact c3 i (by omega) he
    · rw [fst_no hn]
      refine ⟨fun z i hi => ?_, fun b hb => ?_⟩
      · by_cases hin : i = n
        · rw [hin]; exact hn
        · exact ih.1 z i (by omega)
      · obtain ⟨c1, c2, c3⟩ := ih.2 b hb
        refine ⟨by omega, c2, fun i hi he => ?_⟩
        by_cases hin : i = n
        · rw [hin] at he; exact absurd he hn
        · exact c3 i (by omega) he
theorem cnt_le : cnt fh r n ≤ n := by
  induction n with
  | zero => exact Nat.le_refl 0
  | succ n ih =>
    show cnt fh r n + _ ≤ _
    split <;> omega
theorem cnt_congr (h : ∀ i, i < n → (fh i = nI (1 + r) ↔ fh' i = nI (1 + r))) : cnt fh r n = cnt fh' r n := by
  induction n with
  | zero => rfl
  | succ n ih =>
    show cnt fh r n + _ = cnt fh' r n + _
    rw [ih (fun i hi => h i (by omega))]
    have := h n (by omega)
    by_cases hn : fh n = nI (1 + r)
    · rw [if_pos hn, if_pos (this.mp hn)]
    · rw [if_neg hn, if_neg (fun z => hn (this.mpr z))]
theorem cnt_0 : cnt fh r n = 0 ↔ ∀ i, i < n → fh i ≠ nI (1 + r) := by
  induction n with
  | zero => exact ⟨fun _ i hi => absurd hi (by omega), fun _ => rfl⟩
  | succ n ih =>
    show cnt fh r n + _ = 0 ↔ _
    by_cases hn : fh n = nI (1 + r)
    · rw [if_pos hn]
      exact ⟨fun z => absurd z (by omega), fun z => absurd hn (z n (by omega))⟩
    · rw [if_neg hn]
      refine ⟨fun z i hi => ?_, fun z => ?_⟩
      · by_cases hin : i = n
        · rw [hin]; exact hn
        · exact ih.mp (by omega) i (by omega)
      · have := ih.mpr (fun i hi => z i (by omega))
        omega
theorem cnt_out {i : Nat} (hi : i < n) (h1 : fh i = nI (1 + r)) (h2 : fh' i ≠ nI (1 + r)) (h : ∀ j, j < n → j ≠ i → fh' j = fh j) : cnt fh r n = cnt fh' r n + 1 := by
  induction n with
  | zero => omega
  | succ n ih =>
    show cnt fh r n + _ = cnt fh' r n + _ + 1
    by_cases hin : i = n
    · have e : cnt fh r n = cnt fh' r n := cnt_congr (fun j hj => by rw [h j (by omega) (by omega)])
      rw [← hin, if_pos h1, if_neg h2, hin, e]
    · rw [ih (by omega) (fun j hj hne => h j (by omega) hne), h n (by omega) (fun z => hin z.symm)]
      omega
theorem upd_s {f : Nat → Int32} {k : Nat} {x : Int32} : upd f k x k = x := if_pos rfl
theorem upd_n {f : Nat → Int32} {k j : Nat} {x : Int32} (h : j ≠ k) : upd f k x j = f j := if_neg h
end PURE
/-! the model's cells -/
abbrev iar (g : fG) (f : Nat → Int32) : va_E := .inl (g.2.2.1 0, 64, .inl f)
abbrev mdc (Mk Mv Mh nx : Nat) : va_E := .inr (2, [.ref Mk, .ref Mv, .ref Mh, .int (nI nx)])
def MD (g : fG) (M Mk Mv Mh nx : Nat) (fk fv fh : Nat → Int32) (w : fW) : Prop := w M = some (mdc Mk Mv Mh nx) ∧ w Mk = some (iar g fk) ∧ w Mv = some (iar g fv) ∧ w Mh = some (iar g fh) ∧ (Mk ≠ Mv ∧ Mk ≠ Mh ∧ Mv ≠ Mh) ∧ (g.2.1 ≤ M ∧ g.2.1 ≤ Mk ∧ g.2.1 ≤ Mv ∧ g.2.1 ≤ Mh) ∧ nx ≤ 64
def mFr (M Mk Mv Mh : Nat) (w w1 : fW) : Prop := ∀ z : Nat, z ≠ M → z ≠ Mk → z ≠ Mv → z ≠ Mh → w1 z = w z
section MDS
variable {g : fG} {M Mk Mv Mh nx : Nat} {fk fv fh f : Nat → Int32} {w w1 w2 : fW}
theorem mFr.rf : mFr M Mk Mv Mh w w := fun _ _ _ _ _ => rfl
theorem mFr.tr (h1 : mFr M Mk Mv Mh w w1) (h2 : mFr M Mk Mv Mh w1 w2) : mFr M Mk Mv Mh w w2 := fun z a b c d => (h2 z a b c d).trans (h1 z a b c d)
theorem MD.ne (h : MD g M Mk Mv Mh nx fk fv fh w) : M ≠ Mk ∧ M ≠ Mv ∧ M ≠ Mh := by
  obtain ⟨h1, h2, h3, h4, -⟩ := h
  refine ⟨fun z => ?_, fun z => ?_, fun z => ?_⟩
  · rw [z, h2] at h1; cases h1
  · rw [z, h3] at h1; cases h1
  · rw [z, h4] at h1; cases h1
theorem MD.setK (h : MD g M Mk Mv Mh nx fk fv fh w) (f : Nat → Int32) : MD g M Mk Mv Mh nx f fv fh (fset w Mk (iar g f)) ∧ mFr M Mk Mv Mh w (fset w Mk (iar g f)) := by
  have hn := h.ne
  obtain ⟨h1, h2, h3, h4, h5, h6⟩ := h
  exact ⟨⟨(fset_n hn.1).trans h1, fset_s, (fset_n h5.1.symm).trans h3, (fset_n h5.2.1.symm).trans h4, h5, h6⟩, fun z _ b _ _ => fset_n b⟩
theorem MD.setV (h : MD g M Mk Mv Mh nx fk fv fh w) (f : Nat → Int32) : MD g M Mk Mv Mh nx fk f fh (fset w Mv (iar g f)) ∧ mFr M Mk Mv Mh w (fset w Mv (iar g f)) := by
  have hn := h.ne
  obtain ⟨h1, h2, h3, h4, h5, h6⟩ := h
  exact ⟨⟨(fset_n hn.2.1).trans h1, (fset_n h5.1).trans h2, fset_s, (fset_n h5.2.2.symm).trans h4, h5, h6⟩, fun z _ _ b _ => fset_n b⟩
theorem MD.setH (h : MD g M Mk Mv Mh nx fk fv fh w) (f : Nat → Int32) : MD g M Mk Mv Mh nx fk fv f (fset w Mh (iar g f)) ∧ mFr M Mk Mv Mh w (fset w Mh (iar g f)) := by
  have hn := h.ne
  obtain ⟨h1, h2, h3, h4, h5, h6⟩ := h
  exact ⟨⟨(fset_n hn.2.2).trans h1, (fset_n h5.2.1).trans h2, (fset_n h5.2.2).trans h3, fset_s, h5, h6⟩, fun z _ _ _ b => fset_n b⟩
theorem MD.setN (h : MD g M Mk Mv Mh nx fk fv fh w) (n : Nat) (hn64 : n ≤ 64) : MD g M Mk Mv Mh n fk fv fh (fset w M (mdc Mk Mv Mh n)) ∧ mFr M Mk Mv Mh w (fset w M (mdc Mk Mv Mh n)) := by
  have hn := h.ne
  obtain ⟨h1, h2, h3, h4, h5, h6, h7⟩ := h
  exact ⟨⟨fset_s, (fset_n hn.1.symm).trans h2, (fset_n hn.2.1.symm).trans h3, (fset_n hn.2.2.symm).trans h4, h5, h6, hn64⟩, fun z b _ _ _ => fset_n b⟩
end MDS
section IROWS
variable {p : Program} {l : Launch} {e : Env} {R : Room} {s : State} {m : MethodId} {args : Array Value} {below : List Frame} {meth : Method} {c : Code} {H : Heap} {locs : List Loc} {cells slots : Nat} {Q : State → Prop}
variable {g : fG} {own : String} {cc : ByteArray} {nl : Nat} {rt : Option FieldType} {w : fW} {pc a : Nat} {ls : Array Slot} {rest : List Value} {f : Nat → Int32}
theorem fw_ild (C : fC g p s m args meth c own cc nl rt) (hP : HP g w H) (he : w a = some (iar g f)) {j : Nat} (hj : j < 64) (hdg : decode cc pc = .ok (.iaload, 1))
    (kk : W p l e R s m args below meth c H locs cells slots Q (F0 m (pc + 1) ls (.int (f j) :: rest))) : W p l e R s m args below meth c H locs cells slots Q (F0 m pc ls (.int (nI j) :: .ref a :: rest)) := by
  refine fw_iald C hP he (vp_in_nI hj (by decide)) hdg ?_
  rw [nI_clamp (by omega)]
  exact kk
theorem fw_ist (C : fC g p s m args meth c own cc nl rt) (hP : HP g w H) (hS : va_S (fA g) s.heap H locs) (hA : g.2.1 ≤ a) (he : w a = some (iar g f)) {j : Nat} {x : Int32} (hj : j < 64) (hdg : decode cc pc = .ok (.iastore, 1))
    (kk : ∀ (H1 : Heap) (locs1 : List Loc), HP g (fset w a (iar g (upd f j x))) H1 → va_S (fA g) s.heap H1 locs1 → W p l e R s m args below meth c H1 locs1 cells slots Q (F0 m (pc + 1) ls rest)) : W p l e R s m args below meth c H locs cells slots Q (F0 m pc ls (.int x :: .int (nI j) :: .ref a :: rest)) := by
  refine fw_iast C hP hS hA he (vp_in_nI hj (by decide)) hdg (fun H1 locs1 h1 h2 => ?_)
  rw [nI_clamp (by omega)] at h1
  exact kk H1 locs1 h1 h2
end IROWS
theorem i_and3 (x : Int32) : ∃ r, r < 4 ∧ x &&& 3 = nI r ∧ 1 + (x &&& 3) = nI (1 + r) := by
  obtain ⟨j, hj, he⟩ := pk_andE x (m := 3) 2 (by decide)
  refine ⟨j, hj, he, ?_⟩
  rw [he]
  exact nI_add 1 j
theorem i_idx (e : Int32) {nx : Nat} (h0 : 0 < nx) (h : nx ≤ 64) : (e &&& 2147483647) - (e &&& 2147483647) / nI nx * nI nx = nI (idx e nx) := by
  rw [pk_and e (m := 2147483647) 31 (by decide)]
  exact pk_rem (Nat.mod_lt _ (by decide)) h0 (by omega)
theorem idx_lt (e : Int32) {nx : Nat} (h0 : 0 < nx) : idx e nx < nx := Nat.mod_lt _ h0
end
section
/-! the model's methods -/
set_option maxRecDepth 100000
section MODEL
variable (l : Launch) (g : fG) (M Mk Mv Mh nx : Nat) (fk fv fh : Nat → Int32) (w : fW)
set_option maxHeartbeats 4000000 in
/-- first(r) -/
theorem m_first (hD : MD g M Mk Mv Mh nx fk fv fh w) (x : Int32) (r : Nat) (hr : r < 4) (hx : x &&& 3 = nI r) : fMet l g yX2_first cX2_first 4 (some .int) 1 0 0 0 [.ref M, .int x] w (fun v w1 => v = some (.int (ob (fstN fk fh r nx))) ∧ w1 = w) := by
  refine fw_of (by decide) (Nat.le_of_ble_eq_true rfl) ?_
  intro p e s m below meth c ls C hnm hP hl
  have hS : va_S (fA g) s.heap s.heap [] := va_S.rf
  obtain ⟨hM, hk, hv, hh, -, -, hn64⟩ := hD
  have hx1 : 1 + (x &&& 3) = nI (1 + r) := by rw [hx]; exact nI_add 1 r
  have loop : ∀ (f i : Nat) (ls : Array Slot), nx - i = f → i ≤ nx → lv_has ls 4 [(3, .int (nI i)), (2, .int (ob (fstN fk fh r i))), (0, .ref M), (1, .int x)] →
      W p l e (fRm 1 0 0 0) s m ([.ref M, .int x] : List Value).toArray below meth c s.heap [] 0 0 (MQ below (fQ g (fun v w1 => v = some (.int (ob (fstN fk fh r nx))) ∧ w1 = w)) ([.ref M, .int x] : List Value).toArray s 0 0 (fA g)) (F0 m 4 ls []) := by
    intro f
    induction f with
    | zero =>
      intro i ls hf hi hl
      have hin : i = nx := by omega
      rw [hin] at hl
      refine lv_iload_n C.1 C.2.1 dX2_first_4 rfl (lv_at hl 0 rfl) ?_
      refine lv_aload_n C.1 C.2.1 dX2_first_5 rfl (lv_at hl 2 rfl) ?_
      refine fw_get C in_X2 hP hM rfl 3 (by decide) q498 rfl rfl dX2_first_6 ?_
      refine lv_icmp_ge (tgt := 78) C.1 C.2.1 dX2_first_9 (by decide) (fun c1 => ?_) (fun c1 => ?_)
      · refine lv_iload_n C.1 C.2.1 dX2_first_78 rfl (lv_at hl 1 rfl) ?_
        exact fw_iret C ⟨rfl, rfl⟩ hP hS ⟨Nat.le_of_ble_eq_true rfl, Nat.le_of_ble_eq_true rfl⟩ dX2_first_79
      · exact absurd (nI_le (Nat.le_refl nx) (by omega)) c1
    | succ f ih =>
      intro i ls hf hi hl
      have hilt : i < nx := by omega
      have j72 : ∀ (o : Option Nat) (ls : Array Slot), fstN fk fh r (i + 1) = o → lv_has ls 4 [(3, .int (nI i)), (2, .int (ob o)), (0, .ref M), (1, .int x)] → W p l e (fRm 1 0 0 0) s m ([.ref M, .int x] : List Value).toArray below meth c s.heap [] 0 0 (MQ below (fQ g (fun v w1 => v = some (.int (ob (fstN fk fh r nx))) ∧ w1 = w)) ([.ref M, .int x] : List Value).toArray s 0 0 (fA g)) (F0 m 72 ls []) := by
        intro o ls ho hl
        refine lv_iinc (k := 0) (lv' := [(3, .int (nI (i + 1))), (2, .int (ob o)), (0, .ref M), (1, .int x)]) C.1 C.2.1 dX2_first_72 hl rfl (nI_succ i).symm (by decide) rfl (fun ls hl => ?_)
        refine lv_goto (tgt := 4) C.1 C.2.1 dX2_first_75 (by decide) ?_
        rw [← ho] at hl
        exact ih (i + 1) ls (by omega) (by omega) hl
      have j70 : ∀ (y : Int32) (ls : Array Slot), fstN fk fh r (i + 1) = some i → lv_has ls 4 [(3, .int (nI i)), (2, .int y), (0, .ref M), (1, .int x)] → W p l e (fRm 1 0 0 0) s m ([.ref M, .int x] : List Value).toArray below meth c s.heap [] 0 0 (MQ below (fQ g (fun v w1 => v = some (.int (ob (fstN fk fh r nx))) ∧ w1 = w)) ([.ref M, .int x] : List Value).toArray s 0 0 (fA g)) (F0 m 70 ls []) := by
        intro y ls ho hl
        refine lv_iload_n C.1 C.2.1 dX2_first_70 rfl (lv_at hl 0 rfl) ?_
        refine lv_istore_n (lv' := [(2, .int (nI i)), (3, .int (nI i)), (0, .ref M), (1, .int x)]) C.1 C.2.1 dX2_first_71 rfl hl (by decide) rfl (fun ls hl => ?_)
        exact j72 (some i) ls ho (lv_sub hl [1, 0, 2, 3] rfl)
      refine lv_iload_n C.1 C.2.1 dX2_first_4 rfl (lv_at hl 0 rfl) ?_
      refine lv_aload_n C.1 C.2.1 dX2_first_5 rfl (lv_at hl 2 rfl) ?_
      refine fw_get C in_X2 hP hM rfl 3 (by decide) q498 rfl rfl dX2_first_6 ?_
      refine lv_icmp_ge (tgt := 78) C.1 C.2.1 dX2_first_9 (by decide) (fun c1 => ?_) (fun c1 => ?_)
      · exact absurd c1 (nI_ge hilt (by omega))
      · refine lv_aload_n C.1 C.2.1 dX2_first_12 rfl (lv_at hl 2 rfl) ?_
        refine fw_get C in_X2 hP hM rfl 2 (by decide) q497 rfl rfl dX2_first_13 ?_
        refine lv_iload_n C.1 C.2.1 dX2_first_16 rfl (lv_at hl 0 rfl) ?_
        refine fw_ild C hP hh (by omega) dX2_first_17 ?_
        refine lv_iconst (v := 1) C.1 C.2.1 dX2_first_18 (by decide) ?_
        refine lv_iload_n C.1 C.2.1 dX2_first_19 rfl (lv_at hl 3 rfl) ?_
        refine lv_iconst (v := 3) C.1 C.2.1 dX2_first_20 (by decide) ?_
        refine lv_iand C.1 C.2.1 dX2_first_21 ?_
        refine lv_iadd C.1 C.2.1 dX2_first_22 ?_
        rw [hx1]
        refine lv_icmp_ne (tgt := 72) C.1 C.2.1 dX2_first_23 (by decide) (fun c2 => ?_) (fun c2 => ?_)
        · exact j72 _ ls (fst_no c2) hl
        · refine lv_iload_n C.1 C.2.1 dX2_first_26 rfl (lv_at hl 1 rfl) ?_
          cases h0 : fstN fk fh r i with
          | none =>
            rw [h0] at hl
            refine lv_if_lt (tgt := 70) C.1 C.2.1 dX2_first_27 (by decide) (fun c3 => ?_) (fun c3 => ?_)
            · exact j70 _ ls (fst_new h0 c2) hl
            · exact absurd (show ob none < 0 by decide) c3
          | some b =>
            obtain ⟨b1, b2, -⟩ := (fst_spec (fk := fk) (fh := fh) (r := r) (n := i)).2 b h0
            rw [h0] at hl
            refine lv_if_lt (tgt := 70) C.1 C.2.1 dX2_first_27 (by decide) (fun c3 => ?_) (fun c3 => ?_)
            · exact absurd c3 (nI_pos (by omega))
            · refine lv_iload_n C.1 C.2.1 dX2_first_30 rfl (lv_at hl 3 rfl) ?_
              refine lv_iconst (v := 3) C.1 C.2.1 dX2_first_31 (by decide) ?_
              refine lv_iand C.1 C.2.1 dX2_first_32 ?_
              refine lv_iconst (v := 2) C.1 C.2.1 dX2_first_33 (by decide) ?_
              rw [hx]
              refine lv_icmp_ge (tgt := 55) C.1 C.2.1 dX2_first_34 (by decide) (fun c4 => ?_) (fun c4 => ?_)
              · have hd : dnr r = true := decide_eq_true ((nI_leI (a := 2) (b := r) (by decide) (by omega)).mp c4)
                refine lv_aload_n C.1 C.2.1 dX2_first_55 rfl (lv_at hl 2 rfl) ?_
                refine fw_get C in_X2 hP hM rfl 0 (by decide) q495 rfl rfl dX2_first_56 ?_
                refine lv_iload_n C.1 C.2.1 dX2_first_59 rfl (lv_at hl 0 rfl) ?_
                refine fw_ild C hP hk (by omega) dX2_first_60 ?_
                refine lv_aload_n C.1 C.2.1 dX2_first_61 rfl (lv_at hl 2 rfl) ?_
                refine fw_get C in_X2 hP hM rfl 0 (by decide) q495 rfl rfl dX2_first_62 ?_
                refine lv_iload_n C.1 C.2.1 dX2_first_65 rfl (lv_at hl 1 rfl) ?_
                refine fw_ild C hP hk (by omega) dX2_first_66 ?_
                refine lv_icmp_le (tgt := 72) C.1 C.2.1 dX2_first_67 (by decide) (fun c5 => ?_) (fun c5 => ?_)
                · refine j72 (some b) ls (fst_ge h0 ?_) hl
                  rw [hd, frk_t, frk_t]
                  rw [Int32.le_iff_toInt_le] at c5
                  omega
                · refine j70 _ ls (fst_lt h0 c2 ?_) hl
                  rw [hd, frk_t, frk_t]
                  rw [Int32.le_iff_toInt_le] at c5
                  omega
              · have hd : dnr r = false := decide_eq_false (fun z => c4 ((nI_leI (a := 2) (b := r) (by decide) (by omega)).mpr z))
                refine lv_aload_n C.1 C.2.1 dX2_first_37 rfl (lv_at hl 2 rfl) ?_
                refine fw_get C in_X2 hP hM rfl 0 (by decide) q495 rfl rfl dX2_first_38 ?_
                refine lv_iload_n C.1 C.2.1 dX2_first_41 rfl (lv_at hl 0 rfl) ?_
                refine fw_ild C hP hk (by omega) dX2_first_42 ?_
                refine lv_aload_n C.1 C.2.1 dX2_first_43 rfl (lv_at hl 2 rfl) ?_
                refine fw_get C in_X2 hP hM rfl 0 (by decide) q495 rfl rfl dX2_first_44 ?_
                refine lv_iload_n C.1 C.2.1 dX2_first_47 rfl (lv_at hl 1 rfl) ?_
                refine fw_ild C hP hk (by omega) dX2_first_48 ?_
                refine lv_icmp_ge (tgt := 72) C.1 C.2.1 dX2_first_49 (by decide) (fun c5 => ?_) (fun c5 => ?_)
                · refine j72 (some b) ls (fst_ge h0 ?_) hl
                  rw [hd, frk_f, frk_f]
                  rw [Int32.le_iff_toInt_le] at c5
                  omega
                · refine lv_goto (tgt := 70) C.1 C.2.1 dX2_first_52 (by decide) ?_
                  refine j70 _ ls (fst_lt h0 c2 ?_) hl
                  rw [hd, frk_f, frk_f]
                  rw [Int32.le_iff_toInt_le] at c5
                  omega
  refine lv_iconst (v := (-1)) C.1 C.2.1 dX2_first_0 (by decide) ?_
  refine lv_istore_n (lv' := [(2, .int (-1)), (0, .ref M), (1, .int x)]) C.1 C.2.1 dX2_first_1 rfl hl (by decide) rfl (fun ls hl => ?_)
  refine lv_iconst (v := 0) C.1 C.2.1 dX2_first_2 (by decide) ?_
  refine lv_istore_n (lv' := [(3, .int 0), (2, .int (-1)), (0, .ref M), (1, .int x)]) C.1 C.2.1 dX2_first_3 rfl hl (by decide) rfl (fun ls hl => ?_)
  exact loop (nx - 0) 0 ls rfl (Nat.zero_le _) hl
set_option maxHeartbeats 4000000 in
theorem m_mleast (hD : MD g M Mk Mv Mh nx fk fv fh w) (x : Int32) (r : Nat) (hr : r < 4) (hx : x &&& 3 = nI r) : fMet l g yX2_least cX2_least 3 (some .int) 2 30 0 0 [.ref M, .int x] w (fun v w1 => v = some (.int (obf fk (fstN fk fh r nx))) ∧ w1 = w) := by
  refine fw_of (by decide) (Nat.le_of_ble_eq_true rfl) ?_
  intro p e s m below meth c ls C hnm hP hl
  have hS : va_S (fA g) s.heap s.heap [] := va_S.rf
  have hM := hD.1
  refine lv_aload_n C.1 C.2.1 dX2_least_0 rfl (lv_at hl 0 rfl) ?_
  refine lv_iload_n C.1 C.2.1 dX2_least_1 rfl (lv_at hl 1 rfl) ?_
  refine fw_V C 1 (As := [.int x]) (rest := []) (m_first l g M Mk Mv Mh nx fk fv fh w hD x r hr hx) (lw_V q517 q519 qs10 q15 q520) (by decide +kernel) ⟨Nat.le_of_ble_eq_true rfl, Nat.le_of_ble_eq_true rfl⟩ hP hS hM rfl rfl rfl hl.1 (Nat.le_of_ble_eq_true rfl) dX2_least_2 ⟨Nat.le_of_ble_eq_true rfl, Nat.le_of_ble_eq_true rfl⟩ ?_
  rintro r w1 H1 locs1 ⟨rfl, e1⟩ hP hS
  rw [e1] at hP
  clear e1 w1
  cases h0 : fstN fk fh r nx with
  | none =>
    refine lv_istore_n (lv' := [(2, .int (ob none)), (0, .ref M), (1, .int x)]) C.1 C.2.1 dX2_least_5 rfl hl (by decide) rfl (fun ls hl => ?_)
    refine lv_iload_n C.1 C.2.1 dX2_least_6 rfl (lv_at hl 0 rfl) ?_
    refine lv_if_ge (tgt := 14) C.1 C.2.1 dX2_least_7 (by decide) (fun c1 => ?_) (fun c1 => ?_)
    · exact absurd c1 (show ¬ 0 ≤ ob none by decide)
    · refine lv_iconst (v := (-1)) C.1 C.2.1 dX2_least_10 (by decide) ?_
      refine lv_goto (tgt := 20) C.1 C.2.1 dX2_least_11 (by decide) ?_
      exact fw_iret C ⟨rfl, rfl⟩ hP hS ⟨Nat.le_of_ble_eq_true rfl, Nat.le_of_ble_eq_true rfl⟩ dX2_least_20
  | some b =>
    obtain ⟨b1, b2, -⟩ := (fst_spec (fk := fk) (fh := fh) (r := r) (n := nx)).2 b h0
    have hn64 := hD.2.2.2.2.2.2
    refine lv_istore_n (lv' := [(2, .int (nI b)), (0, .ref M), (1, .int x)]) C.1 C.2.1 dX2_least_5 rfl hl (by decide) rfl (fun ls hl => ?_)
    refine lv_iload_n C.1 C.2.1 dX2_least_6 rfl (lv_at hl 0 rfl) ?_
    refine lv_if_ge (tgt := 14) C.1 C.2.1 dX2_least_7 (by decide) (fun c1 => ?_) (fun c1 => ?_)
    · refine lv_aload_n C.1 C.2.1 dX2_least_14 rfl (lv_at hl 1 rfl) ?_
      refine fw_get C in_X2 hP hM rfl 0 (by decide) q495 rfl rfl dX2_least_15 ?_
      refine lv_iload_n C.1 C.2.1 dX2_least_18 rfl (lv_at hl 0 rfl) ?_
      refine fw_ild C hP hD.2.1 (by omega) dX2_least_19 ?_
      exact fw_iret C ⟨rfl, rfl⟩ hP hS ⟨Nat.le_of_ble_eq_true rfl, Nat.le_of_ble_eq_true rfl⟩ dX2_least_20
    · exact absurd (nI_pos' (by omega)) c1
set_option maxHeartbeats 4000000 in
theorem m_mvalue (hD : MD g M Mk Mv Mh nx fk fv fh w) (x : Int32) (r : Nat) (hr : r < 4) (hx : x &&& 3 = nI r) : fMet l g yX2_valueOfLeast cX2_valueOfLeast 3 (some .int) 2 30 0 0 [.ref M, .int x] w (fun v w1 => v = some (.int (obf fv (fstN fk fh r nx))) ∧ w1 = w) := by
  refine fw_of (by decide) (Nat.le_of_ble_eq_true rfl) ?_
  intro p e s m below meth c ls C hnm hP hl
  have hS : va_S (fA g) s.heap s.heap [] := va_S.rf
  have hM := hD.1
  refine lv_aload_n C.1 C.2.1 dX2_valueOfLeast_0 rfl (lv_at hl 0 rfl) ?_
  refine lv_iload_n C.1 C.2.1 dX2_valueOfLeast_1 rfl (lv_at hl 1 rfl) ?_
  refine fw_V C 1 (As := [.int x]) (rest := []) (m_first l g M Mk Mv Mh nx fk fv fh w hD x r hr hx) (lw_V q517 q519 qs10 q15 q520) (by decide +kernel) ⟨Nat.le_of_ble_eq_true rfl, Nat.le_of_ble_eq_true rfl⟩ hP hS hM rfl rfl rfl hl.1 (Nat.le_of_ble_eq_true rfl) dX2_valueOfLeast_2 ⟨Nat.le_of_ble_eq_true rfl, Nat.le_of_ble_eq_true rfl⟩ ?_
  rintro r w1 H1 locs1 ⟨rfl, e1⟩ hP hS
  rw [e1] at hP
  clear e1 w1
  cases h0 : fstN fk fh r nx with
  | none =>
    refine lv_istore_n (lv' := [(2, .int (ob none)), (0, .ref M), (1, .int x)]) C.1 C.2.1 dX2_valueOfLeast_5 rfl hl (by decide) rfl (fun ls hl => ?_)
    refine lv_iload_n C.1 C.2.1 dX2_valueOfLeast_6 rfl (lv_at hl 0 rfl) ?_
    refine lv_if_ge (tgt := 14) C.1 C.2.1 dX2_valueOfLeast_7 (by decide) (fun c1 => ?_) (fun c1 => ?_)
    · exact absurd c1 (show ¬ 0 ≤ ob none by decide)
    · refine lv_iconst (v := (-1)) C.1 C.2.1 dX2_valueOfLeast_10 (by decide) ?_
      refine lv_goto (tgt := 20) C.1 C.2.1 dX2_valueOfLeast_11 (by decide) ?_
      exact fw_iret C ⟨rfl, rfl⟩ hP hS ⟨Nat.le_of_ble_eq_true rfl, Nat.le_of_ble_eq_true rfl⟩ dX2_valueOfLeast_20
  | some b =>
    obtain ⟨b1, b2, -⟩ := (fst_spec (fk := fk) (fh := fh) (r := r) (n := nx)).2 b h0
    have hn64 := hD.2.2.2.2.2.2
    refine lv_istore_n (lv' := [(2, .int (nI b)), (0, .ref M), (1, .int x)]) C.1 C.2.1 dX2_valueOfLeast_5 rfl hl (by decide) rfl (fun ls hl => ?_)
    refine lv_iload_n C.1 C.2.1 dX2_valueOfLeast_6 rfl (lv_at hl 0 rfl) ?_
    refine lv_if_ge (tgt := 14) C.1 C.2.1 dX2_valueOfLeast_7 (by decide) (fun c1 => ?_) (fun c1 => ?_)
    · refine lv_aload_n C.1 C.2.1 dX2_valueOfLeast_14 rfl (lv_at hl 1 rfl) ?_
      refine fw_get C in_X2 hP hM rfl 1 (by decide) q496 rfl rfl dX2_valueOfLeast_15 ?_
      refine lv_iload_n C.1 C.2.1 dX2_valueOfLeast_18 rfl (lv_at hl 0 rfl) ?_
      refine fw_ild C hP hD.2.2.1 (by omega) dX2_valueOfLeast_19 ?_
      exact fw_iret C ⟨rfl, rfl⟩ hP hS ⟨Nat.le_of_ble_eq_true rfl, Nat.le_of_ble_eq_true rfl⟩ dX2_valueOfLeast_20
    · exact absurd (nI_pos' (by omega)) c1
set_option maxHeartbeats 4000000 in
theorem m_mtake (hD : MD g M Mk Mv Mh nx fk fv fh w) (x : Int32) (r : Nat) (hr : r < 4) (hx : x &&& 3 = nI r) : fMet l g yX2_takeLeast cX2_takeLeast 3 (some .int) 2 30 0 0 [.ref M, .int x] w (fun v w1 => v = some (.int (obf fk (fstN fk fh r nx))) ∧ MD g M Mk Mv Mh nx fk fv (upo fh (fstN fk fh r nx) (fun _ => 0)) w1 ∧ mFr M Mk Mv Mh w w1) := by
  refine fw_of (by decide) (Nat.le_of_ble_eq_true rfl) ?_
  intro p e s m below meth c ls C hnm hP hl
  have hS : va_S (fA g) s.heap s.heap [] := va_S.rf
  have hM := hD.1
  refine lv_aload_n C.1 C.2.1 dX2_takeLeast_0 rfl (lv_at hl 0 rfl) ?_
  refine lv_iload_n C.1 C.2.1 dX2_takeLeast_1 rfl (lv_at hl 1 rfl) ?_
  refine fw_V C 1 (As := [.int x]) (rest := []) (m_first l g M Mk Mv Mh nx fk fv fh w hD x r hr hx) (lw_V q517 q519 qs10 q15 q520) (by decide +kernel) ⟨Nat.le_of_ble_eq_true rfl, Nat.le_of_ble_eq_true rfl⟩ hP hS hM rfl rfl rfl hl.1 (Nat.le_of_ble_eq_true rfl) dX2_takeLeast_2 ⟨Nat.le_of_ble_eq_true rfl, Nat.le_of_ble_eq_true rfl⟩ ?_
  rintro r w1 H1 locs1 ⟨rfl, e1⟩ hP hS
  rw [e1] at hP
  clear e1 w1
  cases h0 : fstN fk fh r nx with
  | none =>
    refine lv_istore_n (lv' := [(2, .int (ob none)), (0, .ref M), (1, .int x)]) C.1 C.2.1 dX2_takeLeast_5 rfl hl (by decide) rfl (fun ls hl => ?_)
    refine lv_iload_n C.1 C.2.1 dX2_takeLeast_6 rfl (lv_at hl 0 rfl) ?_
    refine lv_if_ge (tgt := 12) C.1 C.2.1 dX2_takeLeast_7 (by decide) (fun c1 => ?_) (fun c1 => ?_)
    · exact absurd c1 (show ¬ 0 ≤ ob none by decide)
    · refine lv_iconst (v := (-1)) C.1 C.2.1 dX2_takeLeast_10 (by decide) ?_
      exact fw_iret C ⟨rfl, hD, mFr.rf⟩ hP hS ⟨Nat.le_of_ble_eq_true rfl, Nat.le_of_ble_eq_true rfl⟩ dX2_takeLeast_11
  | some b =>
    obtain ⟨b1, b2, -⟩ := (fst_spec (fk := fk) (fh := fh) (r := r) (n := nx)).2 b h0
    have hn64 := hD.2.2.2.2.2.2
    have hset := hD.setH (upd fh b 0)
    refine lv_istore_n (lv' := [(2, .int (nI b)), (0, .ref M), (1, .int x)]) C.1 C.2.1 dX2_takeLeast_5 rfl hl (by decide) rfl (fun ls hl => ?_)
    refine lv_iload_n C.1 C.2.1 dX2_takeLeast_6 rfl (lv_at hl 0 rfl) ?_
    refine lv_if_ge (tgt := 12) C.1 C.2.1 dX2_takeLeast_7 (by decide) (fun c1 => ?_) (fun c1 => ?_)
    · refine lv_aload_n C.1 C.2.1 dX2_takeLeast_12 rfl (lv_at hl 1 rfl) ?_
      refine fw_get C in_X2 hP hM rfl 2 (by decide) q497 rfl rfl dX2_takeLeast_13 ?_
      refine lv_iload_n C.1 C.2.1 dX2_takeLeast_16 rfl (lv_at hl 0 rfl) ?_
      refine lv_iconst (v := 0) C.1 C.2.1 dX2_takeLeast_17 (by decide) ?_
      refine fw_ist C hP hS hD.2.2.2.2.2.1.2.2.2 hD.2.2.2.1 (by omega) dX2_takeLeast_18 (fun H locs hP hS => ?_)
      refine lv_aload_n C.1 C.2.1 dX2_takeLeast_19 rfl (lv_at hl 1 rfl) ?_
      refine fw_get C in_X2 hP hset.1.1 rfl 0 (by decide) q495 rfl rfl dX2_takeLeast_20 ?_
      refine lv_iload_n C.1 C.2.1 dX2_takeLeast_23 rfl (lv_at hl 0 rfl) ?_
      refine fw_ild C hP hset.1.2.1 (by omega) dX2_takeLeast_24 ?_
      exact fw_iret C ⟨rfl, hset.1, hset.2⟩ hP hS ⟨Nat.le_of_ble_eq_true rfl, Nat.le_of_ble_eq_true rfl⟩ dX2_takeLeast_25
    · exact absurd (nI_pos' (by omega)) c1
set_option maxHeartbeats 4000000 in
/-- there(e) -/
theorem m_there (hD : MD g M Mk Mv Mh nx fk fv fh w) (x : Int32) : fMet l g yX2_there cX2_there 3 (some .int) 1 0 0 0 [.ref M, .int x] w (fun v w1 => v = some (.int (ob (thr nx fh x))) ∧ w1 = w) := by
  refine fw_of (by decide) (Nat.le_of_ble_eq_true rfl) ?_
  intro p e s m below meth c ls C hnm hP hl
  have hS : va_S (fA g) s.heap s.heap [] := va_S.rf
  obtain ⟨hM, hk, hv, hh, -, -, hn64⟩ := hD
  refine lv_aload_n C.1 C.2.1 dX2_there_0 rfl (lv_at hl 0 rfl) ?_
  refine fw_get C in_X2 hP hM rfl 3 (by decide) q498 rfl rfl dX2_there_1 ?_
  refine lv_if_ne (tgt := 9) C.1 C.2.1 dX2_there_4 (by decide) (fun c1 => ?_) (fun c1 => ?_)
  · have hn0 : nx ≠ 0 := fun z => c1 (by rw [z]; rfl)
    refine lv_iload_n C.1 C.2.1 dX2_there_9 rfl (lv_at hl 1 rfl) ?_
    refine lv_ldc C.1 C.2.1 C.2.2.2.2.2.1 (C.2.2.2.2.2.2.1 _ q537) dX2_there_10 ?_
    refine lv_iand C.1 C.2.1 dX2_there_12 ?_
    refine lv_aload_n C.1 C.2.1 dX2_there_13 rfl (lv_at hl 0 rfl) ?_
    refine fw_get C in_X2 hP hM rfl 3 (by decide) q498 rfl rfl dX2_there_14 ?_
    refine lv_irem C.1 C.2.1 dX2_there_17 c1 ?_
    rw [i_idx x (by omega) hn64]
    refine lv_istore_n (lv' := [(2, .int (nI (idx x nx))), (0, .ref M), (1, .int x)]) C.1 C.2.1 dX2_there_18 rfl hl (by decide) rfl (fun ls hl => ?_)
    refine lv_aload_n C.1 C.2.1 dX2_there_19 rfl (lv_at hl 1 rfl) ?_
    refine fw_get C in_X2 hP hM rfl 2 (by decide) q497 rfl rfl dX2_there_20 ?_
    refine lv_iload_n C.1 C.2.1 dX2_there_23 rfl (lv_at hl 0 rfl) ?_
    have hlt := idx_lt x (nx := nx) (by omega)
    refine fw_ild C hP hh (by omega) dX2_there_24 ?_
    refine lv_if_ne (tgt := 32) C.1 C.2.1 dX2_there_25 (by decide) (fun c2 => ?_) (fun c2 => ?_)
    · refine lv_iload_n C.1 C.2.1 dX2_there_32 rfl (lv_at hl 0 rfl) ?_
      refine fw_iret C ⟨?_, rfl⟩ hP hS ⟨Nat.le_of_ble_eq_true rfl, Nat.le_of_ble_eq_true rfl⟩ dX2_there_33
      rw [thr, if_neg hn0, if_neg c2]
      rfl
    · refine lv_iconst (v := (-1)) C.1 C.2.1 dX2_there_28 (by decide) ?_
      refine lv_goto (tgt := 33) C.1 C.2.1 dX2_there_29 (by decide) ?_
      refine fw_iret C ⟨?_, rfl⟩ hP hS ⟨Nat.le_of_ble_eq_true rfl, Nat.le_of_ble_eq_true rfl⟩ dX2_there_33
      rw [thr, if_neg hn0, if_pos c2]
      rfl
  · have hn0 : nx = 0 := (nI_eq (a := nx) (b := 0) (by omega) (by decide)).mp c1
    refine lv_iconst (v := (-1)) C.1 C.2.1 dX2_there_7 (by decide) ?_
    refine fw_iret C ⟨?_, rfl⟩ hP hS ⟨Nat.le_of_ble_eq_true rfl, Nat.le_of_ble_eq_true rfl⟩ dX2_there_8
    rw [thr, if_pos hn0]
    rfl
end MODEL
end
section
/-! the model's methods, on -/
set_option maxRecDepth 100000
theorem thr_lt {nx i : Nat} {fh : Nat → Int32} {e : Int32} (h : thr nx fh e = some i) : i < nx ∧ fh i ≠ 0 ∧ nx ≠ 0 ∧ i = idx e nx := by
  unfold thr at h
  by_cases h0 : nx = 0
  · rw [if_pos h0] at h; cases h
  · rw [if_neg h0] at h
    by_cases h1 : fh (idx e nx) = 0
    · rw [if_pos h1] at h; cases h
    · rw [if_neg h1] at h
      cases h
      exact ⟨idx_lt e (by omega), h1, h0, rfl⟩
section MODEL2
variable (l : Launch) (g : fG) (M Mk Mv Mh nx : Nat) (fk fv fh : Nat → Int32) (w : fW)
set_option maxHeartbeats 4000000 in
theorem m_mkey (hD : MD g M Mk Mv Mh nx fk fv fh w) (x : Int32) : fMet l g yX2_key cX2_key 3 (some .int) 2 30 0 0 [.ref M, .int x] w (fun v w1 => v = some (.int (obf fk (thr nx fh x))) ∧ w1 = w) := by
  refine fw_of (by decide) (Nat.le_of_ble_eq_true rfl) ?_
  intro p e s m below meth c ls C hnm hP hl
  have hS : va_S (fA g) s.heap s.heap [] := va_S.rf
  have hM := hD.1
  refine lv_aload_n C.1 C.2.1 dX2_key_0 rfl (lv_at hl 0 rfl) ?_
  refine lv_iload_n C.1 C.2.1 dX2_key_1 rfl (lv_at hl 1 rfl) ?_
  refine fw_V C 1 (As := [.int x]) (rest := []) (m_there l g M Mk Mv Mh nx fk fv fh w hD x) (lw_V q533 q535 qs11 q15 q536) (by decide +kernel) ⟨Nat.le_of_ble_eq_true rfl, Nat.le_of_ble_eq_true rfl⟩ hP hS hM rfl rfl rfl hl.1 (Nat.le_of_ble_eq_true rfl) dX2_key_2 ⟨Nat.le_of_ble_eq_true rfl, Nat.le_of_ble_eq_true rfl⟩ ?_
  rintro r w1 H1 locs1 ⟨rfl, e1⟩ hP hS
  rw [e1] at hP
  clear e1 w1
  cases h0 : thr nx fh x with
  | none =>
    refine lv_istore_n (lv' := [(2, .int (ob none)), (0, .ref M), (1, .int x)]) C.1 C.2.1 dX2_key_5 rfl hl (by decide) rfl (fun ls hl => ?_)
    refine lv_iload_n C.1 C.2.1 dX2_key_6 rfl (lv_at hl 0 rfl) ?_
    refine lv_if_ge (tgt := 14) C.1 C.2.1 dX2_key_7 (by decide) (fun c1 => ?_) (fun c1 => ?_)
    · exact absurd c1 (show ¬ 0 ≤ ob none by decide)
    · refine lv_iconst (v := (-1)) C.1 C.2.1 dX2_key_10 (by decide) ?_
      refine lv_goto (tgt := 20) C.1 C.2.1 dX2_key_11 (by decide) ?_
      exact fw_iret C ⟨rfl, rfl⟩ hP hS ⟨Nat.le_of_ble_eq_true rfl, Nat.le_of_ble_eq_true rfl⟩ dX2_key_20
  | some b =>
    have b1 := (thr_lt h0).1
    have hn64 := hD.2.2.2.2.2.2
    refine lv_istore_n (lv' := [(2, .int (nI b)), (0, .ref M), (1, .int x)]) C.1 C.2.1 dX2_key_5 rfl hl (by decide) rfl (fun ls hl => ?_)
    refine lv_iload_n C.1 C.2.1 dX2_key_6 rfl (lv_at hl 0 rfl) ?_
    refine lv_if_ge (tgt := 14) C.1 C.2.1 dX2_key_7 (by decide) (fun c1 => ?_) (fun c1 => ?_)
    · refine lv_aload_n C.1 C.2.1 dX2_key_14 rfl (lv_at hl 1 rfl) ?_
      refine fw_get C in_X2 hP hM rfl 0 (by decide) q495 rfl rfl dX2_key_15 ?_
      refine lv_iload_n C.1 C.2.1 dX2_key_18 rfl (lv_at hl 0 rfl) ?_
      refine fw_ild C hP hD.2.1 (by omega) dX2_key_19 ?_
      exact fw_iret C ⟨rfl, rfl⟩ hP hS ⟨Nat.le_of_ble_eq_true rfl, Nat.le_of_ble_eq_true rfl⟩ dX2_key_20
    · exact absurd (nI_pos' (by omega)) c1
set_option maxHeartbeats 4000000 in
theorem m_mdrop (hD : MD g M Mk Mv Mh nx fk fv fh w) (x : Int32) : fMet l g yX2_drop cX2_drop 3 (some .boolean) 2 30 0 0 [.ref M, .int x] w (fun v w1 => v = some (.int (ob01 (thr nx fh x))) ∧ MD g M Mk Mv Mh nx fk fv (upo fh (thr nx fh x) (fun _ => 0)) w1 ∧ mFr M Mk Mv Mh w w1) := by
  refine fw_of (by decide) (Nat.le_of_ble_eq_true rfl) ?_
  intro p e s m below meth c ls C hnm hP hl
  have hS : va_S (fA g) s.heap s.heap [] := va_S.rf
  have hM := hD.1
  refine lv_aload_n C.1 C.2.1 dX2_drop_0 rfl (lv_at hl 0 rfl) ?_
  refine lv_iload_n C.1 C.2.1 dX2_drop_1 rfl (lv_at hl 1 rfl) ?_
  refine fw_V C 1 (As := [.int x]) (rest := []) (m_there l g M Mk Mv Mh nx fk fv fh w hD x) (lw_V q533 q535 qs11 q15 q536) (by decide +kernel) ⟨Nat.le_of_ble_eq_true rfl, Nat.le_of_ble_eq_true rfl⟩ hP hS hM rfl rfl rfl hl.1 (Nat.le_of_ble_eq_true rfl) dX2_drop_2 ⟨Nat.le_of_ble_eq_true rfl, Nat.le_of_ble_eq_true rfl⟩ ?_
  rintro r w1 H1 locs1 ⟨rfl, e1⟩ hP hS
  rw [e1] at hP
  clear e1 w1
  cases h0 : thr nx fh x with
  | none =>
    refine lv_istore_n (lv' := [(2, .int (ob none)), (0, .ref M), (1, .int x)]) C.1 C.2.1 dX2_drop_5 rfl hl (by decide) rfl (fun ls hl => ?_)
    refine lv_iload_n C.1 C.2.1 dX2_drop_6 rfl (lv_at hl 0 rfl) ?_
    refine lv_if_ge (tgt := 12) C.1 C.2.1 dX2_drop_7 (by decide) (fun c1 => ?_) (fun c1 => ?_)
    · exact absurd c1 (show ¬ 0 ≤ ob none by decide)
    · refine lv_iconst (v := 0) C.1 C.2.1 dX2_drop_10 (by decide) ?_
      exact fw_zret C narrow_b0 ⟨rfl, hD, mFr.rf⟩ hP hS ⟨Nat.le_of_ble_eq_true rfl, Nat.le_of_ble_eq_true rfl⟩ dX2_drop_11
  | some b =>
    have b1 := (thr_lt h0).1
    have hn64 := hD.2.2.2.2.2.2
    have hset := hD.setH (upd fh b 0)
    refine lv_istore_n (lv' := [(2, .int (nI b)), (0, .ref M), (1, .int x)]) C.1 C.2.1 dX2_drop_5 rfl hl (by decide) rfl (fun ls hl => ?_)
    refine lv_iload_n C.1 C.2.1 dX2_drop_6 rfl (lv_at hl 0 rfl) ?_
    refine lv_if_ge (tgt := 12) C.1 C.2.1 dX2_drop_7 (by decide) (fun c1 => ?_) (fun c1 => ?_)
    · refine lv_aload_n C.1 C.2.1 dX2_drop_12 rfl (lv_at hl 1 rfl) ?_
      refine fw_get C in_X2 hP hM rfl 2 (by decide) q497 rfl rfl dX2_drop_13 ?_
      refine lv_iload_n C.1 C.2.1 dX2_drop_16 rfl (lv_at hl 0 rfl) ?_
      refine lv_iconst (v := 0) C.1 C.2.1 dX2_drop_17 (by decide) ?_
      refine fw_ist C hP hS hD.2.2.2.2.2.1.2.2.2 hD.2.2.2.1 (by omega) dX2_drop_18 (fun H locs hP hS => ?_)
      refine lv_iconst (v := 1) C.1 C.2.1 dX2_drop_19 (by decide) ?_
      exact fw_zret C narrow_b1 ⟨rfl, hset.1, hset.2⟩ hP hS ⟨Nat.le_of_ble_eq_true rfl, Nat.le_of_ble_eq_true rfl⟩ dX2_drop_20
    · exact absurd (nI_pos' (by omega)) c1
set_option maxHeartbeats 4000000 in
theorem m_mchange (hD : MD g M Mk Mv Mh nx fk fv fh w) (x val : Int32) : fMet l g yX2_change cX2_change 4 (some .boolean) 2 30 0 0 [.ref M, .int x, .int val] w (fun v w1 => v = some (.int (ob01 (thr nx fh x))) ∧ MD g M Mk Mv Mh nx fk (upo fv (thr nx fh x) (fun _ => val)) fh w1 ∧ mFr M Mk Mv Mh w w1) := by
  refine fw_of (by decide) (Nat.le_of_ble_eq_true rfl) ?_
  intro p e s m below meth c ls C hnm hP hl
  have hS : va_S (fA g) s.heap s.heap [] := va_S.rf
  have hM := hD.1
  refine lv_aload_n C.1 C.2.1 dX2_change_0 rfl (lv_at hl 0 rfl) ?_
  refine lv_iload_n C.1 C.2.1 dX2_change_1 rfl (lv_at hl 1 rfl) ?_
  refine fw_V C 1 (As := [.int x]) (rest := []) (m_there l g M Mk Mv Mh nx fk fv fh w hD x) (lw_V q533 q535 qs11 q15 q536) (by decide +kernel) ⟨Nat.le_of_ble_eq_true rfl, Nat.le_of_ble_eq_true rfl⟩ hP hS hM rfl rfl rfl hl.1 (Nat.le_of_ble_eq_true rfl) dX2_change_2 ⟨Nat.le_of_ble_eq_true rfl, Nat.le_of_ble_eq_true rfl⟩ ?_
  rintro r w1 H1 locs1 ⟨rfl, e1⟩ hP hS
  rw [e1] at hP
  clear e1 w1
  cases h0 : thr nx fh x with
  | none =>
    refine lv_istore_n (lv' := [(3, .int (ob none)), (0, .ref M), (1, .int x), (2, .int val)]) C.1 C.2.1 dX2_change_5 rfl hl (by decide) rfl (fun ls hl => ?_)
    refine lv_iload_n C.1 C.2.1 dX2_change_6 rfl (lv_at hl 0 rfl) ?_
    refine lv_if_ge (tgt := 12) C.1 C.2.1 dX2_change_7 (by decide) (fun c1 => ?_) (fun c1 => ?_)
    · exact absurd c1 (show ¬ 0 ≤ ob none by decide)
    · refine lv_iconst (v := 0) C.1 C.2.1 dX2_change_10 (by decide) ?_
      exact fw_zret C narrow_b0 ⟨rfl, hD, mFr.rf⟩ hP hS ⟨Nat.le_of_ble_eq_true rfl, Nat.le_of_ble_eq_true rfl⟩ dX2_change_11
  | some b =>
    have b1 := (thr_lt h0).1
    have hn64 := hD.2.2.2.2.2.2
    have hset := hD.setV (upd fv b val)
    refine lv_istore_n (lv' := [(3, .int (nI b)), (0, .ref M), (1, .int x), (2, .int val)]) C.1 C.2.1 dX2_change_5 rfl hl (by decide) rfl (fun ls hl => ?_)
    refine lv_iload_n C.1 C.2.1 dX2_change_6 rfl (lv_at hl 0 rfl) ?_
    refine lv_if_ge (tgt := 12) C.1 C.2.1 dX2_change_7 (by decide) (fun c1 => ?_) (fun c1 => ?_)
    · refine lv_aload_n C.1 C.2.1 dX2_change_12 rfl (lv_at hl 1 rfl) ?_
      refine fw_get C in_X2 hP hM rfl 1 (by decide) q496 rfl rfl dX2_change_13 ?_
      refine lv_iload_n C.1 C.2.1 dX2_change_16 rfl (lv_at hl 0 rfl) ?_
      refine lv_iload_n C.1 C.2.1 dX2_change_17 rfl (lv_at hl 3 rfl) ?_
      refine fw_ist C hP hS hD.2.2.2.2.2.1.2.2.1 hD.2.2.1 (by omega) dX2_change_18 (fun H locs hP hS => ?_)
      refine lv_iconst (v := 1) C.1 C.2.1 dX2_change_19 (by decide) ?_
      exact fw_zret C narrow_b1 ⟨rfl, hset.1, hset.2⟩ hP hS ⟨Nat.le_of_ble_eq_true rfl, Nat.le_of_ble_eq_true rfl⟩ dX2_change_20
    · exact absurd (nI_pos' (by omega)) c1
set_option maxHeartbeats 4000000 in
theorem m_mlower (hD : MD g M Mk Mv Mh nx fk fv fh w) (x key : Int32) : fMet l g yX2_lower cX2_lower 5 (some .boolean) 2 30 0 0 [.ref M, .int x, .int key] w (fun v w1 => v = some (.int (ob01 (lwS nx fk fh x key))) ∧ MD g M Mk Mv Mh nx (upo fk (lwS nx fk fh x key) (lkey key)) fv fh w1 ∧ mFr M Mk Mv Mh w w1) := by
  refine fw_of (by decide) (Nat.le_of_ble_eq_true rfl) ?_
  intro p e s m below meth c ls C hnm hP hl
  have hS : va_S (fA g) s.heap s.heap [] := va_S.rf
  have hM := hD.1
  have hlw : lwS nx fk fh x key = (match thr nx fh x with | none => none | some i => if fh i < 3 then (if fk i < lkey key i then none else some i) else (if lkey key i < fk i then none else some i)) := rfl
  refine lv_aload_n C.1 C.2.1 dX2_lower_0 rfl (lv_at hl 0 rfl) ?_
  refine lv_iload_n C.1 C.2.1 dX2_lower_1 rfl (lv_at hl 1 rfl) ?_
  refine fw_V C 1 (As := [.int x]) (rest := []) (m_there l g M Mk Mv Mh nx fk fv fh w hD x) (lw_V q533 q535 qs11 q15 q536) (by decide +kernel) ⟨Nat.le_of_ble_eq_true rfl, Nat.le_of_ble_eq_true rfl⟩ hP hS hM rfl rfl rfl hl.1 (Nat.le_of_ble_eq_true rfl) dX2_lower_2 ⟨Nat.le_of_ble_eq_true rfl, Nat.le_of_ble_eq_true rfl⟩ ?_
  rintro r w1 H1 locs1 ⟨rfl, e1⟩ hP hS
  rw [e1] at hP
  clear e1 w1
  cases h0 : thr nx fh x with
  | none =>
    rw [h0] at hlw
    refine lv_istore_n (lv' := [(3, .int (ob none)), (0, .ref M), (1, .int x), (2, .int key)]) C.1 C.2.1 dX2_lower_5 rfl hl (by decide) rfl (fun ls hl => ?_)
    refine lv_iload_n C.1 C.2.1 dX2_lower_6 rfl (lv_at hl 0 rfl) ?_
    refine lv_if_ge (tgt := 12) C.1 C.2.1 dX2_lower_7 (by decide) (fun c1 => ?_) (fun c1 => ?_)
    · exact absurd c1 (show ¬ 0 ≤ ob none by decide)
    · refine lv_iconst (v := 0) C.1 C.2.1 dX2_lower_10 (by decide) ?_
      rw [hlw]
      exact fw_zret C narrow_b0 ⟨rfl, hD, mFr.rf⟩ hP hS ⟨Nat.le_of_ble_eq_true rfl, Nat.le_of_ble_eq_true rfl⟩ dX2_lower_11
  | some b =>
    rw [h0] at hlw
    dsimp only at hlw
    have b1 := (thr_lt h0).1
    have hn64 := hD.2.2.2.2.2.2
    have hset := hD.setK (upd fk b (lkey key b))
    refine lv_istore_n (lv' := [(3, .int (nI b)), (0, .ref M), (1, .int x), (2, .int key)]) C.1 C.2.1 dX2_lower_5 rfl hl (by decide) rfl (fun ls hl => ?_)
    refine lv_iload_n C.1 C.2.1 dX2_lower_6 rfl (lv_at hl 0 rfl) ?_
    refine lv_if_ge (tgt := 12) C.1 C.2.1 dX2_lower_7 (by decide) (fun c1 => ?_) (fun c1 => ?_)
    · refine lv_bipush (v := 64) C.1 C.2.1 dX2_lower_12 (by decide) ?_
      refine lv_iload_n C.1 C.2.1 dX2_lower_14 rfl (lv_at hl 3 rfl) ?_
      refine lv_ldc C.1 C.2.1 C.2.2.2.2.2.1 (C.2.2.2.2.2.2.1 _ q512) dX2_lower_15 ?_
      refine lv_iand C.1 C.2.1 dX2_lower_17 ?_
      refine lv_imul C.1 C.2.1 dX2_lower_18 ?_
      refine lv_iload_n C.1 C.2.1 dX2_lower_19 rfl (lv_at hl 0 rfl) ?_
      refine lv_iadd C.1 C.2.1 dX2_lower_20 ?_
      refine lv_istore (lv' := [(4, .int (lkey key b)), (3, .int (nI b)), (0, .ref M), (1, .int x), (2, .int key)]) C.1 C.2.1 dX2_lower_21 hl (by decide) rfl (fun ls hl => ?_)
      have j58 : lwS nx fk fh x key = none → W p l e (fRm 2 30 0 0) s m ([.ref M, .int x, .int key] : List Value).toArray below meth c H1 locs1 0 0 (MQ below (fQ g (fun v w1 => v = some (.int (ob01 (lwS nx fk fh x key))) ∧ MD g M Mk Mv Mh nx (upo fk (lwS nx fk fh x key) (lkey key)) fv fh w1 ∧ mFr M Mk Mv Mh w w1)) ([.ref M, .int x, .int key] : List Value).toArray s 0 0 (fA g)) (F0 m 58 ls []) := by
        intro hz
        refine lv_iconst (v := 0) C.1 C.2.1 dX2_lower_58 (by decide) ?_
        rw [hz]
        exact fw_zret C narrow_b0 ⟨rfl, hD, mFr.rf⟩ hP hS ⟨Nat.le_of_ble_eq_true rfl, Nat.le_of_ble_eq_true rfl⟩ dX2_lower_59
      have j60 : lwS nx fk fh x key = some b → W p l e (fRm 2 30 0 0) s m ([.ref M, .int x, .int key] : List Value).toArray below meth c H1 locs1 0 0 (MQ below (fQ g (fun v w1 => v = some (.int (ob01 (lwS nx fk fh x key))) ∧ MD g M Mk Mv Mh nx (upo fk (lwS nx fk fh x key) (lkey key)) fv fh w1 ∧ mFr M Mk Mv Mh w w1)) ([.ref M, .int x, .int key] : List Value).toArray s 0 0 (fA g)) (F0 m 60 ls []) := by
        intro hz
        refine lv_aload_n C.1 C.2.1 dX2_lower_60 rfl (lv_at hl 2 rfl) ?_
        refine fw_get C in_X2 hP hM rfl 0 (by decide) q495 rfl rfl dX2_lower_61 ?_
        refine lv_iload_n C.1 C.2.1 dX2_lower_64 rfl (lv_at hl 1 rfl) ?_
        refine lv_iload C.1 C.2.1 dX2_lower_65 (lv_at hl 0 rfl) ?_
        refine fw_ist C hP hS hD.2.2.2.2.2.1.2.1 hD.2.1 (by omega) dX2_lower_67 (fun H locs hP hS => ?_)
        refine lv_iconst (v := 1) C.1 C.2.1 dX2_lower_68 (by decide) ?_
        rw [hz]
        exact fw_zret C narrow_b1 ⟨rfl, hset.1, hset.2⟩ hP hS ⟨Nat.le_of_ble_eq_true rfl, Nat.le_of_ble_eq_true rfl⟩ dX2_lower_69
      refine lv_aload_n C.1 C.2.1 dX2_lower_23 rfl (lv_at hl 2 rfl) ?_
      refine fw_get C in_X2 hP hM rfl 2 (by decide) q497 rfl rfl dX2_lower_24 ?_
      refine lv_iload_n C.1 C.2.1 dX2_lower_27 rfl (lv_at hl 1 rfl) ?_
      refine fw_ild C hP hD.2.2.2.1 (by omega) dX2_lower_28 ?_
      refine lv_iconst (v := 3) C.1 C.2.1 dX2_lower_29 (by decide) ?_
      refine lv_icmp_ge (tgt := 47) C.1 C.2.1 dX2_lower_30 (by decide) (fun c2 => ?_) (fun c2 => ?_)
      · rw [if_neg (Int32.not_lt.mpr c2)] at hlw
        refine lv_iload C.1 C.2.1 dX2_lower_47 (lv_at hl 0 rfl) ?_
        refine lv_aload_n C.1 C.2.1 dX2_lower_49 rfl (lv_at hl 2 rfl) ?_
        refine fw_get C in_X2 hP hM rfl 0 (by decide) q495 rfl rfl dX2_lower_50 ?_
        refine lv_iload_n C.1 C.2.1 dX2_lower_53 rfl (lv_at hl 1 rfl) ?_
        refine fw_ild C hP hD.2.1 (by omega) dX2_lower_54 ?_
        refine lv_icmp_ge (tgt := 60) C.1 C.2.1 dX2_lower_55 (by decide) (fun c3 => ?_) (fun c3 => ?_)
        · rw [if_neg (Int32.not_lt.mpr c3)] at hlw
          exact j60 hlw
        · rw [if_pos (Int32.not_le.mp c3)] at hlw
          exact j58 hlw
      · rw [if_pos (Int32.not_le.mp c2)] at hlw
        refine lv_iload C.1 C.2.1 dX2_lower_33 (lv_at hl 0 rfl) ?_
        refine lv_aload_n C.1 C.2.1 dX2_lower_35 rfl (lv_at hl 2 rfl) ?_
        refine fw_get C in_X2 hP hM rfl 0 (by decide) q495 rfl rfl dX2_lower_36 ?_
        refine lv_iload_n C.1 C.2.1 dX2_lower_39 rfl (lv_at hl 1 rfl) ?_
        refine fw_ild C hP hD.2.1 (by omega) dX2_lower_40 ?_
        refine lv_icmp_le (tgt := 60) C.1 C.2.1 dX2_lower_41 (by decide) (fun c3 => ?_) (fun c3 => ?_)
        · rw [if_neg (Int32.not_lt.mpr c3)] at hlw
          exact j60 hlw
        · rw [if_pos (Int32.not_le.mp c3)] at hlw
          refine lv_goto (tgt := 58) C.1 C.2.1 dX2_lower_44 (by decide) ?_
          exact j58 hlw
    · exact absurd (nI_pos' (by omega)) c1
set_option maxHeartbeats 4000000 in
theorem m_msize (hD : MD g M Mk Mv Mh nx fk fv fh w) (x : Int32) (r : Nat) (hx : x &&& 3 = nI r) : fMet l g yX2_size cX2_size 4 (some .int) 1 0 0 0 [.ref M, .int x] w (fun v w1 => v = some (.int (nI (cnt fh r nx))) ∧ w1 = w) := by
  refine fw_of (by decide) (Nat.le_of_ble_eq_true rfl) ?_
  intro p e s m below meth c ls C hnm hP hl
  have hS : va_S (fA g) s.heap s.heap [] := va_S.rf
  obtain ⟨hM, hk, hv, hh, -, -, hn64⟩ := hD
  have hx1 : 1 + (x &&& 3) = nI (1 + r) := by rw [hx]; exact nI_add 1 r
  have loop : ∀ (f i : Nat) (ls : Array Slot), nx - i = f → i ≤ nx → lv_has ls 4 [(3, .int (nI i)), (2, .int (nI (cnt fh r i))), (0, .ref M), (1, .int x)] →
      W p l e (fRm 1 0 0 0) s m ([.ref M, .int x] : List Value).toArray below meth c s.heap [] 0 0 (MQ below (fQ g (fun v w1 => v = some (.int (nI (cnt fh r nx))) ∧ w1 = w)) ([.ref M, .int x] : List Value).toArray s 0 0 (fA g)) (F0 m 4 ls []) := by
    intro f
    induction f with
    | zero =>
      intro i ls hf hi hl
      have hin : i = nx := by omega
      rw [hin] at hl
      refine lv_iload_n C.1 C.2.1 dX2_size_4 rfl (lv_at hl 0 rfl) ?_
      refine lv_aload_n C.1 C.2.1 dX2_size_5 rfl (lv_at hl 2 rfl) ?_
      refine fw_get C in_X2 hP hM rfl 3 (by decide) q498 rfl rfl dX2_size_6 ?_
      refine lv_icmp_ge (tgt := 40) C.1 C.2.1 dX2_size_9 (by decide) (fun c1 => ?_) (fun c1 => ?_)
      · refine lv_iload_n C.1 C.2.1 dX2_size_40 rfl (lv_at hl 1 rfl) ?_
        exact fw_iret C ⟨rfl, rfl⟩ hP hS ⟨Nat.le_of_ble_eq_true rfl, Nat.le_of_ble_eq_true rfl⟩ dX2_size_41
      · exact absurd (nI_le (Nat.le_refl nx) (by omega)) c1
    | succ f ih =>
      intro i ls hf hi hl
      have hilt : i < nx := by omega
      have hcs : cnt fh r (i + 1) = cnt fh r i + (if fh i = nI (1 + r) then 1 else 0) := rfl
      have j32 : ∀ (z : Nat), cnt fh r (i + 1) = cnt fh r i + z → W p l e (fRm 1 0 0 0) s m ([.ref M, .int x] : List Value).toArray below meth c s.heap [] 0 0 (MQ below (fQ g (fun v w1 => v = some (.int (nI (cnt fh r nx))) ∧ w1 = w)) ([.ref M, .int x] : List Value).toArray s 0 0 (fA g)) (F0 m 32 ls [.int (nI z), .int (nI (cnt fh r i))]) := by
        intro z hz
        refine lv_iadd C.1 C.2.1 dX2_size_32 ?_
        rw [nI_add, ← hz]
        refine lv_istore_n (lv' := [(2, .int (nI (cnt fh r (i + 1)))), (3, .int (nI i)), (0, .ref M), (1, .int x)]) C.1 C.2.1 dX2_size_33 rfl hl (by decide) rfl (fun ls hl => ?_)
        refine lv_iinc (k := 1) (lv' := [(3, .int (nI (i + 1))), (2, .int (nI (cnt fh r (i + 1)))), (0, .ref M), (1, .int x)]) C.1 C.2.1 dX2_size_34 hl rfl (nI_succ i).symm (by decide) rfl (fun ls hl => ?_)
        refine lv_goto (tgt := 4) C.1 C.2.1 dX2_size_37 (by decide) ?_
        exact ih (i + 1) ls (by omega) (by omega) hl
      refine lv_iload_n C.1 C.2.1 dX2_size_4 rfl (lv_at hl 0 rfl) ?_
      refine lv_aload_n C.1 C.2.1 dX2_size_5 rfl (lv_at hl 2 rfl) ?_
      refine fw_get C in_X2 hP hM rfl 3 (by decide) q498 rfl rfl dX2_size_6 ?_
      refine lv_icmp_ge (tgt := 40) C.1 C.2.1 dX2_size_9 (by decide) (fun c1 => ?_) (fun c1 => ?_)
      · exact absurd c1 (nI_ge hilt (by omega))
      · refine lv_iload_n C.1 C.2.1 dX2_size_12 rfl (lv_at hl 1 rfl) ?_
        refine lv_aload_n C.1 C.2.1 dX2_size_13 rfl (lv_at hl 2 rfl) ?_
        refine fw_get C in_X2 hP hM rfl 2 (by decide) q497 rfl rfl dX2_size_14 ?_
        refine lv_iload_n C.1 C.2.1 dX2_size_17 rfl (lv_at hl 0 rfl) ?_
        refine fw_ild C hP hh (by omega) dX2_size_18 ?_
        refine lv_iconst (v := 1) C.1 C.2.1 dX2_size_19 (by decide) ?_
        refine lv_iload_n C.1 C.2.1 dX2_size_20 rfl (lv_at hl 3 rfl) ?_
        refine lv_iconst (v := 3) C.1 C.2.1 dX2_size_21 (by decide) ?_
        refine lv_iand C.1 C.2.1 dX2_size_22 ?_
        refine lv_iadd C.1 C.2.1 dX2_size_23 ?_
        rw [hx1]
        refine lv_icmp_ne (tgt := 31) C.1 C.2.1 dX2_size_24 (by decide) (fun c2 => ?_) (fun c2 => ?_)
        · rw [if_neg c2] at hcs
          refine lv_iconst (v := 0) C.1 C.2.1 dX2_size_31 (by decide) ?_
          exact j32 0 hcs
        · rw [if_pos c2] at hcs
          refine lv_iconst (v := 1) C.1 C.2.1 dX2_size_27 (by decide) ?_
          refine lv_goto (tgt := 32) C.1 C.2.1 dX2_size_28 (by decide) ?_
          exact j32 1 hcs
  refine lv_iconst (v := 0) C.1 C.2.1 dX2_size_0 (by decide) ?_
  refine lv_istore_n (lv' := [(2, .int 0), (0, .ref M), (1, .int x)]) C.1 C.2.1 dX2_size_1 rfl hl (by decide) rfl (fun ls hl => ?_)
  refine lv_iconst (v := 0) C.1 C.2.1 dX2_size_2 (by decide) ?_
  refine lv_istore_n (lv' := [(3, .int 0), (2, .int 0), (0, .ref M), (1, .int x)]) C.1 C.2.1 dX2_size_3 rfl hl (by decide) rfl (fun ls hl => ?_)
  exact loop (nx - 0) 0 ls rfl (Nat.zero_le _) hl
theorem clr_s {nx i r : Nat} {fh : Nat → Int32} : clr (i + 1) fh r = (if fh i = nI (1 + r) then upd (clr i fh r) i 0 else clr i fh r) := by
  funext j
  by_cases hj : j = i
  · rw [hj]
    by_cases hi : fh i = nI (1 + r)
    · rw [if_pos hi, upd_s]
      exact if_pos ⟨by omega, hi⟩
    · rw [if_neg hi]
      unfold clr
      rw [if_neg (fun z => hi z.2), if_neg (fun z => hi z.2)]
  · have e : clr (i + 1) fh r j = clr i fh r j := by
      unfold clr
      by_cases h : fh j = nI (1 + r)
      · by_cases h2 : j < i
        · rw [if_pos ⟨by omega, h⟩, if_pos ⟨h2, h⟩]
        · rw [if_neg (fun z => by omega), if_neg (fun z => by omega)]
      · rw [if_neg (fun z => h z.2), if_neg (fun z => h z.2)]
    rw [e]
    split
    · rw [upd_n hj]
    · rfl
theorem clr_i {i r : Nat} {fh : Nat → Int32} : clr i fh r i = fh i := by
  unfold clr
  exact if_neg (fun z => absurd z.1 (by omega))
theorem clr_0 {r : Nat} {fh : Nat → Int32} : clr 0 fh r = fh := by
  funext j
  exact if_neg (fun z => absurd z.1 (by omega))
set_option maxHeartbeats 4000000 in
theorem m_mclear (hD : MD g M Mk Mv Mh nx fk fv fh w) (x : Int32) (r : Nat) (hx : x &&& 3 = nI r) : fMet l g yX2_clear cX2_clear 3 none 1 0 0 0 [.ref M, .int x] w (fun v w1 => v = none ∧ MD g M Mk Mv Mh nx fk fv (clr nx fh r) w1 ∧ mFr M Mk Mv Mh w w1) := by
  refine fw_of (by decide) (Nat.le_of_ble_eq_true rfl) ?_
  intro p e s m below meth c ls C hnm hP hl
  have hS : va_S (fA g) s.heap s.heap [] := va_S.rf
  have hn64 := hD.2.2.2.2.2.2
  have hx1 : 1 + (x &&& 3) = nI (1 + r) := by rw [hx]; exact nI_add 1 r
  have loop : ∀ (f i : Nat) (w1 : fW) (H : Heap) (locs : List Loc) (ls : Array Slot), nx - i = f → i ≤ nx → MD g M Mk Mv Mh nx fk fv (clr i fh r) w1 → mFr M Mk Mv Mh w w1 → HP g w1 H → va_S (fA g) s.heap H locs → lv_has ls 3 [(2, .int (nI i)), (0, .ref M), (1, .int x)] →
      W p l e (fRm 1 0 0 0) s m ([.ref M, .int x] : List Value).toArray below meth c H locs 0 0 (MQ below (fQ g (fun v w1 => v = none ∧ MD g M Mk Mv Mh nx fk fv (clr nx fh r) w1 ∧ mFr M Mk Mv Mh w w1)) ([.ref M, .int x] : List Value).toArray s 0 0 (fA g)) (F0 m 2 ls []) := by
    intro f
    induction f with
    | zero =>
      intro i w1 H locs ls hf hi hD1 hF hP hS hl
      have hin : i = nx := by omega
      rw [hin] at hl hD1
      refine lv_iload_n C.1 C.2.1 dX2_clear_2 rfl (lv_at hl 0 rfl) ?_
      refine lv_aload_n C.1 C.2.1 dX2_clear_3 rfl (lv_at hl 1 rfl) ?_
      refine fw_get C in_X2 hP hD1.1 rfl 3 (by decide) q498 rfl rfl dX2_clear_4 ?_
      refine lv_icmp_ge (tgt := 37) C.1 C.2.1 dX2_clear_7 (by decide) (fun c1 => ?_) (fun c1 => ?_)
      · exact fw_vret C ⟨rfl, hD1, hF⟩ hP hS ⟨Nat.le_of_ble_eq_true rfl, Nat.le_of_ble_eq_true rfl⟩ dX2_clear_37
      · exact absurd (nI_le (Nat.le_refl nx) (by omega)) c1
    | succ f ih =>
      intro i w1 H locs ls hf hi hD1 hF hP hS hl
      have hilt : i < nx := by omega
      have hcs := clr_s (nx := nx) (i := i) (r := r) (fh := fh)
      refine lv_iload_n C.1 C.2.1 dX2_clear_2 rfl (lv_at hl 0 rfl) ?_
      refine lv_aload_n C.1 C.2.1 dX2_clear_3 rfl (lv_at hl 1 rfl) ?_
      refine fw_get C in_X2 hP hD1.1 rfl 3 (by decide) q498 rfl rfl dX2_clear_4 ?_
      refine lv_icmp_ge (tgt := 37) C.1 C.2.1 dX2_clear_7 (by decide) (fun c1 => ?_) (fun c1 => ?_)
      · exact absurd c1 (nI_ge hilt (by omega))
      · refine lv_aload_n C.1 C.2.1 dX2_clear_10 rfl (lv_at hl 1 rfl) ?_
        refine fw_get C in_X2 hP hD1.1 rfl 2 (by decide) q497 rfl rfl dX2_clear_11 ?_
        refine lv_iload_n C.1 C.2.1 dX2_clear_14 rfl (lv_at hl 0 rfl) ?_
        refine fw_ild C hP hD1.2.2.2.1 (by omega) dX2_clear_15 ?_
        rw [clr_i]
        refine lv_iconst (v := 1) C.1 C.2.1 dX2_clear_16 (by decide) ?_
        refine lv_iload_n C.1 C.2.1 dX2_clear_17 rfl (lv_at hl 2 rfl) ?_
        refine lv_iconst (v := 3) C.1 C.2.1 dX2_clear_18 (by decide) ?_
        refine lv_iand C.1 C.2.1 dX2_clear_19 ?_
        refine lv_iadd C.1 C.2.1 dX2_clear_20 ?_
        rw [hx1]
        refine lv_icmp_ne (tgt := 31) C.1 C.2.1 dX2_clear_21 (by decide) (fun c2 => ?_) (fun c2 => ?_)
        · rw [if_neg c2] at hcs
          refine lv_iinc (k := 0) (lv' := [(2, .int (nI (i + 1))), (0, .ref M), (1, .int x)]) C.1 C.2.1 dX2_clear_31 hl rfl (nI_succ i).symm (by decide) rfl (fun ls hl => ?_)
          refine lv_goto (tgt := 2) C.1 C.2.1 dX2_clear_34 (by decide) ?_
          rw [← hcs] at hD1
          exact ih (i + 1) w1 H locs ls (by omega) (by omega) hD1 hF hP hS hl
        · rw [if_pos c2] at hcs
          have hset := hD1.setH (upd (clr i fh r) i 0)
          refine lv_aload_n C.1 C.2.1 dX2_clear_24 rfl (lv_at hl 1 rfl) ?_
          refine fw_get C in_X2 hP hD1.1 rfl 2 (by decide) q497 rfl rfl dX2_clear_25 ?_
          refine lv_iload_n C.1 C.2.1 dX2_clear_28 rfl (lv_at hl 0 rfl) ?_
          refine lv_iconst (v := 0) C.1 C.2.1 dX2_clear_29 (by decide) ?_
          refine fw_ist C hP hS hD1.2.2.2.2.2.1.2.2.2 hD1.2.2.2.1 (by omega) dX2_clear_30 (fun H locs hP hS => ?_)
          refine lv_iinc (k := 0) (lv' := [(2, .int (nI (i + 1))), (0, .ref M), (1, .int x)]) C.1 C.2.1 dX2_clear_31 hl rfl (nI_succ i).symm (by decide) rfl (fun ls hl => ?_)
          refine lv_goto (tgt := 2) C.1 C.2.1 dX2_clear_34 (by decide) ?_
          rw [← hcs] at hset hP
          exact ih (i + 1) _ H locs ls (by omega) (by omega) hset.1 (hF.tr hset.2) hP hS hl
  refine lv_iconst (v := 0) C.1 C.2.1 dX2_clear_0 (by decide) ?_
  refine lv_istore_n (lv' := [(2, .int 0), (0, .ref M), (1, .int x)]) C.1 C.2.1 dX2_clear_1 rfl hl (by decide) rfl (fun ls hl => ?_)
  rw [← clr_0 (r := r) (fh := fh)] at hD
  exact loop (nx - 0) 0 w _ _ ls rfl (Nat.zero_le _) hD mFr.rf hP hS hl
set_option maxHeartbeats 4000000 in
theorem m_mput (hD : MD g M Mk Mv Mh nx fk fv fh w) (x key val : Int32) (r : Nat) (hx : x &&& 3 = nI r) : fMet l g yX2_put cX2_put 4 (some .int) 1 0 0 0 [.ref M, .int x, .int key, .int val] w (fun v w1 => (nx = 64 ∧ v = some (.int (-1)) ∧ w1 = w) ∨ (nx < 64 ∧ v = some (.int (nI nx)) ∧ MD g M Mk Mv Mh (nx + 1) (upd fk nx (lkey key nx)) (upd fv nx val) (upd fh nx (nI (1 + r))) w1 ∧ mFr M Mk Mv Mh w w1)) := by
  refine fw_of (by decide) (Nat.le_of_ble_eq_true rfl) ?_
  intro p e s m below meth c ls C hnm hP hl
  have hS : va_S (fA g) s.heap s.heap [] := va_S.rf
  have hn64 := hD.2.2.2.2.2.2
  have hM := hD.1
  have hx1 : 1 + (x &&& 3) = nI (1 + r) := by rw [hx]; exact nI_add 1 r
  refine lv_aload_n C.1 C.2.1 dX2_put_0 rfl (lv_at hl 0 rfl) ?_
  refine fw_get C in_X2 hP hM rfl 3 (by decide) q498 rfl rfl dX2_put_1 ?_
  refine lv_bipush (v := 64) C.1 C.2.1 dX2_put_4 (by decide) ?_
  refine lv_icmp_ne (tgt := 11) C.1 C.2.1 dX2_put_6 (by decide) (fun c1 => ?_) (fun c1 => ?_)
  · have hlt : nx < 64 := by
      rcases Nat.lt_or_ge nx 64 with z | z
      · exact z
      · exact absurd (by rw [show nx = 64 by omega]; rfl) c1
    have s1 := hD.setK (upd fk nx (lkey key nx))
    have s2 := s1.1.setV (upd fv nx val)
    have s3 := s2.1.setH (upd fh nx (nI (1 + r)))
    have s4 := s3.1.setN (nx + 1) (by omega)
    refine lv_aload_n C.1 C.2.1 dX2_put_11 rfl (lv_at hl 0 rfl) ?_
    refine fw_get C in_X2 hP hM rfl 0 (by decide) q495 rfl rfl dX2_put_12 ?_
    refine lv_aload_n C.1 C.2.1 dX2_put_15 rfl (lv_at hl 0 rfl) ?_
    refine fw_get C in_X2 hP hM rfl 3 (by decide) q498 rfl rfl dX2_put_16 ?_
    refine lv_bipush (v := 64) C.1 C.2.1 dX2_put_19 (by decide) ?_
    refine lv_iload_n C.1 C.2.1 dX2_put_21 rfl (lv_at hl 2 rfl) ?_
    refine lv_ldc C.1 C.2.1 C.2.2.2.2.2.1 (C.2.2.2.2.2.2.1 _ q512) dX2_put_22 ?_
    refine lv_iand C.1 C.2.1 dX2_put_24 ?_
    refine lv_imul C.1 C.2.1 dX2_put_25 ?_
    refine lv_aload_n C.1 C.2.1 dX2_put_26 rfl (lv_at hl 0 rfl) ?_
    refine fw_get C in_X2 hP hM rfl 3 (by decide) q498 rfl rfl dX2_put_27 ?_
    refine lv_iadd C.1 C.2.1 dX2_put_30 ?_
    refine fw_ist (x := lkey key nx) C hP hS hD.2.2.2.2.2.1.2.1 hD.2.1 hlt dX2_put_31 (fun H locs hP hS => ?_)
    refine lv_aload_n C.1 C.2.1 dX2_put_32 rfl (lv_at hl 0 rfl) ?_
    refine fw_get C in_X2 hP s1.1.1 rfl 1 (by decide) q496 rfl rfl dX2_put_33 ?_
    refine lv_aload_n C.1 C.2.1 dX2_put_36 rfl (lv_at hl 0 rfl) ?_
    refine fw_get C in_X2 hP s1.1.1 rfl 3 (by decide) q498 rfl rfl dX2_put_37 ?_
    refine lv_iload_n C.1 C.2.1 dX2_put_40 rfl (lv_at hl 3 rfl) ?_
    refine fw_ist C hP hS hD.2.2.2.2.2.1.2.2.1 s1.1.2.2.1 hlt dX2_put_41 (fun H locs hP hS => ?_)
    refine lv_aload_n C.1 C.2.1 dX2_put_42 rfl (lv_at hl 0 rfl) ?_
    refine fw_get C in_X2 hP s2.1.1 rfl 2 (by decide) q497 rfl rfl dX2_put_43 ?_
    refine lv_aload_n C.1 C.2.1 dX2_put_46 rfl (lv_at hl 0 rfl) ?_
    refine fw_get C in_X2 hP s2.1.1 rfl 3 (by decide) q498 rfl rfl dX2_put_47 ?_
    refine lv_iconst (v := 1) C.1 C.2.1 dX2_put_50 (by decide) ?_
    refine lv_iload_n C.1 C.2.1 dX2_put_51 rfl (lv_at hl 1 rfl) ?_
    refine lv_iconst (v := 3) C.1 C.2.1 dX2_put_52 (by decide) ?_
    refine lv_iand C.1 C.2.1 dX2_put_53 ?_
    refine lv_iadd C.1 C.2.1 dX2_put_54 ?_
    rw [hx1]
    refine fw_ist C hP hS hD.2.2.2.2.2.1.2.2.2 s2.1.2.2.2.1 hlt dX2_put_55 (fun H locs hP hS => ?_)
    refine lv_aload_n C.1 C.2.1 dX2_put_56 rfl (lv_at hl 0 rfl) ?_
    refine lv_aload_n C.1 C.2.1 dX2_put_57 rfl (lv_at hl 0 rfl) ?_
    refine fw_get C in_X2 hP s3.1.1 rfl 3 (by decide) q498 rfl rfl dX2_put_58 ?_
    refine lv_iconst (v := 1) C.1 C.2.1 dX2_put_61 (by decide) ?_
    refine lv_iadd C.1 C.2.1 dX2_put_62 ?_
    rw [nI_1]
    refine fw_put C in_X2 tyX2 tyX2_ok nmX2 hP hS hD.2.2.2.2.2.1.1 s3.1.1 rfl 3 (by decide) q498 rfl rfl rfl rfl (Nat.le_of_ble_eq_true rfl) dX2_put_63 (fun H locs hP hS => ?_)
    refine lv_aload_n C.1 C.2.1 dX2_put_66 rfl (lv_at hl 0 rfl) ?_
    refine fw_get C in_X2 hP s4.1.1 rfl 3 (by decide) q498 rfl rfl dX2_put_67 ?_
    refine lv_iconst (v := 1) C.1 C.2.1 dX2_put_70 (by decide) ?_
    refine lv_isub C.1 C.2.1 dX2_put_71 ?_
    rw [nI_pred]
    exact fw_iret C (Or.inr ⟨hlt, rfl, s4.1, ((s1.2.tr s2.2).tr s3.2).tr s4.2⟩) hP hS ⟨Nat.le_of_ble_eq_true rfl, Nat.le_of_ble_eq_true rfl⟩ dX2_put_72
  · have h64 : nx = 64 := (nI_eq (a := nx) (b := 64) (by omega) (by decide)).mp c1
    refine lv_iconst (v := (-1)) C.1 C.2.1 dX2_put_9 (by decide) ?_
    exact fw_iret C (Or.inl ⟨h64, rfl, rfl⟩) hP hS ⟨Nat.le_of_ble_eq_true rfl, Nat.le_of_ble_eq_true rfl⟩ dX2_put_10
end MODEL2
end
section
/-! the desk's nodes and heaps against the plain state -/
set_option maxRecDepth 100000
abbrev ndE (kf vf : Nat → Nat) (oc ys : Nat → Option Nat) (ow : Nat → Nat) (a : Nat) : va_E := .inr (3, [.ref (kf a), .ref (vf a), va_rf (oc a), va_rf (ys a), .ref (ow a)])
def HR (g : fG) (hp nd : Nat → Nat) (nx : Nat) (fh : Nat → Int32) (ns : List Nat) (oc ys : Nat → Option Nat) (kv : Nat → Int32) (at_ : Nat → Nat) (r : Nat) (w : fW) : Prop :=
  w (hp r) = some (hpc (fcm g (dnr r)) (lN (cnt fh r nx)) (fRt (cnt fh r nx) at_)) ∧ fInj ns (cnt fh r nx) at_ ∧ fRep (cnt fh r nx) at_ oc ys ∧ hOrd (cnt fh r nx) at_ (fun a => frk (dnr r) (kv a)) ∧ (∀ a, fHas (cnt fh r nx) at_ a ↔ ∃ i, i < nx ∧ nd i = a ∧ fh i = nI (1 + r))
def HC (g : fG) (hp : Nat → Nat) (nx : Nat) (nd : Nat → Nat) (fk fv fh : Nat → Int32) (ns : List Nat) (kf vf : Nat → Nat) (oc ys : Nat → Option Nat) (ow : Nat → Nat) (kv : Nat → Int32) (w : fW) : Prop :=
  (∀ a, a ∈ ns ↔ ∃ i, i < nx ∧ nd i = a) ∧ (∀ i j, i < nx → j < nx → nd i = nd j → i = j) ∧ (∀ a ∈ ns, g.2.1 ≤ a ∧ w a = some (ndE kf vf oc ys ow a)) ∧ (∀ i, i < nx → kv (nd i) = fk i ∧ w (kf (nd i)) = some (fInt (fk i)) ∧ w (vf (nd i)) = some (fInt (fv i))) ∧ (∀ r, r < 4 → ∃ at_, HR g hp nd nx fh ns oc ys kv at_ r w) ∧ (∀ r, r < 4 → g.2.1 ≤ hp r) ∧ (∀ r r', r < 4 → r' < 4 → hp r = hp r' → r = r') ∧ (∀ i r, i < nx → r < 4 → fh i = nI (1 + r) → ow (nd i) = hp r)
section HCS
variable {g : fG} {hp : Nat → Nat} {nx : Nat} {nd : Nat → Nat} {fk fv fh : Nat → Int32} {ns : List Nat} {kf vf : Nat → Nat} {oc ys : Nat → Option Nat} {ow : Nat → Nat} {kv : Nat → Int32} {w w1 : fW}
theorem HC.mk (h : HC g hp nx nd fk fv fh ns kf vf oc ys ow kv w) : mkw ns kf vf oc ys ow w = w := (mkw_self (fun a ha => (h.2.2.1 a ha).2)).symm
theorem HC.mem (h : HC g hp nx nd fk fv fh ns kf vf oc ys ow kv w) {i : Nat} (hi : i < nx) : nd i ∈ ns := (h.1 _).mpr ⟨i, hi, rfl⟩
theorem HC.out (h : HC g hp nx nd fk fv fh ns kf vf oc ys ow kv w) {z : Nat} {e : va_E} (hz : w z = some e) (he : ∀ fs, e ≠ .inr (3, fs)) : z ∉ ns := fun hn => by
  rw [(h.2.2.1 z hn).2] at hz
  cases hz
  exact he _ rfl
theorem HC.hpn (h : HC g hp nx nd fk fv fh ns kf vf oc ys ow kv w) {r : Nat} (hr : r < 4) : hp r ∉ ns := by
  obtain ⟨at_, hR⟩ := h.2.2.2.2.1 r hr
  exact h.out hR.1 (fun fs e => by cases e)
theorem HC.neh (h : HC g hp nx nd fk fv fh ns kf vf oc ys ow kv w) {z r : Nat} {e : va_E} (hr : r < 4) (hz : w z = some e) (he : ∀ fs, e ≠ .inr (1, fs)) : z ≠ hp r := fun hn => by
  obtain ⟨at_, hR⟩ := h.2.2.2.2.1 r hr
  rw [hn, hR.1] at hz
  cases hz
  exact he _ rfl
theorem HC.kvs (h : HC g hp nx nd fk fv fh ns kf vf oc ys ow kv w) : fKv ns kf w kv := by
  intro a ha
  obtain ⟨i, hi, rfl⟩ := (h.1 a).mp ha
  obtain ⟨h1, h2, -⟩ := h.2.2.2.1 i hi
  exact ⟨h.out h2 (fun fs e => by cases e), by rw [h2, h1]⟩
theorem HC.box (h : HC g hp nx nd fk fv fh ns kf vf oc ys ow kv w) {z : Nat} {x : Int32} (hz : w z = some (fInt x)) : z ∉ ns := h.out hz (fun fs e => by cases e)
theorem HC.bne (h : HC g hp nx nd fk fv fh ns kf vf oc ys ow kv w) {z r : Nat} {x : Int32} (hr : r < 4) (hz : w z = some (fInt x)) : z ≠ hp r := h.neh hr hz (fun fs e => by cases e)
/-- the world grows, or changes elsewhere -/
theorem HC.mono (h : HC g hp nx nd fk fv fh ns kf vf oc ys ow kv w) (hm : ∀ (z ci : Nat) (fs : List Value), (ci = 1 ∨ ci = 3 ∨ ci = 4) → w z = some (.inr (ci, fs)) → w1 z = some (.inr (ci, fs))) : HC g hp nx nd fk fv fh ns kf vf oc ys ow kv w1 := by
  obtain ⟨h1, h2, h3, h4, h5, h6⟩ := h
  refine ⟨h1, h2, fun a ha => ⟨(h3 a ha).1, hm _ _ _ (by omega) (h3 a ha).2⟩, fun i hi => ⟨(h4 i hi).1, hm _ _ _ (by omega) (h4 i hi).2.1, hm _ _ _ (by omega) (h4 i hi).2.2⟩, fun r hr => ?_, h6⟩
  obtain ⟨at_, hR⟩ := h5 r hr
  exact ⟨at_, hm _ _ _ (by omega) hR.1, hR.2⟩
theorem nI_inj {a b : Nat} (ha : a < 100) (hb : b < 100) (h : nI a = nI b) : a = b := (nI_eq (by omega) (by omega)).mp h
/-- two heaps have no node in common -/
theorem HC.two (h : HC g hp nx nd fk fv fh ns kf vf oc ys ow kv w) {r r' a : Nat} (hr : r < 4) (hr' : r' < 4) (h1 : ∃ i, i < nx ∧ nd i = a ∧ fh i = nI (1 + r)) (h2 : ∃ i, i < nx ∧ nd i = a ∧ fh i = nI (1 + r')) : r = r' := by
  obtain ⟨i, i1, i2, i3⟩ := h1
  obtain ⟨j, j1, j2, j3⟩ := h2
  have hij := h.2.1 i j i1 j1 (i2.trans j2.symm)
  rw [hij, j3] at i3
  have := nI_inj (by omega) (by omega) i3
  omega
theorem fRep.cg {k : Nat} {at_ : Nat → Nat} {oc1 ys1 : Nat → Option Nat} (hR : fRep k at_ oc ys) (h : ∀ a, fHas k at_ a → oc1 a = oc a ∧ ys1 a = ys a) : fRep k at_ oc1 ys1 := by
  intro x h1 h2
  rw [(h _ ⟨x, h1, h2, rfl⟩).1, (h _ ⟨x, h1, h2, rfl⟩).2]
  exact hR x h1 h2
theorem hOrd.cg {k : Nat} {at_ : Nat → Nat} {r r' : Nat → Int} (hO : hOrd k at_ r) (h : ∀ a, fHas k at_ a → r' a = r a) : hOrd k at_ r' := by
  intro x h1 h2
  rw [h _ ⟨x, by omega, h2, rfl⟩, h _ ⟨x / 2, by omega, by omega, rfl⟩]
  exact hO x h1 h2
/-- insert -/
theorem HC.ins (h : HC g hp nx nd fk fv fh ns kf vf oc ys ow kv w) {r kb vb : Nat} {v val : Int32} {at_ : Nat → Nat} {rv : Option Value} (hr : r < 4) (hR : HR g hp nd nx fh ns oc ys kv at_ r w) (hkb : w kb = some (fInt v)) (hvb : w vb = some (fInt val)) (hq : inQ g ns kf vf oc ys ow w (hp r) (dnr r) kv (cnt fh r nx) at_ kb vb v rv w1) :
    ∃ (q : Nat) (oc1 ys1 : Nat → Option Nat), rv = some (.ref q) ∧ (∀ (z : Nat) (e : va_E), w z = some e → z ∉ ns → z ≠ hp r → w1 z = some e) ∧ HC g hp (nx + 1) (va_up nd nx q) (upd fk nx v) (upd fv nx val) (upd fh nx (nI (1 + r))) (q :: ns) (va_up kf q kb) (va_up vf q vb) oc1 ys1 (va_up ow q (hp r)) (va_up kv q v) w1 := by
  obtain ⟨q, at1, oc1, ys1, w2, hrv, hq0, hqA, hw1, hw2, hEx, hI1, hR1, hO1, hhas1, hout⟩ := hq
  rw [h.mk] at hq0
  have hqn : q ∉ ns := fun hn => by rw [(h.2.2.1 q hn).2] at hq0; cases hq0
  have keep : ∀ (z : Nat) (e : va_E), w z = some e → z ∉ ns → z ≠ hp r → w1 z = some e := by
    intro z e hz hzn hzr
    have hzq : z ∉ q :: ns := fun hm => by
      rcases List.mem_cons.mp hm with y | y
      · rw [y, hq0] at hz; cases hz
      · exact hzn y
    rw [hw1, mkw_o hzq]
    exact hEx z e hzq hzr hz
  have keepb : ∀ (z : Nat) (x : Int32), w z = some (fInt x) → w1 z = some (fInt x) := fun z x hz => keep z _ hz (h.box hz) (h.bne hr hz)
  have hnew : va_up nd nx q nx = q := va_up_s
  have hold : ∀ i, i < nx → va_up nd nx q i = nd i := fun i hi => va_up_n (by omega)
  have hndq : ∀ i, i < nx → nd i ≠ q := fun i hi e => hqn (by rw [← e]; exact h.mem hi)
  have hfn : upd fh nx (nI (1 + r)) nx = nI (1 + r) := upd_s
  have hfo : ∀ i, i < nx → upd fh nx (nI (1 + r)) i = fh i := fun i hi => upd_n (by omega)
  have hhpq : ∀ r', r' < 4 → hp r' ∉ q :: ns := fun r' hr' hm => by
    rcases List.mem_cons.mp hm with y | y
    · obtain ⟨at2, hR2⟩ := h.2.2.2.2.1 r' hr'
      have := hR2.1
      rw [y, hq0] at this
      cases this
    · exact h.hpn hr' y
  have hiff : ∀ (a r' : Nat), r' < 4 → ((∃ i, i < nx + 1 ∧ va_up nd nx q i = a ∧ upd fh nx (nI (1 + r)) i = nI (1 + r')) ↔ (a = q ∧ r = r') ∨ ∃ i, i < nx ∧ nd i = a ∧ fh i = nI (1 + r')) := by
    intro a r' hr'
    constructor
    · rintro ⟨i, i1, i2, i3⟩
      by_cases hi : i = nx
      · rw [hi, hnew] at i2
        rw [hi, hfn] at i3
        have := nI_inj (by omega) (by omega) i3
        exact Or.inl ⟨i2.symm, by omega⟩
      · rw [hold i (by omega)] at i2
        rw [hfo i (by omega)] at i3
        exact Or.inr ⟨i, by omega, i2, i3⟩
    · rintro (⟨e1, e2⟩ | ⟨i, i1, i2, i3⟩)
      · exact ⟨nx, by omega, hnew.trans e1.symm, by rw [hfn, e2]⟩
      · exact ⟨i, by omega, (hold i i1).trans i2, (hfo i i1).trans i3⟩
  refine ⟨q, oc1, ys1, hrv, keep, fun a => ⟨fun ha => ?_, fun ha => ?_⟩, fun i j hi hj he => ?_, fun a ha => ⟨?_, ?_⟩, fun i hi => ?_, fun r' hr' => ?_, h.2.2.2.2.2.1, h.2.2.2.2.2.2.1, fun i r' hi hr' he => ?_⟩
  · rcases List.mem_cons.mp ha with y | y
    · exact ⟨nx, by omega, hnew.trans y.symm⟩
    · obtain ⟨i, i1, i2⟩ := (h.1 a).mp y
      exact ⟨i, by omega, (hold i i1).trans i2⟩
  · obtain ⟨i, i1, i2⟩ := ha
    by_cases hi : i = nx
    · rw [hi, hnew] at i2
      rw [← i2]
      exact List.mem_cons_self
    · rw [hold i (by omega)] at i2
      rw [← i2]
      exact List.mem_cons_of_mem _ (h.mem (by omega))
  · by_cases h1 : i = nx
    · by_cases h2 : j = nx
      · omega
      · rw [h1, hnew, hold j (by omega)] at he
        exact absurd he.symm (hndq j (by omega))
    · by_cases h2 : j = nx
      · rw [h2, hnew, hold i (by omega)] at he
        exact absurd he (hndq i (by omega))
      · rw [hold i (by omega), hold j (by omega)] at he
        exact h.2.1 i j (by omega) (by omega) he
  · rcases List.mem_cons.mp ha with y | y
    · rw [y]; exact hqA
    · exact (h.2.2.1 a y).1
  · rw [hw1, mkw_n ha]
  · by_cases h1 : i = nx
    · rw [h1, hnew, va_up_s, va_up_s, va_up_s, upd_s, upd_s]
      exact ⟨rfl, keepb _ _ hkb, keepb _ _ hvb⟩
    · have hi' : i < nx := by omega
      rw [hold i hi', va_up_n (hndq i hi'), va_up_n (hndq i hi'), va_up_n (hndq i hi'), upd_n h1, upd_n h1]
      obtain ⟨k1, k2, k3⟩ := h.2.2.2.1 i hi'
      exact ⟨k1, keepb _ _ k2, keepb _ _ k3⟩
  · by_cases hrr : r' = r
    · subst hrr
      have hc : cnt (upd fh nx (nI (1 + r'))) r' (nx + 1) = cnt fh r' nx + 1 := by
        show cnt (upd fh nx (nI (1 + r'))) r' nx + (if upd fh nx (nI (1 + r')) nx = nI (1 + r') then 1 else 0) = _
        rw [if_pos hfn, cnt_congr (fun i hi => by rw [hfo i hi])]
      refine ⟨at1, ?_⟩
      unfold HR
      rw [hc]
      refine ⟨?_, hI1, hR1, hO1, fun a => ?_⟩
      · rw [hw1, mkw_o (hhpq r' hr'), hw2]
        rw [show fRt (cnt fh r' nx + 1) at1 = some (at1 1) from if_neg (by omega)]
      · rw [hhas1 a, hR.2.2.2.2 a, hiff a r' hr']
        constructor
        · rintro (y | y)
          · exact Or.inl ⟨y, rfl⟩
          · exact Or.inr y
        · rintro (y | y)
          · exact Or.inl y.1
          · exact Or.inr y
    · obtain ⟨at2, k1, k2, k3, k4, k5⟩ := h.2.2.2.2.1 r' hr'
      have hc : cnt (upd fh nx (nI (1 + r))) r' (nx + 1) = cnt fh r' nx := by
        show cnt (upd fh nx (nI (1 + r))) r' nx + (if upd fh nx (nI (1 + r)) nx = nI (1 + r') then 1 else 0) = _
        rw [if_neg (fun z => by rw [hfn] at z; have := nI_inj (by omega) (by omega) z; omega), cnt_congr (fun i hi => by rw [hfo i hi])]
        rfl
      have hnh : ∀ a, fHas (cnt fh r' nx) at2 a → a ≠ q ∧ ¬ fHas (cnt fh r nx) at_ a := fun a ha => by
        refine ⟨fun y => ?_, fun y => hrr (h.two hr' hr ((k5 a).mp ha) ((hR.2.2.2.2 a).mp y))⟩
        obtain ⟨i, i1, i2, -⟩ := (k5 a).mp ha
        exact hndq i i1 (i2.trans y)
      refine ⟨at2, ?_⟩
      unfold HR
      rw [hc]
      refine ⟨keep _ _ k1 (h.hpn hr') (fun z => hrr (h.2.2.2.2.2.2.1 r' r hr' hr z)), ⟨fun x a1 a2 => List.mem_cons_of_mem _ (k2.1 x a1 a2), k2.2⟩, k3.cg (fun a ha => hout a (hnh a ha).1 (hnh a ha).2), k4.cg (fun a ha => ?_), fun a => ?_⟩
      · show frk (dnr r') (va_up kv q v a) = frk (dnr r') (kv a)
        rw [va_up_n (hnh a ha).1]
      · rw [k5 a, hiff a r' hr']
        constructor
        · exact fun y => Or.inr y
        · rintro (y | y)
          · exact absurd y.2.symm hrr
          · exact y
  · by_cases h1 : i = nx
    · rw [h1, hfn] at he
      have := nI_inj (by omega) (by omega) he
      rw [h1, hnew, va_up_s, show r' = r by omega]
    · rw [hfo i (by omega)] at he
      rw [hold i (by omega), va_up_n (hndq i (by omega))]
      exact h.2.2.2.2.2.2.2 i r' (by omega) hr' he
end HCS
end
section
/-! the desk's nodes and heaps against the plain state, on: a node goes, a key falls, a value changes, a heap is cleared; the least -/
set_option maxRecDepth 100000
section HCT
variable {g : fG} {hp : Nat → Nat} {nx : Nat} {nd : Nat → Nat} {fk fv fh : Nat → Int32} {ns : List Nat} {kf vf : Nat → Nat} {oc ys : Nat → Option Nat} {ow : Nat → Nat} {kv : Nat → Int32} {w w1 : fW}
theorem nI0 {r : Nat} (hr : r < 4) : (0 : Int32) ≠ nI (1 + r) := fun z => by
  have := nI_inj (a := 0) (b := 1 + r) (by omega) (by omega) z
  omega
/-- the node of handle i0 goes -/
theorem HC.rem (h : HC g hp nx nd fk fv fh ns kf vf oc ys ow kv w) {r i0 : Nat} {at_ : Nat → Nat} (hr : r < 4) (hi0 : i0 < nx) (hf0 : fh i0 = nI (1 + r)) (hR : HR g hp nd nx fh ns oc ys kv at_ r w) (hq : deQ g ns kf vf oc ys ow w (hp r) (dnr r) kv (cnt fh r nx) at_ (nd i0) w1) :
    ∃ (oc1 ys1 : Nat → Option Nat), (∀ (z : Nat) (e : va_E), w z = some e → z ∉ ns → z ≠ hp r → w1 z = some e) ∧ HC g hp nx nd fk fv (upd fh i0 0) ns kf vf oc1 ys1 ow kv w1 := by
  obtain ⟨at1, oc1, ys1, w2, hw1, hw2, hEx, hI1, hR1, hO1, hhas1, hout⟩ := hq
  have keep : ∀ (z : Nat) (e : va_E), w z = some e → z ∉ ns → z ≠ hp r → w1 z = some e := by
    intro z e hz hzn hzr
    rw [hw1, mkw_o hzn]
    exact hEx z e hzn hzr hz
  have keepb : ∀ (z : Nat) (x : Int32), w z = some (fInt x) → w1 z = some (fInt x) := fun z x hz => keep z _ hz (h.box hz) (h.bne hr hz)
  have hfn : upd fh i0 0 i0 = 0 := upd_s
  have hfo : ∀ i, i ≠ i0 → upd fh i0 0 i = fh i := fun i hi => upd_n hi
  have hiff : ∀ (a r' : Nat), r' < 4 → ((∃ i, i < nx ∧ nd i = a ∧ upd fh i0 0 i = nI (1 + r')) ↔ (∃ i, i < nx ∧ nd i = a ∧ fh i = nI (1 + r')) ∧ a ≠ nd i0) := by
    intro a r' hr'
    constructor
    · rintro ⟨i, i1, i2, i3⟩
      by_cases hi : i = i0
      · rw [hi, hfn] at i3
        exact absurd i3 (nI0 hr')
      · rw [hfo i hi] at i3
        exact ⟨⟨i, i1, i2, i3⟩, fun z => hi (h.2.1 i i0 i1 hi0 (i2.trans z))⟩
    · rintro ⟨⟨i, i1, i2, i3⟩, hne⟩
      have hi : i ≠ i0 := fun z => hne (by rw [← i2, z])
      exact ⟨i, i1, i2, (hfo i hi).trans i3⟩
  refine ⟨oc1, ys1, keep, h.1, h.2.1, fun a ha => ⟨(h.2.2.1 a ha).1, ?_⟩, fun i hi => ?_, fun r' hr' => ?_, h.2.2.2.2.2.1, h.2.2.2.2.2.2.1, fun i r' hi hr' he => ?_⟩
  · rw [hw1, mkw_n ha]
  · obtain ⟨k1, k2, k3⟩ := h.2.2.2.1 i hi
    exact ⟨k1, keepb _ _ k2, keepb _ _ k3⟩
  · by_cases hrr : r' = r
    · subst hrr
      have hc : cnt fh r' nx = cnt (upd fh i0 0) r' nx + 1 := cnt_out hi0 hf0 (by rw [hfn]; exact nI0 hr') (fun j _ hj => hfo j hj)
      have hc2 : cnt fh r' nx - 1 = cnt (upd fh i0 0) r' nx := by omega
      rw [hc2] at hw2 hI1 hR1 hO1 hhas1
      refine ⟨at1, ?_, hI1, hR1, hO1, fun a => ?_⟩
      · rw [hw1, mkw_o (h.hpn hr')]
        exact hw2
      · rw [hhas1 a, hR.2.2.2.2 a, hiff a r' hr']
    · obtain ⟨at2, k1, k2, k3, k4, k5⟩ := h.2.2.2.2.1 r' hr'
      have hc : cnt (upd fh i0 0) r' nx = cnt fh r' nx := cnt_congr (fun i hi => by
        by_cases hii : i = i0
        · rw [hii, hfn, hf0]
          exact ⟨fun z => absurd z (nI0 hr'), fun z => by have := nI_inj (by omega) (by omega) z; omega⟩
        · rw [hfo i hii])
      refine ⟨at2, ?_⟩
      unfold HR
      rw [hc]
      refine ⟨keep _ _ k1 (h.hpn hr') (fun z => hrr (h.2.2.2.2.2.2.1 r' r hr' hr z)), k2, k3.cg (fun a ha => hout a (fun y => hrr (h.two hr' hr ((k5 a).mp ha) ((hR.2.2.2.2 a).mp y)))), k4, fun a => ?_⟩
      rw [k5 a, hiff a r' hr']
      constructor
      · exact fun y => ⟨y, fun z => hrr (h.two hr' hr y ⟨i0, hi0, z.symm, hf0⟩)⟩
      · exact fun y => y.1
  · by_cases hii : i = i0
    · rw [hii, hfn] at he
      exact absurd he (nI0 hr')
    · rw [hfo i hii] at he
      exact h.2.2.2.2.2.2.2 i r' hi hr' he
/-- the key of handle i0 falls -/
theorem HC.dec (h : HC g hp nx nd fk fv fh ns kf vf oc ys ow kv w) {r i0 kb : Nat} {v : Int32} {at_ : Nat → Nat} {rv : Option Value} (hr : r < 4) (hi0 : i0 < nx) (hf0 : fh i0 = nI (1 + r)) (hR : HR g hp nd nx fh ns oc ys kv at_ r w) (hkb : w kb = some (fInt v)) (hq : dkQ g ns kf vf oc ys ow w (hp r) (dnr r) (lN (cnt fh r nx)) kv (cnt fh r nx) at_ (nd i0) kb v rv w1) :
    ∃ (oc1 ys1 : Nat → Option Nat), rv = none ∧ (∀ (z : Nat) (e : va_E), w z = some e → z ∉ ns → z ≠ hp r → w1 z = some e) ∧ HC g hp nx nd (upd fk i0 v) fv fh ns (va_up kf (nd i0) kb) vf oc1 ys1 ow (va_up kv (nd i0) v) w1 := by
  obtain ⟨hrv, at1, oc1, ys1, hw1, ⟨hI1, hR1, hhas1, ho1, ho2⟩, hO1⟩ := hq
  have hk0 : cnt fh r nx ≠ 0 := fun z => (cnt_0.mp z) i0 hi0 hf0
  have keep : ∀ (z : Nat) (e : va_E), w z = some e → z ∉ ns → z ≠ hp r → w1 z = some e := by
    intro z e hz hzn hzr
    rw [hw1, mkw_o hzn, fset_n hzr]
    exact hz
  have keepb : ∀ (z : Nat) (x : Int32), w z = some (fInt x) → w1 z = some (fInt x) := fun z x hz => keep z _ hz (h.box hz) (h.bne hr hz)
  refine ⟨oc1, ys1, hrv, keep, h.1, h.2.1, fun a ha => ⟨(h.2.2.1 a ha).1, ?_⟩, fun i hi => ?_, fun r' hr' => ?_, h.2.2.2.2.2.1, h.2.2.2.2.2.2.1, h.2.2.2.2.2.2.2⟩
  · rw [hw1, mkw_n ha]
  · obtain ⟨k1, k2, k3⟩ := h.2.2.2.1 i hi
    by_cases hii : i = i0
    · rw [hii, va_up_s, va_up_s, upd_s]
      rw [hii] at k3
      exact ⟨rfl, keepb _ _ hkb, keepb _ _ k3⟩
    · have hne : nd i ≠ nd i0 := fun z => hii (h.2.1 i i0 hi hi0 z)
      rw [va_up_n hne, va_up_n hne, upd_n hii]
      exact ⟨k1, keepb _ _ k2, keepb _ _ k3⟩
  · by_cases hrr : r' = r
    · subst hrr
      refine ⟨at1, ?_, hI1, hR1, hO1, fun a => ?_⟩
      · rw [hw1, mkw_o (h.hpn hr'), fset_s, show fRt (cnt fh r' nx) at1 = some (at1 1) from if_neg hk0]
      · rw [hhas1 a, hR.2.2.2.2 a]
    · obtain ⟨at2, k1, k2, k3, k4, k5⟩ := h.2.2.2.2.1 r' hr'
      have hno : ∀ a, fHas (cnt fh r' nx) at2 a → ¬ fHas (cnt fh r nx) at_ a := fun a ha y => hrr (h.two hr' hr ((k5 a).mp ha) ((hR.2.2.2.2 a).mp y))
      refine ⟨at2, keep _ _ k1 (h.hpn hr') (fun z => hrr (h.2.2.2.2.2.2.1 r' r hr' hr z)), k2, k3.cg (fun a ha => ⟨ho1.use (hno a ha), ho2.use (hno a ha)⟩), k4.cg (fun a ha => ?_), k5⟩
      show frk (dnr r') (va_up kv (nd i0) v a) = frk (dnr r') (kv a)
      rw [va_up_n (fun z => hrr (h.two hr' hr ((k5 a).mp ha) ⟨i0, hi0, z.symm, hf0⟩))]
/-- the value of handle i0 changes -/
theorem HC.val (h : HC g hp nx nd fk fv fh ns kf vf oc ys ow kv w) {i0 vb : Nat} {v : Int32} (hi0 : i0 < nx) (hvb : w vb = some (fInt v)) (hw1 : w1 = mkw ns kf (va_up vf (nd i0) vb) oc ys ow w) :
    (∀ (z : Nat) (e : va_E), w z = some e → z ∉ ns → w1 z = some e) ∧ HC g hp nx nd fk (upd fv i0 v) fh ns kf (va_up vf (nd i0) vb) oc ys ow kv w1 := by
  have keep : ∀ (z : Nat) (e : va_E), w z = some e → z ∉ ns → w1 z = some e := by
    intro z e hz hzn
    rw [hw1, mkw_o hzn]
    exact hz
  have keepb : ∀ (z : Nat) (x : Int32), w z = some (fInt x) → w1 z = some (fInt x) := fun z x hz => keep z _ hz (h.box hz)
  refine ⟨keep, h.1, h.2.1, fun a ha => ⟨(h.2.2.1 a ha).1, ?_⟩, fun i hi => ?_, fun r' hr' => ?_, h.2.2.2.2.2.1, h.2.2.2.2.2.2.1, h.2.2.2.2.2.2.2⟩
  · rw [hw1, mkw_n ha]
  · obtain ⟨k1, k2, k3⟩ := h.2.2.2.1 i hi
    by_cases hii : i = i0
    · rw [hii, va_up_s, upd_s]
      rw [hii] at k1 k2
      exact ⟨k1, keepb _ _ k2, keepb _ _ hvb⟩
    · have hne : nd i ≠ nd i0 := fun z => hii (h.2.1 i i0 hi hi0 z)
      rw [va_up_n hne, upd_n hii]
      exact ⟨k1, keepb _ _ k2, keepb _ _ k3⟩
  · obtain ⟨at2, k1, k2⟩ := h.2.2.2.2.1 r' hr'
    exact ⟨at2, keep _ _ k1 (h.hpn hr'), k2⟩
/-- heap r is cleared -/
theorem HC.clear (h : HC g hp nx nd fk fv fh ns kf vf oc ys ow kv w) {r : Nat} (hr : r < 4) (hw1 : w1 = fset w (hp r) (hpc (fcm g (dnr r)) (lN 0) none)) :
    (∀ (z : Nat) (e : va_E), w z = some e → z ≠ hp r → w1 z = some e) ∧ HC g hp nx nd fk fv (clr nx fh r) ns kf vf oc ys ow kv w1 := by
  have keep : ∀ (z : Nat) (e : va_E), w z = some e → z ≠ hp r → w1 z = some e := by
    intro z e hz hzr
    rw [hw1, fset_n hzr]
    exact hz
  have keepb : ∀ (z : Nat) (x : Int32), w z = some (fInt x) → w1 z = some (fInt x) := fun z x hz => keep z _ hz (h.bne hr hz)
  have hcl : ∀ i, i < nx → ∀ r', r' < 4 → (clr nx fh r i = nI (1 + r') ↔ fh i = nI (1 + r') ∧ r' ≠ r) := by
    intro i hi r' hr'
    by_cases hf : fh i = nI (1 + r)
    · rw [show clr nx fh r i = 0 from if_pos ⟨hi, hf⟩]
      constructor
      · exact fun z => absurd z (nI0 hr')
      · rintro ⟨z1, z2⟩
        rw [hf] at z1
        have := nI_inj (by omega) (by omega) z1
        omega
    · rw [show clr nx fh r i = fh i from if_neg (fun z => hf z.2)]
      exact ⟨fun z => ⟨z, fun y => hf (by rw [← y]; exact z)⟩, fun z => z.1⟩
  refine ⟨keep, h.1, h.2.1, fun a ha => ⟨(h.2.2.1 a ha).1, keep _ _ (h.2.2.1 a ha).2 (fun z => h.hpn hr (by rw [← z]; exact ha))⟩, fun i hi => ?_, fun r' hr' => ?_, h.2.2.2.2.2.1, h.2.2.2.2.2.2.1, fun i r' hi hr' he => h.2.2.2.2.2.2.2 i r' hi hr' ((hcl i hi r' hr').mp he).1⟩
  · obtain ⟨k1, k2, k3⟩ := h.2.2.2.1 i hi
    exact ⟨k1, keepb _ _ k2, keepb _ _ k3⟩
  · by_cases hrr : r' = r
    · subst hrr
      have hc : cnt (clr nx fh r') r' nx = 0 := cnt_0.mpr (fun i hi z => ((hcl i hi r' hr').mp z).2 rfl)
      refine ⟨nd, ?_⟩
      unfold HR
      rw [hc]
      refine ⟨?_, ⟨fun x a1 a2 => absurd a2 (by omega), fun x y a1 a2 => absurd a2 (by omega)⟩, fun x a1 a2 => absurd a2 (by omega), fun x a1 a2 => absurd a2 (by omega), fun a => ⟨?_, ?_⟩⟩
      · rw [hw1, fset_s]
        rfl
      · rintro ⟨x, a1, a2, -⟩
        omega
      · rintro ⟨i, i1, -, i3⟩
        exact absurd rfl ((hcl i i1 r' hr').mp i3).2
    · obtain ⟨at2, k1, k2, k3, k4, k5⟩ := h.2.2.2.2.1 r' hr'
      have hc : cnt (clr nx fh r) r' nx = cnt fh r' nx := cnt_congr (fun i hi => (hcl i hi r' hr').trans ⟨fun z => z.1, fun z => ⟨z, hrr⟩⟩)
      refine ⟨at2, ?_⟩
      unfold HR
      rw [hc]
      refine ⟨keep _ _ k1 (fun z => hrr (h.2.2.2.2.2.2.1 r' r hr' hr z)), k2, k3, k4, fun a => ?_⟩
      rw [k5 a]
      constructor
      · rintro ⟨i, i1, i2, i3⟩
        exact ⟨i, i1, i2, (hcl i i1 r' hr').mpr ⟨i3, hrr⟩⟩
      · rintro ⟨i, i1, i2, i3⟩
        exact ⟨i, i1, i2, ((hcl i i1 r' hr').mp i3).1⟩
theorem frk_inj {dn : Bool} {x y : Int32} (h : frk dn x = frk dn y) : x = y := by
  refine Int32.toInt_inj.mp ?_
  cases dn
  · exact h
  · rw [frk_t, frk_t] at h
    omega
/-- the root is the model's first -/
theorem HC.fst (h : HC g hp nx nd fk fv fh ns kf vf oc ys ow kv w) (hlo : ∀ i, i < nx → fk i &&& 63 = nI i) (hn : nx ≤ 64) {r : Nat} {at_ : Nat → Nat} (hR : HR g hp nd nx fh ns oc ys kv at_ r w) :
    (cnt fh r nx = 0 ∧ fstN fk fh r nx = none) ∨ (cnt fh r nx ≠ 0 ∧ ∃ i, i < nx ∧ fstN fk fh r nx = some i ∧ at_ 1 = nd i ∧ fh i = nI (1 + r)) := by
  obtain ⟨s1, s2⟩ := fst_spec (fk := fk) (fh := fh) (r := r) (n := nx)
  by_cases hc : cnt fh r nx = 0
  · refine Or.inl ⟨hc, ?_⟩
    cases h0 : fstN fk fh r nx with
    | none => rfl
    | some b =>
      obtain ⟨b1, b2, -⟩ := s2 b h0
      exact absurd b2 ((cnt_0.mp hc) b b1)
  · refine Or.inr ⟨hc, ?_⟩
    obtain ⟨i, i1, i2, i3⟩ := (hR.2.2.2.2 (at_ 1)).mp ⟨1, by omega, by omega, rfl⟩
    cases h0 : fstN fk fh r nx with
    | none => exact absurd i3 (s1 h0 i i1)
    | some b =>
      obtain ⟨b1, b2, b3⟩ := s2 b h0
      obtain ⟨x, x1, x2, x3⟩ := (hR.2.2.2.2 (nd b)).mpr ⟨b, b1, rfl, b2⟩
      have hle := hOrd_root hR.2.2.2.1 x x1 x2
      rw [x3, ← i2] at hle
      have e1 := (h.2.2.2.1 i i1).1
      have e2 := (h.2.2.2.1 b b1).1
      have hle : frk (dnr r) (fk i) ≤ frk (dnr r) (fk b) := by rw [← e1, ← e2]; exact hle
      have heq : fk b = fk i := frk_inj (Int.le_antisymm (b3 i i1 i3) hle)
      have hbi : b = i := by
        have z1 := hlo b b1
        have z2 := hlo i i1
        rw [heq, z2] at z1
        exact (nI_inj (by omega) (by omega) z1).symm
      exact ⟨i, i1, by rw [hbi], i2.symm, i3⟩
end HCT
end
section
/-! the desk: its cells, its rows; least, valueOfLeast, size, in, key -/
set_option maxRecDepth 100000
abbrev dkc (F Wy Hm nx : Nat) : va_E := .inr (0, [.ref F, .ref Wy, .ref Hm, .int (nI nx)])
abbrev rar (cA : ClassId) (n : Nat) (f : Nat → Option Nat) : va_E := .inl (cA, n, .inr (.inr (.inr (.inr f))))
def DA (g : fG) (D F Wy Hm : Nat) (hp : Nat → Nat) (nx : Nat) (nd : Nat → Nat) (fk fh : Nat → Int32) (ff fw : Nat → Option Nat) (fd : Nat → Int32) (w : fW) : Prop :=
  w D = some (dkc F Wy Hm nx) ∧ w F = some (rar (g.2.2.1 2) 4 ff) ∧ (∀ r, r < 4 → ff r = some (hp r)) ∧ w Wy = some (rar (g.2.2.1 3) 64 fw) ∧ (∀ i, i < nx → fw i = some (nd i)) ∧ w Hm = some (iar g fd) ∧ (∀ i, i < nx → fd i = fh i) ∧ (g.2.1 ≤ D ∧ g.2.1 ≤ Wy ∧ g.2.1 ≤ Hm) ∧ nx ≤ 64 ∧ (∀ i, i < nx → fk i &&& 63 = nI i) ∧ (∀ i, i < nx → fh i = 0 ∨ ∃ r, r < 4 ∧ fh i = nI (1 + r)) ∧ fCa g w
def DK (g : fG) (D F Wy Hm : Nat) (hp : Nat → Nat) (nx : Nat) (fk fv fh : Nat → Int32) (w : fW) : Prop :=
  ∃ (nd : Nat → Nat) (ns : List Nat) (kf vf : Nat → Nat) (oc ys : Nat → Option Nat) (ow : Nat → Nat) (kv : Nat → Int32) (ff fw : Nat → Option Nat) (fd : Nat → Int32), DA g D F Wy Hm hp nx nd fk fh ff fw fd w ∧ HC g hp nx nd fk fv fh ns kf vf oc ys ow kv w
def fFr (D Wy Hm : Nat) (hp : Nat → Nat) (w w1 : fW) : Prop := ∀ (z : Nat) (e : va_E), w z = some e → z ≠ D → z ≠ Wy → z ≠ Hm → (∀ r, r < 4 → z ≠ hp r) → (∀ fs, e ≠ .inr (3, fs)) → w1 z = some e
theorem fFr.rf {D Wy Hm : Nat} {hp : Nat → Nat} {w : fW} : fFr D Wy Hm hp w w := fun _ _ h _ _ _ _ _ => h
theorem fFr.tr {D Wy Hm : Nat} {hp : Nat → Nat} {w w1 w2 : fW} (h1 : fFr D Wy Hm hp w w1) (h2 : fFr D Wy Hm hp w1 w2) : fFr D Wy Hm hp w w2 := fun z e a b c d f k => h2 z e (h1 z e a b c d f k) b c d f k
theorem fFr.le {D Wy Hm : Nat} {hp : Nat → Nat} {w w1 : fW} (h : fLe w w1) : fFr D Wy Hm hp w w1 := fun z e a _ _ _ _ _ => h z e a
theorem fBox.le {g : fG} {w : fW} {v : Int32} {a : Nat} (h : fBox g w v a) : fLe w (fset w a (fInt v)) := by
  rcases h with h | h
  · exact fLe.new h.1 _
  · rw [fset_id h]
    exact fLe.rf
section DKS
variable {g : fG} {D F Wy Hm : Nat} {hp : Nat → Nat} {nx : Nat} {nd : Nat → Nat} {fk fv fh : Nat → Int32} {ff fw : Nat → Option Nat} {fd : Nat → Int32} {w w1 : fW}
theorem DA.mono (h : DA g D F Wy Hm hp nx nd fk fh ff fw fd w) (h1 : ∀ (z ci : Nat) (fs : List Value), (ci = 0 ∨ ci = 4) → w z = some (.inr (ci, fs)) → w1 z = some (.inr (ci, fs))) (h2 : ∀ (z : Nat) (cA : ClassId) (n : Nat) (f : Nat → Option Nat), w z = some (rar cA n f) → w1 z = some (rar cA n f)) (h3 : ∀ f, w Hm = some (iar g f) → w1 Hm = some (iar g f)) : DA g D F Wy Hm hp nx nd fk fh ff fw fd w1 := by
  obtain ⟨a1, a2, a3, a4, a5, a6, a7, a8, a9, a10, a11, a12⟩ := h
  exact ⟨h1 _ _ _ (by omega) a1, h2 _ _ _ _ a2, a3, h2 _ _ _ _ a4, a5, h3 _ a6, a7, a8, a9, a10, a11, fun j hj => h1 _ _ _ (by omega) (a12 j hj)⟩
theorem DK.mono (h : DK g D F Wy Hm hp nx fk fv fh w) (h1 : ∀ (z ci : Nat) (fs : List Value), ci ≠ 2 → w z = some (.inr (ci, fs)) → w1 z = some (.inr (ci, fs))) (h2 : ∀ (z : Nat) (cA : ClassId) (n : Nat) (f : Nat → Option Nat), w z = some (rar cA n f) → w1 z = some (rar cA n f)) (h3 : ∀ f, w Hm = some (iar g f) → w1 Hm = some (iar g f)) : DK g D F Wy Hm hp nx fk fv fh w1 := by
  obtain ⟨nd, ns, kf, vf, oc, ys, ow, kv, ff, fw, fd, hA, hC⟩ := h
  exact ⟨nd, ns, kf, vf, oc, ys, ow, kv, ff, fw, fd, hA.mono (fun z ci fs hc => h1 z ci fs (by omega)) h2 h3, hC.mono (fun z ci fs hc => h1 z ci fs (by omega))⟩
end DKS
section DROWS
variable {p : Program} {l : Launch} {e : Env} {R : Room} {s : State} {m : MethodId} {args : Array Value} {below : List Frame} {meth : Method} {c : Code} {H : Heap} {locs : List Loc} {cells slots : Nat} {Q : State → Prop}
variable {g : fG} {cc : ByteArray} {nl : Nat} {rt : Option FieldType} {pc : Nat} {ls : Array Slot} {rest : List Value} {w : fW}
variable {ns : List Nat} {kf vf : Nat → Nat} {oc ys : Nat → Option Nat} {ow : Nat → Nat} {n : Nat} {x : Int32}
theorem dx_int (C : fC g p s m args meth c RX0 cc nl rt) {a : Nat} (hP : HP g w H) (hS : va_S (fA g) s.heap H locs) (hk : w a = some (fInt x)) (hR : 2 ≤ R.frames ∧ 20 ≤ R.locals) (hsz : ls.size = nl) (hroom : (rest.map fun v => v.category).sum ≤ 8) (hf : cells ≤ R.cells ∧ slots ≤ R.slots) (d2 : decode cc pc = .ok (.checkcast 29, 3)) (d3 : decode cc (pc + 3) = .ok (.invokevirtual 31, 3))
    (kk : ∀ (H1 : Heap) (locs1 : List Loc), HP g w H1 → va_S (fA g) s.heap H1 locs1 → W p l e R s m args below meth c H1 locs1 cells slots Q (F0 m (pc + 3 + 3) ls (.int x :: rest))) : W p l e R s m args below meth c H locs cells slots Q (F0 m pc ls (.ref a :: rest)) := by
  refine va_castS C.1 C.2.1 C.2.2.2.2.2.1 (C.2.2.2.2.2.2.1 _ q215) (C.2.2.2.2.2.2.2.1.1 4 _ rfl).2 (fw_recv (ci := 4) C hP hk rfl) d2 ?_
  refine fw_V C 0 (As := []) (rest := rest) (m_intValue l g w a x hk) (lw_V q216 q217 q218 q17 q219) (by decide +kernel) ⟨Nat.le_trans (Nat.le_of_ble_eq_true rfl) hR.1, Nat.le_trans (Nat.le_of_ble_eq_true rfl) hR.2⟩ hP hS hk rfl rfl rfl hsz hroom d3 hf ?_
  rintro r w1 H1 locs1 ⟨rfl, e1⟩ hP hS
  rw [e1] at hP
  exact kk H1 locs1 hP hS
theorem dx_key (C : fC g p s m args meth c RX0 cc nl rt) (hP : HP g w H) (hS : va_S (fA g) s.heap H locs) (em : mkw ns kf vf oc ys ow w = w) (hn : n ∈ ns) (hk : w (kf n) = some (fInt x)) (hR : 2 ≤ R.frames ∧ 20 ≤ R.locals) (hsz : ls.size = nl) (hroom : (rest.map fun v => v.category).sum ≤ 8) (hf : cells ≤ R.cells ∧ slots ≤ R.slots) (d1 : decode cc pc = .ok (.invokeinterface 72 1, 5)) (d2 : decode cc (pc + 5) = .ok (.checkcast 29, 3)) (d3 : decode cc (pc + 5 + 3) = .ok (.invokevirtual 31, 3))
    (kk : ∀ (H1 : Heap) (locs1 : List Loc), HP g w H1 → va_S (fA g) s.heap H1 locs1 → W p l e R s m args below meth c H1 locs1 cells slots Q (F0 m (pc + 5 + 3 + 3) ls (.int x :: rest))) : W p l e R s m args below meth c H locs cells slots Q (F0 m pc ls (.ref n :: rest)) := by
  have hM := m_getKey l g ns kf vf oc ys ow w n hn
  rw [em] at hM
  have hrn : w n = some (ndE kf vf oc ys ow n) := by rw [← em, mkw_n hn]
  refine fw_F C 0 (x := ⟨"AddressableHeap$Handle", "getKey", "()Ljava/lang/Object;"⟩) (Cn := RX3) (As := []) (rest := rest) hM (fw_lF q366 q370 q372 q23 q374) C.2.2.2.2.2.2.2.2.2.1.2.2.2.2.2.2.2.2.2.2.2.1 (by decide +kernel) ⟨Nat.le_trans (Nat.le_of_ble_eq_true rfl) hR.1, Nat.le_trans (Nat.le_of_ble_eq_true rfl) hR.2⟩ hP hS (fw_recv (ci := 3) C hP hrn rfl) rfl rfl hsz hroom d1 hf ?_
  rintro r w1 H1 locs1 ⟨rfl, e1⟩ hP hS
  rw [e1] at hP
  exact dx_int C hP hS hk hR hsz hroom hf d2 d3 kk
theorem dx_val (C : fC g p s m args meth c RX0 cc nl rt) (hP : HP g w H) (hS : va_S (fA g) s.heap H locs) (em : mkw ns kf vf oc ys ow w = w) (hn : n ∈ ns) (hk : w (vf n) = some (fInt x)) (hR : 2 ≤ R.frames ∧ 20 ≤ R.locals) (hsz : ls.size = nl) (hroom : (rest.map fun v => v.category).sum ≤ 8) (hf : cells ≤ R.cells ∧ slots ≤ R.slots) (d1 : decode cc pc = .ok (.invokeinterface 76 1, 5)) (d2 : decode cc (pc + 5) = .ok (.checkcast 29, 3)) (d3 : decode cc (pc + 5 + 3) = .ok (.invokevirtual 31, 3))
    (kk : ∀ (H1 : Heap) (locs1 : List Loc), HP g w H1 → va_S (fA g) s.heap H1 locs1 → W p l e R s m args below meth c H1 locs1 cells slots Q (F0 m (pc + 5 + 3 + 3) ls (.int x :: rest))) : W p l e R s m args below meth c H locs cells slots Q (F0 m pc ls (.ref n :: rest)) := by
  have hM := m_getValue l g ns kf vf oc ys ow w n hn
  rw [em] at hM
  have hrn : w n = some (ndE kf vf oc ys ow n) := by rw [← em, mkw_n hn]
  refine fw_F C 0 (x := ⟨"AddressableHeap$Handle", "getValue", "()Ljava/lang/Object;"⟩) (Cn := RX3) (As := []) (rest := rest) hM (fw_lF q380 q383 q385 q23 q387) C.2.2.2.2.2.2.2.2.2.1.2.2.2.2.2.2.2.2.2.2.2.2.1 (by decide +kernel) ⟨Nat.le_trans (Nat.le_of_ble_eq_true rfl) hR.1, Nat.le_trans (Nat.le_of_ble_eq_true rfl) hR.2⟩ hP hS (fw_recv (ci := 3) C hP hrn rfl) rfl rfl hsz hroom d1 hf ?_
  rintro r w1 H1 locs1 ⟨rfl, e1⟩ hP hS
  rw [e1] at hP
  exact dx_int C hP hS hk hR hsz hroom hf d2 d3 kk
variable {D F Wy Hm : Nat} {hp : Nat → Nat} {nx : Nat} {nd : Nat → Nat} {fk fv fh : Nat → Int32} {ff fw : Nat → Option Nat} {fd : Nat → Int32}
/-- file[r] -/
theorem dx_file (C : fC g p s m args meth c RX0 cc nl rt) (hP : HP g w H) (hA : DA g D F Wy Hm hp nx nd fk fh ff fw fd w) {r : Nat} (hr : r < 4) (hdg : decode cc pc = .ok (.aaload, 1))
    (kk : W p l e R s m args below meth c H locs cells slots Q (F0 m (pc + 1) ls (.ref (hp r) :: rest))) : W p l e R s m args below meth c H locs cells slots Q (F0 m pc ls (.int (nI r) :: .ref F :: rest)) :=
  fw_aldq C hP 2 rfl hA.2.1 (vp_in_nI hr (by decide)) (v := .ref (hp r)) (by rw [nI_clamp (by omega), hA.2.2.1 r hr]; rfl) hdg kk
/-- ways[i] -/
theorem dx_way (C : fC g p s m args meth c RX0 cc nl rt) (hP : HP g w H) (hA : DA g D F Wy Hm hp nx nd fk fh ff fw fd w) {i : Nat} (hi : i < nx) (hdg : decode cc pc = .ok (.aaload, 1))
    (kk : W p l e R s m args below meth c H locs cells slots Q (F0 m (pc + 1) ls (.ref (nd i) :: rest))) : W p l e R s m args below meth c H locs cells slots Q (F0 m pc ls (.int (nI i) :: .ref Wy :: rest)) :=
  fw_aldq C hP 3 rfl hA.2.2.2.1 (vp_in_nI (Nat.lt_of_lt_of_le hi hA.2.2.2.2.2.2.2.2.1) (by decide)) (v := .ref (nd i)) (by rw [nI_clamp (by have := hA.2.2.2.2.2.2.2.2.1; omega), hA.2.2.2.2.1 i hi]; rfl) hdg kk
end DROWS
section DESK
variable (l : Launch) (g : fG) (D F Wy Hm : Nat) (hp : Nat → Nat) (nx : Nat) (fk fv fh : Nat → Int32) (w : fW)
set_option maxHeartbeats 4000000 in
theorem m_dleast (hK : DK g D F Wy Hm hp nx fk fv fh w) (x : Int32) (r : Nat) (hr : r < 4) (hx : x &&& 3 = nI r) : fMet l g yX0_least cX0_least 3 (some .int) 2 30 0 0 [.ref D, .int x] w (fun v w1 => v = some (.int (obf fk (fstN fk fh r nx))) ∧ w1 = w) := by
  refine fw_of (by decide) (Nat.le_of_ble_eq_true rfl) ?_
  intro p e s m below meth c ls C hnm hP hl
  have hS : va_S (fA g) s.heap s.heap [] := va_S.rf
  obtain ⟨nd, ns, kf, vf, oc, ys, ow, kv, ff, fw, fd, hA, hC⟩ := hK
  obtain ⟨at_, hR⟩ := hC.2.2.2.2.1 r hr
  have hn64 := hA.2.2.2.2.2.2.2.2.1
  have hc65 : cnt fh r nx < 65 := Nat.lt_of_le_of_lt cnt_le (by omega)
  refine lv_aload_n C.1 C.2.1 dX0_least_0 rfl (lv_at hl 0 rfl) ?_
  refine fw_get C in_X0 hP hA.1 rfl 0 (by decide) q75 rfl rfl dX0_least_1 ?_
  refine lv_iload_n C.1 C.2.1 dX0_least_4 rfl (lv_at hl 1 rfl) ?_
  refine lv_iconst (v := 3) C.1 C.2.1 dX0_least_5 (by decide) ?_
  refine lv_iand C.1 C.2.1 dX0_least_6 ?_
  rw [hx]
  refine dx_file C hP hA hr dX0_least_7 ?_
  refine lv_astore_n (lv' := [(2, .ref (hp r)), (0, .ref D), (1, .int x)]) C.1 C.2.1 dX0_least_8 rfl hl (by decide) rfl (fun ls hl => ?_)
  refine lv_aload_n C.1 C.2.1 dX0_least_9 rfl (lv_at hl 0 rfl) ?_
  refine fw_V C 0 (As := []) (rest := []) (m_isEmpty l g w (hp r) _ _ _ hR.1 hc65) (lw_V q321 q322 q323 q14 q324) (by decide +kernel) ⟨Nat.le_of_ble_eq_true rfl, Nat.le_of_ble_eq_true rfl⟩ hP hS hR.1 rfl rfl rfl hl.1 (Nat.le_of_ble_eq_true rfl) dX0_least_10 ⟨Nat.le_of_ble_eq_true rfl, Nat.le_of_ble_eq_true rfl⟩ ?_
  rintro r w1 H1 locs1 ⟨rfl, e1⟩ hP hS
  rw [e1] at hP
  clear e1 w1
  rcases hC.fst hA.2.2.2.2.2.2.2.2.2.1 hn64 hR with ⟨z1, z2⟩ | ⟨z1, i, i1, i2, i3, i4⟩
  · rw [if_pos z1]
    refine lv_if_eq (tgt := 20) C.1 C.2.1 dX0_least_13 (by decide) (fun c1 => ?_) (fun c1 => ?_)
    · exact absurd c1 (by decide)
    · refine lv_iconst (v := (-1)) C.1 C.2.1 dX0_least_16 (by decide) ?_
      refine lv_goto (tgt := 35) C.1 C.2.1 dX0_least_17 (by decide) ?_
      refine fw_iret C ⟨?_, rfl⟩ hP hS ⟨Nat.le_of_ble_eq_true rfl, Nat.le_of_ble_eq_true rfl⟩ dX0_least_35
      rw [z2]
      rfl
  · rw [if_neg z1]
    refine lv_if_eq (tgt := 20) C.1 C.2.1 dX0_least_13 (by decide) (fun c1 => ?_) (fun c1 => ?_)
    · refine lv_aload_n C.1 C.2.1 dX0_least_20 rfl (lv_at hl 0 rfl) ?_
      have hrt := hR.1
      rw [show fRt (cnt fh r nx) at_ = some (at_ 1) from if_neg z1] at hrt
      refine fw_V C 0 (As := []) (rest := []) (m_findMin l g w (hp r) _ _ _ hrt hc65 z1) (lw_V q325 q326 q327 q14 q328) (by decide +kernel) ⟨Nat.le_of_ble_eq_true rfl, Nat.le_of_ble_eq_true rfl⟩ hP hS hR.1 rfl rfl rfl hl.1 (Nat.le_of_ble_eq_true rfl) dX0_least_21 ⟨Nat.le_of_ble_eq_true rfl, Nat.le_of_ble_eq_true rfl⟩ ?_
      rintro r w1 H1 locs1 ⟨rfl, e1⟩ hP hS
      rw [e1] at hP
      clear e1 w1
      rw [i3]
      refine dx_key C hP hS hC.mk (hC.mem i1) (hC.2.2.2.1 i i1).2.1 ⟨Nat.le_of_ble_eq_true rfl, Nat.le_of_ble_eq_true rfl⟩ hl.1 (Nat.le_of_ble_eq_true rfl) ⟨Nat.le_of_ble_eq_true rfl, Nat.le_of_ble_eq_true rfl⟩ dX0_least_24 dX0_least_29 dX0_least_32 (fun H locs hP hS => ?_)
      refine fw_iret C ⟨?_, rfl⟩ hP hS ⟨Nat.le_of_ble_eq_true rfl, Nat.le_of_ble_eq_true rfl⟩ dX0_least_35
      rw [i2]
      rfl
    · exact absurd rfl c1
set_option maxHeartbeats 4000000 in
theorem m_dvalue (hK : DK g D F Wy Hm hp nx fk fv fh w) (x : Int32) (r : Nat) (hr : r < 4) (hx : x &&& 3 = nI r) : fMet l g yX0_valueOfLeast cX0_valueOfLeast 3 (some .int) 2 30 0 0 [.ref D, .int x] w (fun v w1 => v = some (.int (obf fv (fstN fk fh r nx))) ∧ w1 = w) := by
  refine fw_of (by decide) (Nat.le_of_ble_eq_true rfl) ?_
  intro p e s m below meth c ls C hnm hP hl
  have hS : va_S (fA g) s.heap s.heap [] := va_S.rf
  obtain ⟨nd, ns, kf, vf, oc, ys, ow, kv, ff, fw, fd, hA, hC⟩ := hK
  obtain ⟨at_, hR⟩ := hC.2.2.2.2.1 r hr
  have hn64 := hA.2.2.2.2.2.2.2.2.1
  have hc65 : cnt fh r nx < 65 := Nat.lt_of_le_of_lt cnt_le (by omega)
  refine lv_aload_n C.1 C.2.1 dX0_valueOfLeast_0 rfl (lv_at hl 0 rfl) ?_
  refine fw_get C in_X0 hP hA.1 rfl 0 (by decide) q75 rfl rfl dX0_valueOfLeast_1 ?_
  refine lv_iload_n C.1 C.2.1 dX0_valueOfLeast_4 rfl (lv_at hl 1 rfl) ?_
  refine lv_iconst (v := 3) C.1 C.2.1 dX0_valueOfLeast_5 (by decide) ?_
  refine lv_iand C.1 C.2.1 dX0_valueOfLeast_6 ?_
  rw [hx]
  refine dx_file C hP hA hr dX0_valueOfLeast_7 ?_
  refine lv_astore_n (lv' := [(2, .ref (hp r)), (0, .ref D), (1, .int x)]) C.1 C.2.1 dX0_valueOfLeast_8 rfl hl (by decide) rfl (fun ls hl => ?_)
  refine lv_aload_n C.1 C.2.1 dX0_valueOfLeast_9 rfl (lv_at hl 0 rfl) ?_
  refine fw_V C 0 (As := []) (rest := []) (m_isEmpty l g w (hp r) _ _ _ hR.1 hc65) (lw_V q321 q322 q323 q14 q324) (by decide +kernel) ⟨Nat.le_of_ble_eq_true rfl, Nat.le_of_ble_eq_true rfl⟩ hP hS hR.1 rfl rfl rfl hl.1 (Nat.le_of_ble_eq_true rfl) dX0_valueOfLeast_10 ⟨Nat.le_of_ble_eq_true rfl, Nat.le_of_ble_eq_true rfl⟩ ?_
  rintro r w1 H1 locs1 ⟨rfl, e1⟩ hP hS
  rw [e1] at hP
  clear e1 w1
  rcases hC.fst hA.2.2.2.2.2.2.2.2.2.1 hn64 hR with ⟨z1, z2⟩ | ⟨z1, i, i1, i2, i3, i4⟩
  · rw [if_pos z1]
    refine lv_if_eq (tgt := 20) C.1 C.2.1 dX0_valueOfLeast_13 (by decide) (fun c1 => ?_) (fun c1 => ?_)
    · exact absurd c1 (by decide)
    · refine lv_iconst (v := (-1)) C.1 C.2.1 dX0_valueOfLeast_16 (by decide) ?_
      refine lv_goto (tgt := 35) C.1 C.2.1 dX0_valueOfLeast_17 (by decide) ?_
      refine fw_iret C ⟨?_, rfl⟩ hP hS ⟨Nat.le_of_ble_eq_true rfl, Nat.le_of_ble_eq_true rfl⟩ dX0_valueOfLeast_35
      rw [z2]
      rfl
  · rw [if_neg z1]
    refine lv_if_eq (tgt := 20) C.1 C.2.1 dX0_valueOfLeast_13 (by decide) (fun c1 => ?_) (fun c1 => ?_)
    · refine lv_aload_n C.1 C.2.1 dX0_valueOfLeast_20 rfl (lv_at hl 0 rfl) ?_
      have hrt := hR.1
      rw [show fRt (cnt fh r nx) at_ = some (at_ 1) from if_neg z1] at hrt
      refine fw_V C 0 (As := []) (rest := []) (m_findMin l g w (hp r) _ _ _ hrt hc65 z1) (lw_V q325 q326 q327 q14 q328) (by decide +kernel) ⟨Nat.le_of_ble_eq_true rfl, Nat.le_of_ble_eq_true rfl⟩ hP hS hR.1 rfl rfl rfl hl.1 (Nat.le_of_ble_eq_true rfl) dX0_valueOfLeast_21 ⟨Nat.le_of_ble_eq_true rfl, Nat.le_of_ble_eq_true rfl⟩ ?_
      rintro r w1 H1 locs1 ⟨rfl, e1⟩ hP hS
      rw [e1] at hP
      clear e1 w1
      rw [i3]
      refine dx_val C hP hS hC.mk (hC.mem i1) (hC.2.2.2.1 i i1).2.2 ⟨Nat.le_of_ble_eq_true rfl, Nat.le_of_ble_eq_true rfl⟩ hl.1 (Nat.le_of_ble_eq_true rfl) ⟨Nat.le_of_ble_eq_true rfl, Nat.le_of_ble_eq_true rfl⟩ dX0_valueOfLeast_24 dX0_valueOfLeast_29 dX0_valueOfLeast_32 (fun H locs hP hS => ?_)
      refine fw_iret C ⟨?_, rfl⟩ hP hS ⟨Nat.le_of_ble_eq_true rfl, Nat.le_of_ble_eq_true rfl⟩ dX0_valueOfLeast_35
      rw [i2]
      rfl
    · exact absurd rfl c1
set_option maxHeartbeats 4000000 in
theorem m_dsize (hK : DK g D F Wy Hm hp nx fk fv fh w) (x : Int32) (r : Nat) (hr : r < 4) (hx : x &&& 3 = nI r) : fMet l g yX0_size cX0_size 2 (some .int) 2 30 0 0 [.ref D, .int x] w (fun v w1 => v = some (.int (nI (cnt fh r nx))) ∧ w1 = w) := by
  refine fw_of (by decide) (Nat.le_of_ble_eq_true rfl) ?_
  intro p e s m below meth c ls C hnm hP hl
  have hS : va_S (fA g) s.heap s.heap [] := va_S.rf
  obtain ⟨nd, ns, kf, vf, oc, ys, ow, kv, ff, fw, fd, hA, hC⟩ := hK
  obtain ⟨at_, hR⟩ := hC.2.2.2.2.1 r hr
  refine lv_aload_n C.1 C.2.1 dX0_size_0 rfl (lv_at hl 0 rfl) ?_
  refine fw_get C in_X0 hP hA.1 rfl 0 (by decide) q75 rfl rfl dX0_size_1 ?_
  refine lv_iload_n C.1 C.2.1 dX0_size_4 rfl (lv_at hl 1 rfl) ?_
  refine lv_iconst (v := 3) C.1 C.2.1 dX0_size_5 (by decide) ?_
  refine lv_iand C.1 C.2.1 dX0_size_6 ?_
  rw [hx]
  refine dx_file C hP hA hr dX0_size_7 ?_
  refine fw_V C 0 (As := []) (rest := []) (m_hsize l g w (hp r) _ _ _ hR.1) (lw_V q477 q478 q479 q14 q480) (by decide +kernel) ⟨Nat.le_of_ble_eq_true rfl, Nat.le_of_ble_eq_true rfl⟩ hP hS hR.1 rfl rfl rfl hl.1 (Nat.le_of_ble_eq_true rfl) dX0_size_8 ⟨Nat.le_of_ble_eq_true rfl, Nat.le_of_ble_eq_true rfl⟩ ?_
  rintro r w1 H1 locs1 ⟨rfl, e1⟩ hP hS
  rw [e1] at hP
  clear e1 w1
  refine lv_l2i (v := nI (cnt fh r nx)) C.1 C.2.1 dX0_size_11 (lN_i _) ?_
  exact fw_iret C ⟨rfl, rfl⟩ hP hS ⟨Nat.le_of_ble_eq_true rfl, Nat.le_of_ble_eq_true rfl⟩ dX0_size_12
set_option maxHeartbeats 4000000 in
/-- in(e) -/
theorem m_in (hD : w D = some (dkc F Wy Hm nx)) (hn64 : nx ≤ 64) (x : Int32) : fMet l g yX0_in cX0_in 2 (some .int) 1 0 0 0 [.ref D, .int x] w (fun v w1 => v = some (.int (if nx = 0 then -1 else nI (idx x nx))) ∧ w1 = w) := by
  refine fw_of (by decide) (Nat.le_of_ble_eq_true rfl) ?_
  intro p e s m below meth c ls C hnm hP hl
  have hS : va_S (fA g) s.heap s.heap [] := va_S.rf
  refine lv_aload_n C.1 C.2.1 dX0_in_0 rfl (lv_at hl 0 rfl) ?_
  refine fw_get C in_X0 hP hD rfl 3 (by decide) q78 rfl rfl dX0_in_1 ?_
  refine lv_if_ne (tgt := 11) C.1 C.2.1 dX0_in_4 (by decide) (fun c1 => ?_) (fun c1 => ?_)
  · have hn0 : nx ≠ 0 := fun z => c1 (by rw [z]; rfl)
    refine lv_iload_n C.1 C.2.1 dX0_in_11 rfl (lv_at hl 1 rfl) ?_
    refine lv_ldc C.1 C.2.1 C.2.2.2.2.2.1 (C.2.2.2.2.2.2.1 _ q408) dX0_in_12 ?_
    refine lv_iand C.1 C.2.1 dX0_in_14 ?_
    refine lv_aload_n C.1 C.2.1 dX0_in_15 rfl (lv_at hl 0 rfl) ?_
    refine fw_get C in_X0 hP hD rfl 3 (by decide) q78 rfl rfl dX0_in_16 ?_
    refine lv_irem C.1 C.2.1 dX0_in_19 c1 ?_
    rw [i_idx x (by omega) hn64]
    refine fw_iret C ⟨?_, rfl⟩ hP hS ⟨Nat.le_of_ble_eq_true rfl, Nat.le_of_ble_eq_true rfl⟩ dX0_in_20
    rw [if_neg hn0]
  · have hn0 : nx = 0 := (nI_eq (a := nx) (b := 0) (by omega) (by decide)).mp c1
    refine lv_iconst (v := (-1)) C.1 C.2.1 dX0_in_7 (by decide) ?_
    refine lv_goto (tgt := 20) C.1 C.2.1 dX0_in_8 (by decide) ?_
    refine fw_iret C ⟨?_, rfl⟩ hP hS ⟨Nat.le_of_ble_eq_true rfl, Nat.le_of_ble_eq_true rfl⟩ dX0_in_20
    rw [if_pos hn0]
end DESK
end
section
/-! the desk: key, change, drop, lower, takeLeast -/
set_option maxRecDepth 100000
theorem lkey_lo (key : Int32) {i : Nat} (hi : i < 64) : lkey key i &&& 63 = nI i := by
  obtain ⟨a, ha, he⟩ := pk_andE key (m := 65535) 16 (by decide)
  unfold lkey
  rw [he, show (64 : Int32) = nI 64 from rfl, pk_mul, nI_add, pk_andN (by omega) (m := 63) 6 (by decide)]
  congr 1
  omega
theorem lkey_c (key : Int32) (i : Nat) : (key &&& 65535) * 64 + nI i = lkey key i := by
  unfold lkey
  rw [Int32.mul_comm]
theorem iar_ne {g : fG} {f : Nat → Int32} {cA : ClassId} {n : Nat} {q : Nat → Option Nat} (h : (some (iar g f) : Option va_E) = some (rar cA n q)) : False := by
  have h1 := Sum.inl.inj (Option.some.inj h)
  have h2 := congrArg (fun x => x.2.2) h1
  cases h2
theorem dnr_f {r : Nat} (h : r < 2) : dnr r = false := decide_eq_false (by omega)
theorem dnr_t {r : Nat} (h : ¬ r < 2) : dnr r = true := decide_eq_true (by omega)
section DKT
variable {g : fG} {D F Wy Hm : Nat} {hp : Nat → Nat} {nx : Nat} {nd : Nat → Nat} {fk fk' fv fh fh' : Nat → Int32} {ff fw : Nat → Option Nat} {fd fd' : Nat → Int32} {w w1 : fW}
variable {ns : List Nat} {kf vf : Nat → Nat} {oc ys : Nat → Option Nat} {ow : Nat → Nat} {kv : Nat → Int32}
theorem DA.keep (h : DA g D F Wy Hm hp nx nd fk fh ff fw fd w) (hC : HC g hp nx nd fk fv fh ns kf vf oc ys ow kv w) {r : Nat} (hr : r < 4) (keep : ∀ (z : Nat) (e : va_E), w z = some e → z ∉ ns → z ≠ hp r → w1 z = some e) : DA g D F Wy Hm hp nx nd fk fh ff fw fd w1 :=
  h.mono (fun z ci fs hc hz => keep z _ hz (hC.out hz (fun fs' e => by cases e; omega)) (hC.neh hr hz (fun fs' e => by cases e; omega))) (fun z cA n f hz => keep z _ hz (hC.out hz (fun fs' e => by cases e)) (hC.neh hr hz (fun fs' e => by cases e))) (fun f hz => keep _ _ hz (hC.out hz (fun fs' e => by cases e)) (hC.neh hr hz (fun fs' e => by cases e)))
theorem HC.fr (hC : HC g hp nx nd fk fv fh ns kf vf oc ys ow kv w) {r : Nat} (hr : r < 4) (keep : ∀ (z : Nat) (e : va_E), w z = some e → z ∉ ns → z ≠ hp r → w1 z = some e) : fFr D Wy Hm hp w w1 := fun z e hz _ _ _ hh h3 => keep z e hz (hC.out hz h3) (hh r hr)
theorem DA.setk (h : DA g D F Wy Hm hp nx nd fk fh ff fw fd w) (hk : ∀ i, i < nx → fk' i &&& 63 = nI i) : DA g D F Wy Hm hp nx nd fk' fh ff fw fd w := by
  obtain ⟨a1, a2, a3, a4, a5, a6, a7, a8, a9, a10, a11, a12⟩ := h
  exact ⟨a1, a2, a3, a4, a5, a6, a7, a8, a9, hk, a11, a12⟩
theorem DA.setH (h : DA g D F Wy Hm hp nx nd fk fh ff fw fd w) (hd : ∀ i, i < nx → fd' i = fh' i) (ho : ∀ i, i < nx → fh' i = 0 ∨ ∃ r, r < 4 ∧ fh' i = nI (1 + r)) : DA g D F Wy Hm hp nx nd fk fh' ff fw fd' (fset w Hm (iar g fd')) := by
  obtain ⟨a1, a2, a3, a4, a5, a6, a7, a8, a9, a10, a11, a12⟩ := h
  have n1 : D ≠ Hm := fun z => by rw [z, a6] at a1; cases a1
  have n2 : F ≠ Hm := fun z => by rw [z, a6] at a2; exact iar_ne a2
  have n3 : Wy ≠ Hm := fun z => by rw [z, a6] at a4; exact iar_ne a4
  refine ⟨(fset_n n1).trans a1, (fset_n n2).trans a2, a3, (fset_n n3).trans a4, a5, fset_s, hd, a8, a9, a10, ho, fun j hj => ?_⟩
  rw [fset_n (fun z => by have := a12 j hj; rw [z, a6] at this; cases this)]
  exact a12 j hj
theorem HC.setA (hC : HC g hp nx nd fk fv fh ns kf vf oc ys ow kv w) {z0 : Nat} {x : ClassId × vp_A} (hz0 : w z0 = some (.inl x)) (e : va_E) : HC g hp nx nd fk fv fh ns kf vf oc ys ow kv (fset w z0 e) :=
  hC.mono (fun z ci fs _ hz => by
    rw [fset_n (fun y => by rw [y, hz0] at hz; cases hz)]
    exact hz)
theorem HC.setO (hC : HC g hp nx nd fk fv fh ns kf vf oc ys ow kv w) {z0 : Nat} {fs0 : List Value} (hz0 : w z0 = some (.inr (0, fs0))) (e : va_E) : HC g hp nx nd fk fv fh ns kf vf oc ys ow kv (fset w z0 e) :=
  hC.mono (fun z ci fs hc hz => by
    rw [fset_n (fun y => by rw [y, hz0] at hz; cases hz; omega)]
    exact hz)
theorem fFr.setH {D Wy Hm : Nat} {hp : Nat → Nat} {w : fW} {e0 : va_E} : fFr D Wy Hm hp w (fset w Hm e0) := fun z e hz _ _ h3 _ _ => by
  rw [fset_n h3]
  exact hz
theorem DA.le (h : DA g D F Wy Hm hp nx nd fk fh ff fw fd w) (hl : fLe w w1) : DA g D F Wy Hm hp nx nd fk fh ff fw fd w1 := h.mono (fun z ci fs _ hz => hl z _ hz) (fun z cA n f hz => hl z _ hz) (fun f hz => hl _ _ hz)
theorem HC.le (hC : HC g hp nx nd fk fv fh ns kf vf oc ys ow kv w) (hl : fLe w w1) : HC g hp nx nd fk fv fh ns kf vf oc ys ow kv w1 := hC.mono (fun z ci fs _ hz => hl z _ hz)
theorem upd_ho {i0 : Nat} (ho : ∀ i, i < nx → fh i = 0 ∨ ∃ r, r < 4 ∧ fh i = nI (1 + r)) : ∀ i, i < nx → upd fh i0 0 i = 0 ∨ ∃ r, r < 4 ∧ upd fh i0 0 i = nI (1 + r) := fun i hi => by
  by_cases h : i = i0
  · rw [h, upd_s]
    exact Or.inl rfl
  · rw [upd_n h]
    exact ho i hi
theorem upd_hd {i0 : Nat} (hd : ∀ i, i < nx → fd i = fh i) (x : Int32) : ∀ i, i < nx → upd fd i0 x i = upd fh i0 x i := fun i hi => by
  by_cases h : i = i0
  · rw [h, upd_s, upd_s]
  · rw [upd_n h, upd_n h]
    exact hd i hi
end DKT
section DESK2
variable (l : Launch) (g : fG) (D F Wy Hm : Nat) (hp : Nat → Nat) (nx : Nat) (fk fv fh : Nat → Int32) (w : fW)
set_option maxHeartbeats 4000000 in
theorem m_dkey (hK : DK g D F Wy Hm hp nx fk fv fh w) (x : Int32) : fMet l g yX0_key cX0_key 3 (some .int) 2 30 0 0 [.ref D, .int x] w (fun v w1 => v = some (.int (obf fk (thr nx fh x))) ∧ w1 = w) := by
  refine fw_of (by decide) (Nat.le_of_ble_eq_true rfl) ?_
  intro p e s m below meth c ls C hnm hP hl
  have hS : va_S (fA g) s.heap s.heap [] := va_S.rf
  obtain ⟨nd, ns, kf, vf, oc, ys, ow, kv, ff, fw, fd, hA, hC⟩ := hK
  have hn64 := hA.2.2.2.2.2.2.2.2.1
  refine lv_aload_n C.1 C.2.1 dX0_key_0 rfl (lv_at hl 0 rfl) ?_
  refine lv_iload_n C.1 C.2.1 dX0_key_1 rfl (lv_at hl 1 rfl) ?_
  refine fw_V C 1 (As := [.int x]) (rest := []) (m_in l g D F Wy Hm nx w hA.1 hn64 x) (lw_V q404 q406 qs9 q13 q407) (by decide +kernel) ⟨Nat.le_of_ble_eq_true rfl, Nat.le_of_ble_eq_true rfl⟩ hP hS hA.1 rfl rfl rfl hl.1 (Nat.le_of_ble_eq_true rfl) dX0_key_2 ⟨Nat.le_of_ble_eq_true rfl, Nat.le_of_ble_eq_true rfl⟩ ?_
  rintro r w1 H1 locs1 ⟨rfl, e1⟩ hP hS
  rw [e1] at hP
  clear e1 w1
  by_cases hn0 : nx = 0
  · rw [if_pos hn0]
    refine lv_istore_n (lv' := [(2, .int (-1)), (0, .ref D), (1, .int x)]) C.1 C.2.1 dX0_key_5 rfl hl (by decide) rfl (fun ls hl => ?_)
    refine lv_iload_n C.1 C.2.1 dX0_key_6 rfl (lv_at hl 0 rfl) ?_
    refine lv_if_lt (tgt := 19) C.1 C.2.1 dX0_key_7 (by decide) (fun c1 => ?_) (fun c1 => ?_)
    · refine lv_iconst (v := (-1)) C.1 C.2.1 dX0_key_19 (by decide) ?_
      refine lv_goto (tgt := 40) C.1 C.2.1 dX0_key_20 (by decide) ?_
      refine fw_iret C ⟨?_, rfl⟩ hP hS ⟨Nat.le_of_ble_eq_true rfl, Nat.le_of_ble_eq_true rfl⟩ dX0_key_40
      rw [thr, if_pos hn0]
      rfl
    · exact absurd (show (-1 : Int32) < 0 by decide) c1
  · rw [if_neg hn0]
    have hlt := idx_lt x (nx := nx) (by omega)
    refine lv_istore_n (lv' := [(2, .int (nI (idx x nx))), (0, .ref D), (1, .int x)]) C.1 C.2.1 dX0_key_5 rfl hl (by decide) rfl (fun ls hl => ?_)
    refine lv_iload_n C.1 C.2.1 dX0_key_6 rfl (lv_at hl 0 rfl) ?_
    refine lv_if_lt (tgt := 19) C.1 C.2.1 dX0_key_7 (by decide) (fun c1 => ?_) (fun c1 => ?_)
    · exact absurd c1 (nI_pos (by omega))
    · refine lv_aload_n C.1 C.2.1 dX0_key_10 rfl (lv_at hl 1 rfl) ?_
      refine fw_get C in_X0 hP hA.1 rfl 2 (by decide) q77 rfl rfl dX0_key_11 ?_
      refine lv_iload_n C.1 C.2.1 dX0_key_14 rfl (lv_at hl 0 rfl) ?_
      refine fw_ild C hP hA.2.2.2.2.2.1 (by omega) dX0_key_15 ?_
      rw [hA.2.2.2.2.2.2.1 _ hlt]
      refine lv_if_ne (tgt := 23) C.1 C.2.1 dX0_key_16 (by decide) (fun c2 => ?_) (fun c2 => ?_)
      · refine lv_aload_n C.1 C.2.1 dX0_key_23 rfl (lv_at hl 1 rfl) ?_
        refine fw_get C in_X0 hP hA.1 rfl 1 (by decide) q76 rfl rfl dX0_key_24 ?_
        refine lv_iload_n C.1 C.2.1 dX0_key_27 rfl (lv_at hl 0 rfl) ?_
        refine dx_way C hP hA hlt dX0_key_28 ?_
        refine dx_key C hP hS hC.mk (hC.mem hlt) (hC.2.2.2.1 _ hlt).2.1 ⟨Nat.le_of_ble_eq_true rfl, Nat.le_of_ble_eq_true rfl⟩ hl.1 (Nat.le_of_ble_eq_true rfl) ⟨Nat.le_of_ble_eq_true rfl, Nat.le_of_ble_eq_true rfl⟩ dX0_key_29 dX0_key_34 dX0_key_37 (fun H locs hP hS => ?_)
        refine fw_iret C ⟨?_, rfl⟩ hP hS ⟨Nat.le_of_ble_eq_true rfl, Nat.le_of_ble_eq_true rfl⟩ dX0_key_40
        rw [thr, if_neg hn0, if_neg c2]
        rfl
      · refine lv_iconst (v := (-1)) C.1 C.2.1 dX0_key_19 (by decide) ?_
        refine lv_goto (tgt := 40) C.1 C.2.1 dX0_key_20 (by decide) ?_
        refine fw_iret C ⟨?_, rfl⟩ hP hS ⟨Nat.le_of_ble_eq_true rfl, Nat.le_of_ble_eq_true rfl⟩ dX0_key_40
        rw [thr, if_neg hn0, if_pos c2]
        rfl
set_option maxHeartbeats 4000000 in
theorem m_dchange (hK : DK g D F Wy Hm hp nx fk fv fh w) (x val : Int32) : fMet l g yX0_change cX0_change 4 (some .boolean) 4 100 1 1 [.ref D, .int x, .int val] w (fun v w1 => v = some (.int (ob01 (thr nx fh x))) ∧ DK g D F Wy Hm hp nx fk (upo fv (thr nx fh x) (fun _ => val)) fh w1 ∧ fFr D Wy Hm hp w w1) := by
  refine fw_of (by decide) (Nat.le_of_ble_eq_true rfl) ?_
  intro p e s m below meth c ls C hnm hP hl
  have hS : va_S (fA g) s.heap s.heap [] := va_S.rf
  have hK0 := hK
  obtain ⟨nd, ns, kf, vf, oc, ys, ow, kv, ff, fw, fd, hA, hC⟩ := hK
  have hn64 := hA.2.2.2.2.2.2.2.2.1
  refine lv_aload_n C.1 C.2.1 dX0_change_0 rfl (lv_at hl 0 rfl) ?_
  refine lv_iload_n C.1 C.2.1 dX0_change_1 rfl (lv_at hl 1 rfl) ?_
  refine fw_V C 1 (As := [.int x]) (rest := []) (m_in l g D F Wy Hm nx w hA.1 hn64 x) (lw_V q404 q406 qs9 q13 q407) (by decide +kernel) ⟨Nat.le_of_ble_eq_true rfl, Nat.le_of_ble_eq_true rfl⟩ hP hS hA.1 rfl rfl rfl hl.1 (Nat.le_of_ble_eq_true rfl) dX0_change_2 ⟨Nat.le_of_ble_eq_true rfl, Nat.le_of_ble_eq_true rfl⟩ ?_
  rintro r w1 H1 locs1 ⟨rfl, e1⟩ hP hS
  rw [e1] at hP
  clear e1 w1
  by_cases hn0 : nx = 0
  · rw [if_pos hn0]
    have ht : thr nx fh x = none := if_pos hn0
    refine lv_istore_n (lv' := [(3, .int (-1)), (0, .ref D), (1, .int x), (2, .int val)]) C.1 C.2.1 dX0_change_5 rfl hl (by decide) rfl (fun ls hl => ?_)
    refine lv_iload_n C.1 C.2.1 dX0_change_6 rfl (lv_at hl 0 rfl) ?_
    refine lv_if_lt (tgt := 19) C.1 C.2.1 dX0_change_7 (by decide) (fun c1 => ?_) (fun c1 => ?_)
    · refine lv_iconst (v := 0) C.1 C.2.1 dX0_change_19 (by decide) ?_
      rw [ht]
      exact fw_zret C narrow_b0 ⟨rfl, hK0, fFr.rf⟩ hP hS ⟨Nat.le_of_ble_eq_true rfl, Nat.le_of_ble_eq_true rfl⟩ dX0_change_20
    · exact absurd (show (-1 : Int32) < 0 by decide) c1
  · rw [if_neg hn0]
    have hlt := idx_lt x (nx := nx) (by omega)
    refine lv_istore_n (lv' := [(3, .int (nI (idx x nx))), (0, .ref D), (1, .int x), (2, .int val)]) C.1 C.2.1 dX0_change_5 rfl hl (by decide) rfl (fun ls hl => ?_)
    refine lv_iload_n C.1 C.2.1 dX0_change_6 rfl (lv_at hl 0 rfl) ?_
    refine lv_if_lt (tgt := 19) C.1 C.2.1 dX0_change_7 (by decide) (fun c1 => ?_) (fun c1 => ?_)
    · exact absurd c1 (nI_pos (by omega))
    · refine lv_aload_n C.1 C.2.1 dX0_change_10 rfl (lv_at hl 1 rfl) ?_
      refine fw_get C in_X0 hP hA.1 rfl 2 (by decide) q77 rfl rfl dX0_change_11 ?_
      refine lv_iload_n C.1 C.2.1 dX0_change_14 rfl (lv_at hl 0 rfl) ?_
      refine fw_ild C hP hA.2.2.2.2.2.1 (by omega) dX0_change_15 ?_
      rw [hA.2.2.2.2.2.2.1 _ hlt]
      refine lv_if_ne (tgt := 21) C.1 C.2.1 dX0_change_16 (by decide) (fun c2 => ?_) (fun c2 => ?_)
      · have ht : thr nx fh x = some (idx x nx) := by rw [thr, if_neg hn0, if_neg c2]
        refine lv_aload_n C.1 C.2.1 dX0_change_21 rfl (lv_at hl 1 rfl) ?_
        refine fw_get C in_X0 hP hA.1 rfl 1 (by decide) q76 rfl rfl dX0_change_22 ?_
        refine lv_iload_n C.1 C.2.1 dX0_change_25 rfl (lv_at hl 0 rfl) ?_
        refine dx_way C hP hA hlt dX0_change_26 ?_
        refine lv_iload_n C.1 C.2.1 dX0_change_27 rfl (lv_at hl 3 rfl) ?_
        refine fw_S C 1 (As := [.int val]) (rest := [.ref (nd (idx x nx))]) (m_valueOf l g w val hA.2.2.2.2.2.2.2.2.2.2.2) (lw_S q94 q95 q17 q96) (by decide +kernel) ⟨Nat.le_of_ble_eq_true rfl, Nat.le_of_ble_eq_true rfl⟩ hP hS rfl rfl hl.1 (Nat.le_of_ble_eq_true rfl) dX0_change_28 ⟨Nat.le_of_ble_eq_true rfl, Nat.le_of_ble_eq_true rfl⟩ ?_
        rintro r w1 H1 locs1 ⟨a, rfl, e1, hbx⟩ hP hS
        rw [e1] at hP
        clear e1 w1
        have hle := hbx.le
        have hC1 := hC.le hle
        have hM := m_setValue l g ns kf vf oc ys ow (fset w a (fInt val)) (nd (idx x nx)) a (fun a ha => (hC1.2.2.1 a ha).1) (hC1.mem hlt)
        rw [hC1.mk] at hM
        have hrn := (hC1.2.2.1 _ (hC1.mem hlt)).2
        refine fw_F C 1 (x := ⟨"AddressableHeap$Handle", "setValue", "(Ljava/lang/Object;)V"⟩) (Cn := RX3) (As := [.ref a]) (rest := []) hM (fw_lF q461 q464 q466 q23 q468) C.2.2.2.2.2.2.2.2.2.1.2.2.2.2.2.2.2.2.2.2.2.2.2.1 (by decide +kernel) ⟨Nat.le_of_ble_eq_true rfl, Nat.le_of_ble_eq_true rfl⟩ hP hS (fw_recv (ci := 3) C hP hrn rfl) rfl rfl hl.1 (Nat.le_of_ble_eq_true rfl) dX0_change_31 ⟨Nat.le_of_ble_eq_true rfl, Nat.le_of_ble_eq_true rfl⟩ ?_
        rintro r w1 H1 locs1 ⟨rfl, e1⟩ hP hS
        obtain ⟨k1, k2⟩ := hC1.val hlt fset_s e1
        refine lv_iconst (v := 1) C.1 C.2.1 dX0_change_36 (by decide) ?_
        rw [ht]
        refine fw_zret C narrow_b1 ⟨rfl, ⟨nd, ns, kf, _, oc, ys, ow, kv, ff, fw, fd, ?_, k2⟩, (fFr.le hle).tr (hC1.fr (r := 0) (by omega) (fun z e a b _ => k1 z e a b))⟩ hP hS ⟨Nat.le_of_ble_eq_true rfl, Nat.le_of_ble_eq_true rfl⟩ dX0_change_37
        exact (hA.le hle).keep hC1 (r := 0) (by omega) (fun z e a b _ => k1 z e a b)
      · have ht : thr nx fh x = none := by rw [thr, if_neg hn0, if_pos c2]
        refine lv_iconst (v := 0) C.1 C.2.1 dX0_change_19 (by decide) ?_
        rw [ht]
        exact fw_zret C narrow_b0 ⟨rfl, hK0, fFr.rf⟩ hP hS ⟨Nat.le_of_ble_eq_true rfl, Nat.le_of_ble_eq_true rfl⟩ dX0_change_20
set_option maxHeartbeats 4000000 in
theorem m_ddrop (hK : DK g D F Wy Hm hp nx fk fv fh w) (x : Int32) : fMet l g yX0_drop cX0_drop 3 (some .boolean) 8 210 3 5 [.ref D, .int x] w (fun v w1 => v = some (.int (ob01 (thr nx fh x))) ∧ DK g D F Wy Hm hp nx fk fv (upo fh (thr nx fh x) (fun _ => 0)) w1 ∧ fFr D Wy Hm hp w w1) := by
  refine fw_of (by decide) (Nat.le_of_ble_eq_true rfl) ?_
  intro p e s m below meth c ls C hnm hP hl
  have hS : va_S (fA g) s.heap s.heap [] := va_S.rf
  have hK0 := hK
  obtain ⟨nd, ns, kf, vf, oc, ys, ow, kv, ff, fw, fd, hA, hC⟩ := hK
  have hn64 := hA.2.2.2.2.2.2.2.2.1
  refine lv_aload_n C.1 C.2.1 dX0_drop_0 rfl (lv_at hl 0 rfl) ?_
  refine lv_iload_n C.1 C.2.1 dX0_drop_1 rfl (lv_at hl 1 rfl) ?_
  refine fw_V C 1 (As := [.int x]) (rest := []) (m_in l g D F Wy Hm nx w hA.1 hn64 x) (lw_V q404 q406 qs9 q13 q407) (by decide +kernel) ⟨Nat.le_of_ble_eq_true rfl, Nat.le_of_ble_eq_true rfl⟩ hP hS hA.1 rfl rfl rfl hl.1 (Nat.le_of_ble_eq_true rfl) dX0_drop_2 ⟨Nat.le_of_ble_eq_true rfl, Nat.le_of_ble_eq_true rfl⟩ ?_
  rintro r w1 H1 locs1 ⟨rfl, e1⟩ hP hS
  rw [e1] at hP
  clear e1 w1
  by_cases hn0 : nx = 0
  · rw [if_pos hn0]
    have ht : thr nx fh x = none := if_pos hn0
    refine lv_istore_n (lv' := [(2, .int (-1)), (0, .ref D), (1, .int x)]) C.1 C.2.1 dX0_drop_5 rfl hl (by decide) rfl (fun ls hl => ?_)
    refine lv_iload_n C.1 C.2.1 dX0_drop_6 rfl (lv_at hl 0 rfl) ?_
    refine lv_if_lt (tgt := 19) C.1 C.2.1 dX0_drop_7 (by decide) (fun c1 => ?_) (fun c1 => ?_)
    · refine lv_iconst (v := 0) C.1 C.2.1 dX0_drop_19 (by decide) ?_
      rw [ht]
      exact fw_zret C narrow_b0 ⟨rfl, hK0, fFr.rf⟩ hP hS ⟨Nat.le_of_ble_eq_true rfl, Nat.le_of_ble_eq_true rfl⟩ dX0_drop_20
    · exact absurd (show (-1 : Int32) < 0 by decide) c1
  · rw [if_neg hn0]
    have hlt := idx_lt x (nx := nx) (by omega)
    refine lv_istore_n (lv' := [(2, .int (nI (idx x nx))), (0, .ref D), (1, .int x)]) C.1 C.2.1 dX0_drop_5 rfl hl (by decide) rfl (fun ls hl => ?_)
    refine lv_iload_n C.1 C.2.1 dX0_drop_6 rfl (lv_at hl 0 rfl) ?_
    refine lv_if_lt (tgt := 19) C.1 C.2.1 dX0_drop_7 (by decide) (fun c1 => ?_) (fun c1 => ?_)
    · exact absurd c1 (nI_pos (by omega))
    · refine lv_aload_n C.1 C.2.1 dX0_drop_10 rfl (lv_at hl 1 rfl) ?_
      refine fw_get C in_X0 hP hA.1 rfl 2 (by decide) q77 rfl rfl dX0_drop_11 ?_
      refine lv_iload_n C.1 C.2.1 dX0_drop_14 rfl (lv_at hl 0 rfl) ?_
      refine fw_ild C hP hA.2.2.2.2.2.1 (by omega) dX0_drop_15 ?_
      rw [hA.2.2.2.2.2.2.1 _ hlt]
      refine lv_if_ne (tgt := 21) C.1 C.2.1 dX0_drop_16 (by decide) (fun c2 => ?_) (fun c2 => ?_)
      · have ht : thr nx fh x = some (idx x nx) := by rw [thr, if_neg hn0, if_neg c2]
        obtain ⟨r, hr, hfr⟩ := (hA.2.2.2.2.2.2.2.2.2.2.1 _ hlt).resolve_left c2
        obtain ⟨at_, hR⟩ := hC.2.2.2.2.1 r hr
        obtain ⟨j, j1, j2, j3⟩ := (hR.2.2.2.2 (nd (idx x nx))).mpr ⟨_, hlt, rfl, hfr⟩
        have hc65 : cnt fh r nx < 65 := Nat.lt_of_le_of_lt cnt_le (by omega)
        have hrt := hR.1
        rw [show fRt (cnt fh r nx) at_ = some (at_ 1) from if_neg (by omega)] at hrt
        have hM := m_delete l g ns kf vf oc ys ow w (hp r) (dnr r) kv (cnt fh r nx) at_ j (fun a ha => (hC.2.2.1 a ha).1) (hC.2.2.2.2.2.1 r hr) (hC.hpn hr) hrt hC.kvs hR.2.1 hR.2.2.1 hR.2.2.2.1 j1 j2 hc65 (by rw [j3]; exact hC.2.2.2.2.2.2.2 _ r hlt hr hfr)
        rw [j3, hC.mk] at hM
        have hrn := (hC.2.2.1 _ (hC.mem hlt)).2
        refine lv_aload_n C.1 C.2.1 dX0_drop_21 rfl (lv_at hl 1 rfl) ?_
        refine fw_get C in_X0 hP hA.1 rfl 1 (by decide) q76 rfl rfl dX0_drop_22 ?_
        refine lv_iload_n C.1 C.2.1 dX0_drop_25 rfl (lv_at hl 0 rfl) ?_
        refine dx_way C hP hA hlt dX0_drop_26 ?_
        refine fw_F C 0 (x := ⟨"AddressableHeap$Handle", "delete", "()V"⟩) (Cn := RX3) (As := []) (rest := []) hM (fw_lF q445 q448 q450 q23 q452) C.2.2.2.2.2.2.2.2.2.1.2.2.2.2.2.2.2.2.2.2.2.2.2.2.2 (by decide +kernel) ⟨Nat.le_of_ble_eq_true rfl, Nat.le_of_ble_eq_true rfl⟩ hP hS (fw_recv (ci := 3) C hP hrn rfl) rfl rfl hl.1 (Nat.le_of_ble_eq_true rfl) dX0_drop_27 ⟨Nat.le_of_ble_eq_true rfl, Nat.le_of_ble_eq_true rfl⟩ ?_
        rintro rv w1 H1 locs1 ⟨rfl, hq⟩ hP hS
        obtain ⟨oc1, ys1, k1, k2⟩ := hC.rem hr hlt hfr hR hq
        have hA1 := hA.keep hC hr k1
        refine lv_aload_n C.1 C.2.1 dX0_drop_32 rfl (lv_at hl 1 rfl) ?_
        refine fw_get C in_X0 hP hA1.1 rfl 2 (by decide) q77 rfl rfl dX0_drop_33 ?_
        refine lv_iload_n C.1 C.2.1 dX0_drop_36 rfl (lv_at hl 0 rfl) ?_
        refine lv_iconst (v := 0) C.1 C.2.1 dX0_drop_37 (by decide) ?_
        refine fw_ist C hP hS hA.2.2.2.2.2.2.2.1.2.2 hA1.2.2.2.2.2.1 (by omega) dX0_drop_38 (fun H locs hP hS => ?_)
        refine lv_iconst (v := 1) C.1 C.2.1 dX0_drop_39 (by decide) ?_
        rw [ht]
        exact fw_zret C narrow_b1 ⟨rfl, ⟨nd, ns, kf, vf, oc1, ys1, ow, kv, ff, fw, _, hA1.setH (upd_hd hA.2.2.2.2.2.2.1 0) (upd_ho hA.2.2.2.2.2.2.2.2.2.2.1), k2.setA hA1.2.2.2.2.2.1 _⟩, (hC.fr hr k1).tr fFr.setH⟩ hP hS ⟨Nat.le_of_ble_eq_true rfl, Nat.le_of_ble_eq_true rfl⟩ dX0_drop_40
      · have ht : thr nx fh x = none := by rw [thr, if_neg hn0, if_pos c2]
        refine lv_iconst (v := 0) C.1 C.2.1 dX0_drop_19 (by decide) ?_
        rw [ht]
        exact fw_zret C narrow_b0 ⟨rfl, hK0, fFr.rf⟩ hP hS ⟨Nat.le_of_ble_eq_true rfl, Nat.le_of_ble_eq_true rfl⟩ dX0_drop_20
set_option maxHeartbeats 4000000 in
theorem m_dtake (hK : DK g D F Wy Hm hp nx fk fv fh w) (x : Int32) (r : Nat) (hr : r < 4) (hx : x &&& 3 = nI r) : fMet l g yX0_takeLeast cX0_takeLeast 4 (some .int) 7 180 3 5 [.ref D, .int x] w (fun v w1 => v = some (.int (obf fk (fstN fk fh r nx))) ∧ DK g D F Wy Hm hp nx fk fv (upo fh (fstN fk fh r nx) (fun _ => 0)) w1 ∧ fFr D Wy Hm hp w w1) := by
  refine fw_of (by decide) (Nat.le_of_ble_eq_true rfl) ?_
  intro p e s m below meth c ls C hnm hP hl
  have hS : va_S (fA g) s.heap s.heap [] := va_S.rf
  have hK0 := hK
  obtain ⟨nd, ns, kf, vf, oc, ys, ow, kv, ff, fw, fd, hA, hC⟩ := hK
  obtain ⟨at_, hR⟩ := hC.2.2.2.2.1 r hr
  have hn64 := hA.2.2.2.2.2.2.2.2.1
  have hlo := hA.2.2.2.2.2.2.2.2.2.1
  have hc65 : cnt fh r nx < 65 := Nat.lt_of_le_of_lt cnt_le (by omega)
  refine lv_aload_n C.1 C.2.1 dX0_takeLeast_0 rfl (lv_at hl 0 rfl) ?_
  refine fw_get C in_X0 hP hA.1 rfl 0 (by decide) q75 rfl rfl dX0_takeLeast_1 ?_
  refine lv_iload_n C.1 C.2.1 dX0_takeLeast_4 rfl (lv_at hl 1 rfl) ?_
  refine lv_iconst (v := 3) C.1 C.2.1 dX0_takeLeast_5 (by decide) ?_
  refine lv_iand C.1 C.2.1 dX0_takeLeast_6 ?_
  rw [hx]
  refine dx_file C hP hA hr dX0_takeLeast_7 ?_
  refine lv_astore_n (lv' := [(2, .ref (hp r)), (0, .ref D), (1, .int x)]) C.1 C.2.1 dX0_takeLeast_8 rfl hl (by decide) rfl (fun ls hl => ?_)
  refine lv_aload_n C.1 C.2.1 dX0_takeLeast_9 rfl (lv_at hl 0 rfl) ?_
  refine fw_V C 0 (As := []) (rest := []) (m_isEmpty l g w (hp r) _ _ _ hR.1 hc65) (lw_V q321 q322 q323 q14 q324) (by decide +kernel) ⟨Nat.le_of_ble_eq_true rfl, Nat.le_of_ble_eq_true rfl⟩ hP hS hR.1 rfl rfl rfl hl.1 (Nat.le_of_ble_eq_true rfl) dX0_takeLeast_10 ⟨Nat.le_of_ble_eq_true rfl, Nat.le_of_ble_eq_true rfl⟩ ?_
  rintro r w1 H1 locs1 ⟨rfl, e1⟩ hP hS
  rw [e1] at hP
  clear e1 w1
  rcases hC.fst hlo hn64 hR with ⟨z1, z2⟩ | ⟨z1, i, i1, i2, i3, i4⟩
  · rw [if_pos z1]
    refine lv_if_eq (tgt := 18) C.1 C.2.1 dX0_takeLeast_13 (by decide) (fun c1 => ?_) (fun c1 => ?_)
    · exact absurd c1 (by decide)
    · refine lv_iconst (v := (-1)) C.1 C.2.1 dX0_takeLeast_16 (by decide) ?_
      rw [z2]
      exact fw_iret C ⟨rfl, hK0, fFr.rf⟩ hP hS ⟨Nat.le_of_ble_eq_true rfl, Nat.le_of_ble_eq_true rfl⟩ dX0_takeLeast_17
  · rw [if_neg z1]
    refine lv_if_eq (tgt := 18) C.1 C.2.1 dX0_takeLeast_13 (by decide) (fun c1 => ?_) (fun c1 => ?_)
    · refine lv_aload_n C.1 C.2.1 dX0_takeLeast_18 rfl (lv_at hl 0 rfl) ?_
      have hrt := hR.1
      rw [show fRt (cnt fh r nx) at_ = some (at_ 1) from if_neg z1] at hrt
      have hM := m_deleteMin l g ns kf vf oc ys ow w (hp r) (dnr r) kv (cnt fh r nx) at_ (fun a ha => (hC.2.2.1 a ha).1) (hC.2.2.2.2.2.1 r hr) (hC.hpn hr) hrt hC.kvs hR.2.1 hR.2.2.1 (fun x a1 a2 => hR.2.2.2.1 x (by omega) a2) (by omega) hc65
      rw [hC.mk] at hM
      refine fw_V C 0 (As := []) (rest := []) hM (lw_V q392 q393 q394 q14 q395) (by decide +kernel) ⟨Nat.le_of_ble_eq_true rfl, Nat.le_of_ble_eq_true rfl⟩ hP hS hR.1 rfl rfl rfl hl.1 (Nat.le_of_ble_eq_true rfl) dX0_takeLeast_19 ⟨Nat.le_of_ble_eq_true rfl, Nat.le_of_ble_eq_true rfl⟩ ?_
      rintro rv w1 H1 locs1 ⟨rfl, hq⟩ hP hS
      have hq2 : deQ g ns kf vf oc ys ow w (hp r) (dnr r) kv (cnt fh r nx) at_ (nd i) w1 := by
        rw [← i3]
        exact hq
      obtain ⟨oc1, ys1, k1, k2⟩ := hC.rem hr i1 i4 hR hq2
      have hA1 := hA.keep hC hr k1
      rw [i3]
      refine dx_key C hP hS k2.mk (k2.mem i1) (k2.2.2.2.1 i i1).2.1 ⟨Nat.le_of_ble_eq_true rfl, Nat.le_of_ble_eq_true rfl⟩ hl.1 (Nat.le_of_ble_eq_true rfl) ⟨Nat.le_of_ble_eq_true rfl, Nat.le_of_ble_eq_true rfl⟩ dX0_takeLeast_22 dX0_takeLeast_27 dX0_takeLeast_30 (fun H locs hP hS => ?_)
      refine lv_istore_n (lv' := [(3, .int (fk i)), (2, .ref (hp r)), (0, .ref D), (1, .int x)]) C.1 C.2.1 dX0_takeLeast_33 rfl hl (by decide) rfl (fun ls hl => ?_)
      refine lv_aload_n C.1 C.2.1 dX0_takeLeast_34 rfl (lv_at hl 2 rfl) ?_
      refine fw_get C in_X0 hP hA1.1 rfl 2 (by decide) q77 rfl rfl dX0_takeLeast_35 ?_
      refine lv_iload_n C.1 C.2.1 dX0_takeLeast_38 rfl (lv_at hl 0 rfl) ?_
      refine lv_bipush (v := 63) C.1 C.2.1 dX0_takeLeast_39 (by decide) ?_
      refine lv_iand C.1 C.2.1 dX0_takeLeast_41 ?_
      refine lv_iconst (v := 0) C.1 C.2.1 dX0_takeLeast_42 (by decide) ?_
      rw [hlo i i1]
      refine fw_ist C hP hS hA.2.2.2.2.2.2.2.1.2.2 hA1.2.2.2.2.2.1 (by omega) dX0_takeLeast_43 (fun H locs hP hS => ?_)
      refine lv_iload_n C.1 C.2.1 dX0_takeLeast_44 rfl (lv_at hl 0 rfl) ?_
      rw [i2]
      exact fw_iret C ⟨rfl, ⟨nd, ns, kf, vf, oc1, ys1, ow, kv, ff, fw, _, hA1.setH (upd_hd hA.2.2.2.2.2.2.1 0) (upd_ho hA.2.2.2.2.2.2.2.2.2.2.1), k2.setA hA1.2.2.2.2.2.1 _⟩, (hC.fr hr k1).tr fFr.setH⟩ hP hS ⟨Nat.le_of_ble_eq_true rfl, Nat.le_of_ble_eq_true rfl⟩ dX0_takeLeast_45
    · exact absurd rfl c1
end DESK2
end
section
/-! the desk: lower, clear, put -/
set_option maxRecDepth 100000
theorem rar_ne {cA cB : ClassId} {f f' : Nat → Option Nat} (h : (some (rar cA 4 f) : Option va_E) = some (rar cB 64 f')) : False := by
  have h1 := Sum.inl.inj (Option.some.inj h)
  have h2 : 4 = 64 := congrArg (fun x => x.2.1) h1
  omega
section DKU
variable {g : fG} {D F Wy Hm : Nat} {hp : Nat → Nat} {nx : Nat} {nd : Nat → Nat} {fk fv fh : Nat → Int32} {ff fw : Nat → Option Nat} {fd : Nat → Int32} {w w1 : fW}
variable {ns : List Nat} {kf vf : Nat → Nat} {oc ys : Nat → Option Nat} {ow : Nat → Nat} {kv : Nat → Int32}
theorem DA.nes (h : DA g D F Wy Hm hp nx nd fk fh ff fw fd w) : D ≠ F ∧ D ≠ Wy ∧ D ≠ Hm ∧ F ≠ Wy ∧ F ≠ Hm ∧ Wy ≠ Hm := by
  obtain ⟨a1, a2, a3, a4, a5, a6, -⟩ := h
  refine ⟨fun z => ?_, fun z => ?_, fun z => ?_, fun z => ?_, fun z => ?_, fun z => ?_⟩
  · rw [z, a2] at a1; cases a1
  · rw [z, a4] at a1; cases a1
  · rw [z, a6] at a1; cases a1
  · rw [z, a4] at a2; exact rar_ne a2.symm
  · rw [z, a6] at a2; exact iar_ne a2
  · rw [z, a6] at a4; exact iar_ne a4
theorem DA.grow (h : DA g D F Wy Hm hp nx nd fk fh ff fw fd w) {r q : Nat} (hr : r < 4) (key : Int32) (hn : nx < 64) :
    DA g D F Wy Hm hp (nx + 1) (va_up nd nx q) (upd fk nx (lkey key nx)) (upd fh nx (nI (1 + r))) ff (va_up fw nx (some q)) (upd fd nx (nI (1 + r))) (fset (fset (fset w Wy (rar (g.2.2.1 3) 64 (va_up fw nx (some q)))) Hm (iar g (upd fd nx (nI (1 + r))))) D (dkc F Wy Hm (nx + 1))) := by
  obtain ⟨n1, n2, n3, n4, n5, n6⟩ := h.nes
  obtain ⟨a1, a2, a3, a4, a5, a6, a7, a8, a9, a10, a11, a12⟩ := h
  refine ⟨fset_s, ?_, a3, ?_, fun i hi => ?_, ?_, fun i hi => ?_, a8, by omega, fun i hi => ?_, fun i hi => ?_, fun j hj => ?_⟩
  · rw [fset_n n1.symm, fset_n n5, fset_n n4]
    exact a2
  · rw [fset_n n2.symm, fset_n n6, fset_s]
  · by_cases h : i = nx
    · rw [h, va_up_s, va_up_s]
    · rw [va_up_n h, va_up_n h]
      exact a5 i (by omega)
  · rw [fset_n n3.symm, fset_s]
  · by_cases h : i = nx
    · rw [h, upd_s, upd_s]
    · rw [upd_n h, upd_n h]
      exact a7 i (by omega)
  · by_cases h : i = nx
    · rw [h, upd_s]
      exact lkey_lo key hn
    · rw [upd_n h]
      exact a10 i (by omega)
  · by_cases h : i = nx
    · rw [h, upd_s]
      exact Or.inr ⟨r, hr, rfl⟩
    · rw [upd_n h]
      exact a11 i (by omega)
  · have b := a12 j hj
    rw [fset_n (fun z => by rw [z, a1] at b; cases b), fset_n (fun z => by rw [z, a6] at b; cases b), fset_n (fun z => by rw [z, a4] at b; cases b)]
    exact b
end DKU
theorem fFr.setW {D Wy Hm : Nat} {hp : Nat → Nat} {w : fW} {e0 : va_E} : fFr D Wy Hm hp w (fset w Wy e0) := fun z e hz _ h2 _ _ _ => by
  rw [fset_n h2]
  exact hz
theorem fFr.setD {D Wy Hm : Nat} {hp : Nat → Nat} {w : fW} {e0 : va_E} : fFr D Wy Hm hp w (fset w D e0) := fun z e hz h1 _ _ _ _ => by
  rw [fset_n h1]
  exact hz
section DESK3
variable (l : Launch) (g : fG) (D F Wy Hm : Nat) (hp : Nat → Nat) (nx : Nat) (fk fv fh : Nat → Int32) (w : fW)
set_option maxHeartbeats 4000000 in
theorem m_dlower (hK : DK g D F Wy Hm hp nx fk fv fh w) (x key : Int32) : fMet l g yX0_lower cX0_lower 5 (some .boolean) 7 180 1 1 [.ref D, .int x, .int key] w (fun v w1 => v = some (.int (ob01 (lwS nx fk fh x key))) ∧ DK g D F Wy Hm hp nx (upo fk (lwS nx fk fh x key) (lkey key)) fv fh w1 ∧ fFr D Wy Hm hp w w1) := by
  refine fw_of (by decide) (Nat.le_of_ble_eq_true rfl) ?_
  intro p e s m below meth c ls C hnm hP hl
  have hS : va_S (fA g) s.heap s.heap [] := va_S.rf
  have hK0 := hK
  obtain ⟨nd, ns, kf, vf, oc, ys, ow, kv, ff, fw, fd, hA, hC⟩ := hK
  have hn64 := hA.2.2.2.2.2.2.2.2.1
  have hlw : lwS nx fk fh x key = (match thr nx fh x with | none => none | some i => if fh i < 3 then (if fk i < lkey key i then none else some i) else (if lkey key i < fk i then none else some i)) := rfl
  refine lv_aload_n C.1 C.2.1 dX0_lower_0 rfl (lv_at hl 0 rfl) ?_
  refine lv_iload_n C.1 C.2.1 dX0_lower_1 rfl (lv_at hl 1 rfl) ?_
  refine fw_V C 1 (As := [.int x]) (rest := []) (m_in l g D F Wy Hm nx w hA.1 hn64 x) (lw_V q404 q406 qs9 q13 q407) (by decide +kernel) ⟨Nat.le_of_ble_eq_true rfl, Nat.le_of_ble_eq_true rfl⟩ hP hS hA.1 rfl rfl rfl hl.1 (Nat.le_of_ble_eq_true rfl) dX0_lower_2 ⟨Nat.le_of_ble_eq_true rfl, Nat.le_of_ble_eq_true rfl⟩ ?_
  rintro r w1 H1 locs1 ⟨rfl, e1⟩ hP hS
  rw [e1] at hP
  clear e1 w1
  by_cases hn0 : nx = 0
  · rw [if_pos hn0]
    rw [show thr nx fh x = none from if_pos hn0] at hlw
    refine lv_istore_n (lv' := [(3, .int (-1)), (0, .ref D), (1, .int x), (2, .int key)]) C.1 C.2.1 dX0_lower_5 rfl hl (by decide) rfl (fun ls hl => ?_)
    refine lv_iload_n C.1 C.2.1 dX0_lower_6 rfl (lv_at hl 0 rfl) ?_
    refine lv_if_lt (tgt := 19) C.1 C.2.1 dX0_lower_7 (by decide) (fun c1 => ?_) (fun c1 => ?_)
    · refine lv_iconst (v := 0) C.1 C.2.1 dX0_lower_19 (by decide) ?_
      rw [hlw]
      exact fw_zret C narrow_b0 ⟨rfl, hK0, fFr.rf⟩ hP hS ⟨Nat.le_of_ble_eq_true rfl, Nat.le_of_ble_eq_true rfl⟩ dX0_lower_20
    · exact absurd (show (-1 : Int32) < 0 by decide) c1
  · rw [if_neg hn0]
    have hlt := idx_lt x (nx := nx) (by omega)
    refine lv_istore_n (lv' := [(3, .int (nI (idx x nx))), (0, .ref D), (1, .int x), (2, .int key)]) C.1 C.2.1 dX0_lower_5 rfl hl (by decide) rfl (fun ls hl => ?_)
    refine lv_iload_n C.1 C.2.1 dX0_lower_6 rfl (lv_at hl 0 rfl) ?_
    refine lv_if_lt (tgt := 19) C.1 C.2.1 dX0_lower_7 (by decide) (fun c1 => ?_) (fun c1 => ?_)
    · exact absurd c1 (nI_pos (by omega))
    · refine lv_aload_n C.1 C.2.1 dX0_lower_10 rfl (lv_at hl 1 rfl) ?_
      refine fw_get C in_X0 hP hA.1 rfl 2 (by decide) q77 rfl rfl dX0_lower_11 ?_
      refine lv_iload_n C.1 C.2.1 dX0_lower_14 rfl (lv_at hl 0 rfl) ?_
      refine fw_ild C hP hA.2.2.2.2.2.1 (by omega) dX0_lower_15 ?_
      rw [hA.2.2.2.2.2.2.1 _ hlt]
      refine lv_if_ne (tgt := 21) C.1 C.2.1 dX0_lower_16 (by decide) (fun c2 => ?_) (fun c2 => ?_)
      · have ht : thr nx fh x = some (idx x nx) := by rw [thr, if_neg hn0, if_neg c2]
        rw [ht] at hlw
        dsimp only at hlw
        obtain ⟨i, hi⟩ : ∃ i, idx x nx = i := ⟨_, rfl⟩
        rw [hi] at hlw hlt hl c2 ht
        clear hi
        obtain ⟨r, hr, hfr⟩ := (hA.2.2.2.2.2.2.2.2.2.2.1 _ hlt).resolve_left c2
        have hlo := hA.2.2.2.2.2.2.2.2.2.1
        refine lv_iload_n C.1 C.2.1 dX0_lower_21 rfl (lv_at hl 3 rfl) ?_
        refine lv_ldc C.1 C.2.1 C.2.2.2.2.2.1 (C.2.2.2.2.2.2.1 _ q93) dX0_lower_22 ?_
        refine lv_iand C.1 C.2.1 dX0_lower_24 ?_
        refine lv_bipush (v := 64) C.1 C.2.1 dX0_lower_25 (by decide) ?_
        refine lv_imul C.1 C.2.1 dX0_lower_27 ?_
        refine lv_iload_n C.1 C.2.1 dX0_lower_28 rfl (lv_at hl 0 rfl) ?_
        refine lv_iadd C.1 C.2.1 dX0_lower_29 ?_
        rw [lkey_c]
        refine lv_istore (lv' := [(4, .int (lkey key i)), (3, .int (nI i)), (0, .ref D), (1, .int x), (2, .int key)]) C.1 C.2.1 dX0_lower_30 hl (by decide) rfl (fun ls hl => ?_)
        have j89 : ∀ (H : Heap) (locs : List Loc), HP g w H → va_S (fA g) s.heap H locs → lwS nx fk fh x key = none → W p l e (fRm 7 180 1 1) s m ([.ref D, .int x, .int key] : List Value).toArray below meth c H locs 0 0 (MQ below (fQ g (fun v w1 => v = some (.int (ob01 (lwS nx fk fh x key))) ∧ DK g D F Wy Hm hp nx (upo fk (lwS nx fk fh x key) (lkey key)) fv fh w1 ∧ fFr D Wy Hm hp w w1)) ([.ref D, .int x, .int key] : List Value).toArray s 1 1 (fA g)) (F0 m 89 ls []) := by
          intro H locs hP hS hz
          refine lv_iconst (v := 0) C.1 C.2.1 dX0_lower_89 (by decide) ?_
          rw [hz]
          exact fw_zret C narrow_b0 ⟨rfl, hK0, fFr.rf⟩ hP hS ⟨Nat.le_of_ble_eq_true rfl, Nat.le_of_ble_eq_true rfl⟩ dX0_lower_90
        have j91 : ∀ (H : Heap) (locs : List Loc), HP g w H → va_S (fA g) s.heap H locs → frk (dnr r) (lkey key i) ≤ frk (dnr r) (fk i) → lwS nx fk fh x key = some i → W p l e (fRm 7 180 1 1) s m ([.ref D, .int x, .int key] : List Value).toArray below meth c H locs 0 0 (MQ below (fQ g (fun v w1 => v = some (.int (ob01 (lwS nx fk fh x key))) ∧ DK g D F Wy Hm hp nx (upo fk (lwS nx fk fh x key) (lkey key)) fv fh w1 ∧ fFr D Wy Hm hp w w1)) ([.ref D, .int x, .int key] : List Value).toArray s 1 1 (fA g)) (F0 m 91 ls []) := by
          intro H locs hP hS hfle hz
          refine lv_aload_n C.1 C.2.1 dX0_lower_91 rfl (lv_at hl 2 rfl) ?_
          refine fw_get C in_X0 hP hA.1 rfl 1 (by decide) q76 rfl rfl dX0_lower_92 ?_
          refine lv_iload_n C.1 C.2.1 dX0_lower_95 rfl (lv_at hl 1 rfl) ?_
          refine dx_way C hP hA hlt dX0_lower_96 ?_
          refine lv_iload C.1 C.2.1 dX0_lower_97 (lv_at hl 0 rfl) ?_
          refine fw_S C 1 (As := [.int (lkey key i)]) (rest := [.ref (nd i)]) (m_valueOf l g w (lkey key i) hA.2.2.2.2.2.2.2.2.2.2.2) (lw_S q94 q95 q17 q96) (by decide +kernel) ⟨Nat.le_of_ble_eq_true rfl, Nat.le_of_ble_eq_true rfl⟩ hP hS rfl rfl hl.1 (Nat.le_of_ble_eq_true rfl) dX0_lower_99 ⟨Nat.le_of_ble_eq_true rfl, Nat.le_of_ble_eq_true rfl⟩ ?_
          rintro rv w1 H1 locs1 ⟨a, rfl, e1, hbx⟩ hP hS
          rw [e1] at hP
          clear e1 w1
          have hle := hbx.le
          have hC1 := hC.le hle
          have hA1 := hA.le hle
          obtain ⟨at_, hR⟩ := hC1.2.2.2.2.1 r hr
          obtain ⟨j, j1, j2, j3⟩ := (hR.2.2.2.2 (nd i)).mpr ⟨_, hlt, rfl, hfr⟩
          have hrt := hR.1
          rw [show fRt (cnt fh r nx) at_ = some (at_ 1) from if_neg (by omega)] at hrt
          have hM := m_decreaseKey l g ns kf vf oc ys ow (fset w a (fInt (lkey key i))) (hp r) (dnr r) (lN (cnt fh r nx)) kv (cnt fh r nx) at_ j a (lkey key i) (fun a ha => (hC1.2.2.1 a ha).1) (hC1.2.2.2.2.2.1 r hr) (hC1.hpn hr) hrt hC1.kvs hR.2.1 hR.2.2.1 hR.2.2.2.1 j1 j2 (by rw [j3]; exact hC1.2.2.2.2.2.2.2 _ r hlt hr hfr) (hC1.box fset_s) fset_s (by rw [j3, (hC1.2.2.2.1 i hlt).1]; exact hfle)
          rw [j3, hC1.mk] at hM
          have hrn := (hC1.2.2.1 _ (hC1.mem hlt)).2
          refine fw_F C 1 (x := ⟨"AddressableHeap$Handle", "decreaseKey", "(Ljava/lang/Object;)V"⟩) (Cn := RX3) (As := [.ref a]) (rest := []) hM (fw_lF q410 q413 q415 q23 q417) C.2.2.2.2.2.2.2.2.2.1.2.2.2.2.2.2.2.2.2.2.2.2.2.2.1 (by decide +kernel) ⟨Nat.le_of_ble_eq_true rfl, Nat.le_of_ble_eq_true rfl⟩ hP hS (fw_recv (ci := 3) C hP hrn rfl) rfl rfl hl.1 (Nat.le_of_ble_eq_true rfl) dX0_lower_102 ⟨Nat.le_of_ble_eq_true rfl, Nat.le_of_ble_eq_true rfl⟩ ?_
          rintro rv w1 H1 locs1 hq hP hS
          obtain ⟨oc1, ys1, hrv, k1, k2⟩ := hC1.dec hr hlt hfr hR fset_s hq
          subst hrv
          refine lv_iconst (v := 1) C.1 C.2.1 dX0_lower_107 (by decide) ?_
          rw [hz]
          refine fw_zret C narrow_b1 ⟨rfl, ⟨nd, ns, _, vf, oc1, ys1, ow, _, ff, fw, fd, (hA1.keep hC1 hr k1).setk (fun i' hi' => ?_), k2⟩, (fFr.le hle).tr (hC1.fr hr k1)⟩ hP hS ⟨Nat.le_of_ble_eq_true rfl, Nat.le_of_ble_eq_true rfl⟩ dX0_lower_108
          by_cases hii : i' = i
          · rw [hii]
            show upd fk i (lkey key i) i &&& 63 = nI i
            rw [upd_s]
            exact lkey_lo key (by omega)
          · show upd fk i (lkey key i) i' &&& 63 = nI i'
            rw [upd_n hii]
            exact hlo i' hi'
        refine lv_aload_n C.1 C.2.1 dX0_lower_32 rfl (lv_at hl 2 rfl) ?_
        refine fw_get C in_X0 hP hA.1 rfl 2 (by decide) q77 rfl rfl dX0_lower_33 ?_
        refine lv_iload_n C.1 C.2.1 dX0_lower_36 rfl (lv_at hl 1 rfl) ?_
        refine fw_ild C hP hA.2.2.2.2.2.1 (by omega) dX0_lower_37 ?_
        rw [hA.2.2.2.2.2.2.1 _ hlt]
        refine lv_iconst (v := 3) C.1 C.2.1 dX0_lower_38 (by decide) ?_
        refine lv_icmp_ge (tgt := 67) C.1 C.2.1 dX0_lower_39 (by decide) (fun c3 => ?_) (fun c3 => ?_)
        · rw [if_neg (Int32.not_lt.mpr c3)] at hlw
          have hd : dnr r = true := dnr_t (fun z => by
            rw [hfr] at c3
            have := (nI_leI (a := 3) (b := 1 + r) (by decide) (by omega)).mp c3
            omega)
          refine lv_iload C.1 C.2.1 dX0_lower_67 (lv_at hl 0 rfl) ?_
          refine lv_aload_n C.1 C.2.1 dX0_lower_69 rfl (lv_at hl 2 rfl) ?_
          refine fw_get C in_X0 hP hA.1 rfl 1 (by decide) q76 rfl rfl dX0_lower_70 ?_
          refine lv_iload_n C.1 C.2.1 dX0_lower_73 rfl (lv_at hl 1 rfl) ?_
          refine dx_way C hP hA hlt dX0_lower_74 ?_
          refine dx_key C hP hS hC.mk (hC.mem hlt) (hC.2.2.2.1 _ hlt).2.1 ⟨Nat.le_of_ble_eq_true rfl, Nat.le_of_ble_eq_true rfl⟩ hl.1 (Nat.le_of_ble_eq_true rfl) ⟨Nat.le_of_ble_eq_true rfl, Nat.le_of_ble_eq_true rfl⟩ dX0_lower_75 dX0_lower_80 dX0_lower_83 (fun H locs hP hS => ?_)
          refine lv_icmp_ge (tgt := 91) C.1 C.2.1 dX0_lower_86 (by decide) (fun c4 => ?_) (fun c4 => ?_)
          · rw [if_neg (Int32.not_lt.mpr c4)] at hlw
            refine j91 H locs hP hS ?_ hlw
            rw [hd, frk_t, frk_t]
            rw [Int32.le_iff_toInt_le] at c4
            omega
          · rw [if_pos (Int32.not_le.mp c4)] at hlw
            exact j89 H locs hP hS hlw
        · rw [if_pos (Int32.not_le.mp c3)] at hlw
          have hd : dnr r = false := dnr_f (by
            rcases Nat.lt_or_ge r 2 with z | z
            · exact z
            · exact absurd (by rw [hfr]; exact (nI_leI (a := 3) (b := 1 + r) (by decide) (by omega)).mpr (by omega)) c3)
          refine lv_iload C.1 C.2.1 dX0_lower_42 (lv_at hl 0 rfl) ?_
          refine lv_aload_n C.1 C.2.1 dX0_lower_44 rfl (lv_at hl 2 rfl) ?_
          refine fw_get C in_X0 hP hA.1 rfl 1 (by decide) q76 rfl rfl dX0_lower_45 ?_
          refine lv_iload_n C.1 C.2.1 dX0_lower_48 rfl (lv_at hl 1 rfl) ?_
          refine dx_way C hP hA hlt dX0_lower_49 ?_
          refine dx_key C hP hS hC.mk (hC.mem hlt) (hC.2.2.2.1 _ hlt).2.1 ⟨Nat.le_of_ble_eq_true rfl, Nat.le_of_ble_eq_true rfl⟩ hl.1 (Nat.le_of_ble_eq_true rfl) ⟨Nat.le_of_ble_eq_true rfl, Nat.le_of_ble_eq_true rfl⟩ dX0_lower_50 dX0_lower_55 dX0_lower_58 (fun H locs hP hS => ?_)
          refine lv_icmp_le (tgt := 91) C.1 C.2.1 dX0_lower_61 (by decide) (fun c4 => ?_) (fun c4 => ?_)
          · rw [if_neg (Int32.not_lt.mpr c4)] at hlw
            refine j91 H locs hP hS ?_ hlw
            rw [hd, frk_f, frk_f]
            rw [Int32.le_iff_toInt_le] at c4
            omega
          · rw [if_pos (Int32.not_le.mp c4)] at hlw
            refine lv_goto (tgt := 89) C.1 C.2.1 dX0_lower_64 (by decide) ?_
            exact j89 H locs hP hS hlw
      · rw [show thr nx fh x = none by rw [thr, if_neg hn0, if_pos c2]] at hlw
        refine lv_iconst (v := 0) C.1 C.2.1 dX0_lower_19 (by decide) ?_
        rw [hlw]
        exact fw_zret C narrow_b0 ⟨rfl, hK0, fFr.rf⟩ hP hS ⟨Nat.le_of_ble_eq_true rfl, Nat.le_of_ble_eq_true rfl⟩ dX0_lower_20
set_option maxHeartbeats 4000000 in
theorem m_dclear (hK : DK g D F Wy Hm hp nx fk fv fh w) (x : Int32) (r : Nat) (hr : r < 4) (hx : x &&& 3 = nI r) : fMet l g yX0_clear cX0_clear 3 none 2 30 0 0 [.ref D, .int x] w (fun v w1 => v = none ∧ DK g D F Wy Hm hp nx fk fv (clr nx fh r) w1 ∧ fFr D Wy Hm hp w w1) := by
  refine fw_of (by decide) (Nat.le_of_ble_eq_true rfl) ?_
  intro p e s m below meth c ls C hnm hP hl
  have hS : va_S (fA g) s.heap s.heap [] := va_S.rf
  obtain ⟨nd, ns, kf, vf, oc, ys, ow, kv, ff, fw, fd, hA, hC⟩ := hK
  have hn64 := hA.2.2.2.2.2.2.2.2.1
  obtain ⟨n1, n2, n3, n4, n5, n6⟩ := hA.nes
  have hx1 : 1 + (x &&& 3) = nI (1 + r) := by rw [hx]; exact nI_add 1 r
  have hDf : ∀ e0 : va_E, fset w Hm e0 D = some (dkc F Wy Hm nx) := fun e0 => (fset_n n3).trans hA.1
  have loop : ∀ (f i : Nat) (H : Heap) (locs : List Loc) (ls : Array Slot), nx - i = f → i ≤ nx → HP g (fset w Hm (iar g (clr i fd r))) H → va_S (fA g) s.heap H locs → lv_has ls 3 [(2, .int (nI i)), (0, .ref D), (1, .int x)] →
      W p l e (fRm 2 30 0 0) s m ([.ref D, .int x] : List Value).toArray below meth c H locs 0 0 (MQ below (fQ g (fun v w1 => v = none ∧ DK g D F Wy Hm hp nx fk fv (clr nx fh r) w1 ∧ fFr D Wy Hm hp w w1)) ([.ref D, .int x] : List Value).toArray s 0 0 (fA g)) (F0 m 2 ls []) := by
    intro f
    induction f with
    | zero =>
      intro i H locs ls hf hi hP hS hl
      have hin : i = nx := by omega
      rw [hin] at hl hP
      have hceq : ∀ i, i < nx → clr nx fd r i = clr nx fh r i := fun i hi => by
        unfold clr
        rw [hA.2.2.2.2.2.2.1 i hi]
      have hcho : ∀ i, i < nx → clr nx fh r i = 0 ∨ ∃ r', r' < 4 ∧ clr nx fh r i = nI (1 + r') := fun i hi => by
        by_cases hz : fh i = nI (1 + r)
        · exact Or.inl (if_pos ⟨hi, hz⟩)
        · rw [show clr nx fh r i = fh i from if_neg (fun y => hz y.2)]
          exact hA.2.2.2.2.2.2.2.2.2.2.1 i hi
      have hA1 := hA.setH hceq hcho
      have hC1 := hC.setA hA.2.2.2.2.2.1 (iar g (clr nx fd r))
      obtain ⟨at_, hR⟩ := hC1.2.2.2.2.1 r hr
      refine lv_iload_n C.1 C.2.1 dX0_clear_2 rfl (lv_at hl 0 rfl) ?_
      refine lv_aload_n C.1 C.2.1 dX0_clear_3 rfl (lv_at hl 1 rfl) ?_
      refine fw_get C in_X0 hP (hDf _) rfl 3 (by decide) q78 rfl rfl dX0_clear_4 ?_
      refine lv_icmp_ge (tgt := 37) C.1 C.2.1 dX0_clear_7 (by decide) (fun c1 => ?_) (fun c1 => ?_)
      · refine lv_aload_n C.1 C.2.1 dX0_clear_37 rfl (lv_at hl 1 rfl) ?_
        refine fw_get C in_X0 hP (hDf _) rfl 0 (by decide) q75 rfl rfl dX0_clear_38 ?_
        refine lv_iload_n C.1 C.2.1 dX0_clear_41 rfl (lv_at hl 2 rfl) ?_
        refine lv_iconst (v := 3) C.1 C.2.1 dX0_clear_42 (by decide) ?_
        refine lv_iand C.1 C.2.1 dX0_clear_43 ?_
        rw [hx]
        refine dx_file C hP hA1 hr dX0_clear_44 ?_
        refine fw_V C 0 (As := []) (rest := []) (m_hclear l g _ (hp r) _ _ _ hR.1 (hC1.2.2.2.2.2.1 r hr)) (lw_V q485 q486 q487 q14 q488) (by decide +kernel) ⟨Nat.le_of_ble_eq_true rfl, Nat.le_of_ble_eq_true rfl⟩ hP hS hR.1 rfl rfl rfl hl.1 (Nat.le_of_ble_eq_true rfl) dX0_clear_45 ⟨Nat.le_of_ble_eq_true rfl, Nat.le_of_ble_eq_true rfl⟩ ?_
        rintro rv w1 H1 locs1 ⟨rfl, e1⟩ hP hS
        obtain ⟨k1, k2⟩ := hC1.clear hr e1
        refine fw_vret C ⟨rfl, ⟨nd, ns, kf, vf, oc, ys, ow, kv, ff, fw, _, hA1.mono (fun z ci fs hc hz => k1 z _ hz (hC1.neh hr hz (fun fs' e => by cases e; omega))) (fun z cA n f hz => k1 z _ hz (hC1.neh hr hz (fun fs' e => by cases e))) (fun f hz => k1 _ _ hz (hC1.neh hr hz (fun fs' e => by cases e))), k2⟩, fFr.setH.tr (fun z e hz _ _ _ hh _ => k1 z e hz (hh r hr))⟩ hP hS ⟨Nat.le_of_ble_eq_true rfl, Nat.le_of_ble_eq_true rfl⟩ dX0_clear_48
      · exact absurd (nI_le (Nat.le_refl nx) (by omega)) c1
    | succ f ih =>
      intro i H locs ls hf hi hP hS hl
      have hilt : i < nx := by omega
      have hcs := clr_s (nx := nx) (i := i) (r := r) (fh := fd)
      refine lv_iload_n C.1 C.2.1 dX0_clear_2 rfl (lv_at hl 0 rfl) ?_
      refine lv_aload_n C.1 C.2.1 dX0_clear_3 rfl (lv_at hl 1 rfl) ?_
      refine fw_get C in_X0 hP (hDf _) rfl 3 (by decide) q78 rfl rfl dX0_clear_4 ?_
      refine lv_icmp_ge (tgt := 37) C.1 C.2.1 dX0_clear_7 (by decide) (fun c1 => ?_) (fun c1 => ?_)
      · exact absurd c1 (nI_ge hilt (by omega))
      · refine lv_aload_n C.1 C.2.1 dX0_clear_10 rfl (lv_at hl 1 rfl) ?_
        refine fw_get C in_X0 hP (hDf _) rfl 2 (by decide) q77 rfl rfl dX0_clear_11 ?_
        refine lv_iload_n C.1 C.2.1 dX0_clear_14 rfl (lv_at hl 0 rfl) ?_
        refine fw_ild C hP fset_s (by omega) dX0_clear_15 ?_
        rw [clr_i]
        refine lv_iconst (v := 1) C.1 C.2.1 dX0_clear_16 (by decide) ?_
        refine lv_iload_n C.1 C.2.1 dX0_clear_17 rfl (lv_at hl 2 rfl) ?_
        refine lv_iconst (v := 3) C.1 C.2.1 dX0_clear_18 (by decide) ?_
        refine lv_iand C.1 C.2.1 dX0_clear_19 ?_
        refine lv_iadd C.1 C.2.1 dX0_clear_20 ?_
        rw [hx1]
        refine lv_icmp_ne (tgt := 31) C.1 C.2.1 dX0_clear_21 (by decide) (fun c2 => ?_) (fun c2 => ?_)
        · rw [if_neg c2] at hcs
          refine lv_iinc (k := 0) (lv' := [(2, .int (nI (i + 1))), (0, .ref D), (1, .int x)]) C.1 C.2.1 dX0_clear_31 hl rfl (nI_succ i).symm (by decide) rfl (fun ls hl => ?_)
          refine lv_goto (tgt := 2) C.1 C.2.1 dX0_clear_34 (by decide) ?_
          rw [← hcs] at hP
          exact ih (i + 1) H locs ls (by omega) (by omega) hP hS hl
        · rw [if_pos c2] at hcs
          refine lv_aload_n C.1 C.2.1 dX0_clear_24 rfl (lv_at hl 1 rfl) ?_
          refine fw_get C in_X0 hP (hDf _) rfl 2 (by decide) q77 rfl rfl dX0_clear_25 ?_
          refine lv_iload_n C.1 C.2.1 dX0_clear_28 rfl (lv_at hl 0 rfl) ?_
          refine lv_iconst (v := 0) C.1 C.2.1 dX0_clear_29 (by decide) ?_
          refine fw_ist C hP hS hA.2.2.2.2.2.2.2.1.2.2 fset_s (by omega) dX0_clear_30 (fun H locs hP hS => ?_)
          refine lv_iinc (k := 0) (lv' := [(2, .int (nI (i + 1))), (0, .ref D), (1, .int x)]) C.1 C.2.1 dX0_clear_31 hl rfl (nI_succ i).symm (by decide) rfl (fun ls hl => ?_)
          refine lv_goto (tgt := 2) C.1 C.2.1 dX0_clear_34 (by decide) ?_
          rw [fset_fset, ← hcs] at hP
          exact ih (i + 1) H locs ls (by omega) (by omega) hP hS hl
  refine lv_iconst (v := 0) C.1 C.2.1 dX0_clear_0 (by decide) ?_
  refine lv_istore_n (lv' := [(2, .int 0), (0, .ref D), (1, .int x)]) C.1 C.2.1 dX0_clear_1 rfl hl (by decide) rfl (fun ls hl => ?_)
  rw [show w = fset w Hm (iar g (clr 0 fd r)) by rw [clr_0]; exact (fset_id hA.2.2.2.2.2.1).symm] at hP
  exact loop (nx - 0) 0 _ _ ls rfl (Nat.zero_le _) hP hS hl
set_option maxHeartbeats 4000000 in
theorem m_dput (hK : DK g D F Wy Hm hp nx fk fv fh w) (x key val : Int32) (r : Nat) (hr : r < 4) (hx : x &&& 3 = nI r) : fMet l g yX0_put cX0_put 4 (some .int) 7 180 6 12 [.ref D, .int x, .int key, .int val] w (fun v w1 => (nx = 64 ∧ v = some (.int (-1)) ∧ w1 = w) ∨ (nx < 64 ∧ v = some (.int (nI nx)) ∧ DK g D F Wy Hm hp (nx + 1) (upd fk nx (lkey key nx)) (upd fv nx val) (upd fh nx (nI (1 + r))) w1 ∧ fFr D Wy Hm hp w w1)) := by
  refine fw_of (by decide) (Nat.le_of_ble_eq_true rfl) ?_
  intro p e s m below meth c ls C hnm hP hl
  have hS : va_S (fA g) s.heap s.heap [] := va_S.rf
  obtain ⟨nd, ns, kf, vf, oc, ys, ow, kv, ff, fw, fd, hA, hC⟩ := hK
  have hn64 := hA.2.2.2.2.2.2.2.2.1
  have hx1 : 1 + (x &&& 3) = nI (1 + r) := by rw [hx]; exact nI_add 1 r
  refine lv_aload_n C.1 C.2.1 dX0_put_0 rfl (lv_at hl 0 rfl) ?_
  refine fw_get C in_X0 hP hA.1 rfl 3 (by decide) q78 rfl rfl dX0_put_1 ?_
  refine lv_bipush (v := 64) C.1 C.2.1 dX0_put_4 (by decide) ?_
  refine lv_icmp_lt (tgt := 11) C.1 C.2.1 dX0_put_6 (by decide) (fun c1 => ?_) (fun c1 => ?_)
  · have hlt : nx < 64 := (nI_ltI (a := nx) (b := 64) (by omega) (by decide)).mp c1
    refine lv_aload_n C.1 C.2.1 dX0_put_11 rfl (lv_at hl 0 rfl) ?_
    refine fw_get C in_X0 hP hA.1 rfl 1 (by decide) q76 rfl rfl dX0_put_12 ?_
    refine lv_aload_n C.1 C.2.1 dX0_put_15 rfl (lv_at hl 0 rfl) ?_
    refine fw_get C in_X0 hP hA.1 rfl 3 (by decide) q78 rfl rfl dX0_put_16 ?_
    refine lv_aload_n C.1 C.2.1 dX0_put_19 rfl (lv_at hl 0 rfl) ?_
    refine fw_get C in_X0 hP hA.1 rfl 0 (by decide) q75 rfl rfl dX0_put_20 ?_
    refine lv_iload_n C.1 C.2.1 dX0_put_23 rfl (lv_at hl 1 rfl) ?_
    refine lv_iconst (v := 3) C.1 C.2.1 dX0_put_24 (by decide) ?_
    refine lv_iand C.1 C.2.1 dX0_put_25 ?_
    rw [hx]
    refine dx_file C hP hA hr dX0_put_26 ?_
    refine lv_iload_n C.1 C.2.1 dX0_put_27 rfl (lv_at hl 2 rfl) ?_
    refine lv_ldc C.1 C.2.1 C.2.2.2.2.2.1 (C.2.2.2.2.2.2.1 _ q93) dX0_put_28 ?_
    refine lv_iand C.1 C.2.1 dX0_put_30 ?_
    refine lv_bipush (v := 64) C.1 C.2.1 dX0_put_31 (by decide) ?_
    refine lv_imul C.1 C.2.1 dX0_put_33 ?_
    refine lv_aload_n C.1 C.2.1 dX0_put_34 rfl (lv_at hl 0 rfl) ?_
    refine fw_get C in_X0 hP hA.1 rfl 3 (by decide) q78 rfl rfl dX0_put_35 ?_
    refine lv_iadd C.1 C.2.1 dX0_put_38 ?_
    rw [lkey_c]
    refine fw_S C 1 (As := [.int (lkey key nx)]) (rest := [.ref (hp r), .int (nI nx), .ref Wy]) (m_valueOf l g w (lkey key nx) hA.2.2.2.2.2.2.2.2.2.2.2) (lw_S q94 q95 q17 q96) (by decide +kernel) ⟨Nat.le_of_ble_eq_true rfl, Nat.le_of_ble_eq_true rfl⟩ hP hS rfl rfl hl.1 (Nat.le_of_ble_eq_true rfl) dX0_put_39 ⟨Nat.le_of_ble_eq_true rfl, Nat.le_of_ble_eq_true rfl⟩ ?_
    rintro rv w1 H1 locs1 ⟨a, rfl, e1, hbx⟩ hP hS
    rw [e1] at hP
    clear e1 w1
    have hle1 := hbx.le
    have hA1 := hA.le hle1
    refine lv_iload_n C.1 C.2.1 dX0_put_42 rfl (lv_at hl 3 rfl) ?_
    refine fw_S C 1 (As := [.int val]) (rest := [.ref a, .ref (hp r), .int (nI nx), .ref Wy]) (m_valueOf l g _ val hA1.2.2.2.2.2.2.2.2.2.2.2) (lw_S q94 q95 q17 q96) (by decide +kernel) ⟨Nat.le_of_ble_eq_true rfl, Nat.le_of_ble_eq_true rfl⟩ hP hS rfl rfl hl.1 (Nat.le_of_ble_eq_true rfl) dX0_put_43 ⟨Nat.le_of_ble_eq_true rfl, Nat.le_of_ble_eq_true rfl⟩ ?_
    rintro rv w1 H1 locs1 ⟨b, rfl, e1, hby⟩ hP hS
    rw [e1] at hP
    clear e1
    have hle2 := hby.le
    have hle := hle1.tr hle2
    have hA2 := hA.le hle
    have hC2 := hC.le hle
    have hka := hle2 a _ fset_s
    obtain ⟨at_, hR⟩ := hC2.2.2.2.2.1 r hr
    have hM := m_insert l g ns kf vf oc ys ow (fset (fset w a (fInt (lkey key nx))) b (fInt val)) (hp r) (dnr r) kv (cnt fh r nx) at_ a b (lkey key nx) (fun a ha => (hC2.2.2.1 a ha).1) (hC2.2.2.2.2.2.1 r hr) (hC2.hpn hr) hR.1 hC2.kvs hR.2.1 hR.2.2.1 hR.2.2.2.1 (Nat.lt_of_le_of_lt cnt_le hlt) (hC2.box hka) hka
    rw [hC2.mk] at hM
    refine fw_V C 2 (As := [.ref a, .ref b]) (rest := [.int (nI nx), .ref Wy]) hM (lw_V q114 q115 q116 q14 q117) (by decide +kernel) ⟨Nat.le_of_ble_eq_true rfl, Nat.le_of_ble_eq_true rfl⟩ hP hS hR.1 rfl rfl rfl hl.1 (Nat.le_of_ble_eq_true rfl) dX0_put_46 ⟨Nat.le_of_ble_eq_true rfl, Nat.le_of_ble_eq_true rfl⟩ ?_
    rintro rv w3 H3 locs3 hq hP hS
    obtain ⟨q, oc1, ys1, hrv, k1, k2⟩ := hC2.ins hr hR hka fset_s hq
    subst hrv
    have hA3 := hA2.keep hC2 hr k1
    obtain ⟨n1, n2, n3, n4, n5, n6⟩ := hA3.nes
    have hqn : va_up nd nx q nx = q := va_up_s
    have hqm : w3 q = some (ndE (va_up kf q a) (va_up vf q b) oc1 ys1 (va_up ow q (hp r)) q) := (k2.2.2.1 q List.mem_cons_self).2
    refine fw_astq C hP hS hA3.2.2.2.2.2.2.2.1.2.1 3 rfl hA3.2.2.2.1 hqm rfl (vb_asgC C.2.2.2.2.2.2.2.2.2.1.2.2.1) (vp_in_nI hlt (by decide)) dX0_put_49 (fun H locs hP hS => ?_)
    rw [nI_clamp (by omega)] at hP
    refine lv_aload_n C.1 C.2.1 dX0_put_50 rfl (lv_at hl 0 rfl) ?_
    refine fw_get C in_X0 hP ((fset_n n2).trans hA3.1) rfl 2 (by decide) q77 rfl rfl dX0_put_51 ?_
    refine lv_aload_n C.1 C.2.1 dX0_put_54 rfl (lv_at hl 0 rfl) ?_
    refine fw_get C in_X0 hP ((fset_n n2).trans hA3.1) rfl 3 (by decide) q78 rfl rfl dX0_put_55 ?_
    refine lv_iconst (v := 1) C.1 C.2.1 dX0_put_58 (by decide) ?_
    refine lv_iload_n C.1 C.2.1 dX0_put_59 rfl (lv_at hl 1 rfl) ?_
    refine lv_iconst (v := 3) C.1 C.2.1 dX0_put_60 (by decide) ?_
    refine lv_iand C.1 C.2.1 dX0_put_61 ?_
    refine lv_iadd C.1 C.2.1 dX0_put_62 ?_
    rw [hx1]
    have hHm1 : fset w3 Wy (rar (g.2.2.1 3) 64 (va_up fw nx (some q))) Hm = some (iar g fd) := (fset_n n6.symm).trans hA3.2.2.2.2.2.1
    refine fw_ist C hP hS hA3.2.2.2.2.2.2.2.1.2.2 hHm1 hlt dX0_put_63 (fun H locs hP hS => ?_)
    have hD2 : fset (fset w3 Wy (rar (g.2.2.1 3) 64 (va_up fw nx (some q)))) Hm (iar g (upd fd nx (nI (1 + r)))) D = some (dkc F Wy Hm nx) := (fset_n n3).trans ((fset_n n2).trans hA3.1)
    refine lv_aload_n C.1 C.2.1 dX0_put_64 rfl (lv_at hl 0 rfl) ?_
    refine lv_dup C.1 C.2.1 dX0_put_65 rfl ?_
    refine fw_get C in_X0 hP hD2 rfl 3 (by decide) q78 rfl rfl dX0_put_66 ?_
    refine lv_iconst (v := 1) C.1 C.2.1 dX0_put_69 (by decide) ?_
    refine lv_iadd C.1 C.2.1 dX0_put_70 ?_
    rw [nI_1]
    refine fw_put C in_X0 tyX0 tyX0_ok nmX0 hP hS hA3.2.2.2.2.2.2.2.1.1 hD2 rfl 3 (by decide) q78 rfl rfl rfl rfl (Nat.le_of_ble_eq_true rfl) dX0_put_71 (fun H locs hP hS => ?_)
    refine lv_aload_n C.1 C.2.1 dX0_put_74 rfl (lv_at hl 0 rfl) ?_
    refine fw_get C in_X0 hP fset_s rfl 3 (by decide) q78 rfl rfl dX0_put_75 ?_
    refine lv_iconst (v := 1) C.1 C.2.1 dX0_put_78 (by decide) ?_
    refine lv_isub C.1 C.2.1 dX0_put_79 ?_
    rw [nI_pred]
    refine fw_iret C (Or.inr ⟨hlt, rfl, ⟨va_up nd nx q, q :: ns, _, _, oc1, ys1, _, _, ff, _, _, hA3.grow hr key hlt, ((k2.setA hA3.2.2.2.1 _).setA hHm1 _).setO hD2 _⟩, ((((fFr.le hle).tr (hC2.fr hr k1)).tr fFr.setW).tr fFr.setH).tr fFr.setD⟩) hP hS ⟨Nat.le_of_ble_eq_true rfl, Nat.le_of_ble_eq_true rfl⟩ dX0_put_80
  · have h64 : nx = 64 := by
      rcases Nat.lt_or_ge nx 64 with z | z
      · exact absurd ((nI_ltI (a := nx) (b := 64) (by omega) (by decide)).mpr z) c1
      · omega
    refine lv_iconst (v := (-1)) C.1 C.2.1 dX0_put_9 (by decide) ?_
    exact fw_iret C (Or.inl ⟨h64, rfl, rfl⟩) hP hS ⟨Nat.le_of_ble_eq_true rfl, Nat.le_of_ble_eq_true rfl⟩ dX0_put_10
end DESK3
end
section
/-! the constructors of desk and model -/
set_option maxRecDepth 100000
section INIT
variable (l : Launch) (g : fG) (w : fW)
set_option maxHeartbeats 4000000 in
theorem m_fresh (r : Nat) (hr : r < 4) : fMet l g yX0_fresh cX0_fresh 1 (some (.object "BinaryTreeAddressableHeap")) 3 70 1 3 [.int (nI r)] w (fun v w1 => ∃ h : Nat, v = some (.ref h) ∧ w1 = fset w h (hpc (fcm g (dnr r)) (lN 0) none) ∧ w h = none ∧ g.2.1 ≤ h) := by
  refine fw_of (by decide) (Nat.le_of_ble_eq_true rfl) ?_
  intro p e s m below meth c ls C hnm hP hl
  have hS : va_S (fA g) s.heap s.heap [] := va_S.rf
  refine lv_iload_n C.1 C.2.1 dX0_fresh_0 rfl (lv_at hl 0 rfl) ?_
  refine lv_iconst (v := 2) C.1 C.2.1 dX0_fresh_1 (by decide) ?_
  refine lv_icmp_ge (tgt := 15) C.1 C.2.1 dX0_fresh_2 (by decide) (fun c1 => ?_) (fun c1 => ?_)
  · have hd : dnr r = true := decide_eq_true ((nI_leI (a := 2) (b := r) (by decide) (by omega)).mp c1)
    refine fw_new (fs := [.null, .long 0, .null]) C in_X1 tyX1 tyX1_ok q42 q47 q14 hP hS (ci := 1) rfl (fun j hj => by rcases (show j = 0 ∨ j = 1 ∨ j = 2 by omega) with rfl | rfl | rfl <;> rfl) (Nat.le_of_ble_eq_true rfl) (Nat.le_of_ble_eq_true rfl) dX0_fresh_15 (fun h H1 hP hw hA hS => ?_)
    refine lv_dup C.1 C.2.1 dX0_fresh_18 rfl ?_
    refine va_gets C.1 C.2.1 C.2.2.2.2.2.2.2.2.2.2.2.2.2.2.1 hS C.2.2.2.2.2.1 (C.2.2.2.2.2.2.1 _ q67) (fun _ h => h) dX0_fresh_19 ?_
    refine fw_I C 1 (As := [.ref g.2.2.2.1.2]) (rest := [.ref h]) (m_hinit2 l g _ h (some g.2.2.2.1.2) fset_s hA) q53 q14 q69 q52 rfl (by decide +kernel) ⟨Nat.le_of_ble_eq_true rfl, Nat.le_of_ble_eq_true rfl⟩ hP hS rfl rfl hl.1 (Nat.le_of_ble_eq_true rfl) dX0_fresh_22 ⟨Nat.le_of_ble_eq_true rfl, Nat.le_of_ble_eq_true rfl⟩ ?_
    rintro r w1 H1 locs1 ⟨rfl, e1⟩ hP hS
    rw [e1] at hP
    clear e1 w1
    rw [fset_fset] at hP
    rw [hd]
    exact fw_aret (r := some h) C (Or.inl ⟨_, rfl⟩) ⟨h, rfl, rfl, hw, hA⟩ hP hS ⟨Nat.le_of_ble_eq_true rfl, Nat.le_of_ble_eq_true rfl⟩ dX0_fresh_25
  · have hd : dnr r = false := decide_eq_false (fun z => c1 ((nI_leI (a := 2) (b := r) (by decide) (by omega)).mpr z))
    refine fw_new (fs := [.null, .long 0, .null]) C in_X1 tyX1 tyX1_ok q42 q47 q14 hP hS (ci := 1) rfl (fun j hj => by rcases (show j = 0 ∨ j = 1 ∨ j = 2 by omega) with rfl | rfl | rfl <;> rfl) (Nat.le_of_ble_eq_true rfl) (Nat.le_of_ble_eq_true rfl) dX0_fresh_5 (fun h H1 hP hw hA hS => ?_)
    refine lv_dup C.1 C.2.1 dX0_fresh_8 rfl ?_
    refine fw_I C 0 (As := []) (rest := [.ref h]) (m_hinit l g _ h fset_s hA) q50 q14 q48 q49 rfl (by decide +kernel) ⟨Nat.le_of_ble_eq_true rfl, Nat.le_of_ble_eq_true rfl⟩ hP hS rfl rfl hl.1 (Nat.le_of_ble_eq_true rfl) dX0_fresh_9 ⟨Nat.le_of_ble_eq_true rfl, Nat.le_of_ble_eq_true rfl⟩ ?_
    rintro r w1 H1 locs1 ⟨rfl, e1⟩ hP hS
    rw [e1] at hP
    clear e1 w1
    rw [fset_fset] at hP
    refine lv_goto (tgt := 25) C.1 C.2.1 dX0_fresh_12 (by decide) ?_
    rw [hd]
    exact fw_aret (r := some h) C (Or.inl ⟨_, rfl⟩) ⟨h, rfl, rfl, hw, hA⟩ hP hS ⟨Nat.le_of_ble_eq_true rfl, Nat.le_of_ble_eq_true rfl⟩ dX0_fresh_25
/-- the heaps made so far -/
def mkI (g : fG) (w : fW) (F : Nat) (n : Nat) (hp : Nat → Nat) (ff : Nat → Option Nat) (w1 : fW) : Prop := w1 F = some (rar (g.2.2.1 2) 4 ff) ∧ (∀ r, r < n → ff r = some (hp r) ∧ g.2.1 ≤ hp r ∧ w1 (hp r) = some (hpc (fcm g (dnr r)) (lN 0) none)) ∧ (∀ r r', r < n → r' < n → hp r = hp r' → r = r') ∧ fLe w w1
set_option maxHeartbeats 4000000 in
theorem m_make : fMet l g yX0_make cX0_make 2 (some (.array (.object "BinaryTreeAddressableHeap"))) 4 100 5 16 [] w (fun v w1 => ∃ (F : Nat) (hp : Nat → Nat) (ff : Nat → Option Nat), v = some (.ref F) ∧ mkI g w F 4 hp ff w1) := by
  refine fw_of (by decide) (Nat.le_of_ble_eq_true rfl) ?_
  intro p e s m below meth c ls C hnm hP hl
  have hS : va_S (fA g) s.heap s.heap [] := va_S.rf

  refine lv_iconst (v := 4) C.1 C.2.1 dX0_make_0 (by decide) ?_
  refine fw_newq C 2 rfl q42 C.2.2.2.2.2.2.2.2.2.1.2.2.2.2.2.2.2.2.1 hP hS (N' := 4) (by decide) (by decide) (Nat.le_of_ble_eq_true rfl) (Nat.le_of_ble_eq_true rfl) (Nat.le_of_ble_eq_true rfl) dX0_make_1 (fun F H1 hP hwF hFA hS => ?_)

  refine lv_astore_n (lv' := [(0, .ref F)]) C.1 C.2.1 dX0_make_4 rfl hl (by decide) rfl (fun ls hl => ?_)
  refine lv_iconst (v := 0) C.1 C.2.1 dX0_make_5 (by decide) ?_
  refine lv_istore_n (lv' := [(1, .int 0), (0, .ref F)]) C.1 C.2.1 dX0_make_6 rfl hl (by decide) rfl (fun ls hl => ?_)
  have loop : ∀ (f i : Nat) (hp : Nat → Nat) (ff : Nat → Option Nat) (w1 : fW) (H : Heap) (locs : List Loc) (ls : Array Slot) (ce sl : Nat), 4 - i = f → i ≤ 4 → ce = 1 + i → sl = 4 + 3 * i → mkI g w F i hp ff w1 → HP g w1 H → va_S (fA g) s.heap H locs → lv_has ls 2 [(1, .int (nI i)), (0, .ref F)] →
      W p l e (fRm 4 100 5 16) s m ([] : List Value).toArray below meth c H locs ce sl (MQ below (fQ g (fun v w1 => ∃ (F : Nat) (hp : Nat → Nat) (ff : Nat → Option Nat), v = some (.ref F) ∧ mkI g w F 4 hp ff w1)) ([] : List Value).toArray s 5 16 (fA g)) (F0 m 7 ls []) := by
    intro f
    induction f with
    | zero =>
      intro i hp ff w1 H locs ls ce sl hf hi hce hsl hI hP hS hl
      have hi4 : i = 4 := by omega
      subst hi4
      refine lv_iload_n C.1 C.2.1 dX0_make_7 rfl (lv_at hl 0 rfl) ?_
      refine lv_iconst (v := 4) C.1 C.2.1 dX0_make_8 (by decide) ?_
      refine lv_icmp_ge (tgt := 25) C.1 C.2.1 dX0_make_9 (by decide) (fun c1 => ?_) (fun c1 => ?_)
      · refine lv_aload_n C.1 C.2.1 dX0_make_25 rfl (lv_at hl 1 rfl) ?_
        exact fw_aret (r := some F) C (Or.inr ⟨_, rfl⟩) ⟨F, hp, ff, rfl, hI⟩ hP hS ⟨by omega, by omega⟩ dX0_make_26
      · exact absurd (show (4 : Int32) ≤ nI 4 by decide) c1
    | succ f ih =>
      intro i hp ff w1 H locs ls ce sl hf hi hce hsl hI hP hS hl
      have hi4 : i < 4 := by omega
      obtain ⟨h1, h2, h3, h4⟩ := hI
      refine lv_iload_n C.1 C.2.1 dX0_make_7 rfl (lv_at hl 0 rfl) ?_
      refine lv_iconst (v := 4) C.1 C.2.1 dX0_make_8 (by decide) ?_
      refine lv_icmp_ge (tgt := 25) C.1 C.2.1 dX0_make_9 (by decide) (fun c1 => ?_) (fun c1 => ?_)
      · have := (nI_leI (a := 4) (b := i) (by decide) (by omega)).mp c1
        omega
      · refine lv_aload_n C.1 C.2.1 dX0_make_12 rfl (lv_at hl 1 rfl) ?_
        refine lv_iload_n C.1 C.2.1 dX0_make_13 rfl (lv_at hl 0 rfl) ?_
        refine lv_iload_n C.1 C.2.1 dX0_make_14 rfl (lv_at hl 0 rfl) ?_
        refine fw_S C 1 (As := [.int (nI i)]) (rest := [.int (nI i), .ref F]) (m_fresh l g w1 i hi4) (lw_S q44 q45 q13 q46) (by decide +kernel) ⟨Nat.le_of_ble_eq_true rfl, Nat.le_of_ble_eq_true rfl⟩ hP hS rfl rfl hl.1 (Nat.le_of_ble_eq_true rfl) dX0_make_15 ⟨by show ce + 1 ≤ 5; omega, by show sl + 3 ≤ 16; omega⟩ ?_
        rintro rv w2 H1 locs1 ⟨q, rfl, e1, hq0, hqA⟩ hP hS
        rw [e1] at hP
        clear e1 w2
        have hFq : F ≠ q := fW_ne h1 hq0
        refine fw_astq C hP hS hFA 2 rfl ((fset_n hFq).trans h1) (fset_s (w := w1)) rfl (fun comp c0 a1 a2 => vb_asgS (C := RX1) comp c0 a1 a2) (vp_in_nI hi4 (by decide)) dX0_make_18 (fun H locs hP hS => ?_)
        rw [nI_clamp (by omega)] at hP
        refine lv_iinc (k := 0) (lv' := [(1, .int (nI (i + 1))), (0, .ref F)]) C.1 C.2.1 dX0_make_19 hl rfl (nI_succ i).symm (by decide) rfl (fun ls hl => ?_)
        refine lv_goto (tgt := 7) C.1 C.2.1 dX0_make_22 (by decide) ?_
        refine ih (i + 1) (va_up hp i q) (va_up ff i (some q)) _ H locs ls (ce + 1) (sl + 3) (by omega) (by omega) (by omega) (by omega) ⟨fset_s, fun r hr => ?_, fun r r' hr hr' he => ?_, fun z e' hz => ?_⟩ hP hS hl
        · by_cases hri : r = i
          · rw [hri, va_up_s, va_up_s, fset_n hFq.symm, fset_s]
            exact ⟨rfl, hqA, rfl⟩
          · obtain ⟨a1, a2, a3⟩ := h2 r (by omega)
            rw [va_up_n hri, va_up_n hri]
            refine ⟨a1, a2, ?_⟩
            rw [fset_n (fun z => by rw [z, h1] at a3; cases a3), fset_n (fW_ne a3 hq0)]
            exact a3
        · by_cases hri : r = i
          · by_cases hri' : r' = i
            · omega
            · rw [hri, va_up_s, va_up_n hri'] at he
              exact absurd he.symm (fW_ne (h2 r' (by omega)).2.2 hq0)
          · by_cases hri' : r' = i
            · rw [hri', va_up_s, va_up_n hri] at he
              exact absurd he (fW_ne (h2 r (by omega)).2.2 hq0)
            · rw [va_up_n hri, va_up_n hri'] at he
              exact h3 r r' (by omega) (by omega) he
        · rw [fset_n (fW_ne hz hwF), fset_n (fW_ne (h4 z e' hz) hq0)]
          exact h4 z e' hz
  exact loop 4 0 (fun _ => 0) (fun _ => none) _ _ _ ls _ _ rfl (by omega) rfl rfl ⟨fset_s, fun r hr => absurd hr (by omega), fun r r' hr => absurd hr (by omega), fLe.new hwF _⟩ hP hS hl
set_option maxHeartbeats 4000000 in
theorem m_rows : fMet l g yX0_rows cX0_rows 0 (some (.array (.object "AddressableHeap$Handle"))) 1 0 1 64 [] w (fun v w1 => ∃ Wy : Nat, v = some (.ref Wy) ∧ w1 = fset w Wy (rar (g.2.2.1 3) 64 (fun _ => none)) ∧ w Wy = none ∧ g.2.1 ≤ Wy) := by
  refine fw_of (by decide) (Nat.le_of_ble_eq_true rfl) ?_
  intro p e s m below meth c ls C hnm hP hl
  have hS : va_S (fA g) s.heap s.heap [] := va_S.rf
  refine lv_bipush (v := 64) C.1 C.2.1 dX0_rows_0 (by decide) ?_
  refine fw_newq C 3 rfl q73 C.2.2.2.2.2.2.2.2.2.1.2.2.2.2.2.2.2.2.2.1 hP hS (N' := 64) (by decide) (by decide) (Nat.le_of_ble_eq_true rfl) (Nat.le_of_ble_eq_true rfl) (Nat.le_of_ble_eq_true rfl) dX0_rows_2 (fun F H1 hP hwF hFA hS => ?_)
  exact fw_aret (r := some F) C (Or.inr ⟨_, rfl⟩) ⟨F, rfl, rfl, hwF, hFA⟩ hP hS ⟨Nat.le_of_ble_eq_true rfl, Nat.le_of_ble_eq_true rfl⟩ dX0_rows_5
abbrev zz : Nat → Int32 := fun _ => 0
set_option maxHeartbeats 4000000 in
theorem m_dinit (D : Nat) (hD : w D = some (.inr (0, [.null, .null, .null, .int 0]))) (hA : g.2.1 ≤ D) (hca : fCa g w) : fMet l g yX0_init cX0_init 1 none 5 140 7 144 [.ref D] w (fun v w1 => v = none ∧ (∃ (F Wy Hm : Nat) (hp : Nat → Nat), DK g D F Wy Hm hp 0 zz zz zz w1) ∧ ∀ (z : Nat) (e : va_E), w z = some e → z ≠ D → w1 z = some e) := by
  refine fw_of (by decide) (Nat.le_of_ble_eq_true rfl) ?_
  intro p e s m below meth c ls C hnm hP hl
  have hS : va_S (fA g) s.heap s.heap [] := va_S.rf
  refine lv_aload_n C.1 C.2.1 dX0_init_0 rfl (lv_at hl 0 rfl) ?_
  refine W.objInit C.1 C.2.1 C.2.2.2.2.2.1 (C.2.2.2.2.2.2.1 _ q36) (C.2.2.2.2.2.2.1 _ q37) (C.2.2.2.2.2.2.1 _ q38) rfl (by rw [C.2.2.2.2.1]; exact hl.1) rfl dX0_init_1 (Nat.le_of_ble_eq_true rfl) (Nat.le_of_ble_eq_true rfl) ?_
  refine W.eq (g2 := F0 m 4 ls []) rfl ?_
  refine lv_aload_n C.1 C.2.1 dX0_init_4 rfl (lv_at hl 0 rfl) ?_
  refine fw_S C 0 (As := []) (rest := [.ref D]) (m_make l g w) (lw_S q39 q40 q13 q41) (by decide +kernel) ⟨Nat.le_of_ble_eq_true rfl, Nat.le_of_ble_eq_true rfl⟩ hP hS rfl rfl hl.1 (Nat.le_of_ble_eq_true rfl) dX0_init_5 ⟨Nat.le_of_ble_eq_true rfl, Nat.le_of_ble_eq_true rfl⟩ ?_
  rintro rv w1 H1 locs1 ⟨F, hp, ff, rfl, h1, h2, h3, h4⟩ hP hS
  have hD1 := h4 D _ hD
  have nF : F ≠ D := fun z => by rw [z, hD1] at h1; cases h1
  have nH : ∀ r, r < 4 → hp r ≠ D := fun r hr z => by have := (h2 r hr).2.2; rw [z, hD1] at this; cases this
  refine fw_putF C in_X0 tyX0 tyX0_ok nmX0 hP hS hA hD1 rfl 0 (by decide) q75 rfl rfl (hnm.trans rfl) rfl rfl rfl (Nat.le_of_ble_eq_true rfl) dX0_init_8 (fun H locs hP hS => ?_)
  refine lv_aload_n C.1 C.2.1 dX0_init_11 rfl (lv_at hl 0 rfl) ?_
  refine fw_S C 0 (As := []) (rest := [.ref D]) (m_rows l g _) (lw_S q70 q71 q13 q72) (by decide +kernel) ⟨Nat.le_of_ble_eq_true rfl, Nat.le_of_ble_eq_true rfl⟩ hP hS rfl rfl hl.1 (Nat.le_of_ble_eq_true rfl) dX0_init_12 ⟨Nat.le_of_ble_eq_true rfl, Nat.le_of_ble_eq_true rfl⟩ ?_
  rintro rv w2 H1 locs1 ⟨Wy, rfl, e2, hW0, hWA⟩ hP hS
  rw [e2] at hP
  clear e2 w2
  have nW : D ≠ Wy := fW_ne fset_s hW0
  have hW1 : w1 Wy = none := (fset_n nW.symm).symm.trans hW0
  refine fw_putF C in_X0 tyX0 tyX0_ok nmX0 hP hS hA ((fset_n nW).trans fset_s) rfl 1 (by decide) q76 rfl rfl (hnm.trans rfl) rfl rfl rfl (Nat.le_of_ble_eq_true rfl) dX0_init_15 (fun H locs hP hS => ?_)
  refine lv_aload_n C.1 C.2.1 dX0_init_18 rfl (lv_at hl 0 rfl) ?_
  refine lv_bipush (v := 64) C.1 C.2.1 dX0_init_19 (by decide) ?_
  refine fw_newi C q88 hP hS (N' := 64) (by decide) (by decide) (Nat.le_of_ble_eq_true rfl) (Nat.le_of_ble_eq_true rfl) (Nat.le_of_ble_eq_true rfl) dX0_init_21 (fun Hm H1 hP hH0 hHA hS => ?_)
  have nHm : D ≠ Hm := fW_ne fset_s hH0
  have nWH : Wy ≠ Hm := fW_ne ((fset_n nW.symm).trans fset_s) hH0
  have hH1 : w1 Hm = none := by
    rw [← hH0, fset_n nHm.symm, fset_n nWH.symm, fset_n nHm.symm]
  refine fw_putF C in_X0 tyX0 tyX0_ok nmX0 hP hS hA ((fset_n nHm).trans fset_s) rfl 2 (by decide) q77 rfl rfl (hnm.trans rfl) rfl rfl rfl (Nat.le_of_ble_eq_true rfl) dX0_init_23 (fun H locs hP hS => ?_)
  have keep : ∀ (z : Nat) (e : va_E), w1 z = some e → z ≠ D → fset (fset (fset (fset (fset w1 D (.inr (0, [.ref F, .null, .null, .int 0]))) Wy (rar (g.2.2.1 3) 64 (fun _ => none))) D (.inr (0, [.ref F, .ref Wy, .null, .int 0]))) Hm (iar g zz)) D (dkc F Wy Hm 0) z = some e := by
    intro z e hz hzD
    rw [fset_n hzD, fset_n (fW_ne hz hH1), fset_n hzD, fset_n (fW_ne hz hW1), fset_n hzD]
    exact hz
  refine fw_vret C ⟨rfl, ⟨F, Wy, Hm, hp, fun _ => 0, [], fun _ => 0, fun _ => 0, fun _ => none, fun _ => none, fun _ => 0, zz, ff, fun _ => none, zz, ⟨fset_s, keep _ _ h1 nF, fun r hr => (h2 r hr).1, ?_, fun i hi => absurd hi (by omega), ?_, fun i hi => absurd hi (by omega), ⟨hA, hWA, hHA⟩, by omega, fun i hi => absurd hi (by omega), fun i hi => absurd hi (by omega), fun j hj => ?_⟩, ?_⟩, fun z e hz hzD => keep z e (h4 z e hz) hzD⟩ hP hS ⟨Nat.le_of_ble_eq_true rfl, Nat.le_of_ble_eq_true rfl⟩ dX0_init_26
  · rw [fset_n nW.symm, fset_n nWH, fset_n nW.symm, fset_s]
  · rw [fset_n nHm.symm, fset_s]
  · have hb := hca j hj
    exact keep _ _ (h4 _ _ hb) (fun z => by rw [z, hD] at hb; cases hb)
  · refine ⟨fun a => ⟨fun ha => absurd ha List.not_mem_nil, fun ⟨i, hi, _⟩ => absurd hi (by omega)⟩, fun i j hi => absurd hi (by omega), fun a ha => absurd ha List.not_mem_nil, fun i hi => absurd hi (by omega), fun r hr => ⟨fun _ => 0, ?_, ⟨fun x a1 a2 => absurd (show 1 ≤ 0 from Nat.le_trans a1 a2) (by decide), fun x y a1 a2 => absurd (show 1 ≤ 0 from Nat.le_trans a1 a2) (by decide)⟩, fun x a1 a2 => absurd (show 1 ≤ 0 from Nat.le_trans a1 a2) (by decide), fun x a1 a2 => absurd (show 2 ≤ 0 from Nat.le_trans a1 a2) (by decide), fun a => ⟨fun ⟨x, a1, a2, _⟩ => absurd (show 1 ≤ 0 from Nat.le_trans a1 a2) (by decide), fun ⟨i, hi, _⟩ => absurd hi (by omega)⟩⟩, fun r hr => (h2 r hr).2.1, h3, fun i r hi => absurd hi (by omega)⟩
    exact keep _ _ (h2 r hr).2.2 (nH r hr)
set_option maxHeartbeats 4000000 in
theorem m_minit (M : Nat) (hM : w M = some (.inr (2, [.null, .null, .null, .int 0]))) (hA : g.2.1 ≤ M) : fMet l g yX2_init cX2_init 1 none 1 12 3 192 [.ref M] w (fun v w1 => v = none ∧ (∃ (Mk Mv Mh : Nat), MD g M Mk Mv Mh 0 zz zz zz w1 ∧ w Mk = none ∧ w Mv = none ∧ w Mh = none) ∧ ∀ (z : Nat) (e : va_E), w z = some e → z ≠ M → w1 z = some e) := by
  refine fw_of (by decide) (Nat.le_of_ble_eq_true rfl) ?_
  intro p e s m below meth c ls C hnm hP hl
  have hS : va_S (fA g) s.heap s.heap [] := va_S.rf
  refine lv_aload_n C.1 C.2.1 dX2_init_0 rfl (lv_at hl 0 rfl) ?_
  refine W.objInit C.1 C.2.1 C.2.2.2.2.2.1 (C.2.2.2.2.2.2.1 _ q494) (C.2.2.2.2.2.2.1 _ q37) (C.2.2.2.2.2.2.1 _ q38) rfl (by rw [C.2.2.2.2.1]; exact hl.1) rfl dX2_init_1 (Nat.le_of_ble_eq_true rfl) (Nat.le_of_ble_eq_true rfl) ?_
  refine W.eq (g2 := F0 m 4 ls []) rfl ?_
  refine lv_aload_n C.1 C.2.1 dX2_init_4 rfl (lv_at hl 0 rfl) ?_
  refine lv_bipush (v := 64) C.1 C.2.1 dX2_init_5 (by decide) ?_
  refine fw_newi C q88 hP hS (N' := 64) (by decide) (by decide) (Nat.le_of_ble_eq_true rfl) (Nat.le_of_ble_eq_true rfl) (Nat.le_of_ble_eq_true rfl) dX2_init_7 (fun Mk H1 hP hk0 hkA hS => ?_)
  have nk : M ≠ Mk := fW_ne hM hk0
  refine fw_putF C in_X2 tyX2 tyX2_ok nmX2 hP hS hA ((fset_n nk).trans hM) rfl 0 (by decide) q495 rfl rfl (hnm.trans rfl) rfl rfl rfl (Nat.le_of_ble_eq_true rfl) dX2_init_9 (fun H locs hP hS => ?_)
  refine lv_aload_n C.1 C.2.1 dX2_init_12 rfl (lv_at hl 0 rfl) ?_
  refine lv_bipush (v := 64) C.1 C.2.1 dX2_init_13 (by decide) ?_
  refine fw_newi C q88 hP hS (N' := 64) (by decide) (by decide) (Nat.le_of_ble_eq_true rfl) (Nat.le_of_ble_eq_true rfl) (Nat.le_of_ble_eq_true rfl) dX2_init_15 (fun Mv H1 hP hv0 hvA hS => ?_)
  have nv : M ≠ Mv := fW_ne fset_s hv0
  have nkv : Mk ≠ Mv := fW_ne ((fset_n nk.symm).trans fset_s) hv0
  have hv1 : w Mv = none := by rw [← hv0, fset_n nv.symm, fset_n nkv.symm]
  refine fw_putF C in_X2 tyX2 tyX2_ok nmX2 hP hS hA ((fset_n nv).trans fset_s) rfl 1 (by decide) q496 rfl rfl (hnm.trans rfl) rfl rfl rfl (Nat.le_of_ble_eq_true rfl) dX2_init_17 (fun H locs hP hS => ?_)
  refine lv_aload_n C.1 C.2.1 dX2_init_20 rfl (lv_at hl 0 rfl) ?_
  refine lv_bipush (v := 64) C.1 C.2.1 dX2_init_21 (by decide) ?_
  refine fw_newi C q88 hP hS (N' := 64) (by decide) (by decide) (Nat.le_of_ble_eq_true rfl) (Nat.le_of_ble_eq_true rfl) (Nat.le_of_ble_eq_true rfl) dX2_init_23 (fun Mh H1 hP hh0 hhA hS => ?_)
  have nh : M ≠ Mh := fW_ne fset_s hh0
  have nvh : Mv ≠ Mh := fW_ne ((fset_n nv.symm).trans fset_s) hh0
  have nkh : Mk ≠ Mh := fW_ne ((fset_n nk.symm).trans ((fset_n nkv).trans ((fset_n nk.symm).trans fset_s))) hh0
  have hh1 : w Mh = none := by rw [← hh0, fset_n nh.symm, fset_n nvh.symm, fset_n nh.symm, fset_n nkh.symm]
  refine fw_putF C in_X2 tyX2 tyX2_ok nmX2 hP hS hA ((fset_n nh).trans fset_s) rfl 2 (by decide) q497 rfl rfl (hnm.trans rfl) rfl rfl rfl (Nat.le_of_ble_eq_true rfl) dX2_init_25 (fun H locs hP hS => ?_)
  refine fw_vret C ⟨rfl, ⟨Mk, Mv, Mh, ⟨fset_s, ?_, ?_, ?_, ⟨nkv, nkh, nvh⟩, ⟨hA, hkA, hvA, hhA⟩, by omega⟩, hk0, hv1, hh1⟩, fun z e hz hzM => ?_⟩ hP hS ⟨Nat.le_of_ble_eq_true rfl, Nat.le_of_ble_eq_true rfl⟩ dX2_init_28
  · rw [fset_n nk.symm, fset_n nkh, fset_n nk.symm, fset_n nkv, fset_n nk.symm, fset_s]
  · rw [fset_n nv.symm, fset_n nvh, fset_n nv.symm, fset_s]
  · rw [fset_n nh.symm, fset_s]
  · rw [fset_n hzM, fset_n (fW_ne hz hh1), fset_n hzM, fset_n (fW_ne hz hv1), fset_n hzM, fset_n (fW_ne hz hk0)]
    exact hz
end INIT
end
section
/-! THE CLAIM OUT OF ONE WALK OF THE LAW'S BODY. Your part is whole_start (and what it stands on); all else here is the same for every law, but numbers. -/
def R_law : String := "BinaryTreeAddressableHeapDeskLaw"
def lw_P (b : Addr) (xs : List Int32) (args : Array Value) (s : State) : Prop := args = #[.ref b] ∧ s.IntsAt b xs ∧ xs.length ≤ 384 ∧ (Jvm.Cond.and given_1 narrow_1).before args s = true
def lw_Q (_ : Array Value) (s : State) (o : Outcome) (t : State) : Prop := o = .returned (some (.int 1)) ∧ Framed s o t [] 600128 7301098
def lw_Z (below : List Frame) (a : Array Value) (s : State) : State → Prop := fun t => ∃ o, t.status = .running ∧ Ended t below o ∧ lw_Q a s o t
/-- the law's own end, with 1 on the stack, nothing written that was there before, its room as the claim has it -/
theorem lw_ret {p : Program} {l : Launch} {e : Env} {s : State} {m : MethodId} {below : List Frame} {meth : Method} {c : Code} {b : Nat} (hx : p.tables.exec = Jvm.exec) (hb : c.code = code) (hr : meth.sig.returnType = ret) (hlocks : meth.locks = false) {pc : Nat} {H : Heap} {ls : Array Slot} (hdg : decode code pc = .ok (.ireturn, 1)) : W p l e room_1 s m #[Value.ref b] below meth c H [] 600128 7301098 (lw_Z below #[Value.ref b] s) (F0 m pc ls [.int 1]) := by
  intro T hT X
  obtain ⟨fs, hret, hrun, hended, hW, hframe⟩ := X.leave (v := some (.int 1)) (hlocks := hlocks) (fun h => by rw [hr] at h; cases h)
  have hmeth' : T.vm.method? m = some meth := X.method'
  refine ⟨T.setFrames fs, ?_, .returned (some (.int 1)), hrun, hended, rfl, ⟨_, rfl⟩, hW, hframe⟩
  jvm_step X.here [X.here.top, hx, hb, hdg, hmeth', hr, ret, narrow_b1]
  (try refine ⟨rfl, ?_⟩); (try refine ⟨rfl, ?_⟩)
  first | (intro acts; rw [hret _ acts rfl rfl rfl]) | rw [hret _ _ rfl rfl rfl]
  exact Steps.refl _
/-- what holds at the law's entry: the machine, the code, the tables' words (any of lw_tbl by 'hts w (by decide +kernel)'), the script of L ints xs at the cell b, what the Statement gives of the start (any of its parts by flat_of_before) -/
def lw_At (p : Program) (s : State) (m : MethodId) (meth : Method) (c : Code) (b L : Nat) (xs : Nat → Int32) : Prop :=
  p.tables.exec = Jvm.exec ∧ c.code = code ∧ meth.sig.returnType = ret ∧ c.maxLocals = 4 ∧ s.vm.findClass R_law = some m.cls ∧ (∀ w ∈ lw_tbl, w.before #[Value.ref b] s = true) ∧ va_X b L xs s s.heap ∧ b < s.heap.size ∧ meth.locks = false ∧ (Jvm.Cond.and given_1 narrow_1).before #[Value.ref b] s = true
end
section
/-! the law's start: classes, rows, the cache, DOWN -/
set_option maxRecDepth 100000
theorem fx_cache {args : Array Value} {s : State} {st : Term} (hc : st.closed = true) (hlen : (Term.length st).eval args s none [] s = some (.int (Int32.ofNat 256)))
    (hall : (Cond.all st (.and (.and (.exactly (.elem st (.index 0)) "java/lang/Integer") (.untouched (.elem st (.index 0)))) (.eq (.field (.elem st (.index 0)) "java/lang/Integer" "value" "I") (.sub (.index 0) (.int 128))))).before args s = true) :
    ∃ ad : Nat → Nat, ∀ k : Nat, k < 256 → (Term.elem st (.int (Int32.ofNat k))).eval args s none [] s = some (.ref (ad k)) ∧ ∃ (cell : Cell) (cf : ClassId) (kf : Class) (fi : Nat) (f : Field), s.heap[ad k]? = some cell ∧ s.vm.findClass "java/lang/Integer" = some cell.cls ∧ cell.vm = .none ∧ s.fieldFound? "java/lang/Integer" "value" "I" = some (cf, kf, fi, f) ∧ cell.slots[f.slot]? = some (.int (vb_c k)) := by
  obtain ⟨b, cell0, ht, hat, hv⟩ := Term.length_spec hlen
  have hsz : 256 ≤ cell0.slots.size := by
    rcases Nat.lt_or_ge cell0.slots.size 256 with z | z
    · have := (nI_eq (a := cell0.slots.size) (b := 256) (by omega) (by decide)).mp (Value.int.inj hv).symm
      omega
    · exact z
  have hel := Cond.all_elim ht hat (by simpa [Cond.before, Cond.holds] using hall)
  have h0 : ∀ k : Nat, ∃ a : Nat, k < 256 → (Term.elem st (.int (Int32.ofNat k))).eval args s none [] s = some (.ref a) ∧ ∃ (cell : Cell) (cf : ClassId) (kf : Class) (fi : Nat) (f : Field), s.heap[a]? = some cell ∧ s.vm.findClass "java/lang/Integer" = some cell.cls ∧ cell.vm = .none ∧ s.fieldFound? "java/lang/Integer" "value" "I" = some (cf, kf, fi, f) ∧ cell.slots[f.slot]? = some (.int (vb_c k)) := by
    intro k
    by_cases hk : k < 256
    · obtain ⟨h12, h3⟩ := va_andE (hel k (by omega))
      obtain ⟨h1, h2⟩ := va_andE h12
      obtain ⟨a, c, cell, kC, q1, q2, q3, q4, q5, q6, -⟩ := Cond.exactly_spec (args := args) (first := s) (o := none) (s := s) (idx := [k]) (t := .elem st (.index 0)) (cls := "java/lang/Integer") (by simp [Cond.holds, h1])
      obtain ⟨a', cell', u1, u2, -, -, u5⟩ := Cond.untouched_spec (args := args) (first := s) (o := none) (s := s) (idx := [k]) (t := .elem st (.index 0)) (by simp [Cond.holds, h2])
      cases q1.symm.trans u1
      cases q3.symm.trans u2
      have hfv := va_eqI h3 (v := .int (vb_c k)) (by simp [Term.eval, vb_c])
      refine ⟨a, fun _ => ⟨?_, ?_⟩⟩
      · rw [← q1]
        simp only [Term.eval, Term.eval_closed none [k] st s hc]
        rfl
      · cases hfo : s.fieldFound? "java/lang/Integer" "value" "I" with
        | none =>
          rw [va_fe q1] at hfv
          simp [State.fieldOf?, State.fieldNamed?, hfo] at hfv
        | some x =>
          obtain ⟨cf, kf, fi, f⟩ := x
          obtain ⟨g1, cell2, g2, -, -, -, g6⟩ := Term.field_spec hfo q1 hfv
          cases q3.symm.trans g2
          exact ⟨cell, cf, kf, fi, f, q3, by rw [q6]; exact q2, u5, rfl, g6⟩
    · exact ⟨0, fun h => absurd h hk⟩
  obtain ⟨ad, had⟩ := Classical.axiomOfChoice h0
  exact ⟨ad, had⟩
theorem fx_arr {args : Array Value} {s : State} {ty : FieldType} (h : (Cond.arrayClass ty).before args s = true) (hty : ty = .int ∨ ty = .long) : ∃ cA : ClassId, ArrOfT s cA ty ∧ va_RA s cA ty := by
  obtain ⟨cA, kA, comp, h1, h2, h3⟩ := Cond.arrayClass_spec h
  refine ⟨cA, fun n z => ⟨fun k h => (by cases h), kA, h2, comp, h3⟩, ?_⟩
  rcases hty with rfl | rfl
  · exact h1
  · exact h1
theorem fx_arq {args : Array Value} {s : State} {C : String} (h : (Cond.arrayOver (.object C)).before args s = true) : ∃ cA : ClassId, ArrOfT s cA (.object C) ∧ va_RA s cA (.object C) := by
  obtain ⟨comp, cA, kA, f0, -, f2, f3, f4⟩ := Cond.arrayOver_spec h
  exact ⟨cA, fun n z => ⟨fun k h => (by cases h), kA, f2, comp, f3⟩, kA, comp, f2, f3, f0, f4⟩
set_option maxHeartbeats 4000000 in
theorem law_start {p : Program} {s : State} {m : MethodId} {meth : Method} {c : Code} {b L : Nat} {xs : Nat → Int32} (C0 : lw_At p s m meth c b L xs) : ∃ (g : fG) (w : fW), g.2.1 = s.heap.size ∧ fE g s ∧ HP g w s.heap ∧ fCa g w := by
  obtain ⟨-, -, -, -, -, hts, -, -, -, hgv⟩ := C0
  have hs := flat_of_before _ hgv
  obtain ⟨c0, i0, k0⟩ := u_known (C := RX0) (T := TX0) (N := 4) hts (fun w h => lw_all_tbl (in_X0 w h)) (hts _ (lw_all_tbl q32))
  obtain ⟨c1, i1, k1⟩ := u_known (C := RX1) (T := TX1) (N := 3) hts (fun w h => lw_all_tbl (in_X1 w h)) (hts _ (lw_all_tbl q47))
  obtain ⟨c2, i2, k2⟩ := u_known (C := RX2) (T := TX2) (N := 4) hts (fun w h => lw_all_tbl (in_X2 w h)) (hts _ (lw_all_tbl q490))
  obtain ⟨c3, i3, k3⟩ := u_known (C := RX3) (T := TX3) (N := 5) hts (fun w h => lw_all_tbl (in_X3 w h)) (hts _ (lw_all_tbl q187))
  obtain ⟨c4, i4, k4⟩ := u_known (C := RJ1) (T := TJ1) (N := 1) hts (fun w h => lw_all_tbl (in_J1 w h)) (hts _ (lw_all_tbl q102))
  obtain ⟨c5, i5, k5⟩ := u_known (C := RJ6) (T := TJ6) (N := 3) hts (fun w h => lw_all_tbl (in_J6 w h)) (hts _ (lw_all_tbl q245))
  obtain ⟨aI, aI1, aI2⟩ := fx_arr (hts _ (lw_all_tbl q88)) (Or.inl rfl)
  obtain ⟨aJ, aJ1, aJ2⟩ := fx_arr (hts _ (lw_all_tbl q282)) (Or.inr rfl)
  obtain ⟨aH, aH1, aH2⟩ := fx_arq (hts _ q43)
  obtain ⟨aP, aP1, aP2⟩ := fx_arq (hts _ q74)
  have hlenC : (Cond.eq (.length (.static "java/lang/Integer$IntegerCache" "cache" "[Ljava/lang/Integer;")) (.int 256)).before #[Value.ref b] s = true := hs _ (by decide +kernel)
  have hlen : (Term.length (.static "java/lang/Integer$IntegerCache" "cache" "[Ljava/lang/Integer;")).eval #[Value.ref b] s none [] s = some (.int (Int32.ofNat 256)) := va_eqI (by simpa [Cond.before, Cond.holds] using hlenC) rfl
  have hall : (Cond.all (.static "java/lang/Integer$IntegerCache" "cache" "[Ljava/lang/Integer;") (.and (.and (.exactly (.elem (.static "java/lang/Integer$IntegerCache" "cache" "[Ljava/lang/Integer;") (.index 0)) "java/lang/Integer") (.untouched (.elem (.static "java/lang/Integer$IntegerCache" "cache" "[Ljava/lang/Integer;") (.index 0)))) (.eq (.field (.elem (.static "java/lang/Integer$IntegerCache" "cache" "[Ljava/lang/Integer;") (.index 0)) "java/lang/Integer" "value" "I") (.sub (.index 0) (.int 128))))).before #[Value.ref b] s = true := hs _ (by decide +kernel)
  have harr : (Cond.arrayOf (.static "java/lang/Integer$IntegerCache" "cache" "[Ljava/lang/Integer;") (.object "java/lang/Integer")).before #[Value.ref b] s = true := hs _ (by decide +kernel)
  have hhi : (Cond.eq (.static "java/lang/Integer$IntegerCache" "high" "I") (.int 127)).before #[Value.ref b] s = true := hs _ (by decide +kernel)
  have has : (Cond.eq (.static "java/util/BitSet" "$assertionsDisabled" "Z") (.int 1)).before #[Value.ref b] s = true := hs _ (by decide +kernel)
  have hdx : (Cond.exactly (.static "BinaryTreeAddressableHeapDesk" "DOWN" "LBinaryTreeAddressableHeapDesk$Down;") "BinaryTreeAddressableHeapDesk$Down").before #[Value.ref b] s = true := hs _ (by decide +kernel)
  obtain ⟨ad, had⟩ := fx_cache rfl hlen hall
  obtain ⟨dA, -, -, -, hdv, -⟩ := Cond.exactly_spec hdx
  have hlow : ∀ a : Nat, a < s.heap.size → ¬ s.heap.size ≤ a := fun a h => by omega
  obtain ⟨tC, htC, hT⟩ := va_Tof (A := fun q => s.heap.size ≤ q) (by decide) harr hlen (fun j hj => (had j hj).1) hlow
  obtain ⟨w, hw⟩ : ∃ w : fW, ∀ a : Nat, (∃ j, j < 256 ∧ ad j = a ∧ w a = some (fInt (vb_c j))) ∨ (w a = none ∧ ∀ j, j < 256 → ad j ≠ a) := by
    refine Classical.axiomOfChoice (r := fun a (o : Option va_E) => (∃ j, j < 256 ∧ ad j = a ∧ o = some (fInt (vb_c j))) ∨ (o = none ∧ ∀ j, j < 256 → ad j ≠ a)) (fun a => ?_)
    by_cases h : ∃ j, j < 256 ∧ ad j = a
    · obtain ⟨j, j1, j2⟩ := h
      exact ⟨some (fInt (vb_c j)), Or.inl ⟨j, j1, j2, rfl⟩⟩
    · exact ⟨none, Or.inr ⟨rfl, fun j j1 j2 => h ⟨j, j1, j2⟩⟩⟩
  refine ⟨((fun k => [c0, c1, c2, c3, c4, c5].getD k c0, fun k => [i0, i1, i2, i3, i4, i5].getD k i0), s.heap.size, (fun k => [aI, aJ, aH, aP].getD k aI), (tC, dA), ad), w, rfl, ⟨⟨?_, ?_⟩, Nat.le_refl _, ?_, ?_, ?_, hT, ?_, ?_, ?_⟩, ?_, ?_⟩
  · intro k q hq
    have hk : k < 6 := (List.getElem?_eq_some_iff.mp hq).1
    rcases (show k = 0 ∨ k = 1 ∨ k = 2 ∨ k = 3 ∨ k = 4 ∨ k = 5 by omega) with rfl | rfl | rfl | rfl | rfl | rfl <;> cases hq
    · exact k0
    · exact k1
    · exact k2
    · exact k3
    · exact k4
    · exact k5
  · intro k q hq
    have hk : k < 4 := (List.getElem?_eq_some_iff.mp hq).1
    rcases (show k = 0 ∨ k = 1 ∨ k = 2 ∨ k = 3 by omega) with rfl | rfl | rfl | rfl <;> cases hq
    · exact ⟨aI1, aI2⟩
    · exact ⟨aJ1, aJ2⟩
    · exact ⟨aH1, aH2⟩
    · exact ⟨aP1, aP2⟩
  · exact ⟨va_Nw.of rfl (hts _ q561), va_Nw.of rfl (hts _ q254), va_Nw.of rfl (hts _ q369), va_Nw.of rfl (hts _ q56), va_Nw.of rfl (hts _ q59), va_Nw.of rfl (hts _ q439), va_Nw.of rfl (hts _ q453), va_Nw.of rfl (hts _ q454), va_AO.of (hts _ q43), va_AO.of (hts _ q74), va_Fw.of (hts _ q223) (hts _ q222) (hts _ q228) (hts _ q226) (hts _ q224), va_Fw.of (hts _ q368) (hts _ q367) (hts _ q373) (hts _ q371) (hts _ q369), va_Fw.of (hts _ q382) (hts _ q381) (hts _ q386) (hts _ q384) (hts _ q369), va_Fw.of (hts _ q463) (hts _ q462) (hts _ q467) (hts _ q465) (hts _ q369), va_Fw.of (hts _ q412) (hts _ q411) (hts _ q416) (hts _ q414) (hts _ q369), va_Fw.of (hts _ q447) (hts _ q446) (hts _ q451) (hts _ q449) (hts _ q369)⟩
  · exact va_Zof (hts _ q98) (hts _ (lw_all_tbl q18)) (va_eqi hhi) hlow
  · exact va_Zof (hts _ q100) (hts _ (lw_all_tbl q18)) htC hlow
  · exact va_Zof (hts _ q271) (hts _ (lw_all_tbl q24)) (va_eqi has) hlow
  · exact va_Zof (hts _ q68) (hts _ (lw_all_tbl q13)) hdv hlow
  · exact va_Oof hdx hdv hlow
  · intro a e he
    rcases hw a with ⟨j, j1, j2, j3⟩ | ⟨j1, -⟩
    · rw [j3] at he
      cases he
      obtain ⟨-, cell, cf, kf, fi, f, g1, g2, g3, g4, g5⟩ := had j j1
      refine ⟨(RJ1, TJ1, 1), rfl, cell, by rw [← j2]; exact g1, Option.some.inj (g2.symm.trans k4.2.1), g3, fun k hk => ?_⟩
      have hk1 : k < 1 := hk
      rcases (show k = 0 by omega) with rfl
      obtain ⟨cf', kf', fi', f', g6, g7⟩ := k4.1 0 (by decide)
      cases g4.symm.trans g6
      show cell.slots[i4 0]? = _
      rw [← g7]
      exact g5
    · rw [j1] at he
      cases he
  · intro j hj
    show w (ad j) = _
    rcases hw (ad j) with ⟨j', j1, j2, j3⟩ | ⟨j1, j2⟩
    · rw [j3]
      obtain ⟨-, cell, cf, kf, fi, f, g1, g2, g3, g4, g5⟩ := had j hj
      obtain ⟨-, cell', cf', kf', fi', f', g1', g2', g3', g4', g5'⟩ := had j' j1
      rw [j2] at g1'
      cases g1.symm.trans g1'
      cases g4.symm.trans g4'
      have := Option.some.inj (g5'.symm.trans g5)
      rw [Value.int.inj this]
    · exact absurd rfl (j2 j hj)
end
section
/-! the law: its loop and its ten calls -/
set_option maxRecDepth 100000
section LAWF
variable {g : fG} {D F Wy Hm : Nat} {hp : Nat → Nat} {nx : Nat} {fk fv fh : Nat → Int32} {M Mk Mv Mh : Nat} {nx' : Nat} {fk' fv' fh' : Nat → Int32} {w w1 : fW}
/-- the desk's call leaves the model's cells -/
theorem MD.fr (hM : MD g M Mk Mv Mh nx' fk' fv' fh' w) (hK : DK g D F Wy Hm hp nx fk fv fh w) (hne : Hm ≠ Mk ∧ Hm ≠ Mv ∧ Hm ≠ Mh) (hF : fFr D Wy Hm hp w w1) : MD g M Mk Mv Mh nx' fk' fv' fh' w1 := by
  obtain ⟨nd, ns, kf, vf, oc, ys, ow, kv, ff, fw, fd, hA, hC⟩ := hK
  obtain ⟨a1, a2, a3, a4, a5, a6, -⟩ := hA
  obtain ⟨m1, m2, m3, m4, m5⟩ := hM
  have ar : ∀ (z : Nat) (f : Nat → Int32), z ≠ Hm → w z = some (iar g f) → w1 z = some (iar g f) := fun z f hz h => by
    refine hF z _ h (fun y => ?_) (fun y => ?_) hz (fun r hr => hC.neh hr h (fun fs e => by cases e)) (fun fs e => by cases e)
    · rw [y, a1] at h; cases h
    · rw [y, a4] at h; exact iar_ne h.symm
  refine ⟨?_, ar _ _ hne.1.symm m2, ar _ _ hne.2.1.symm m3, ar _ _ hne.2.2.symm m4, m5⟩
  refine hF M _ m1 (fun y => ?_) (fun y => ?_) (fun y => ?_) (fun r hr => hC.neh hr m1 (fun fs e => by cases e)) (fun fs e => by cases e)
  · rw [y, a1] at m1; cases m1
  · rw [y, a4] at m1; cases m1
  · rw [y, a6] at m1; cases m1
/-- the model's call leaves the desk's cells -/
theorem DK.fr (hK : DK g D F Wy Hm hp nx fk fv fh w) (hM : MD g M Mk Mv Mh nx' fk' fv' fh' w) (hne : Hm ≠ Mk ∧ Hm ≠ Mv ∧ Hm ≠ Mh) (hF : mFr M Mk Mv Mh w w1) : DK g D F Wy Hm hp nx fk fv fh w1 := by
  obtain ⟨m1, m2, m3, m4, m5⟩ := hM
  refine hK.mono (fun z ci fs hc hz => ?_) (fun z cA n f hz => ?_) (fun f hz => ?_)
  · rw [hF z (fun y => by rw [y, m1] at hz; cases hz; exact hc rfl) (fun y => by rw [y, m2] at hz; cases hz) (fun y => by rw [y, m3] at hz; cases hz) (fun y => by rw [y, m4] at hz; cases hz)]
    exact hz
  · rw [hF z (fun y => by rw [y, m1] at hz; cases hz) (fun y => by rw [y, m2] at hz; exact iar_ne hz) (fun y => by rw [y, m3] at hz; exact iar_ne hz) (fun y => by rw [y, m4] at hz; exact iar_ne hz)]
    exact hz
  · rw [hF Hm (fun y => by rw [y, m1] at hz; cases hz) hne.1 hne.2.1 hne.2.2]
    exact hz
end LAWF
/-- the law's loop: desk and model hold the same -/
def LI (g : fG) (D F Wy Hm : Nat) (hp : Nat → Nat) (M Mk Mv Mh : Nat) (w : fW) : Prop := ∃ (nx : Nat) (fk fv fh : Nat → Int32), DK g D F Wy Hm hp nx fk fv fh w ∧ MD g M Mk Mv Mh nx fk fv fh w
theorem DK.obj {g : fG} {D F Wy Hm : Nat} {hp : Nat → Nat} {nx : Nat} {fk fv fh : Nat → Int32} {w : fW} (hK : DK g D F Wy Hm hp nx fk fv fh w) : w D = some (dkc F Wy Hm nx) := by
  obtain ⟨nd, ns, kf, vf, oc, ys, ow, kv, ff, fw, fd, hA, hC⟩ := hK
  exact hA.1
section LAWR
variable {p : Program} {l : Launch} {e : Env} {R : Room} {s : State} {m : MethodId} {args : Array Value} {below : List Frame} {meth : Method} {c : Code} {H : Heap} {locs : List Loc} {cells slots : Nat} {Q : State → Prop}
variable {g : fG} {own : String} {cc : ByteArray} {nl : Nat} {rt : Option FieldType} {pc : Nat} {ls : Array Slot} {rest : List Value} {b L : Nat} {xs : Nat → Int32}
theorem lx_ld (C : fC g p s m args meth c own cc nl rt) (hX : va_X b L xs s s.heap) (hbl : b < s.heap.size) (hg : g.2.1 = s.heap.size) (hS : va_S (fA g) s.heap H locs) {j : Nat} (hj : j < L) (hL : L ≤ 384) (hdg : decode cc pc = .ok (.iaload, 1))
    (kk : W p l e R s m args below meth c H locs cells slots Q (F0 m (pc + 1) ls (.int (xs j) :: rest))) : W p l e R s m args below meth c H locs cells slots Q (F0 m pc ls (.int (nI j) :: .ref b :: rest)) := by
  refine va_sld (A := fA g) C.1 C.2.1 hX hbl (fun z => by unfold fA at z; omega) hS (vp_in_nI hj (by omega)) hdg ?_
  rw [nI_clamp (by omega)]
  exact kk
end LAWR
set_option maxHeartbeats 4000000 in
theorem law_loop {p : Program} {e : Env} {s : State} {m : MethodId} {below : List Frame} {meth : Method} {c : Code} (l : Launch) {b L : Nat} {xs : Nat → Int32} (hL : L ≤ 384) {g : fG} (C : fC g p s m #[Value.ref b] meth c R_law cL_law 4 ret) (hX : va_X b L xs s s.heap) (hbl : b < s.heap.size) (hg : g.2.1 = s.heap.size) {D F Wy Hm : Nat} {hp : Nat → Nat} {M Mk Mv Mh : Nat} (hne : Hm ≠ Mk ∧ Hm ≠ Mv ∧ Hm ≠ Mh) :
    ∀ (f k : Nat) (w : fW) (H : Heap) (locs : List Loc) (ls : Array Slot), 65 - k = f → k ≤ 64 → LI g D F Wy Hm hp M Mk Mv Mh w → HP g w H → va_S (fA g) s.heap H locs → lv_has ls 4 [(3, .int (nI (6 * k))), (2, .ref M), (1, .ref D), (0, .ref b)] →
      W p l e room_1 s m #[Value.ref b] below meth c H locs (12 + 6 * k) (344 + 12 * k) (lw_Z below #[Value.ref b] s) (F0 m 18 ls []) := by
  intro f
  induction f with
  | zero =>
    intro k w H locs ls hf hk
    omega
  | succ f ih =>
    intro k w H locs ls hf hk hI hP hS hl
    have e1 : nI (6 * k) + 1 = nI (6 * k + 1) := nI_add (6 * k) 1
    have e2 : nI (6 * k) + 2 = nI (6 * k + 2) := nI_add (6 * k) 2
    have e3 : nI (6 * k) + 3 = nI (6 * k + 3) := nI_add (6 * k) 3
    refine lv_iload_n C.1 C.2.1 dL_law_18 rfl (lv_at hl 0 rfl) ?_
    refine lv_aload_n C.1 C.2.1 dL_law_19 rfl (lv_at hl 3 rfl) ?_
    refine va_slen (A := fA g) C.1 C.2.1 hX hbl (fun z => by unfold fA at z; omega) hS dL_law_20 ?_
    refine lv_bipush (v := 6) C.1 C.2.1 dL_law_21 (by decide) ?_
    refine lv_isub C.1 C.2.1 dL_law_23 ?_
    refine lv_icmp_gt (tgt := 362) C.1 C.2.1 dL_law_24 (by decide) (fun c0 => ?_) (fun c0 => ?_)
    · refine lv_iconst (v := 1) C.1 C.2.1 dL_law_362 (by decide) ?_
      exact va_forget (fun q hq => by have := hS.2.2 q hq; unfold fA at this; omega) (W.widen (by omega) (by omega) (lw_ret C.1 C.2.1 C.2.2.1 C.2.2.2.1 dL_law_363))
    · have hk6 : 6 * k + 6 ≤ L := by
        rw [Int32.lt_iff_toInt_lt, nI_toInt (by omega)] at c0
        have := pk_sub_toInt (a := L) (b := 6) (by omega) (by decide)
        have h2 : (Int32.ofNat L - 6).toInt = (L : Int) - 6 := this
        rw [h2] at c0
        omega
      have next : ∀ (w : fW) (H : Heap) (locs : List Loc) (ce sl : Nat), ce ≤ 12 + 6 * (k + 1) → sl ≤ 344 + 12 * (k + 1) → LI g D F Wy Hm hp M Mk Mv Mh w → HP g w H → va_S (fA g) s.heap H locs → W p l e room_1 s m #[Value.ref b] below meth c H locs ce sl (lw_Z below #[Value.ref b] s) (F0 m 356 ls []) := by
        intro w H locs ce sl h1 h2 hI hP hS
        refine W.widen h1 h2 ?_
        refine lv_iinc (k := 0) (lv' := [(3, .int (nI (6 * (k + 1)))), (2, .ref M), (1, .ref D), (0, .ref b)]) C.1 C.2.1 dL_law_356 hl rfl (show nI (6 * k) + Int32.ofInt 6 = nI (6 * (k + 1)) from nI_add (6 * k) 6) (by decide) rfl (fun ls hl => ?_)
        refine lv_goto (tgt := 18) C.1 C.2.1 dL_law_359 (by decide) ?_
        exact ih (k + 1) w H locs ls (by omega) (by omega) hI hP hS hl
      refine lv_aload_n C.1 C.2.1 dL_law_27 rfl (lv_at hl 3 rfl) ?_
      refine lv_iload_n C.1 C.2.1 dL_law_28 rfl (lv_at hl 0 rfl) ?_
      refine lx_ld C hX hbl hg hS (by omega) hL dL_law_29 ?_
      refine lv_bipush (v := 15) C.1 C.2.1 dL_law_30 (by decide) ?_
      refine lv_iand C.1 C.2.1 dL_law_32 ?_
      obtain ⟨t, ht, hte⟩ := pk_andE (xs (6 * k)) (m := 15) 4 (by decide)
      rw [hte]
      obtain ⟨r, hr, hx, hx1⟩ := i_and3 (xs (6 * k + 1))
      obtain ⟨nx, fk, fv, fh, hK, hM⟩ := hI
      have hcap : ∀ n, n ≤ 12 → 12 + 6 * k + n ≤ 600128 := fun n hn => by omega
      have hcas : ∀ n, n ≤ 12 → 344 + 12 * k + n ≤ 7301098 := fun n hn => by omega
      rcases (show t = 0 ∨ t = 1 ∨ t = 2 ∨ t = 3 ∨ t = 4 ∨ t = 5 ∨ t = 6 ∨ t = 7 ∨ t = 8 ∨ t = 9 ∨ 10 ≤ t by omega) with rfl | rfl | rfl | rfl | rfl | rfl | rfl | rfl | rfl | rfl | hbig
      · refine lv_tableIn (off := 55) (tgt := 88) C.1 C.2.1 dL_law_33 (by decide) (by decide) (by decide) (by decide) ?_
        refine lv_aload_n C.1 C.2.1 dL_law_88 rfl (lv_at hl 2 rfl) ?_
        refine lv_aload_n C.1 C.2.1 dL_law_89 rfl (lv_at hl 3 rfl) ?_
        refine lv_iload_n C.1 C.2.1 dL_law_90 rfl (lv_at hl 0 rfl) ?_
        refine lv_iconst (v := 1) C.1 C.2.1 dL_law_91 (by decide) ?_
        refine lv_iadd C.1 C.2.1 dL_law_92 ?_
        rw [e1]
        refine lx_ld C hX hbl hg hS (by omega) hL dL_law_93 ?_
        refine lv_aload_n C.1 C.2.1 dL_law_94 rfl (lv_at hl 3 rfl) ?_
        refine lv_iload_n C.1 C.2.1 dL_law_95 rfl (lv_at hl 0 rfl) ?_
        refine lv_iconst (v := 2) C.1 C.2.1 dL_law_96 (by decide) ?_
        refine lv_iadd C.1 C.2.1 dL_law_97 ?_
        rw [e2]
        refine lx_ld C hX hbl hg hS (by omega) hL dL_law_98 ?_
        refine lv_aload_n C.1 C.2.1 dL_law_99 rfl (lv_at hl 3 rfl) ?_
        refine lv_iload_n C.1 C.2.1 dL_law_100 rfl (lv_at hl 0 rfl) ?_
        refine lv_iconst (v := 3) C.1 C.2.1 dL_law_101 (by decide) ?_
        refine lv_iadd C.1 C.2.1 dL_law_102 ?_
        rw [e3]
        refine lx_ld C hX hbl hg hS (by omega) hL dL_law_103 ?_
        refine fw_V C 3 (As := [.int (xs (6 * k + 1)), .int (xs (6 * k + 2)), .int (xs (6 * k + 3))]) (rest := []) (m_dput l g D F Wy Hm hp nx fk fv fh w hK (xs (6 * k + 1)) (xs (6 * k + 2)) (xs (6 * k + 3)) r hr hx) (lw_V q89 q90 q91 q13 q92) (by decide +kernel) ⟨Nat.le_of_ble_eq_true rfl, Nat.le_of_ble_eq_true rfl⟩ hP hS hK.obj rfl rfl rfl hl.1 (Nat.le_of_ble_eq_true rfl) dL_law_104 ⟨hcap _ (by omega), hcas _ (by omega)⟩ ?_
        rintro v w1 H1 locs1 (⟨h64, rfl, e1w⟩ | ⟨hlt, rfl, hK1, hF⟩) hP hS
        · rw [e1w] at hP
          clear e1w w1
          refine lv_aload_n C.1 C.2.1 dL_law_107 rfl (lv_at hl 1 rfl) ?_
          refine lv_aload_n C.1 C.2.1 dL_law_108 rfl (lv_at hl 3 rfl) ?_
          refine lv_iload_n C.1 C.2.1 dL_law_109 rfl (lv_at hl 0 rfl) ?_
          refine lv_iconst (v := 1) C.1 C.2.1 dL_law_110 (by decide) ?_
          refine lv_iadd C.1 C.2.1 dL_law_111 ?_
          rw [e1]
          refine lx_ld C hX hbl hg hS (by omega) hL dL_law_112 ?_
          refine lv_aload_n C.1 C.2.1 dL_law_113 rfl (lv_at hl 3 rfl) ?_
          refine lv_iload_n C.1 C.2.1 dL_law_114 rfl (lv_at hl 0 rfl) ?_
          refine lv_iconst (v := 2) C.1 C.2.1 dL_law_115 (by decide) ?_
          refine lv_iadd C.1 C.2.1 dL_law_116 ?_
          rw [e2]
          refine lx_ld C hX hbl hg hS (by omega) hL dL_law_117 ?_
          refine lv_aload_n C.1 C.2.1 dL_law_118 rfl (lv_at hl 3 rfl) ?_
          refine lv_iload_n C.1 C.2.1 dL_law_119 rfl (lv_at hl 0 rfl) ?_
          refine lv_iconst (v := 3) C.1 C.2.1 dL_law_120 (by decide) ?_
          refine lv_iadd C.1 C.2.1 dL_law_121 ?_
          rw [e3]
          refine lx_ld C hX hbl hg hS (by omega) hL dL_law_122 ?_
          refine fw_V C 3 (As := [.int (xs (6 * k + 1)), .int (xs (6 * k + 2)), .int (xs (6 * k + 3))]) (rest := [.int _]) (m_mput l g M Mk Mv Mh nx fk fv fh w hM (xs (6 * k + 1)) (xs (6 * k + 2)) (xs (6 * k + 3)) r hx) (lw_V q508 q509 q510 q15 q511) (by decide +kernel) ⟨Nat.le_of_ble_eq_true rfl, Nat.le_of_ble_eq_true rfl⟩ hP hS hM.1 rfl rfl rfl hl.1 (Nat.le_of_ble_eq_true rfl) dL_law_123 ⟨by show _ ≤ 600128; omega, by show _ ≤ 7301098; omega⟩ ?_
          rintro v w2 H1 locs1 (⟨h64b, rfl, e2w⟩ | ⟨hltb, rfl, hM2, hF2⟩) hP hS
          · rw [e2w] at hP
            refine lv_icmp_eq (tgt := 356) C.1 C.2.1 dL_law_126 (by decide) (fun c1 => ?_) (fun c1 => ?_)
            · exact next w _ _ _ _ (by omega) (by omega) ⟨nx, fk, fv, fh, hK, hM⟩ hP hS
            · exact absurd rfl c1
          · omega
        · have hM1 := hM.fr hK hne hF
          refine lv_aload_n C.1 C.2.1 dL_law_107 rfl (lv_at hl 1 rfl) ?_
          refine lv_aload_n C.1 C.2.1 dL_law_108 rfl (lv_at hl 3 rfl) ?_
          refine lv_iload_n C.1 C.2.1 dL_law_109 rfl (lv_at hl 0 rfl) ?_
          refine lv_iconst (v := 1) C.1 C.2.1 dL_law_110 (by decide) ?_
          refine lv_iadd C.1 C.2.1 dL_law_111 ?_
          rw [e1]
          refine lx_ld C hX hbl hg hS (by omega) hL dL_law_112 ?_
          refine lv_aload_n C.1 C.2.1 dL_law_113 rfl (lv_at hl 3 rfl) ?_
          refine lv_iload_n C.1 C.2.1 dL_law_114 rfl (lv_at hl 0 rfl) ?_
          refine lv_iconst (v := 2) C.1 C.2.1 dL_law_115 (by decide) ?_
          refine lv_iadd C.1 C.2.1 dL_law_116 ?_
          rw [e2]
          refine lx_ld C hX hbl hg hS (by omega) hL dL_law_117 ?_
          refine lv_aload_n C.1 C.2.1 dL_law_118 rfl (lv_at hl 3 rfl) ?_
          refine lv_iload_n C.1 C.2.1 dL_law_119 rfl (lv_at hl 0 rfl) ?_
          refine lv_iconst (v := 3) C.1 C.2.1 dL_law_120 (by decide) ?_
          refine lv_iadd C.1 C.2.1 dL_law_121 ?_
          rw [e3]
          refine lx_ld C hX hbl hg hS (by omega) hL dL_law_122 ?_
          refine fw_V C 3 (As := [.int (xs (6 * k + 1)), .int (xs (6 * k + 2)), .int (xs (6 * k + 3))]) (rest := [.int _]) (m_mput l g M Mk Mv Mh nx fk fv fh w1 hM1 (xs (6 * k + 1)) (xs (6 * k + 2)) (xs (6 * k + 3)) r hx) (lw_V q508 q509 q510 q15 q511) (by decide +kernel) ⟨Nat.le_of_ble_eq_true rfl, Nat.le_of_ble_eq_true rfl⟩ hP hS hM1.1 rfl rfl rfl hl.1 (Nat.le_of_ble_eq_true rfl) dL_law_123 ⟨by show _ ≤ 600128; omega, by show _ ≤ 7301098; omega⟩ ?_
          rintro v w2 H1 locs1 (⟨h64b, rfl, e2w⟩ | ⟨hltb, rfl, hM2, hF2⟩) hP hS
          · omega
          · refine lv_icmp_eq (tgt := 356) C.1 C.2.1 dL_law_126 (by decide) (fun c1 => ?_) (fun c1 => ?_)
            · exact next w2 _ _ _ _ (by omega) (by omega) ⟨_, _, _, _, hK1.fr hM1 hne hF2, hM2⟩ hP hS
            · exact absurd rfl c1
      · refine lv_tableIn (off := 98) (tgt := 131) C.1 C.2.1 dL_law_33 (by decide) (by decide) (by decide) (by decide) ?_
        refine lv_aload_n C.1 C.2.1 dL_law_131 rfl (lv_at hl 2 rfl) ?_
        refine lv_aload_n C.1 C.2.1 dL_law_132 rfl (lv_at hl 3 rfl) ?_
        refine lv_iload_n C.1 C.2.1 dL_law_133 rfl (lv_at hl 0 rfl) ?_
        refine lv_iconst (v := 1) C.1 C.2.1 dL_law_134 (by decide) ?_
        refine lv_iadd C.1 C.2.1 dL_law_135 ?_
        rw [e1]
        refine lx_ld C hX hbl hg hS (by omega) hL dL_law_136 ?_
        refine fw_V C 1 (As := [.int (xs (6 * k + 1))]) (rest := []) (m_dleast l g D F Wy Hm hp nx fk fv fh w hK (xs (6 * k + 1)) r hr hx) (lw_V q317 q318 q319 q13 q320) (by decide +kernel) ⟨Nat.le_of_ble_eq_true rfl, Nat.le_of_ble_eq_true rfl⟩ hP hS hK.obj rfl rfl rfl hl.1 (Nat.le_of_ble_eq_true rfl) dL_law_137 ⟨hcap _ (by omega), hcas _ (by omega)⟩ ?_
        rintro r w1 H1 locs1 ⟨rfl, e1⟩ hP hS
        rw [e1] at hP
        clear e1 w1
        refine lv_aload_n C.1 C.2.1 dL_law_140 rfl (lv_at hl 1 rfl) ?_
        refine lv_aload_n C.1 C.2.1 dL_law_141 rfl (lv_at hl 3 rfl) ?_
        refine lv_iload_n C.1 C.2.1 dL_law_142 rfl (lv_at hl 0 rfl) ?_
        refine lv_iconst (v := 1) C.1 C.2.1 dL_law_143 (by decide) ?_
        refine lv_iadd C.1 C.2.1 dL_law_144 ?_
        rw [e1]
        refine lx_ld C hX hbl hg hS (by omega) hL dL_law_145 ?_
        refine fw_V C 1 (As := [.int (xs (6 * k + 1))]) (rest := [.int _]) (m_mleast l g M Mk Mv Mh nx fk fv fh w hM (xs (6 * k + 1)) r hr hx) (lw_V q513 q514 q515 q15 q516) (by decide +kernel) ⟨Nat.le_of_ble_eq_true rfl, Nat.le_of_ble_eq_true rfl⟩ hP hS hM.1 rfl rfl rfl hl.1 (Nat.le_of_ble_eq_true rfl) dL_law_146 ⟨by show _ ≤ 600128; omega, by show _ ≤ 7301098; omega⟩ ?_
        rintro r w1 H1 locs1 ⟨rfl, e1⟩ hP hS
        rw [e1] at hP
        clear e1 w1
        refine lv_icmp_eq (tgt := 356) C.1 C.2.1 dL_law_149 (by decide) (fun c1 => ?_) (fun c1 => ?_)
        · exact next w _ _ _ _ (by omega) (by omega) ⟨nx, fk, fv, fh, hK, hM⟩ hP hS
        · exact absurd rfl c1
      · refine lv_tableIn (off := 121) (tgt := 154) C.1 C.2.1 dL_law_33 (by decide) (by decide) (by decide) (by decide) ?_
        refine lv_aload_n C.1 C.2.1 dL_law_154 rfl (lv_at hl 2 rfl) ?_
        refine lv_aload_n C.1 C.2.1 dL_law_155 rfl (lv_at hl 3 rfl) ?_
        refine lv_iload_n C.1 C.2.1 dL_law_156 rfl (lv_at hl 0 rfl) ?_
        refine lv_iconst (v := 1) C.1 C.2.1 dL_law_157 (by decide) ?_
        refine lv_iadd C.1 C.2.1 dL_law_158 ?_
        rw [e1]
        refine lx_ld C hX hbl hg hS (by omega) hL dL_law_159 ?_
        refine fw_V C 1 (As := [.int (xs (6 * k + 1))]) (rest := []) (m_dvalue l g D F Wy Hm hp nx fk fv fh w hK (xs (6 * k + 1)) r hr hx) (lw_V q375 q376 q377 q13 q378) (by decide +kernel) ⟨Nat.le_of_ble_eq_true rfl, Nat.le_of_ble_eq_true rfl⟩ hP hS hK.obj rfl rfl rfl hl.1 (Nat.le_of_ble_eq_true rfl) dL_law_160 ⟨hcap _ (by omega), hcas _ (by omega)⟩ ?_
        rintro r w1 H1 locs1 ⟨rfl, e1⟩ hP hS
        rw [e1] at hP
        clear e1 w1
        refine lv_aload_n C.1 C.2.1 dL_law_163 rfl (lv_at hl 1 rfl) ?_
        refine lv_aload_n C.1 C.2.1 dL_law_164 rfl (lv_at hl 3 rfl) ?_
        refine lv_iload_n C.1 C.2.1 dL_law_165 rfl (lv_at hl 0 rfl) ?_
        refine lv_iconst (v := 1) C.1 C.2.1 dL_law_166 (by decide) ?_
        refine lv_iadd C.1 C.2.1 dL_law_167 ?_
        rw [e1]
        refine lx_ld C hX hbl hg hS (by omega) hL dL_law_168 ?_
        refine fw_V C 1 (As := [.int (xs (6 * k + 1))]) (rest := [.int _]) (m_mvalue l g M Mk Mv Mh nx fk fv fh w hM (xs (6 * k + 1)) r hr hx) (lw_V q521 q522 q523 q15 q524) (by decide +kernel) ⟨Nat.le_of_ble_eq_true rfl, Nat.le_of_ble_eq_true rfl⟩ hP hS hM.1 rfl rfl rfl hl.1 (Nat.le_of_ble_eq_true rfl) dL_law_169 ⟨by show _ ≤ 600128; omega, by show _ ≤ 7301098; omega⟩ ?_
        rintro r w1 H1 locs1 ⟨rfl, e1⟩ hP hS
        rw [e1] at hP
        clear e1 w1
        refine lv_icmp_eq (tgt := 356) C.1 C.2.1 dL_law_172 (by decide) (fun c1 => ?_) (fun c1 => ?_)
        · exact next w _ _ _ _ (by omega) (by omega) ⟨nx, fk, fv, fh, hK, hM⟩ hP hS
        · exact absurd rfl c1
      · refine lv_tableIn (off := 144) (tgt := 177) C.1 C.2.1 dL_law_33 (by decide) (by decide) (by decide) (by decide) ?_
        refine lv_aload_n C.1 C.2.1 dL_law_177 rfl (lv_at hl 2 rfl) ?_
        refine lv_aload_n C.1 C.2.1 dL_law_178 rfl (lv_at hl 3 rfl) ?_
        refine lv_iload_n C.1 C.2.1 dL_law_179 rfl (lv_at hl 0 rfl) ?_
        refine lv_iconst (v := 1) C.1 C.2.1 dL_law_180 (by decide) ?_
        refine lv_iadd C.1 C.2.1 dL_law_181 ?_
        rw [e1]
        refine lx_ld C hX hbl hg hS (by omega) hL dL_law_182 ?_
        refine fw_V C 1 (As := [.int (xs (6 * k + 1))]) (rest := []) (m_dtake l g D F Wy Hm hp nx fk fv fh w hK (xs (6 * k + 1)) r hr hx) (lw_V q388 q389 q390 q13 q391) (by decide +kernel) ⟨Nat.le_of_ble_eq_true rfl, Nat.le_of_ble_eq_true rfl⟩ hP hS hK.obj rfl rfl rfl hl.1 (Nat.le_of_ble_eq_true rfl) dL_law_183 ⟨hcap _ (by omega), hcas _ (by omega)⟩ ?_
        rintro v w1 H1 locs1 ⟨rfl, hK1, hF⟩ hP hS
        have hM1 := hM.fr hK hne hF
        refine lv_aload_n C.1 C.2.1 dL_law_186 rfl (lv_at hl 1 rfl) ?_
        refine lv_aload_n C.1 C.2.1 dL_law_187 rfl (lv_at hl 3 rfl) ?_
        refine lv_iload_n C.1 C.2.1 dL_law_188 rfl (lv_at hl 0 rfl) ?_
        refine lv_iconst (v := 1) C.1 C.2.1 dL_law_189 (by decide) ?_
        refine lv_iadd C.1 C.2.1 dL_law_190 ?_
        rw [e1]
        refine lx_ld C hX hbl hg hS (by omega) hL dL_law_191 ?_
        refine fw_V C 1 (As := [.int (xs (6 * k + 1))]) (rest := [.int _]) (m_mtake l g M Mk Mv Mh nx fk fv fh w1 hM1 (xs (6 * k + 1)) r hr hx) (lw_V q525 q526 q527 q15 q528) (by decide +kernel) ⟨Nat.le_of_ble_eq_true rfl, Nat.le_of_ble_eq_true rfl⟩ hP hS hM1.1 rfl rfl rfl hl.1 (Nat.le_of_ble_eq_true rfl) dL_law_192 ⟨by show _ ≤ 600128; omega, by show _ ≤ 7301098; omega⟩ ?_
        rintro v w2 H1 locs1 ⟨rfl, hM2, hF2⟩ hP hS
        refine lv_icmp_eq (tgt := 356) C.1 C.2.1 dL_law_195 (by decide) (fun c1 => ?_) (fun c1 => ?_)
        · exact next w2 _ _ _ _ (by omega) (by omega) ⟨_, _, _, _, hK1.fr hM1 hne hF2, hM2⟩ hP hS
        · exact absurd rfl c1
      · refine lv_tableIn (off := 167) (tgt := 200) C.1 C.2.1 dL_law_33 (by decide) (by decide) (by decide) (by decide) ?_
        refine lv_aload_n C.1 C.2.1 dL_law_200 rfl (lv_at hl 2 rfl) ?_
        refine lv_aload_n C.1 C.2.1 dL_law_201 rfl (lv_at hl 3 rfl) ?_
        refine lv_iload_n C.1 C.2.1 dL_law_202 rfl (lv_at hl 0 rfl) ?_
        refine lv_iconst (v := 1) C.1 C.2.1 dL_law_203 (by decide) ?_
        refine lv_iadd C.1 C.2.1 dL_law_204 ?_
        rw [e1]
        refine lx_ld C hX hbl hg hS (by omega) hL dL_law_205 ?_
        refine lv_aload_n C.1 C.2.1 dL_law_206 rfl (lv_at hl 3 rfl) ?_
        refine lv_iload_n C.1 C.2.1 dL_law_207 rfl (lv_at hl 0 rfl) ?_
        refine lv_iconst (v := 2) C.1 C.2.1 dL_law_208 (by decide) ?_
        refine lv_iadd C.1 C.2.1 dL_law_209 ?_
        rw [e2]
        refine lx_ld C hX hbl hg hS (by omega) hL dL_law_210 ?_
        refine fw_V C 2 (As := [.int (xs (6 * k + 1)), .int (xs (6 * k + 2))]) (rest := []) (m_dlower l g D F Wy Hm hp nx fk fv fh w hK (xs (6 * k + 1)) (xs (6 * k + 2))) (lw_V q400 q401 q402 q13 q403) (by decide +kernel) ⟨Nat.le_of_ble_eq_true rfl, Nat.le_of_ble_eq_true rfl⟩ hP hS hK.obj rfl rfl rfl hl.1 (Nat.le_of_ble_eq_true rfl) dL_law_211 ⟨hcap _ (by omega), hcas _ (by omega)⟩ ?_
        rintro v w1 H1 locs1 ⟨rfl, hK1, hF⟩ hP hS
        have hM1 := hM.fr hK hne hF
        refine lv_aload_n C.1 C.2.1 dL_law_214 rfl (lv_at hl 1 rfl) ?_
        refine lv_aload_n C.1 C.2.1 dL_law_215 rfl (lv_at hl 3 rfl) ?_
        refine lv_iload_n C.1 C.2.1 dL_law_216 rfl (lv_at hl 0 rfl) ?_
        refine lv_iconst (v := 1) C.1 C.2.1 dL_law_217 (by decide) ?_
        refine lv_iadd C.1 C.2.1 dL_law_218 ?_
        rw [e1]
        refine lx_ld C hX hbl hg hS (by omega) hL dL_law_219 ?_
        refine lv_aload_n C.1 C.2.1 dL_law_220 rfl (lv_at hl 3 rfl) ?_
        refine lv_iload_n C.1 C.2.1 dL_law_221 rfl (lv_at hl 0 rfl) ?_
        refine lv_iconst (v := 2) C.1 C.2.1 dL_law_222 (by decide) ?_
        refine lv_iadd C.1 C.2.1 dL_law_223 ?_
        rw [e2]
        refine lx_ld C hX hbl hg hS (by omega) hL dL_law_224 ?_
        refine fw_V C 2 (As := [.int (xs (6 * k + 1)), .int (xs (6 * k + 2))]) (rest := [.int _]) (m_mlower l g M Mk Mv Mh nx fk fv fh w1 hM1 (xs (6 * k + 1)) (xs (6 * k + 2))) (lw_V q529 q530 q531 q15 q532) (by decide +kernel) ⟨Nat.le_of_ble_eq_true rfl, Nat.le_of_ble_eq_true rfl⟩ hP hS hM1.1 rfl rfl rfl hl.1 (Nat.le_of_ble_eq_true rfl) dL_law_225 ⟨by show _ ≤ 600128; omega, by show _ ≤ 7301098; omega⟩ ?_
        rintro v w2 H1 locs1 ⟨rfl, hM2, hF2⟩ hP hS
        refine lv_icmp_eq (tgt := 356) C.1 C.2.1 dL_law_228 (by decide) (fun c1 => ?_) (fun c1 => ?_)
        · exact next w2 _ _ _ _ (by omega) (by omega) ⟨_, _, _, _, hK1.fr hM1 hne hF2, hM2⟩ hP hS
        · exact absurd rfl c1
      · refine lv_tableIn (off := 200) (tgt := 233) C.1 C.2.1 dL_law_33 (by decide) (by decide) (by decide) (by decide) ?_
        refine lv_aload_n C.1 C.2.1 dL_law_233 rfl (lv_at hl 2 rfl) ?_
        refine lv_aload_n C.1 C.2.1 dL_law_234 rfl (lv_at hl 3 rfl) ?_
        refine lv_iload_n C.1 C.2.1 dL_law_235 rfl (lv_at hl 0 rfl) ?_
        refine lv_iconst (v := 1) C.1 C.2.1 dL_law_236 (by decide) ?_
        refine lv_iadd C.1 C.2.1 dL_law_237 ?_
        rw [e1]
        refine lx_ld C hX hbl hg hS (by omega) hL dL_law_238 ?_
        refine fw_V C 1 (As := [.int (xs (6 * k + 1))]) (rest := []) (m_ddrop l g D F Wy Hm hp nx fk fv fh w hK (xs (6 * k + 1))) (lw_V q440 q441 q442 q13 q443) (by decide +kernel) ⟨Nat.le_of_ble_eq_true rfl, Nat.le_of_ble_eq_true rfl⟩ hP hS hK.obj rfl rfl rfl hl.1 (Nat.le_of_ble_eq_true rfl) dL_law_239 ⟨hcap _ (by omega), hcas _ (by omega)⟩ ?_
        rintro v w1 H1 locs1 ⟨rfl, hK1, hF⟩ hP hS
        have hM1 := hM.fr hK hne hF
        refine lv_aload_n C.1 C.2.1 dL_law_242 rfl (lv_at hl 1 rfl) ?_
        refine lv_aload_n C.1 C.2.1 dL_law_243 rfl (lv_at hl 3 rfl) ?_
        refine lv_iload_n C.1 C.2.1 dL_law_244 rfl (lv_at hl 0 rfl) ?_
        refine lv_iconst (v := 1) C.1 C.2.1 dL_law_245 (by decide) ?_
        refine lv_iadd C.1 C.2.1 dL_law_246 ?_
        rw [e1]
        refine lx_ld C hX hbl hg hS (by omega) hL dL_law_247 ?_
        refine fw_V C 1 (As := [.int (xs (6 * k + 1))]) (rest := [.int _]) (m_mdrop l g M Mk Mv Mh nx fk fv fh w1 hM1 (xs (6 * k + 1))) (lw_V q538 q539 q540 q15 q541) (by decide +kernel) ⟨Nat.le_of_ble_eq_true rfl, Nat.le_of_ble_eq_true rfl⟩ hP hS hM1.1 rfl rfl rfl hl.1 (Nat.le_of_ble_eq_true rfl) dL_law_248 ⟨by show _ ≤ 600128; omega, by show _ ≤ 7301098; omega⟩ ?_
        rintro v w2 H1 locs1 ⟨rfl, hM2, hF2⟩ hP hS
        refine lv_icmp_eq (tgt := 356) C.1 C.2.1 dL_law_251 (by decide) (fun c1 => ?_) (fun c1 => ?_)
        · exact next w2 _ _ _ _ (by omega) (by omega) ⟨_, _, _, _, hK1.fr hM1 hne hF2, hM2⟩ hP hS
        · exact absurd rfl c1
      · refine lv_tableIn (off := 223) (tgt := 256) C.1 C.2.1 dL_law_33 (by decide) (by decide) (by decide) (by decide) ?_
        refine lv_aload_n C.1 C.2.1 dL_law_256 rfl (lv_at hl 2 rfl) ?_
        refine lv_aload_n C.1 C.2.1 dL_law_257 rfl (lv_at hl 3 rfl) ?_
        refine lv_iload_n C.1 C.2.1 dL_law_258 rfl (lv_at hl 0 rfl) ?_
        refine lv_iconst (v := 1) C.1 C.2.1 dL_law_259 (by decide) ?_
        refine lv_iadd C.1 C.2.1 dL_law_260 ?_
        rw [e1]
        refine lx_ld C hX hbl hg hS (by omega) hL dL_law_261 ?_
        refine lv_aload_n C.1 C.2.1 dL_law_262 rfl (lv_at hl 3 rfl) ?_
        refine lv_iload_n C.1 C.2.1 dL_law_263 rfl (lv_at hl 0 rfl) ?_
        refine lv_iconst (v := 2) C.1 C.2.1 dL_law_264 (by decide) ?_
        refine lv_iadd C.1 C.2.1 dL_law_265 ?_
        rw [e2]
        refine lx_ld C hX hbl hg hS (by omega) hL dL_law_266 ?_
        refine fw_V C 2 (As := [.int (xs (6 * k + 1)), .int (xs (6 * k + 2))]) (rest := []) (m_dchange l g D F Wy Hm hp nx fk fv fh w hK (xs (6 * k + 1)) (xs (6 * k + 2))) (lw_V q456 q457 q458 q13 q459) (by decide +kernel) ⟨Nat.le_of_ble_eq_true rfl, Nat.le_of_ble_eq_true rfl⟩ hP hS hK.obj rfl rfl rfl hl.1 (Nat.le_of_ble_eq_true rfl) dL_law_267 ⟨hcap _ (by omega), hcas _ (by omega)⟩ ?_
        rintro v w1 H1 locs1 ⟨rfl, hK1, hF⟩ hP hS
        have hM1 := hM.fr hK hne hF
        refine lv_aload_n C.1 C.2.1 dL_law_270 rfl (lv_at hl 1 rfl) ?_
        refine lv_aload_n C.1 C.2.1 dL_law_271 rfl (lv_at hl 3 rfl) ?_
        refine lv_iload_n C.1 C.2.1 dL_law_272 rfl (lv_at hl 0 rfl) ?_
        refine lv_iconst (v := 1) C.1 C.2.1 dL_law_273 (by decide) ?_
        refine lv_iadd C.1 C.2.1 dL_law_274 ?_
        rw [e1]
        refine lx_ld C hX hbl hg hS (by omega) hL dL_law_275 ?_
        refine lv_aload_n C.1 C.2.1 dL_law_276 rfl (lv_at hl 3 rfl) ?_
        refine lv_iload_n C.1 C.2.1 dL_law_277 rfl (lv_at hl 0 rfl) ?_
        refine lv_iconst (v := 2) C.1 C.2.1 dL_law_278 (by decide) ?_
        refine lv_iadd C.1 C.2.1 dL_law_279 ?_
        rw [e2]
        refine lx_ld C hX hbl hg hS (by omega) hL dL_law_280 ?_
        refine fw_V C 2 (As := [.int (xs (6 * k + 1)), .int (xs (6 * k + 2))]) (rest := [.int _]) (m_mchange l g M Mk Mv Mh nx fk fv fh w1 hM1 (xs (6 * k + 1)) (xs (6 * k + 2))) (lw_V q542 q543 q544 q15 q545) (by decide +kernel) ⟨Nat.le_of_ble_eq_true rfl, Nat.le_of_ble_eq_true rfl⟩ hP hS hM1.1 rfl rfl rfl hl.1 (Nat.le_of_ble_eq_true rfl) dL_law_281 ⟨by show _ ≤ 600128; omega, by show _ ≤ 7301098; omega⟩ ?_
        rintro v w2 H1 locs1 ⟨rfl, hM2, hF2⟩ hP hS
        refine lv_icmp_eq (tgt := 356) C.1 C.2.1 dL_law_284 (by decide) (fun c1 => ?_) (fun c1 => ?_)
        · exact next w2 _ _ _ _ (by omega) (by omega) ⟨_, _, _, _, hK1.fr hM1 hne hF2, hM2⟩ hP hS
        · exact absurd rfl c1
      · refine lv_tableIn (off := 256) (tgt := 289) C.1 C.2.1 dL_law_33 (by decide) (by decide) (by decide) (by decide) ?_
        refine lv_aload_n C.1 C.2.1 dL_law_289 rfl (lv_at hl 2 rfl) ?_
        refine lv_aload_n C.1 C.2.1 dL_law_290 rfl (lv_at hl 3 rfl) ?_
        refine lv_iload_n C.1 C.2.1 dL_law_291 rfl (lv_at hl 0 rfl) ?_
        refine lv_iconst (v := 1) C.1 C.2.1 dL_law_292 (by decide) ?_
        refine lv_iadd C.1 C.2.1 dL_law_293 ?_
        rw [e1]
        refine lx_ld C hX hbl hg hS (by omega) hL dL_law_294 ?_
        refine fw_V C 1 (As := [.int (xs (6 * k + 1))]) (rest := []) (m_dkey l g D F Wy Hm hp nx fk fv fh w hK (xs (6 * k + 1))) (lw_V q469 q470 q471 q13 q472) (by decide +kernel) ⟨Nat.le_of_ble_eq_true rfl, Nat.le_of_ble_eq_true rfl⟩ hP hS hK.obj rfl rfl rfl hl.1 (Nat.le_of_ble_eq_true rfl) dL_law_295 ⟨hcap _ (by omega), hcas _ (by omega)⟩ ?_
        rintro r w1 H1 locs1 ⟨rfl, e1⟩ hP hS
        rw [e1] at hP
        clear e1 w1
        refine lv_aload_n C.1 C.2.1 dL_law_298 rfl (lv_at hl 1 rfl) ?_
        refine lv_aload_n C.1 C.2.1 dL_law_299 rfl (lv_at hl 3 rfl) ?_
        refine lv_iload_n C.1 C.2.1 dL_law_300 rfl (lv_at hl 0 rfl) ?_
        refine lv_iconst (v := 1) C.1 C.2.1 dL_law_301 (by decide) ?_
        refine lv_iadd C.1 C.2.1 dL_law_302 ?_
        rw [e1]
        refine lx_ld C hX hbl hg hS (by omega) hL dL_law_303 ?_
        refine fw_V C 1 (As := [.int (xs (6 * k + 1))]) (rest := [.int _]) (m_mkey l g M Mk Mv Mh nx fk fv fh w hM (xs (6 * k + 1))) (lw_V q546 q547 q548 q15 q549) (by decide +kernel) ⟨Nat.le_of_ble_eq_true rfl, Nat.le_of_ble_eq_true rfl⟩ hP hS hM.1 rfl rfl rfl hl.1 (Nat.le_of_ble_eq_true rfl) dL_law_304 ⟨by show _ ≤ 600128; omega, by show _ ≤ 7301098; omega⟩ ?_
        rintro r w1 H1 locs1 ⟨rfl, e1⟩ hP hS
        rw [e1] at hP
        clear e1 w1
        refine lv_icmp_eq (tgt := 356) C.1 C.2.1 dL_law_307 (by decide) (fun c1 => ?_) (fun c1 => ?_)
        · exact next w _ _ _ _ (by omega) (by omega) ⟨nx, fk, fv, fh, hK, hM⟩ hP hS
        · exact absurd rfl c1
      · refine lv_tableIn (off := 279) (tgt := 312) C.1 C.2.1 dL_law_33 (by decide) (by decide) (by decide) (by decide) ?_
        refine lv_aload_n C.1 C.2.1 dL_law_312 rfl (lv_at hl 2 rfl) ?_
        refine lv_aload_n C.1 C.2.1 dL_law_313 rfl (lv_at hl 3 rfl) ?_
        refine lv_iload_n C.1 C.2.1 dL_law_314 rfl (lv_at hl 0 rfl) ?_
        refine lv_iconst (v := 1) C.1 C.2.1 dL_law_315 (by decide) ?_
        refine lv_iadd C.1 C.2.1 dL_law_316 ?_
        rw [e1]
        refine lx_ld C hX hbl hg hS (by omega) hL dL_law_317 ?_
        refine fw_V C 1 (As := [.int (xs (6 * k + 1))]) (rest := []) (m_dsize l g D F Wy Hm hp nx fk fv fh w hK (xs (6 * k + 1)) r hr hx) (lw_V q473 q474 q475 q13 q476) (by decide +kernel) ⟨Nat.le_of_ble_eq_true rfl, Nat.le_of_ble_eq_true rfl⟩ hP hS hK.obj rfl rfl rfl hl.1 (Nat.le_of_ble_eq_true rfl) dL_law_318 ⟨hcap _ (by omega), hcas _ (by omega)⟩ ?_
        rintro r w1 H1 locs1 ⟨rfl, e1⟩ hP hS
        rw [e1] at hP
        clear e1 w1
        refine lv_aload_n C.1 C.2.1 dL_law_321 rfl (lv_at hl 1 rfl) ?_
        refine lv_aload_n C.1 C.2.1 dL_law_322 rfl (lv_at hl 3 rfl) ?_
        refine lv_iload_n C.1 C.2.1 dL_law_323 rfl (lv_at hl 0 rfl) ?_
        refine lv_iconst (v := 1) C.1 C.2.1 dL_law_324 (by decide) ?_
        refine lv_iadd C.1 C.2.1 dL_law_325 ?_
        rw [e1]
        refine lx_ld C hX hbl hg hS (by omega) hL dL_law_326 ?_
        refine fw_V C 1 (As := [.int (xs (6 * k + 1))]) (rest := [.int _]) (m_msize l g M Mk Mv Mh nx fk fv fh w hM (xs (6 * k + 1)) r hx) (lw_V q550 q551 q552 q15 q553) (by decide +kernel) ⟨Nat.le_of_ble_eq_true rfl, Nat.le_of_ble_eq_true rfl⟩ hP hS hM.1 rfl rfl rfl hl.1 (Nat.le_of_ble_eq_true rfl) dL_law_327 ⟨by show _ ≤ 600128; omega, by show _ ≤ 7301098; omega⟩ ?_
        rintro r w1 H1 locs1 ⟨rfl, e1⟩ hP hS
        rw [e1] at hP
        clear e1 w1
        refine lv_icmp_eq (tgt := 356) C.1 C.2.1 dL_law_330 (by decide) (fun c1 => ?_) (fun c1 => ?_)
        · exact next w _ _ _ _ (by omega) (by omega) ⟨nx, fk, fv, fh, hK, hM⟩ hP hS
        · exact absurd rfl c1
      · refine lv_tableIn (off := 302) (tgt := 335) C.1 C.2.1 dL_law_33 (by decide) (by decide) (by decide) (by decide) ?_
        refine lv_aload_n C.1 C.2.1 dL_law_335 rfl (lv_at hl 2 rfl) ?_
        refine lv_aload_n C.1 C.2.1 dL_law_336 rfl (lv_at hl 3 rfl) ?_
        refine lv_iload_n C.1 C.2.1 dL_law_337 rfl (lv_at hl 0 rfl) ?_
        refine lv_iconst (v := 1) C.1 C.2.1 dL_law_338 (by decide) ?_
        refine lv_iadd C.1 C.2.1 dL_law_339 ?_
        rw [e1]
        refine lx_ld C hX hbl hg hS (by omega) hL dL_law_340 ?_
        refine fw_V C 1 (As := [.int (xs (6 * k + 1))]) (rest := []) (m_dclear l g D F Wy Hm hp nx fk fv fh w hK (xs (6 * k + 1)) r hr hx) (lw_V q481 q482 q483 q13 q484) (by decide +kernel) ⟨Nat.le_of_ble_eq_true rfl, Nat.le_of_ble_eq_true rfl⟩ hP hS hK.obj rfl rfl rfl hl.1 (Nat.le_of_ble_eq_true rfl) dL_law_341 ⟨hcap _ (by omega), hcas _ (by omega)⟩ ?_
        rintro v w1 H1 locs1 ⟨rfl, hK1, hF⟩ hP hS
        have hM1 := hM.fr hK hne hF
        refine lv_aload_n C.1 C.2.1 dL_law_344 rfl (lv_at hl 1 rfl) ?_
        refine lv_aload_n C.1 C.2.1 dL_law_345 rfl (lv_at hl 3 rfl) ?_
        refine lv_iload_n C.1 C.2.1 dL_law_346 rfl (lv_at hl 0 rfl) ?_
        refine lv_iconst (v := 1) C.1 C.2.1 dL_law_347 (by decide) ?_
        refine lv_iadd C.1 C.2.1 dL_law_348 ?_
        rw [e1]
        refine lx_ld C hX hbl hg hS (by omega) hL dL_law_349 ?_
        refine fw_V C 1 (As := [.int (xs (6 * k + 1))]) (rest := []) (m_mclear l g M Mk Mv Mh nx fk fv fh w1 hM1 (xs (6 * k + 1)) r hx) (lw_V q554 q555 q556 q15 q557) (by decide +kernel) ⟨Nat.le_of_ble_eq_true rfl, Nat.le_of_ble_eq_true rfl⟩ hP hS hM1.1 rfl rfl rfl hl.1 (Nat.le_of_ble_eq_true rfl) dL_law_350 ⟨by show _ ≤ 600128; omega, by show _ ≤ 7301098; omega⟩ ?_
        rintro v w2 H1 locs1 ⟨rfl, hM2, hF2⟩ hP hS
        refine lv_goto (tgt := 356) C.1 C.2.1 dL_law_353 (by decide) ?_
        exact next w2 _ _ _ _ (by omega) (by omega) ⟨_, _, _, _, hK1.fr hM1 hne hF2, hM2⟩ hP hS
      · refine lv_tableOut (tgt := 356) C.1 C.2.1 dL_law_33 (Or.inr (by rw [nI_toInt (by omega)]; omega)) (by decide) ?_
        exact next w _ _ _ _ (by omega) (by omega) ⟨nx, fk, fv, fh, hK, hM⟩ hP hS
set_option maxHeartbeats 4000000 in
theorem law_body {p : Program} {e : Env} {s : State} {m : MethodId} {below : List Frame} {meth : Method} {c : Code} (l : Launch) {b L : Nat} {xs : Nat → Int32} (hL : L ≤ 384) {g : fG} (C : fC g p s m #[Value.ref b] meth c R_law cL_law 4 ret) (hX : va_X b L xs s s.heap) (hbl : b < s.heap.size) (hg : g.2.1 = s.heap.size) {w : fW} (hP : HP g w s.heap) (hca : fCa g w) {ls : Array Slot} (hl : lv_has ls 4 [(0, .ref b)]) :
    W p l e room_1 s m #[Value.ref b] below meth c s.heap [] 0 0 (lw_Z below #[Value.ref b] s) (F0 m 0 ls []) := by
  have hS : va_S (fA g) s.heap s.heap [] := va_S.rf
  refine fw_new (fs := [.null, .null, .null, .int 0]) C in_X0 tyX0 tyX0_ok q31 q32 q13 hP hS (ci := 0) rfl (fun j hj => by rcases (show j = 0 ∨ j = 1 ∨ j = 2 ∨ j = 3 by omega) with rfl | rfl | rfl | rfl <;> rfl) (Nat.le_of_ble_eq_true rfl) (Nat.le_of_ble_eq_true rfl) dL_law_0 (fun D H1 hP hwD hDA hS => ?_)
  have hca1 : fCa g (fset w D (.inr (0, [.null, .null, .null, .int 0]))) := fun j hj => fLe.new hwD _ _ _ (hca j hj)
  refine lv_dup C.1 C.2.1 dL_law_3 rfl ?_
  refine fw_I C 0 (As := []) (rest := [.ref D]) (m_dinit l g _ D fset_s hDA hca1) q35 q13 q33 q34 rfl (by decide +kernel) ⟨Nat.le_of_ble_eq_true rfl, Nat.le_of_ble_eq_true rfl⟩ hP hS rfl rfl hl.1 (Nat.le_of_ble_eq_true rfl) dL_law_4 ⟨Nat.le_of_ble_eq_true rfl, Nat.le_of_ble_eq_true rfl⟩ ?_
  rintro v w1 H1 locs1 ⟨rfl, ⟨F, Wy, Hm, hp, hK⟩, -⟩ hP hS
  refine lv_astore_n (lv' := [(1, .ref D), (0, .ref b)]) C.1 C.2.1 dL_law_7 rfl hl (by decide) rfl (fun ls hl => ?_)
  refine fw_new (fs := [.null, .null, .null, .int 0]) C in_X2 tyX2 tyX2_ok q489 q490 q15 hP hS (ci := 2) rfl (fun j hj => by rcases (show j = 0 ∨ j = 1 ∨ j = 2 ∨ j = 3 by omega) with rfl | rfl | rfl | rfl <;> rfl) (Nat.le_of_ble_eq_true rfl) (Nat.le_of_ble_eq_true rfl) dL_law_8 (fun M H1 hP hwM hMA hS => ?_)
  refine lv_dup C.1 C.2.1 dL_law_11 rfl ?_
  refine fw_I C 0 (As := []) (rest := [.ref M]) (m_minit l g _ M fset_s hMA) q493 q15 q491 q492 rfl (by decide +kernel) ⟨Nat.le_of_ble_eq_true rfl, Nat.le_of_ble_eq_true rfl⟩ hP hS rfl rfl hl.1 (Nat.le_of_ble_eq_true rfl) dL_law_12 ⟨Nat.le_of_ble_eq_true rfl, Nat.le_of_ble_eq_true rfl⟩ ?_
  rintro v w2 H1 locs1 ⟨rfl, ⟨Mk, Mv, Mh, hM, f1, f2, f3⟩, hkeep⟩ hP hS
  have hle : fLe w1 w2 := fun z e hz => hkeep z e (fLe.new hwM _ z e hz) (fW_ne hz hwM)
  have hK2 : DK g D F Wy Hm hp 0 zz zz zz w2 := hK.mono (fun z ci fs _ hz => hle z _ hz) (fun z cA n f hz => hle z _ hz) (fun f hz => hle _ _ hz)
  have hHm : ∃ fd, w1 Hm = some (iar g fd) := by
    obtain ⟨nd, ns, kf, vf, oc, ys, ow, kv, ff, fw, fd, hA, hC⟩ := hK
    exact ⟨fd, hA.2.2.2.2.2.1⟩
  obtain ⟨fd, hHm⟩ := hHm
  have hHm2 := fLe.new hwM (.inr (2, [.null, .null, .null, .int 0])) _ _ hHm
  refine lv_astore_n (lv' := [(2, .ref M), (1, .ref D), (0, .ref b)]) C.1 C.2.1 dL_law_15 rfl hl (by decide) rfl (fun ls hl => ?_)
  refine lv_iconst (v := 0) C.1 C.2.1 dL_law_16 (by decide) ?_
  refine lv_istore_n (lv' := [(3, .int 0), (2, .ref M), (1, .ref D), (0, .ref b)]) C.1 C.2.1 dL_law_17 rfl hl (by decide) rfl (fun ls hl => ?_)
  exact law_loop l hL C hX hbl hg ⟨fW_ne hHm2 f1, fW_ne hHm2 f2, fW_ne hHm2 f3⟩ 65 0 w2 _ _ ls rfl (by omega) ⟨0, zz, zz, zz, hK2, hM⟩ hP hS hl
/-- from the entry, for every script of at most 384 ints, the law comes to its end with true -/
theorem whole_start {p : Program} {e : Env} {s : State} {m : MethodId} {below : List Frame} {meth : Method} {c : Code} (l : Launch) (hflags : l.flags = flags0) {b L : Nat} {xs : Nat → Int32} (hL : L ≤ 384) (C0 : lw_At p s m meth c b L xs) : W p l e room_1 s m #[Value.ref b] below meth c s.heap [] 0 0 (lw_Z below #[Value.ref b] s) (entryFrame m ([Value.ref b] : List Value).toArray 4) := by
  obtain ⟨g, w, hg, hE, hP, hca⟩ := law_start C0
  obtain ⟨x1, x2, x3, x4, x5, x6, x7, x8, x9, x10⟩ := C0
  rw [lg_entry_eq]
  exact law_body l hL ⟨x1, x2, x3, x9, x4, x5, fun w h => x6 w (lw_all_tbl h), hE⟩ x7 x8 hg hP hca (lv_entry [Value.ref b] (Nat.le_of_ble_eq_true rfl))
end
section
set_option maxHeartbeats 4000000 in
theorem lw_walk (l : Launch) (hflags : l.flags = flags0) (b : Addr) (xs : List Int32) : MetFree l x (headSpec (Jvm.Cond.code x code maxLocals ret :: tables_1) room_1) (lw_P b xs) (fun _ _ _ _ _ => True) lw_Q := by
  refine MetFree.of_bodyS (code := code) (maxLocals := maxLocals) (ret := ret) (by decide) ?_ ?_
  · intro args s m h hn
    obtain ⟨meth, c, h1, h2, h3, h4, h5, h6, -, -⟩ := Cond.code_spec hn (atoms_spec (ws := Jvm.Cond.code x code maxLocals ret :: tables_1) h _ List.mem_cons_self)
    exact ⟨meth, c, h1, h2, h3, h4, h5, h6⟩
  · intro p e s m args below meth c s₁ B hml0 hP _
    obtain ⟨rfl, hx, hbd, hgv⟩ := hP
    obtain ⟨scr, harrAt, hlist, hof, hsmall⟩ := hx
    obtain ⟨hcb, hkn, -, -⟩ := State.arrayAt?_spec harrAt
    have hown : s.vm.findClass R_law = some m.cls := findClass_of_methodNamed B.named
    have hts0 : ∀ c ∈ (Jvm.Cond.code x code maxLocals ret :: tables_1), c.before #[Value.ref b] s = true := atoms_spec (ws := Jvm.Cond.code x code maxLocals ret :: tables_1) B.pre
    have hts : ∀ w ∈ lw_tbl, w.before #[Value.ref b] s = true := k2_hts_sels lw_privs (fun w hw => hts0 w (List.mem_cons_of_mem _ hw)) lw_privs_ok
    have hml : c.maxLocals = 4 := B.maxLocals_eq (hts0 _ List.mem_cons_self)
    have X₀ : Stand p l e room_1 s m #[Value.ref b] below meth c s₁ [] 0 0 := Stand.of_body B
    have hh0 : s₁.heap = s.heap := by rw [B.state]; rfl
    have hsz : scr.slots.size = xs.length := by rw [← Array.length_toList, hlist, List.length_map]
    have hval : ∀ j : Nat, j < xs.length → scr.slots[j]? = some (.int (xs.getD j 0)) := fun j hj => by
      rw [← Array.getElem?_toList, hlist]
      simp [hj]
    have hbl : b < s.heap.size := (Array.getElem?_eq_some_iff.mp hcb).1
    have hX : va_X b xs.length (fun j => xs.getD j 0) s s.heap := ⟨scr, hcb, hof, hkn, hsz, hval⟩
    have K : W p l e room_1 s m #[Value.ref b] below meth c s₁.heap [] 0 0 (lw_Z below #[Value.ref b] s) (entryFrame m ([Value.ref b] : List Value).toArray 4) := by
      rw [hh0]
      exact whole_start l hflags hbd ⟨B.exec, B.bytes, B.returns, hml, hown, hts, hX, hbl, B.notSynchronized, hgv⟩
    obtain ⟨t, a1, o, b1, b2, b3⟩ := K s₁ rfl X₀
    exact ⟨t, o, a1, b1, b2, b3⟩
theorem lw_pre_spec {args : Array Value} {s : State} (h : (Jvm.Cond.and given_1 narrow_1).before args s = true) (hr : rest_1_c.before args s = true) : ∃ (b : Addr) (xs : List Int32), lw_P b xs args s := by
  have hs := flat_of_before _ h
  have hq := flat_of_before _ hr
  have hc : (Cond.count 1).before args s = true := hs _ (by decide +kernel)
  have harr : (Cond.arrayOf (.arg 0) .int).before args s = true := hs _ (by decide +kernel)
  have hle : (Cond.le (.length (.arg 0)) (.int 384)).before args s = true := hs _ (by decide +kernel)
  have hlen : (Cond.isInt (.length (.arg 0))).before args s = true := hq _ (by decide +kernel)
  have hall : (Cond.all (.arg 0) (.isInt (.elem (.arg 0) (.index 0)))).before args s = true := hq _ (by decide +kernel)
  obtain ⟨b, xs, hb, hx⟩ := State.ints_of_pre rfl harr hlen hall
  have hsm : xs.length < 2 ^ 31 := hx.choose_spec.2.2.2
  have hev : (Term.length (.arg 0)).eval args s none [] s = some (.int xs.length.toInt32) := hx.length_eval hb
  have hv := Cond.le_ints hev (show (Term.int 384).eval args s none [] s = some (.int 384) from rfl)
  have hd : xs.length.toInt32 ≤ 384 := by
    simpa [Cond.before, Cond.holds, hv] using hle
  have hN : xs.length ≤ 384 := (Int32.ofNat_le_ofNat hsm (by decide)).mp (show Int32.ofNat xs.length ≤ Int32.ofNat 384 from hd)
  exact ⟨b, xs, Cond.one_arg hc (show args[0]? = some (.ref b) from hb), hx, hN, h⟩
theorem lw_comes (l : Launch) (hflags : l.flags = flags0) : Comes l x (Jvm.Cond.code x code maxLocals ret :: tables_1) room_1 (fun tb e args s => Calls_1 tb e args s ∧ rest_1 tb e args s ∧ Pre_1 tb e args s)
    (fun _ _ args s o t => lw_Q args s o t) := by
  intro p e ha hc hk s m args below hf hfit hheap happ hpre
  obtain ⟨b, xs, hP⟩ := lw_pre_spec hpre.2.2 hpre.2.1
  obtain ⟨k, o, h1, h2, h3, hQ⟩ := lw_walk l hflags b xs p e ha hc hk s m args below hf ((Spec.applies_iff_loose hf).mp happ).1 hP trivial
  exact ⟨k, o, h1, h2, h3, hQ⟩
theorem lw_frame {s t : State} {o : Outcome} {args : Array Value} (h : Framed s o t [] 600128 7301098) :
    Framed s o t (fieldLocs frame_1_writes args s ++ arrayLocs frame_1_arrays args s ++ staticLocs frame_1_statics s) 600128 7301098 := h
theorem lw_limb (L : Cond) (hL : ∀ (args : Array Value) (s t : State), L.after args s (.returned (some (.int 1))) t = true) :
    ArmFor flags0 classFile x code maxLocals ret World_1 tables_1 room_1 Calls_1 rest_1 Pre_1
      (fun tb e a s o t => postC L tb e a s o t ∧ Framed s o t (fieldLocs frame_1_writes a s ++ arrayLocs frame_1_arrays a s ++ staticLocs frame_1_statics s) 600128 7301098) := by
  intro l hflags _ _ p e ha hc hk s m args below hf hfit hheap happ hpre
  obtain ⟨k, o, h1, h2, h3, rfl, hF⟩ := lw_comes l hflags p e ha hc hk s m args below hf hfit hheap happ hpre
  exact ⟨k, _, h1, h2, h3, hL args s _, lw_frame hF⟩
theorem i_vc : Claimed_1_1 ∧ Claimed_1_2 := ⟨lw_limb limb_1_1 (fun args s t => by simp [limb_1_1, Cond.after, Cond.holds, Cond.value]), lw_limb limb_1_2 (fun args s t => Cond.after_iff.mpr (by
  first | (rw [show limb_1_2 = Cond.eq .result (.int 1) from rfl, Cond.eq_ints (x := 1) (y := 1) rfl rfl]; simp; done) | (simp [limb_1_2, Cond.value, Term.eval]; done)))⟩
end
