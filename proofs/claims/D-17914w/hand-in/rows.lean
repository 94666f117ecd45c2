section
-- ===== PART A: goes FIRST, ahead of the names: the tables' words, and 'selects' of the private methods out of them =====
/-- a private method of a class that the tables say can be made, by its rows of tables_1 -/
def lw_okq (q : MethodName × Nat) : Prop := (q.1.cls ≠ "java/lang/invoke/MethodHandle" ∧ q.1.cls ≠ "java/lang/invoke/VarHandle") ∧ Cond.instantiable q.1.cls q.2 ∈ tables_1 ∧ Cond.privateMethod q.1 ∈ tables_1 ∧ Cond.instanceMethod q.1 ∈ tables_1
set_option maxRecDepth 100000
theorem lw_t1 {w : Cond} (h : w ∈ tables_1_1) : w ∈ tables_1 := List.mem_append_left _ h
theorem lw_t2 {w : Cond} (h : w ∈ tables_1_2) : w ∈ tables_1 := List.mem_append_right _ (List.mem_append_left _ h)
theorem lw_t3 {w : Cond} (h : w ∈ tables_1_3) : w ∈ tables_1 := List.mem_append_right _ (List.mem_append_right _ h)
theorem lw_p0 : lw_okq (⟨"java/lang/Throwable", "fillInStackTrace", "(I)Ljava/lang/Throwable;"⟩, 6) := ⟨⟨by decide +kernel, by decide +kernel⟩, lw_t1 (List.mem_of_getElem? (i := 88) rfl), lw_t1 (List.mem_of_getElem? (i := 86) rfl), lw_t1 (List.mem_of_getElem? (i := 87) rfl)⟩
theorem lw_p1 : lw_okq (⟨"java/util/ArrayList", "add", "(Ljava/lang/Object;[Ljava/lang/Object;I)V"⟩, 3) := ⟨⟨by decide +kernel, by decide +kernel⟩, lw_t1 (List.mem_of_getElem? (i := 149) rfl), lw_t2 (List.mem_of_getElem? (i := 54) rfl), lw_t2 (List.mem_of_getElem? (i := 55) rfl)⟩
theorem lw_p2 : lw_okq (⟨"java/util/ArrayList", "grow", "()[Ljava/lang/Object;"⟩, 3) := ⟨⟨by decide +kernel, by decide +kernel⟩, lw_t1 (List.mem_of_getElem? (i := 149) rfl), lw_t2 (List.mem_of_getElem? (i := 58) rfl), lw_t2 (List.mem_of_getElem? (i := 59) rfl)⟩
theorem lw_p3 : lw_okq (⟨"java/util/ArrayList", "grow", "(I)[Ljava/lang/Object;"⟩, 3) := ⟨⟨by decide +kernel, by decide +kernel⟩, lw_t1 (List.mem_of_getElem? (i := 149) rfl), lw_t2 (List.mem_of_getElem? (i := 62) rfl), lw_t2 (List.mem_of_getElem? (i := 63) rfl)⟩
theorem lw_p4 : lw_okq (⟨"java/util/ArrayList", "fastRemove", "([Ljava/lang/Object;I)V"⟩, 3) := ⟨⟨by decide +kernel, by decide +kernel⟩, lw_t1 (List.mem_of_getElem? (i := 149) rfl), lw_t2 (List.mem_of_getElem? (i := 180) rfl), lw_t2 (List.mem_of_getElem? (i := 181) rfl)⟩
theorem lw_p5 : lw_okq (⟨"IntegerRadixHeapDeskModel", "lay", "(II)Z"⟩, 4) := ⟨⟨by decide +kernel, by decide +kernel⟩, lw_t3 (List.mem_of_getElem? (i := 36) rfl), lw_t3 (List.mem_of_getElem? (i := 60) rfl), lw_t3 (List.mem_of_getElem? (i := 61) rfl)⟩
theorem lw_p6 : lw_okq (⟨"IntegerRadixHeapDeskModel", "first", "(I)I"⟩, 4) := ⟨⟨by decide +kernel, by decide +kernel⟩, lw_t3 (List.mem_of_getElem? (i := 36) rfl), lw_t3 (List.mem_of_getElem? (i := 73) rfl), lw_t3 (List.mem_of_getElem? (i := 74) rfl)⟩
def lw_privs_1 : List (MethodName × Nat) := [(⟨"java/lang/Throwable", "fillInStackTrace", "(I)Ljava/lang/Throwable;"⟩, 6), (⟨"java/util/ArrayList", "add", "(Ljava/lang/Object;[Ljava/lang/Object;I)V"⟩, 3), (⟨"java/util/ArrayList", "grow", "()[Ljava/lang/Object;"⟩, 3), (⟨"java/util/ArrayList", "grow", "(I)[Ljava/lang/Object;"⟩, 3), (⟨"java/util/ArrayList", "fastRemove", "([Ljava/lang/Object;I)V"⟩, 3), (⟨"IntegerRadixHeapDeskModel", "lay", "(II)Z"⟩, 4), (⟨"IntegerRadixHeapDeskModel", "first", "(I)I"⟩, 4)]
theorem lw_r1 : ∀ q ∈ lw_privs_1, lw_okq q := List.forall_mem_cons.mpr ⟨lw_p0, List.forall_mem_cons.mpr ⟨lw_p1, List.forall_mem_cons.mpr ⟨lw_p2, List.forall_mem_cons.mpr ⟨lw_p3, List.forall_mem_cons.mpr ⟨lw_p4, List.forall_mem_cons.mpr ⟨lw_p5, List.forall_mem_cons.mpr ⟨lw_p6, fun _ h => absurd h List.not_mem_nil⟩⟩⟩⟩⟩⟩⟩
def lw_privs : List (MethodName × Nat) := lw_privs_1
def lw_tbl : List Cond := k2_sels lw_privs ++ tables_1
theorem lw_privs_ok : ∀ q ∈ lw_privs, lw_okq q := lw_r1
-- ===== ONE list of words for every method: the tables' words that hold all through a run =====
def lw_all : List Cond := lw_tbl.filter goodWord
/-- a word of the tables by its place: claim/WORDS.tsv -/
theorem lw_w {w : Cond} (i : Nat) (h : lw_tbl[i]? = some w) (g : goodWord w = true) : w ∈ lw_all := List.mem_filter.mpr ⟨List.mem_of_getElem? h, g⟩
theorem lw_all_tbl {w : Cond} (h : w ∈ lw_all) : w ∈ lw_tbl := (List.mem_filter.mp h).1
theorem lw_self : GoodIn lw_all lw_all := fun w h => ⟨h, good_of_word (List.mem_filter.mp h).2⟩
/-- a class's field words, by their places -/
theorem lw_in (ws : List Cond) (ps : List Nat) (hp : ws = ps.filterMap (fun i => lw_tbl[i]?)) (hg : ws.all goodWord = true) : ∀ w ∈ ws, w ∈ lw_all := by
  intro w h
  have h1 := List.all_eq_true.mp hg w h
  rw [hp] at h
  obtain ⟨i, -, hi⟩ := List.mem_filterMap.mp h
  exact lw_w i hi h1
/-- the words of a contract for the method y with code b, L locals, answer r -/
abbrev ws_ (y : MethodName) (b : ByteArray) (L : Nat) (r : Option FieldType) : List Cond := Cond.code y b L r :: lw_all
theorem lw_meth {y : MethodName} {b : ByteArray} {L : Nat} {r : Option FieldType} (h : Cond.code y b L r ∈ lw_all) : GoodIn lw_all (ws_ y b L r) := by
  intro w hw
  rcases List.mem_cons.mp hw with e | e
  · rw [e]
    exact lw_self _ h
  · exact lw_self _ e
theorem lw_app {a c : List Cond} (ha : ∀ w ∈ a, w ∈ lw_all) (hc : GoodIn lw_all c) : GoodIn lw_all (a ++ c) := by
  intro w hw
  rcases List.mem_append.mp hw with e | e
  · exact lw_self w (ha w e)
  · exact hc w e
/-- what a call through an object asks: cwV n hts (lw_V ..) -/
theorem lw_V {own : String} {idx : Nat} {C : String} {y : MethodName} {b : ByteArray} {L : Nat} {r : Option FieldType} (h1 : Cond.methodLink own idx y ∈ lw_all) (h2 : Cond.instanceMethod y ∈ lw_all) (h3 : Cond.selects C y y ∈ lw_all) (h4 : Cond.initialized C ∈ lw_all) (h5 : Cond.code y b L r ∈ lw_all) : GoodIn lw_all (wsV own idx C y (ws_ y b L r)) := by
  refine lw_app ?_ (lw_meth h5)
  intro w hw
  simp only [List.mem_cons, List.not_mem_nil, or_false] at hw
  rcases hw with e | e | e | e
  · rw [e]; exact h1
  · rw [e]; exact h2
  · rw [e]; exact h3
  · rw [e]; exact h4
/-- what a static call asks: va_cwS n hts (lw_S ..) -/
theorem lw_S {own : String} {idx : Nat} {y : MethodName} {b : ByteArray} {L : Nat} {r : Option FieldType} (h1 : Cond.methodLink own idx y ∈ lw_all) (h2 : Cond.static y ∈ lw_all) (h3 : Cond.initialized y.cls ∈ lw_all) (h4 : Cond.code y b L r ∈ lw_all) : GoodIn lw_all (va_wsS own idx y (ws_ y b L r)) := by
  refine lw_app ?_ (lw_meth h4)
  intro w hw
  simp only [List.mem_cons, List.not_mem_nil, or_false] at hw
  rcases hw with e | e | e
  · rw [e]; exact h1
  · rw [e]; exact h2
  · rw [e]; exact h3
/-- the words of a contract for a method WITH HANDLERS (hh: its table) -/
abbrev wsW_ (y : MethodName) (b : ByteArray) (L : Nat) (r : Option FieldType) (hh : List (Nat × Nat × Nat × Nat)) : List Cond := Cond.codeWith y b L r hh :: lw_all
theorem lw_methW {y : MethodName} {b : ByteArray} {L : Nat} {r : Option FieldType} {hh : List (Nat × Nat × Nat × Nat)} (h : Cond.codeWith y b L r hh ∈ lw_all) : GoodIn lw_all (wsW_ y b L r hh) := by
  intro w hw
  rcases List.mem_cons.mp hw with e | e
  · rw [e]
    exact lw_self _ h
  · exact lw_self _ e
/-- any list of words by their places (lw_in), good -/
theorem lw_good {ws : List Cond} (h : ∀ w ∈ ws, w ∈ lw_all) : GoodIn lw_all ws := fun w hw => lw_self w (h w hw)
/-- what a call of a method with handlers asks: vx_cwVW n hts (lw_VW ..), vx_cwSW n hts (lw_SW ..) -/
theorem lw_VW {own : String} {idx : Nat} {C : String} {y : MethodName} {b : ByteArray} {L : Nat} {r : Option FieldType} {hh : List (Nat × Nat × Nat × Nat)} (h1 : Cond.methodLink own idx y ∈ lw_all) (h2 : Cond.instanceMethod y ∈ lw_all) (h3 : Cond.selects C y y ∈ lw_all) (h4 : Cond.initialized C ∈ lw_all) (h5 : Cond.codeWith y b L r hh ∈ lw_all) : GoodIn lw_all (wsV own idx C y (wsW_ y b L r hh)) := by
  refine lw_app ?_ (lw_methW h5)
  intro w hw
  simp only [List.mem_cons, List.not_mem_nil, or_false] at hw
  rcases hw with e | e | e | e
  · rw [e]; exact h1
  · rw [e]; exact h2
  · rw [e]; exact h3
  · rw [e]; exact h4
theorem lw_SW {own : String} {idx : Nat} {y : MethodName} {b : ByteArray} {L : Nat} {r : Option FieldType} {hh : List (Nat × Nat × Nat × Nat)} (h1 : Cond.methodLink own idx y ∈ lw_all) (h2 : Cond.static y ∈ lw_all) (h3 : Cond.initialized y.cls ∈ lw_all) (h4 : Cond.codeWith y b L r hh ∈ lw_all) : GoodIn lw_all (va_wsS own idx y (wsW_ y b L r hh)) := by
  refine lw_app ?_ (lw_methW h4)
  intro w hw
  simp only [List.mem_cons, List.not_mem_nil, or_false] at hw
  rcases hw with e | e | e
  · rw [e]; exact h1
  · rw [e]; exact h2
  · rw [e]; exact h3
/-- a word by its place in its run of the tables -/
theorem lw_at {r : List Cond} (hr : ∀ w ∈ r, w ∈ lw_tbl) {w : Cond} (i : Nat) (h : r[i]? = some w) : w ∈ lw_tbl := hr w (List.mem_of_getElem? h)
theorem lw_g {w : Cond} (h : w ∈ lw_tbl) (g : goodWord w = true) : w ∈ lw_all := List.mem_filter.mpr ⟨h, g⟩
theorem lw_ms : ∀ w ∈ k2_sels lw_privs, w ∈ lw_tbl := fun w h => show w ∈ k2_sels lw_privs ++ tables_1 from List.mem_append_left _ h
theorem lw_m1 : ∀ w ∈ tables_1_1, w ∈ lw_tbl := fun w h => show w ∈ k2_sels lw_privs ++ tables_1 from List.mem_append_right (k2_sels lw_privs) (show w ∈ tables_1 from List.mem_append_left _ h)
theorem lw_m2 : ∀ w ∈ tables_1_2, w ∈ lw_tbl := fun w h => show w ∈ k2_sels lw_privs ++ tables_1 from List.mem_append_right (k2_sels lw_privs) (show w ∈ tables_1 from List.mem_append_right _ (List.mem_append_left _ h))
theorem lw_m3 : ∀ w ∈ tables_1_3, w ∈ lw_tbl := fun w h => show w ∈ k2_sels lw_privs ++ tables_1 from List.mem_append_right (k2_sels lw_privs) (show w ∈ tables_1 from List.mem_append_right _ (List.mem_append_right _ h))
theorem qs0 : (Cond.selects "java/lang/Throwable" ⟨"java/lang/Throwable", "fillInStackTrace", "(I)Ljava/lang/Throwable;"⟩ ⟨"java/lang/Throwable", "fillInStackTrace", "(I)Ljava/lang/Throwable;"⟩) ∈ lw_all := lw_g (lw_at lw_ms 0 rfl) rfl
theorem qs1 : (Cond.selects "java/util/ArrayList" ⟨"java/util/ArrayList", "add", "(Ljava/lang/Object;[Ljava/lang/Object;I)V"⟩ ⟨"java/util/ArrayList", "add", "(Ljava/lang/Object;[Ljava/lang/Object;I)V"⟩) ∈ lw_all := lw_g (lw_at lw_ms 1 rfl) rfl
theorem qs2 : (Cond.selects "java/util/ArrayList" ⟨"java/util/ArrayList", "grow", "()[Ljava/lang/Object;"⟩ ⟨"java/util/ArrayList", "grow", "()[Ljava/lang/Object;"⟩) ∈ lw_all := lw_g (lw_at lw_ms 2 rfl) rfl
theorem qs3 : (Cond.selects "java/util/ArrayList" ⟨"java/util/ArrayList", "grow", "(I)[Ljava/lang/Object;"⟩ ⟨"java/util/ArrayList", "grow", "(I)[Ljava/lang/Object;"⟩) ∈ lw_all := lw_g (lw_at lw_ms 3 rfl) rfl
theorem qs4 : (Cond.selects "java/util/ArrayList" ⟨"java/util/ArrayList", "fastRemove", "([Ljava/lang/Object;I)V"⟩ ⟨"java/util/ArrayList", "fastRemove", "([Ljava/lang/Object;I)V"⟩) ∈ lw_all := lw_g (lw_at lw_ms 4 rfl) rfl
theorem qs5 : (Cond.selects "IntegerRadixHeapDeskModel" ⟨"IntegerRadixHeapDeskModel", "lay", "(II)Z"⟩ ⟨"IntegerRadixHeapDeskModel", "lay", "(II)Z"⟩) ∈ lw_all := lw_g (lw_at lw_ms 5 rfl) rfl
theorem qs6 : (Cond.selects "IntegerRadixHeapDeskModel" ⟨"IntegerRadixHeapDeskModel", "first", "(I)I"⟩ ⟨"IntegerRadixHeapDeskModel", "first", "(I)I"⟩) ∈ lw_all := lw_g (lw_at lw_ms 6 rfl) rfl
end
section
/-! DECODE ROWS BY BYTES: one lemma an opcode; a method's code is cut into short pieces once, and a row reads its own piece alone. -/
set_option maxRecDepth 100000
/-- the code has just these bytes from pc on -/
def DkAt (code : ByteArray) (pc : Nat) (bs : List UInt8) : Prop := ∀ (j : Nat) (b : UInt8), bs[j]? = some b → code.data.toList[pc + j]? = some b
/-- the piece W has the bytes bs from its place j on -/
def dkIn (W : List UInt8) (j : Nat) (bs : List UInt8) : Bool := decide ((W.drop j).take bs.length = bs)
theorem dk_seg {l W T : List UInt8} {o o2 : Nat} (h : l.drop o = W ++ T) (n : Nat) (hn : W.length = n) (ho : o + n = o2) : l.drop o2 = T := by
  subst ho
  rw [← List.drop_drop, h, List.drop_left' hn]
theorem dk_at {code : ByteArray} {W T bs : List UInt8} {o pc : Nat} (h : code.data.toList.drop o = W ++ T) (j : Nat) (hp : o + j = pc) (hw : dkIn W j bs = true) : DkAt code pc bs := by
  subst hp
  intro i b e
  have h1 := of_decide_eq_true hw
  have h2 : i < bs.length := (List.getElem?_eq_some_iff.mp e).1
  have h3 : W[j + i]? = some b := by
    rw [← h1, List.getElem?_take, if_pos h2, List.getElem?_drop] at e
    exact e
  have h4 : j + i < W.length := (List.getElem?_eq_some_iff.mp h3).1
  have h5 : (code.data.toList.drop o)[j + i]? = some b := by
    rw [h, List.getElem?_append_left h4]
    exact h3
  rw [List.getElem?_drop, ← Nat.add_assoc] at h5
  exact h5
theorem dk_u1 {A : ByteArray} {p : Nat} {b : UInt8} (h : A.data.toList[p]? = some b) : (Reader.u1 : Reader DecodeError Nat) A p = .ok (b.toNat, p + 1) := by
  obtain ⟨h1, h2⟩ := List.getElem?_eq_some_iff.mp h
  have h3 : p < A.size := by simpa using h1
  have h4 : A[p]'h3 = b := h2
  have e : (Reader.u1 : Reader DecodeError Nat) A p = (if h : p < A.size then .ok (A[p].toNat, p + 1) else .error (HasTruncated.truncated p)) := by
    show (do if h : p < A.size then do set (p + 1); Pure.pure A[p].toNat else MonadExcept.throw (HasTruncated.truncated p) : Reader DecodeError Nat) A p = _
    by_cases hi : p < A.size
    · rw [dif_pos hi, dif_pos hi]; rfl
    · rw [dif_neg hi, dif_neg hi]; rfl
  rw [e, dif_pos h3, h4]
theorem dk_bind {α β : Type} {r : Reader DecodeError α} {f : α → Reader DecodeError β} {A : ByteArray} {p s : Nat} {a : α} (h : r A p = .ok (a, s)) : (r >>= f) A p = f a A s := by
  show (do let (a, s) ← r A p; f a A s : Except DecodeError (β × Nat)) = _
  rw [h]
  rfl
theorem dk_map {α β : Type} {r : Reader DecodeError α} {g : α → β} {A : ByteArray} {p s : Nat} {a : α} (h : r A p = .ok (a, s)) : (g <$> r) A p = .ok (g a, s) := by
  show (do let (a, s) ← r A p; .ok (g a, s) : Except DecodeError (β × Nat)) = _
  rw [h]
  rfl
theorem dk_u2 {A : ByteArray} {p : Nat} {a b : UInt8} (h : A.data.toList[p]? = some a) (h2 : A.data.toList[p + 1]? = some b) : (Reader.u2 : Reader DecodeError Nat) A p = .ok (a.toNat * 256 + b.toNat, p + 2) := by
  show (Reader.u1 >>= fun hi => Reader.u1 >>= fun lo => Pure.pure (hi * 256 + lo) : Reader DecodeError Nat) A p = _
  rw [dk_bind (dk_u1 h), dk_bind (dk_u1 h2)]
  rfl
theorem dk_of {code : ByteArray} {pc n : Nat} {i : Instr} (h : Decoder.instr pc code pc = .ok (i, pc + n)) : decode code pc = .ok (i, n) := by
  have e : decode code pc = (match Decoder.instr pc code pc with | .error x => .error x | .ok (j, s) => .ok (j, s - pc)) := by
    show (do let (j, s) ← Decoder.instr pc code pc; Pure.pure (j, s - pc) : Except DecodeError (Instr × Nat)) = _
    cases Decoder.instr pc code pc <;> rfl
  rw [e, h]
  show Except.ok (i, pc + n - pc) = _
  rw [Nat.add_sub_cancel_left]
theorem dk_1 {code : ByteArray} {pc : Nat} (h : DkAt code pc [1]) : decode code pc = .ok (.aconst_null, 1) := dk_of ((dk_bind (dk_u1 (h 0 _ rfl))).trans rfl)
theorem dk_2 {code : ByteArray} {pc : Nat} (h : DkAt code pc [2]) : decode code pc = .ok (.iconst (-1), 1) := dk_of ((dk_bind (dk_u1 (h 0 _ rfl))).trans rfl)
theorem dk_3 {code : ByteArray} {pc : Nat} (h : DkAt code pc [3]) : decode code pc = .ok (.iconst 0, 1) := dk_of ((dk_bind (dk_u1 (h 0 _ rfl))).trans rfl)
theorem dk_4 {code : ByteArray} {pc : Nat} (h : DkAt code pc [4]) : decode code pc = .ok (.iconst 1, 1) := dk_of ((dk_bind (dk_u1 (h 0 _ rfl))).trans rfl)
theorem dk_5 {code : ByteArray} {pc : Nat} (h : DkAt code pc [5]) : decode code pc = .ok (.iconst 2, 1) := dk_of ((dk_bind (dk_u1 (h 0 _ rfl))).trans rfl)
theorem dk_6 {code : ByteArray} {pc : Nat} (h : DkAt code pc [6]) : decode code pc = .ok (.iconst 3, 1) := dk_of ((dk_bind (dk_u1 (h 0 _ rfl))).trans rfl)
theorem dk_7 {code : ByteArray} {pc : Nat} (h : DkAt code pc [7]) : decode code pc = .ok (.iconst 4, 1) := dk_of ((dk_bind (dk_u1 (h 0 _ rfl))).trans rfl)
theorem dk_9 {code : ByteArray} {pc : Nat} (h : DkAt code pc [9]) : decode code pc = .ok (.lconst 0, 1) := dk_of ((dk_bind (dk_u1 (h 0 _ rfl))).trans rfl)
theorem dk_10 {code : ByteArray} {pc : Nat} (h : DkAt code pc [10]) : decode code pc = .ok (.lconst 1, 1) := dk_of ((dk_bind (dk_u1 (h 0 _ rfl))).trans rfl)
theorem dk_15 {code : ByteArray} {pc : Nat} (h : DkAt code pc [15]) : decode code pc = .ok (.dconst 1, 1) := dk_of ((dk_bind (dk_u1 (h 0 _ rfl))).trans rfl)
theorem dk_16 {code : ByteArray} {pc : Nat} (a : UInt8) (h : DkAt code pc [16, a]) : decode code pc = .ok (.bipush (Reader.signed 8 a.toNat), 2) := dk_of ((dk_bind (dk_u1 (h 0 _ rfl))).trans ((dk_bind (dk_map (dk_u1 (h 1 _ rfl)))).trans rfl))
theorem dk_17 {code : ByteArray} {pc : Nat} (a b : UInt8) (h : DkAt code pc [17, a, b]) : decode code pc = .ok (.sipush (Reader.signed 16 (a.toNat * 256 + b.toNat)), 3) := dk_of ((dk_bind (dk_u1 (h 0 _ rfl))).trans ((dk_bind (dk_map (dk_u2 (h 1 _ rfl) (h 2 _ rfl)))).trans rfl))
theorem dk_18 {code : ByteArray} {pc : Nat} (a : UInt8) (h : DkAt code pc [18, a]) : decode code pc = .ok (.ldc a.toNat, 2) := dk_of ((dk_bind (dk_u1 (h 0 _ rfl))).trans ((dk_bind (dk_u1 (h 1 _ rfl))).trans rfl))
theorem dk_20 {code : ByteArray} {pc : Nat} (a b : UInt8) (h : DkAt code pc [20, a, b]) : decode code pc = .ok (.ldc2_w (a.toNat * 256 + b.toNat), 3) := dk_of ((dk_bind (dk_u1 (h 0 _ rfl))).trans ((dk_bind (dk_u2 (h 1 _ rfl) (h 2 _ rfl))).trans rfl))
theorem dk_21 {code : ByteArray} {pc : Nat} (a : UInt8) (h : DkAt code pc [21, a]) : decode code pc = .ok (.iload a.toNat, 2) := dk_of ((dk_bind (dk_u1 (h 0 _ rfl))).trans ((dk_bind (dk_u1 (h 1 _ rfl))).trans rfl))
theorem dk_25 {code : ByteArray} {pc : Nat} (a : UInt8) (h : DkAt code pc [25, a]) : decode code pc = .ok (.aload a.toNat, 2) := dk_of ((dk_bind (dk_u1 (h 0 _ rfl))).trans ((dk_bind (dk_u1 (h 1 _ rfl))).trans rfl))
theorem dk_26 {code : ByteArray} {pc : Nat} (h : DkAt code pc [26]) : decode code pc = .ok (.iload_n 0, 1) := dk_of ((dk_bind (dk_u1 (h 0 _ rfl))).trans rfl)
theorem dk_27 {code : ByteArray} {pc : Nat} (h : DkAt code pc [27]) : decode code pc = .ok (.iload_n 1, 1) := dk_of ((dk_bind (dk_u1 (h 0 _ rfl))).trans rfl)
theorem dk_28 {code : ByteArray} {pc : Nat} (h : DkAt code pc [28]) : decode code pc = .ok (.iload_n 2, 1) := dk_of ((dk_bind (dk_u1 (h 0 _ rfl))).trans rfl)
theorem dk_29 {code : ByteArray} {pc : Nat} (h : DkAt code pc [29]) : decode code pc = .ok (.iload_n 3, 1) := dk_of ((dk_bind (dk_u1 (h 0 _ rfl))).trans rfl)
theorem dk_32 {code : ByteArray} {pc : Nat} (h : DkAt code pc [32]) : decode code pc = .ok (.lload_n 2, 1) := dk_of ((dk_bind (dk_u1 (h 0 _ rfl))).trans rfl)
theorem dk_34 {code : ByteArray} {pc : Nat} (h : DkAt code pc [34]) : decode code pc = .ok (.fload_n 0, 1) := dk_of ((dk_bind (dk_u1 (h 0 _ rfl))).trans rfl)
theorem dk_37 {code : ByteArray} {pc : Nat} (h : DkAt code pc [37]) : decode code pc = .ok (.fload_n 3, 1) := dk_of ((dk_bind (dk_u1 (h 0 _ rfl))).trans rfl)
theorem dk_38 {code : ByteArray} {pc : Nat} (h : DkAt code pc [38]) : decode code pc = .ok (.dload_n 0, 1) := dk_of ((dk_bind (dk_u1 (h 0 _ rfl))).trans rfl)
theorem dk_40 {code : ByteArray} {pc : Nat} (h : DkAt code pc [40]) : decode code pc = .ok (.dload_n 2, 1) := dk_of ((dk_bind (dk_u1 (h 0 _ rfl))).trans rfl)
theorem dk_42 {code : ByteArray} {pc : Nat} (h : DkAt code pc [42]) : decode code pc = .ok (.aload_n 0, 1) := dk_of ((dk_bind (dk_u1 (h 0 _ rfl))).trans rfl)
theorem dk_43 {code : ByteArray} {pc : Nat} (h : DkAt code pc [43]) : decode code pc = .ok (.aload_n 1, 1) := dk_of ((dk_bind (dk_u1 (h 0 _ rfl))).trans rfl)
theorem dk_44 {code : ByteArray} {pc : Nat} (h : DkAt code pc [44]) : decode code pc = .ok (.aload_n 2, 1) := dk_of ((dk_bind (dk_u1 (h 0 _ rfl))).trans rfl)
theorem dk_45 {code : ByteArray} {pc : Nat} (h : DkAt code pc [45]) : decode code pc = .ok (.aload_n 3, 1) := dk_of ((dk_bind (dk_u1 (h 0 _ rfl))).trans rfl)
theorem dk_46 {code : ByteArray} {pc : Nat} (h : DkAt code pc [46]) : decode code pc = .ok (.iaload, 1) := dk_of ((dk_bind (dk_u1 (h 0 _ rfl))).trans rfl)
theorem dk_50 {code : ByteArray} {pc : Nat} (h : DkAt code pc [50]) : decode code pc = .ok (.aaload, 1) := dk_of ((dk_bind (dk_u1 (h 0 _ rfl))).trans rfl)
theorem dk_54 {code : ByteArray} {pc : Nat} (a : UInt8) (h : DkAt code pc [54, a]) : decode code pc = .ok (.istore a.toNat, 2) := dk_of ((dk_bind (dk_u1 (h 0 _ rfl))).trans ((dk_bind (dk_u1 (h 1 _ rfl))).trans rfl))
theorem dk_58 {code : ByteArray} {pc : Nat} (a : UInt8) (h : DkAt code pc [58, a]) : decode code pc = .ok (.astore a.toNat, 2) := dk_of ((dk_bind (dk_u1 (h 0 _ rfl))).trans ((dk_bind (dk_u1 (h 1 _ rfl))).trans rfl))
theorem dk_60 {code : ByteArray} {pc : Nat} (h : DkAt code pc [60]) : decode code pc = .ok (.istore_n 1, 1) := dk_of ((dk_bind (dk_u1 (h 0 _ rfl))).trans rfl)
theorem dk_61 {code : ByteArray} {pc : Nat} (h : DkAt code pc [61]) : decode code pc = .ok (.istore_n 2, 1) := dk_of ((dk_bind (dk_u1 (h 0 _ rfl))).trans rfl)
theorem dk_62 {code : ByteArray} {pc : Nat} (h : DkAt code pc [62]) : decode code pc = .ok (.istore_n 3, 1) := dk_of ((dk_bind (dk_u1 (h 0 _ rfl))).trans rfl)
theorem dk_65 {code : ByteArray} {pc : Nat} (h : DkAt code pc [65]) : decode code pc = .ok (.lstore_n 2, 1) := dk_of ((dk_bind (dk_u1 (h 0 _ rfl))).trans rfl)
theorem dk_70 {code : ByteArray} {pc : Nat} (h : DkAt code pc [70]) : decode code pc = .ok (.fstore_n 3, 1) := dk_of ((dk_bind (dk_u1 (h 0 _ rfl))).trans rfl)
theorem dk_73 {code : ByteArray} {pc : Nat} (h : DkAt code pc [73]) : decode code pc = .ok (.dstore_n 2, 1) := dk_of ((dk_bind (dk_u1 (h 0 _ rfl))).trans rfl)
theorem dk_75 {code : ByteArray} {pc : Nat} (h : DkAt code pc [75]) : decode code pc = .ok (.astore_n 0, 1) := dk_of ((dk_bind (dk_u1 (h 0 _ rfl))).trans rfl)
theorem dk_76 {code : ByteArray} {pc : Nat} (h : DkAt code pc [76]) : decode code pc = .ok (.astore_n 1, 1) := dk_of ((dk_bind (dk_u1 (h 0 _ rfl))).trans rfl)
theorem dk_77 {code : ByteArray} {pc : Nat} (h : DkAt code pc [77]) : decode code pc = .ok (.astore_n 2, 1) := dk_of ((dk_bind (dk_u1 (h 0 _ rfl))).trans rfl)
theorem dk_78 {code : ByteArray} {pc : Nat} (h : DkAt code pc [78]) : decode code pc = .ok (.astore_n 3, 1) := dk_of ((dk_bind (dk_u1 (h 0 _ rfl))).trans rfl)
theorem dk_79 {code : ByteArray} {pc : Nat} (h : DkAt code pc [79]) : decode code pc = .ok (.iastore, 1) := dk_of ((dk_bind (dk_u1 (h 0 _ rfl))).trans rfl)
theorem dk_83 {code : ByteArray} {pc : Nat} (h : DkAt code pc [83]) : decode code pc = .ok (.aastore, 1) := dk_of ((dk_bind (dk_u1 (h 0 _ rfl))).trans rfl)
theorem dk_87 {code : ByteArray} {pc : Nat} (h : DkAt code pc [87]) : decode code pc = .ok (.pop, 1) := dk_of ((dk_bind (dk_u1 (h 0 _ rfl))).trans rfl)
theorem dk_89 {code : ByteArray} {pc : Nat} (h : DkAt code pc [89]) : decode code pc = .ok (.dup, 1) := dk_of ((dk_bind (dk_u1 (h 0 _ rfl))).trans rfl)
theorem dk_90 {code : ByteArray} {pc : Nat} (h : DkAt code pc [90]) : decode code pc = .ok (.dup_x1, 1) := dk_of ((dk_bind (dk_u1 (h 0 _ rfl))).trans rfl)
theorem dk_93 {code : ByteArray} {pc : Nat} (h : DkAt code pc [93]) : decode code pc = .ok (.dup2_x1, 1) := dk_of ((dk_bind (dk_u1 (h 0 _ rfl))).trans rfl)
theorem dk_96 {code : ByteArray} {pc : Nat} (h : DkAt code pc [96]) : decode code pc = .ok (.iadd, 1) := dk_of ((dk_bind (dk_u1 (h 0 _ rfl))).trans rfl)
theorem dk_97 {code : ByteArray} {pc : Nat} (h : DkAt code pc [97]) : decode code pc = .ok (.ladd, 1) := dk_of ((dk_bind (dk_u1 (h 0 _ rfl))).trans rfl)
theorem dk_99 {code : ByteArray} {pc : Nat} (h : DkAt code pc [99]) : decode code pc = .ok (.dadd, 1) := dk_of ((dk_bind (dk_u1 (h 0 _ rfl))).trans rfl)
theorem dk_100 {code : ByteArray} {pc : Nat} (h : DkAt code pc [100]) : decode code pc = .ok (.isub, 1) := dk_of ((dk_bind (dk_u1 (h 0 _ rfl))).trans rfl)
theorem dk_101 {code : ByteArray} {pc : Nat} (h : DkAt code pc [101]) : decode code pc = .ok (.lsub, 1) := dk_of ((dk_bind (dk_u1 (h 0 _ rfl))).trans rfl)
theorem dk_103 {code : ByteArray} {pc : Nat} (h : DkAt code pc [103]) : decode code pc = .ok (.dsub, 1) := dk_of ((dk_bind (dk_u1 (h 0 _ rfl))).trans rfl)
theorem dk_111 {code : ByteArray} {pc : Nat} (h : DkAt code pc [111]) : decode code pc = .ok (.ddiv, 1) := dk_of ((dk_bind (dk_u1 (h 0 _ rfl))).trans rfl)
theorem dk_122 {code : ByteArray} {pc : Nat} (h : DkAt code pc [122]) : decode code pc = .ok (.ishr, 1) := dk_of ((dk_bind (dk_u1 (h 0 _ rfl))).trans rfl)
theorem dk_126 {code : ByteArray} {pc : Nat} (h : DkAt code pc [126]) : decode code pc = .ok (.iand, 1) := dk_of ((dk_bind (dk_u1 (h 0 _ rfl))).trans rfl)
theorem dk_130 {code : ByteArray} {pc : Nat} (h : DkAt code pc [130]) : decode code pc = .ok (.ixor, 1) := dk_of ((dk_bind (dk_u1 (h 0 _ rfl))).trans rfl)
theorem dk_132 {code : ByteArray} {pc : Nat} (a b : UInt8) (h : DkAt code pc [132, a, b]) : decode code pc = .ok (.iinc a.toNat (Reader.signed 8 b.toNat), 3) := dk_of ((dk_bind (dk_u1 (h 0 _ rfl))).trans ((dk_bind (dk_u1 (h 1 _ rfl))).trans ((dk_bind (dk_map (dk_u1 (h 2 _ rfl)))).trans rfl)))
theorem dk_134 {code : ByteArray} {pc : Nat} (h : DkAt code pc [134]) : decode code pc = .ok (.i2f, 1) := dk_of ((dk_bind (dk_u1 (h 0 _ rfl))).trans rfl)
theorem dk_135 {code : ByteArray} {pc : Nat} (h : DkAt code pc [135]) : decode code pc = .ok (.i2d, 1) := dk_of ((dk_bind (dk_u1 (h 0 _ rfl))).trans rfl)
theorem dk_136 {code : ByteArray} {pc : Nat} (h : DkAt code pc [136]) : decode code pc = .ok (.l2i, 1) := dk_of ((dk_bind (dk_u1 (h 0 _ rfl))).trans rfl)
theorem dk_138 {code : ByteArray} {pc : Nat} (h : DkAt code pc [138]) : decode code pc = .ok (.l2d, 1) := dk_of ((dk_bind (dk_u1 (h 0 _ rfl))).trans rfl)
theorem dk_142 {code : ByteArray} {pc : Nat} (h : DkAt code pc [142]) : decode code pc = .ok (.d2i, 1) := dk_of ((dk_bind (dk_u1 (h 0 _ rfl))).trans rfl)
theorem dk_143 {code : ByteArray} {pc : Nat} (h : DkAt code pc [143]) : decode code pc = .ok (.d2l, 1) := dk_of ((dk_bind (dk_u1 (h 0 _ rfl))).trans rfl)
theorem dk_148 {code : ByteArray} {pc : Nat} (h : DkAt code pc [148]) : decode code pc = .ok (.lcmp, 1) := dk_of ((dk_bind (dk_u1 (h 0 _ rfl))).trans rfl)
theorem dk_151 {code : ByteArray} {pc : Nat} (h : DkAt code pc [151]) : decode code pc = .ok (.dcmp .l, 1) := dk_of ((dk_bind (dk_u1 (h 0 _ rfl))).trans rfl)
theorem dk_153 {code : ByteArray} {pc : Nat} (a b : UInt8) (h : DkAt code pc [153, a, b]) : decode code pc = .ok (.ifCond .eq (Reader.signed 16 (a.toNat * 256 + b.toNat)), 3) := dk_of ((dk_bind (dk_u1 (h 0 _ rfl))).trans ((dk_bind (dk_map (dk_u2 (h 1 _ rfl) (h 2 _ rfl)))).trans rfl))
theorem dk_154 {code : ByteArray} {pc : Nat} (a b : UInt8) (h : DkAt code pc [154, a, b]) : decode code pc = .ok (.ifCond .ne (Reader.signed 16 (a.toNat * 256 + b.toNat)), 3) := dk_of ((dk_bind (dk_u1 (h 0 _ rfl))).trans ((dk_bind (dk_map (dk_u2 (h 1 _ rfl) (h 2 _ rfl)))).trans rfl))
theorem dk_155 {code : ByteArray} {pc : Nat} (a b : UInt8) (h : DkAt code pc [155, a, b]) : decode code pc = .ok (.ifCond .lt (Reader.signed 16 (a.toNat * 256 + b.toNat)), 3) := dk_of ((dk_bind (dk_u1 (h 0 _ rfl))).trans ((dk_bind (dk_map (dk_u2 (h 1 _ rfl) (h 2 _ rfl)))).trans rfl))
theorem dk_156 {code : ByteArray} {pc : Nat} (a b : UInt8) (h : DkAt code pc [156, a, b]) : decode code pc = .ok (.ifCond .ge (Reader.signed 16 (a.toNat * 256 + b.toNat)), 3) := dk_of ((dk_bind (dk_u1 (h 0 _ rfl))).trans ((dk_bind (dk_map (dk_u2 (h 1 _ rfl) (h 2 _ rfl)))).trans rfl))
theorem dk_157 {code : ByteArray} {pc : Nat} (a b : UInt8) (h : DkAt code pc [157, a, b]) : decode code pc = .ok (.ifCond .gt (Reader.signed 16 (a.toNat * 256 + b.toNat)), 3) := dk_of ((dk_bind (dk_u1 (h 0 _ rfl))).trans ((dk_bind (dk_map (dk_u2 (h 1 _ rfl) (h 2 _ rfl)))).trans rfl))
theorem dk_158 {code : ByteArray} {pc : Nat} (a b : UInt8) (h : DkAt code pc [158, a, b]) : decode code pc = .ok (.ifCond .le (Reader.signed 16 (a.toNat * 256 + b.toNat)), 3) := dk_of ((dk_bind (dk_u1 (h 0 _ rfl))).trans ((dk_bind (dk_map (dk_u2 (h 1 _ rfl) (h 2 _ rfl)))).trans rfl))
theorem dk_159 {code : ByteArray} {pc : Nat} (a b : UInt8) (h : DkAt code pc [159, a, b]) : decode code pc = .ok (.if_icmp .eq (Reader.signed 16 (a.toNat * 256 + b.toNat)), 3) := dk_of ((dk_bind (dk_u1 (h 0 _ rfl))).trans ((dk_bind (dk_map (dk_u2 (h 1 _ rfl) (h 2 _ rfl)))).trans rfl))
theorem dk_160 {code : ByteArray} {pc : Nat} (a b : UInt8) (h : DkAt code pc [160, a, b]) : decode code pc = .ok (.if_icmp .ne (Reader.signed 16 (a.toNat * 256 + b.toNat)), 3) := dk_of ((dk_bind (dk_u1 (h 0 _ rfl))).trans ((dk_bind (dk_map (dk_u2 (h 1 _ rfl) (h 2 _ rfl)))).trans rfl))
theorem dk_161 {code : ByteArray} {pc : Nat} (a b : UInt8) (h : DkAt code pc [161, a, b]) : decode code pc = .ok (.if_icmp .lt (Reader.signed 16 (a.toNat * 256 + b.toNat)), 3) := dk_of ((dk_bind (dk_u1 (h 0 _ rfl))).trans ((dk_bind (dk_map (dk_u2 (h 1 _ rfl) (h 2 _ rfl)))).trans rfl))
theorem dk_162 {code : ByteArray} {pc : Nat} (a b : UInt8) (h : DkAt code pc [162, a, b]) : decode code pc = .ok (.if_icmp .ge (Reader.signed 16 (a.toNat * 256 + b.toNat)), 3) := dk_of ((dk_bind (dk_u1 (h 0 _ rfl))).trans ((dk_bind (dk_map (dk_u2 (h 1 _ rfl) (h 2 _ rfl)))).trans rfl))
theorem dk_163 {code : ByteArray} {pc : Nat} (a b : UInt8) (h : DkAt code pc [163, a, b]) : decode code pc = .ok (.if_icmp .gt (Reader.signed 16 (a.toNat * 256 + b.toNat)), 3) := dk_of ((dk_bind (dk_u1 (h 0 _ rfl))).trans ((dk_bind (dk_map (dk_u2 (h 1 _ rfl) (h 2 _ rfl)))).trans rfl))
theorem dk_164 {code : ByteArray} {pc : Nat} (a b : UInt8) (h : DkAt code pc [164, a, b]) : decode code pc = .ok (.if_icmp .le (Reader.signed 16 (a.toNat * 256 + b.toNat)), 3) := dk_of ((dk_bind (dk_u1 (h 0 _ rfl))).trans ((dk_bind (dk_map (dk_u2 (h 1 _ rfl) (h 2 _ rfl)))).trans rfl))
theorem dk_165 {code : ByteArray} {pc : Nat} (a b : UInt8) (h : DkAt code pc [165, a, b]) : decode code pc = .ok (.if_acmp .eq (Reader.signed 16 (a.toNat * 256 + b.toNat)), 3) := dk_of ((dk_bind (dk_u1 (h 0 _ rfl))).trans ((dk_bind (dk_map (dk_u2 (h 1 _ rfl) (h 2 _ rfl)))).trans rfl))
theorem dk_166 {code : ByteArray} {pc : Nat} (a b : UInt8) (h : DkAt code pc [166, a, b]) : decode code pc = .ok (.if_acmp .ne (Reader.signed 16 (a.toNat * 256 + b.toNat)), 3) := dk_of ((dk_bind (dk_u1 (h 0 _ rfl))).trans ((dk_bind (dk_map (dk_u2 (h 1 _ rfl) (h 2 _ rfl)))).trans rfl))
theorem dk_167 {code : ByteArray} {pc : Nat} (a b : UInt8) (h : DkAt code pc [167, a, b]) : decode code pc = .ok (.goto (Reader.signed 16 (a.toNat * 256 + b.toNat)), 3) := dk_of ((dk_bind (dk_u1 (h 0 _ rfl))).trans ((dk_bind (dk_map (dk_u2 (h 1 _ rfl) (h 2 _ rfl)))).trans rfl))
theorem dk_172 {code : ByteArray} {pc : Nat} (h : DkAt code pc [172]) : decode code pc = .ok (.ireturn, 1) := dk_of ((dk_bind (dk_u1 (h 0 _ rfl))).trans rfl)
theorem dk_175 {code : ByteArray} {pc : Nat} (h : DkAt code pc [175]) : decode code pc = .ok (.dreturn, 1) := dk_of ((dk_bind (dk_u1 (h 0 _ rfl))).trans rfl)
theorem dk_176 {code : ByteArray} {pc : Nat} (h : DkAt code pc [176]) : decode code pc = .ok (.areturn, 1) := dk_of ((dk_bind (dk_u1 (h 0 _ rfl))).trans rfl)
theorem dk_177 {code : ByteArray} {pc : Nat} (h : DkAt code pc [177]) : decode code pc = .ok (.return_, 1) := dk_of ((dk_bind (dk_u1 (h 0 _ rfl))).trans rfl)
theorem dk_178 {code : ByteArray} {pc : Nat} (a b : UInt8) (h : DkAt code pc [178, a, b]) : decode code pc = .ok (.getstatic (a.toNat * 256 + b.toNat), 3) := dk_of ((dk_bind (dk_u1 (h 0 _ rfl))).trans ((dk_bind (dk_u2 (h 1 _ rfl) (h 2 _ rfl))).trans rfl))
theorem dk_180 {code : ByteArray} {pc : Nat} (a b : UInt8) (h : DkAt code pc [180, a, b]) : decode code pc = .ok (.getfield (a.toNat * 256 + b.toNat), 3) := dk_of ((dk_bind (dk_u1 (h 0 _ rfl))).trans ((dk_bind (dk_u2 (h 1 _ rfl) (h 2 _ rfl))).trans rfl))
theorem dk_181 {code : ByteArray} {pc : Nat} (a b : UInt8) (h : DkAt code pc [181, a, b]) : decode code pc = .ok (.putfield (a.toNat * 256 + b.toNat), 3) := dk_of ((dk_bind (dk_u1 (h 0 _ rfl))).trans ((dk_bind (dk_u2 (h 1 _ rfl) (h 2 _ rfl))).trans rfl))
theorem dk_182 {code : ByteArray} {pc : Nat} (a b : UInt8) (h : DkAt code pc [182, a, b]) : decode code pc = .ok (.invokevirtual (a.toNat * 256 + b.toNat), 3) := dk_of ((dk_bind (dk_u1 (h 0 _ rfl))).trans ((dk_bind (dk_u2 (h 1 _ rfl) (h 2 _ rfl))).trans rfl))
theorem dk_183 {code : ByteArray} {pc : Nat} (a b : UInt8) (h : DkAt code pc [183, a, b]) : decode code pc = .ok (.invokespecial (a.toNat * 256 + b.toNat), 3) := dk_of ((dk_bind (dk_u1 (h 0 _ rfl))).trans ((dk_bind (dk_u2 (h 1 _ rfl) (h 2 _ rfl))).trans rfl))
theorem dk_184 {code : ByteArray} {pc : Nat} (a b : UInt8) (h : DkAt code pc [184, a, b]) : decode code pc = .ok (.invokestatic (a.toNat * 256 + b.toNat), 3) := dk_of ((dk_bind (dk_u1 (h 0 _ rfl))).trans ((dk_bind (dk_u2 (h 1 _ rfl) (h 2 _ rfl))).trans rfl))
theorem dk_187 {code : ByteArray} {pc : Nat} (a b : UInt8) (h : DkAt code pc [187, a, b]) : decode code pc = .ok (.new (a.toNat * 256 + b.toNat), 3) := dk_of ((dk_bind (dk_u1 (h 0 _ rfl))).trans ((dk_bind (dk_u2 (h 1 _ rfl) (h 2 _ rfl))).trans rfl))
theorem dk_188_10 {code : ByteArray} {pc : Nat} (h : DkAt code pc [188, 10]) : decode code pc = .ok (.newarray .int, 2) := dk_of ((dk_bind (dk_u1 (h 0 _ rfl))).trans ((dk_bind (dk_u1 (h 1 _ rfl))).trans rfl))
theorem dk_189 {code : ByteArray} {pc : Nat} (a b : UInt8) (h : DkAt code pc [189, a, b]) : decode code pc = .ok (.anewarray (a.toNat * 256 + b.toNat), 3) := dk_of ((dk_bind (dk_u1 (h 0 _ rfl))).trans ((dk_bind (dk_u2 (h 1 _ rfl) (h 2 _ rfl))).trans rfl))
theorem dk_190 {code : ByteArray} {pc : Nat} (h : DkAt code pc [190]) : decode code pc = .ok (.arraylength, 1) := dk_of ((dk_bind (dk_u1 (h 0 _ rfl))).trans rfl)
theorem dk_191 {code : ByteArray} {pc : Nat} (h : DkAt code pc [191]) : decode code pc = .ok (.athrow, 1) := dk_of ((dk_bind (dk_u1 (h 0 _ rfl))).trans rfl)
theorem dk_192 {code : ByteArray} {pc : Nat} (a b : UInt8) (h : DkAt code pc [192, a, b]) : decode code pc = .ok (.checkcast (a.toNat * 256 + b.toNat), 3) := dk_of ((dk_bind (dk_u1 (h 0 _ rfl))).trans ((dk_bind (dk_u2 (h 1 _ rfl) (h 2 _ rfl))).trans rfl))
theorem dk_198 {code : ByteArray} {pc : Nat} (a b : UInt8) (h : DkAt code pc [198, a, b]) : decode code pc = .ok (.ifnull (Reader.signed 16 (a.toNat * 256 + b.toNat)), 3) := dk_of ((dk_bind (dk_u1 (h 0 _ rfl))).trans ((dk_bind (dk_map (dk_u2 (h 1 _ rfl) (h 2 _ rfl)))).trans rfl))
theorem dk_199 {code : ByteArray} {pc : Nat} (a b : UInt8) (h : DkAt code pc [199, a, b]) : decode code pc = .ok (.ifnonnull (Reader.signed 16 (a.toNat * 256 + b.toNat)), 3) := dk_of ((dk_bind (dk_u1 (h 0 _ rfl))).trans ((dk_bind (dk_map (dk_u2 (h 1 _ rfl) (h 2 _ rfl)))).trans rfl))
/-! java/lang/Number -/
set_option maxRecDepth 100000
def RJ4 : String := "java/lang/Number"
abbrev cJ4_init : ByteArray := prog_17_method_1_code
def yJ4_init : MethodName := ⟨RJ4, "<init>", "()V"⟩
theorem dJ4_init_0 : decode cJ4_init 0 = .ok (.aload_n 0, 1) := by decide +kernel
theorem dJ4_init_1 : decode cJ4_init 1 = .ok (.invokespecial 1, 3) := by decide +kernel
theorem dJ4_init_4 : decode cJ4_init 4 = .ok (.return_, 1) := by decide +kernel
theorem q15 : (Jvm.Cond.initialized "java/lang/Number") ∈ lw_all := lw_g (lw_at lw_m1 8 rfl) rfl
theorem q137 : (Jvm.Cond.instanceMethod ({ cls := "java/lang/Number", name := "<init>", desc := "()V" } : Jvm.MethodName)) ∈ lw_all := lw_g (lw_at lw_m1 130 rfl) rfl
theorem q138 : (Jvm.Cond.code ({ cls := "java/lang/Number", name := "<init>", desc := "()V" } : Jvm.MethodName) prog_17_method_1_code (1 : Nat) (Option.none : Option Jvm.ClassFile.FieldType)) ∈ lw_all := lw_g (lw_at lw_m1 131 rfl) rfl
theorem q139 : (Jvm.Cond.methodLink "java/lang/Number" (1 : Nat) ({ cls := "java/lang/Object", name := "<init>", desc := "()V" } : Jvm.MethodName)) ∈ lw_all := lw_g (lw_at lw_m1 132 rfl) rfl
/-! java/lang/Integer -/
set_option maxRecDepth 100000
def RJ5 : String := "java/lang/Integer"
def TJ5 : u_T := fun k => match k with
  | _ => ("java/lang/Integer", "value", "I", true)
def tyJ5 : Nat → FieldType := fun k => match k with
  | _ => .int
abbrev wsJ50 : List Cond := u_ws RJ5 TJ5 1
theorem nmJ5 : ∀ a, a < 1 → ∀ b, b < 1 → a ≠ b → (TJ5 a).2.1 ≠ (TJ5 b).2.1 := by decide +kernel
theorem tyJ5_ok : ∀ k, k < 1 → parseFieldDescriptor (TJ5 k).2.2.1 = some (tyJ5 k) := by decide +kernel
abbrev cJ5_valueOf : ByteArray := prog_13_method_22_code
def yJ5_valueOf : MethodName := ⟨RJ5, "valueOf", "(I)Ljava/lang/Integer;"⟩
def dkwJ5_valueOf_1 : List UInt8 := [187, 0, 1, 89, 26, 183, 0, 199, 176]
abbrev dktJ5_valueOf_1 : List UInt8 := dkwJ5_valueOf_1 ++ []
def dkwJ5_valueOf_0 : List UInt8 := [26, 16, 128, 161, 0, 20, 26, 178, 0, 191, 163, 0, 13, 178, 0, 195, 26, 17, 0, 128, 96, 50, 176]
abbrev dktJ5_valueOf_0 : List UInt8 := dkwJ5_valueOf_0 ++ dktJ5_valueOf_1
theorem dksJ5_valueOf_0 : cJ5_valueOf.data.toList.drop 0 = dktJ5_valueOf_0 := by decide +kernel
theorem dksJ5_valueOf_1 : cJ5_valueOf.data.toList.drop 23 = dktJ5_valueOf_1 := dk_seg dksJ5_valueOf_0 23 rfl rfl
theorem dJ5_valueOf_0 : decode cJ5_valueOf 0 = .ok (.iload_n 0, 1) := dk_26 (dk_at dksJ5_valueOf_0 0 rfl rfl)
theorem dJ5_valueOf_1 : decode cJ5_valueOf 1 = .ok (.bipush (-128), 2) := dk_16 128 (dk_at dksJ5_valueOf_0 1 rfl rfl)
theorem dJ5_valueOf_3 : decode cJ5_valueOf 3 = .ok (.if_icmp .lt 20, 3) := dk_161 0 20 (dk_at dksJ5_valueOf_0 3 rfl rfl)
theorem dJ5_valueOf_6 : decode cJ5_valueOf 6 = .ok (.iload_n 0, 1) := dk_26 (dk_at dksJ5_valueOf_0 6 rfl rfl)
theorem dJ5_valueOf_7 : decode cJ5_valueOf 7 = .ok (.getstatic 191, 3) := dk_178 0 191 (dk_at dksJ5_valueOf_0 7 rfl rfl)
theorem dJ5_valueOf_10 : decode cJ5_valueOf 10 = .ok (.if_icmp .gt 13, 3) := dk_163 0 13 (dk_at dksJ5_valueOf_0 10 rfl rfl)
theorem dJ5_valueOf_13 : decode cJ5_valueOf 13 = .ok (.getstatic 195, 3) := dk_178 0 195 (dk_at dksJ5_valueOf_0 13 rfl rfl)
theorem dJ5_valueOf_16 : decode cJ5_valueOf 16 = .ok (.iload_n 0, 1) := dk_26 (dk_at dksJ5_valueOf_0 16 rfl rfl)
theorem dJ5_valueOf_17 : decode cJ5_valueOf 17 = .ok (.sipush 128, 3) := dk_17 0 128 (dk_at dksJ5_valueOf_0 17 rfl rfl)
theorem dJ5_valueOf_20 : decode cJ5_valueOf 20 = .ok (.iadd, 1) := dk_96 (dk_at dksJ5_valueOf_0 20 rfl rfl)
theorem dJ5_valueOf_21 : decode cJ5_valueOf 21 = .ok (.aaload, 1) := dk_50 (dk_at dksJ5_valueOf_0 21 rfl rfl)
theorem dJ5_valueOf_22 : decode cJ5_valueOf 22 = .ok (.areturn, 1) := dk_176 (dk_at dksJ5_valueOf_0 22 rfl rfl)
theorem dJ5_valueOf_23 : decode cJ5_valueOf 23 = .ok (.new 1, 3) := dk_187 0 1 (dk_at dksJ5_valueOf_1 0 rfl rfl)
theorem dJ5_valueOf_26 : decode cJ5_valueOf 26 = .ok (.dup, 1) := dk_89 (dk_at dksJ5_valueOf_1 3 rfl rfl)
theorem dJ5_valueOf_27 : decode cJ5_valueOf 27 = .ok (.iload_n 0, 1) := dk_26 (dk_at dksJ5_valueOf_1 4 rfl rfl)
theorem dJ5_valueOf_28 : decode cJ5_valueOf 28 = .ok (.invokespecial 199, 3) := dk_183 0 199 (dk_at dksJ5_valueOf_1 5 rfl rfl)
theorem dJ5_valueOf_31 : decode cJ5_valueOf 31 = .ok (.areturn, 1) := dk_176 (dk_at dksJ5_valueOf_1 8 rfl rfl)
abbrev cJ5_init : ByteArray := prog_13_method_23_code
def yJ5_init : MethodName := ⟨RJ5, "<init>", "(I)V"⟩
def dkwJ5_init_0 : List UInt8 := [42, 183, 0, 202, 42, 27, 181, 0, 205, 177]
abbrev dktJ5_init_0 : List UInt8 := dkwJ5_init_0 ++ []
theorem dksJ5_init_0 : cJ5_init.data.toList.drop 0 = dktJ5_init_0 := by decide +kernel
theorem dJ5_init_0 : decode cJ5_init 0 = .ok (.aload_n 0, 1) := dk_42 (dk_at dksJ5_init_0 0 rfl rfl)
theorem dJ5_init_1 : decode cJ5_init 1 = .ok (.invokespecial 202, 3) := dk_183 0 202 (dk_at dksJ5_init_0 1 rfl rfl)
theorem dJ5_init_4 : decode cJ5_init 4 = .ok (.aload_n 0, 1) := dk_42 (dk_at dksJ5_init_0 4 rfl rfl)
theorem dJ5_init_5 : decode cJ5_init 5 = .ok (.iload_n 1, 1) := dk_27 (dk_at dksJ5_init_0 5 rfl rfl)
theorem dJ5_init_6 : decode cJ5_init 6 = .ok (.putfield 205, 3) := dk_181 0 205 (dk_at dksJ5_init_0 6 rfl rfl)
theorem dJ5_init_9 : decode cJ5_init 9 = .ok (.return_, 1) := dk_177 (dk_at dksJ5_init_0 9 rfl rfl)
abbrev cJ5_intValue : ByteArray := prog_13_method_27_code
def yJ5_intValue : MethodName := ⟨RJ5, "intValue", "()I"⟩
theorem dJ5_intValue_0 : decode cJ5_intValue 0 = .ok (.aload_n 0, 1) := by decide +kernel
theorem dJ5_intValue_1 : decode cJ5_intValue 1 = .ok (.getfield 205, 3) := by decide +kernel
theorem dJ5_intValue_4 : decode cJ5_intValue 4 = .ok (.ireturn, 1) := by decide +kernel
theorem q16 : (Jvm.Cond.initialized "java/lang/Integer") ∈ lw_all := lw_g (lw_at lw_m1 9 rfl) rfl
theorem q125 : (Jvm.Cond.static ({ cls := "java/lang/Integer", name := "valueOf", desc := "(I)Ljava/lang/Integer;" } : Jvm.MethodName)) ∈ lw_all := lw_g (lw_at lw_m1 118 rfl) rfl
theorem q126 : (Jvm.Cond.code ({ cls := "java/lang/Integer", name := "valueOf", desc := "(I)Ljava/lang/Integer;" } : Jvm.MethodName) prog_13_method_22_code (1 : Nat) (Option.some (Jvm.ClassFile.FieldType.object "java/lang/Integer"))) ∈ lw_all := lw_g (lw_at lw_m1 119 rfl) rfl
theorem q127 : (Jvm.Cond.fieldLink "java/lang/Integer" (191 : Nat) "java/lang/Integer$IntegerCache" "high" "I") ∈ lw_all := lw_g (lw_at lw_m1 120 rfl) rfl
theorem q129 : (Jvm.Cond.fieldLink "java/lang/Integer" (195 : Nat) "java/lang/Integer$IntegerCache" "cache" "[Ljava/lang/Integer;") ∈ lw_all := lw_g (lw_at lw_m1 122 rfl) rfl
theorem q131 : (Jvm.Cond.classLink "java/lang/Integer" (1 : Nat) "java/lang/Integer") ∈ lw_all := lw_g (lw_at lw_m1 124 rfl) rfl
theorem q132 : (Jvm.Cond.instantiable "java/lang/Integer" (1 : Nat)) ∈ lw_all := lw_g (lw_at lw_m1 125 rfl) rfl
theorem q133 : (Jvm.Cond.methodLink "java/lang/Integer" (199 : Nat) ({ cls := "java/lang/Integer", name := "<init>", desc := "(I)V" } : Jvm.MethodName)) ∈ lw_all := lw_g (lw_at lw_m1 126 rfl) rfl
theorem q134 : (Jvm.Cond.instanceMethod ({ cls := "java/lang/Integer", name := "<init>", desc := "(I)V" } : Jvm.MethodName)) ∈ lw_all := lw_g (lw_at lw_m1 127 rfl) rfl
theorem q135 : (Jvm.Cond.code ({ cls := "java/lang/Integer", name := "<init>", desc := "(I)V" } : Jvm.MethodName) prog_13_method_23_code (2 : Nat) (Option.none : Option Jvm.ClassFile.FieldType)) ∈ lw_all := lw_g (lw_at lw_m1 128 rfl) rfl
theorem q136 : (Jvm.Cond.methodLink "java/lang/Integer" (202 : Nat) ({ cls := "java/lang/Number", name := "<init>", desc := "()V" } : Jvm.MethodName)) ∈ lw_all := lw_g (lw_at lw_m1 129 rfl) rfl
theorem q140 : (Jvm.Cond.fieldLink "java/lang/Integer" (205 : Nat) "java/lang/Integer" "value" "I") ∈ lw_all := lw_g (lw_at lw_m1 133 rfl) rfl
theorem q141 : (Jvm.Cond.laysFinal "java/lang/Integer" "java/lang/Integer" "value" "I") ∈ lw_all := lw_g (lw_at lw_m1 134 rfl) rfl
theorem q142 : (Jvm.Cond.soleField "java/lang/Integer" "value") ∈ lw_all := lw_g (lw_at lw_m1 135 rfl) rfl
theorem q143 : (Jvm.Cond.superclass "java/lang/Integer" "java/lang/Number") ∈ lw_all := lw_g (lw_at lw_m1 136 rfl) rfl
theorem q260 : (Jvm.Cond.instanceMethod ({ cls := "java/lang/Integer", name := "intValue", desc := "()I" } : Jvm.MethodName)) ∈ lw_all := lw_g (lw_at lw_m2 13 rfl) rfl
theorem q261 : (Jvm.Cond.selects "java/lang/Integer" ({ cls := "java/lang/Integer", name := "intValue", desc := "()I" } : Jvm.MethodName) ({ cls := "java/lang/Integer", name := "intValue", desc := "()I" } : Jvm.MethodName)) ∈ lw_all := lw_g (lw_at lw_m2 14 rfl) rfl
theorem q262 : (Jvm.Cond.code ({ cls := "java/lang/Integer", name := "intValue", desc := "()I" } : Jvm.MethodName) prog_13_method_27_code (1 : Nat) (Option.some Jvm.ClassFile.FieldType.int)) ∈ lw_all := lw_g (lw_at lw_m2 15 rfl) rfl
theorem q332 : (Jvm.Cond.selects "java/lang/Integer" ({ cls := "java/lang/Object", name := "getClass", desc := "()Ljava/lang/Class;" } : Jvm.MethodName) ({ cls := "java/lang/Object", name := "getClass", desc := "()Ljava/lang/Class;" } : Jvm.MethodName)) ∈ lw_all := lw_g (lw_at lw_m2 85 rfl) rfl
theorem q586 : (Jvm.Cond.castable "java/lang/Integer" "java/lang/Object") ∈ lw_tbl := lw_at lw_m3 99 rfl
theorem in_J5 : ∀ w ∈ wsJ50, w ∈ lw_all := lw_in wsJ50 [141] (by decide +kernel) (by decide +kernel)
/-! java/util/AbstractCollection -/
set_option maxRecDepth 100000
def RJ6 : String := "java/util/AbstractCollection"
abbrev cJ6_init : ByteArray := prog_25_method_1_code
def yJ6_init : MethodName := ⟨RJ6, "<init>", "()V"⟩
theorem dJ6_init_0 : decode cJ6_init 0 = .ok (.aload_n 0, 1) := by decide +kernel
theorem dJ6_init_1 : decode cJ6_init 1 = .ok (.invokespecial 1, 3) := by decide +kernel
theorem dJ6_init_4 : decode cJ6_init 4 = .ok (.return_, 1) := by decide +kernel
theorem q18 : (Jvm.Cond.initialized "java/util/AbstractCollection") ∈ lw_all := lw_g (lw_at lw_m1 11 rfl) rfl
theorem q164 : (Jvm.Cond.instanceMethod ({ cls := "java/util/AbstractCollection", name := "<init>", desc := "()V" } : Jvm.MethodName)) ∈ lw_all := lw_g (lw_at lw_m1 157 rfl) rfl
theorem q165 : (Jvm.Cond.code ({ cls := "java/util/AbstractCollection", name := "<init>", desc := "()V" } : Jvm.MethodName) prog_25_method_1_code (1 : Nat) (Option.none : Option Jvm.ClassFile.FieldType)) ∈ lw_all := lw_g (lw_at lw_m1 158 rfl) rfl
theorem q166 : (Jvm.Cond.methodLink "java/util/AbstractCollection" (1 : Nat) ({ cls := "java/lang/Object", name := "<init>", desc := "()V" } : Jvm.MethodName)) ∈ lw_all := lw_g (lw_at lw_m1 159 rfl) rfl
/-! java/util/AbstractList -/
set_option maxRecDepth 100000
def RJ7 : String := "java/util/AbstractList"
abbrev cJ7_init : ByteArray := prog_26_method_1_code
def yJ7_init : MethodName := ⟨RJ7, "<init>", "()V"⟩
def dkwJ7_init_0 : List UInt8 := [42, 183, 0, 1, 42, 3, 181, 0, 7, 177]
abbrev dktJ7_init_0 : List UInt8 := dkwJ7_init_0 ++ []
theorem dksJ7_init_0 : cJ7_init.data.toList.drop 0 = dktJ7_init_0 := by decide +kernel
theorem dJ7_init_0 : decode cJ7_init 0 = .ok (.aload_n 0, 1) := dk_42 (dk_at dksJ7_init_0 0 rfl rfl)
theorem dJ7_init_1 : decode cJ7_init 1 = .ok (.invokespecial 1, 3) := dk_183 0 1 (dk_at dksJ7_init_0 1 rfl rfl)
theorem dJ7_init_4 : decode cJ7_init 4 = .ok (.aload_n 0, 1) := dk_42 (dk_at dksJ7_init_0 4 rfl rfl)
theorem dJ7_init_5 : decode cJ7_init 5 = .ok (.iconst 0, 1) := dk_3 (dk_at dksJ7_init_0 5 rfl rfl)
theorem dJ7_init_6 : decode cJ7_init 6 = .ok (.putfield 7, 3) := dk_181 0 7 (dk_at dksJ7_init_0 6 rfl rfl)
theorem dJ7_init_9 : decode cJ7_init 9 = .ok (.return_, 1) := dk_177 (dk_at dksJ7_init_0 9 rfl rfl)
theorem q19 : (Jvm.Cond.initialized "java/util/AbstractList") ∈ lw_all := lw_g (lw_at lw_m1 12 rfl) rfl
theorem q161 : (Jvm.Cond.instanceMethod ({ cls := "java/util/AbstractList", name := "<init>", desc := "()V" } : Jvm.MethodName)) ∈ lw_all := lw_g (lw_at lw_m1 154 rfl) rfl
theorem q162 : (Jvm.Cond.code ({ cls := "java/util/AbstractList", name := "<init>", desc := "()V" } : Jvm.MethodName) prog_26_method_1_code (1 : Nat) (Option.none : Option Jvm.ClassFile.FieldType)) ∈ lw_all := lw_g (lw_at lw_m1 155 rfl) rfl
theorem q163 : (Jvm.Cond.methodLink "java/util/AbstractList" (1 : Nat) ({ cls := "java/util/AbstractCollection", name := "<init>", desc := "()V" } : Jvm.MethodName)) ∈ lw_all := lw_g (lw_at lw_m1 156 rfl) rfl
theorem q173 : (Jvm.Cond.fieldLink "java/util/AbstractList" (7 : Nat) "java/util/AbstractList" "modCount" "I") ∈ lw_all := lw_g (lw_at lw_m1 166 rfl) rfl
theorem q182 : (Jvm.Cond.soleField "java/util/AbstractList" "modCount") ∈ lw_all := lw_g (lw_at lw_m1 175 rfl) rfl
/-! java/util/ArrayList -/
set_option maxRecDepth 100000
def RJ8 : String := "java/util/ArrayList"
def TJ8 : u_T := fun k => match k with
  | 0 => ("java/util/AbstractList", "modCount", "I", false)
  | 1 => ("java/util/ArrayList", "elementData", "[Ljava/lang/Object;", false)
  | _ => ("java/util/ArrayList", "size", "I", false)
def tyJ8 : Nat → FieldType := fun k => match k with
  | 0 => .int
  | 1 => .array (.object "java/lang/Object")
  | _ => .int
abbrev wsJ80 : List Cond := u_ws RJ8 TJ8 3
theorem nmJ8 : ∀ a, a < 3 → ∀ b, b < 3 → a ≠ b → (TJ8 a).2.1 ≠ (TJ8 b).2.1 := by decide +kernel
theorem tyJ8_ok : ∀ k, k < 3 → parseFieldDescriptor (TJ8 k).2.2.1 = some (tyJ8 k) := by decide +kernel
abbrev cJ8_init : ByteArray := prog_27_method_2_code
def yJ8_init : MethodName := ⟨RJ8, "<init>", "()V"⟩
def dkwJ8_init_0 : List UInt8 := [42, 183, 0, 1, 42, 178, 0, 39, 181, 0, 9, 177]
abbrev dktJ8_init_0 : List UInt8 := dkwJ8_init_0 ++ []
theorem dksJ8_init_0 : cJ8_init.data.toList.drop 0 = dktJ8_init_0 := by decide +kernel
theorem dJ8_init_0 : decode cJ8_init 0 = .ok (.aload_n 0, 1) := dk_42 (dk_at dksJ8_init_0 0 rfl rfl)
theorem dJ8_init_1 : decode cJ8_init 1 = .ok (.invokespecial 1, 3) := dk_183 0 1 (dk_at dksJ8_init_0 1 rfl rfl)
theorem dJ8_init_4 : decode cJ8_init 4 = .ok (.aload_n 0, 1) := dk_42 (dk_at dksJ8_init_0 4 rfl rfl)
theorem dJ8_init_5 : decode cJ8_init 5 = .ok (.getstatic 39, 3) := dk_178 0 39 (dk_at dksJ8_init_0 5 rfl rfl)
theorem dJ8_init_8 : decode cJ8_init 8 = .ok (.putfield 9, 3) := dk_181 0 9 (dk_at dksJ8_init_0 8 rfl rfl)
theorem dJ8_init_11 : decode cJ8_init 11 = .ok (.return_, 1) := dk_177 (dk_at dksJ8_init_0 11 rfl rfl)
abbrev cJ8_add : ByteArray := prog_27_method_25_code
def yJ8_add : MethodName := ⟨RJ8, "add", "(Ljava/lang/Object;)Z"⟩
def dkwJ8_add_1 : List UInt8 := [172]
abbrev dktJ8_add_1 : List UInt8 := dkwJ8_add_1 ++ []
def dkwJ8_add_0 : List UInt8 := [42, 89, 180, 0, 63, 4, 96, 181, 0, 63, 42, 43, 42, 180, 0, 9, 42, 180, 0, 48, 182, 0, 131, 4]
abbrev dktJ8_add_0 : List UInt8 := dkwJ8_add_0 ++ dktJ8_add_1
theorem dksJ8_add_0 : cJ8_add.data.toList.drop 0 = dktJ8_add_0 := by decide +kernel
theorem dksJ8_add_1 : cJ8_add.data.toList.drop 24 = dktJ8_add_1 := dk_seg dksJ8_add_0 24 rfl rfl
theorem dJ8_add_0 : decode cJ8_add 0 = .ok (.aload_n 0, 1) := dk_42 (dk_at dksJ8_add_0 0 rfl rfl)
theorem dJ8_add_1 : decode cJ8_add 1 = .ok (.dup, 1) := dk_89 (dk_at dksJ8_add_0 1 rfl rfl)
theorem dJ8_add_2 : decode cJ8_add 2 = .ok (.getfield 63, 3) := dk_180 0 63 (dk_at dksJ8_add_0 2 rfl rfl)
theorem dJ8_add_5 : decode cJ8_add 5 = .ok (.iconst 1, 1) := dk_4 (dk_at dksJ8_add_0 5 rfl rfl)
theorem dJ8_add_6 : decode cJ8_add 6 = .ok (.iadd, 1) := dk_96 (dk_at dksJ8_add_0 6 rfl rfl)
theorem dJ8_add_7 : decode cJ8_add 7 = .ok (.putfield 63, 3) := dk_181 0 63 (dk_at dksJ8_add_0 7 rfl rfl)
theorem dJ8_add_10 : decode cJ8_add 10 = .ok (.aload_n 0, 1) := dk_42 (dk_at dksJ8_add_0 10 rfl rfl)
theorem dJ8_add_11 : decode cJ8_add 11 = .ok (.aload_n 1, 1) := dk_43 (dk_at dksJ8_add_0 11 rfl rfl)
theorem dJ8_add_12 : decode cJ8_add 12 = .ok (.aload_n 0, 1) := dk_42 (dk_at dksJ8_add_0 12 rfl rfl)
theorem dJ8_add_13 : decode cJ8_add 13 = .ok (.getfield 9, 3) := dk_180 0 9 (dk_at dksJ8_add_0 13 rfl rfl)
theorem dJ8_add_16 : decode cJ8_add 16 = .ok (.aload_n 0, 1) := dk_42 (dk_at dksJ8_add_0 16 rfl rfl)
theorem dJ8_add_17 : decode cJ8_add 17 = .ok (.getfield 48, 3) := dk_180 0 48 (dk_at dksJ8_add_0 17 rfl rfl)
theorem dJ8_add_20 : decode cJ8_add 20 = .ok (.invokevirtual 131, 3) := dk_182 0 131 (dk_at dksJ8_add_0 20 rfl rfl)
theorem dJ8_add_23 : decode cJ8_add 23 = .ok (.iconst 1, 1) := dk_4 (dk_at dksJ8_add_0 23 rfl rfl)
theorem dJ8_add_24 : decode cJ8_add 24 = .ok (.ireturn, 1) := dk_172 (dk_at dksJ8_add_1 0 rfl rfl)
abbrev cJ8_add_2 : ByteArray := prog_27_method_24_code
def yJ8_add_2 : MethodName := ⟨RJ8, "add", "(Ljava/lang/Object;[Ljava/lang/Object;I)V"⟩
def dkwJ8_add_2_0 : List UInt8 := [29, 44, 190, 160, 0, 8, 42, 182, 0, 129, 77, 44, 29, 43, 83, 42, 29, 4, 96, 181, 0, 48, 177]
abbrev dktJ8_add_2_0 : List UInt8 := dkwJ8_add_2_0 ++ []
theorem dksJ8_add_2_0 : cJ8_add_2.data.toList.drop 0 = dktJ8_add_2_0 := by decide +kernel
theorem dJ8_add_2_0 : decode cJ8_add_2 0 = .ok (.iload_n 3, 1) := dk_29 (dk_at dksJ8_add_2_0 0 rfl rfl)
theorem dJ8_add_2_1 : decode cJ8_add_2 1 = .ok (.aload_n 2, 1) := dk_44 (dk_at dksJ8_add_2_0 1 rfl rfl)
theorem dJ8_add_2_2 : decode cJ8_add_2 2 = .ok (.arraylength, 1) := dk_190 (dk_at dksJ8_add_2_0 2 rfl rfl)
theorem dJ8_add_2_3 : decode cJ8_add_2 3 = .ok (.if_icmp .ne 8, 3) := dk_160 0 8 (dk_at dksJ8_add_2_0 3 rfl rfl)
theorem dJ8_add_2_6 : decode cJ8_add_2 6 = .ok (.aload_n 0, 1) := dk_42 (dk_at dksJ8_add_2_0 6 rfl rfl)
theorem dJ8_add_2_7 : decode cJ8_add_2 7 = .ok (.invokevirtual 129, 3) := dk_182 0 129 (dk_at dksJ8_add_2_0 7 rfl rfl)
theorem dJ8_add_2_10 : decode cJ8_add_2 10 = .ok (.astore_n 2, 1) := dk_77 (dk_at dksJ8_add_2_0 10 rfl rfl)
theorem dJ8_add_2_11 : decode cJ8_add_2 11 = .ok (.aload_n 2, 1) := dk_44 (dk_at dksJ8_add_2_0 11 rfl rfl)
theorem dJ8_add_2_12 : decode cJ8_add_2 12 = .ok (.iload_n 3, 1) := dk_29 (dk_at dksJ8_add_2_0 12 rfl rfl)
theorem dJ8_add_2_13 : decode cJ8_add_2 13 = .ok (.aload_n 1, 1) := dk_43 (dk_at dksJ8_add_2_0 13 rfl rfl)
theorem dJ8_add_2_14 : decode cJ8_add_2 14 = .ok (.aastore, 1) := dk_83 (dk_at dksJ8_add_2_0 14 rfl rfl)
theorem dJ8_add_2_15 : decode cJ8_add_2 15 = .ok (.aload_n 0, 1) := dk_42 (dk_at dksJ8_add_2_0 15 rfl rfl)
theorem dJ8_add_2_16 : decode cJ8_add_2 16 = .ok (.iload_n 3, 1) := dk_29 (dk_at dksJ8_add_2_0 16 rfl rfl)
theorem dJ8_add_2_17 : decode cJ8_add_2 17 = .ok (.iconst 1, 1) := dk_4 (dk_at dksJ8_add_2_0 17 rfl rfl)
theorem dJ8_add_2_18 : decode cJ8_add_2 18 = .ok (.iadd, 1) := dk_96 (dk_at dksJ8_add_2_0 18 rfl rfl)
theorem dJ8_add_2_19 : decode cJ8_add_2 19 = .ok (.putfield 48, 3) := dk_181 0 48 (dk_at dksJ8_add_2_0 19 rfl rfl)
theorem dJ8_add_2_22 : decode cJ8_add_2 22 = .ok (.return_, 1) := dk_177 (dk_at dksJ8_add_2_0 22 rfl rfl)
abbrev cJ8_grow : ByteArray := prog_27_method_7_code
def yJ8_grow : MethodName := ⟨RJ8, "grow", "()[Ljava/lang/Object;"⟩
def dkwJ8_grow_0 : List UInt8 := [42, 42, 180, 0, 48, 4, 96, 182, 0, 69, 176]
abbrev dktJ8_grow_0 : List UInt8 := dkwJ8_grow_0 ++ []
theorem dksJ8_grow_0 : cJ8_grow.data.toList.drop 0 = dktJ8_grow_0 := by decide +kernel
theorem dJ8_grow_0 : decode cJ8_grow 0 = .ok (.aload_n 0, 1) := dk_42 (dk_at dksJ8_grow_0 0 rfl rfl)
theorem dJ8_grow_1 : decode cJ8_grow 1 = .ok (.aload_n 0, 1) := dk_42 (dk_at dksJ8_grow_0 1 rfl rfl)
theorem dJ8_grow_2 : decode cJ8_grow 2 = .ok (.getfield 48, 3) := dk_180 0 48 (dk_at dksJ8_grow_0 2 rfl rfl)
theorem dJ8_grow_5 : decode cJ8_grow 5 = .ok (.iconst 1, 1) := dk_4 (dk_at dksJ8_grow_0 5 rfl rfl)
theorem dJ8_grow_6 : decode cJ8_grow 6 = .ok (.iadd, 1) := dk_96 (dk_at dksJ8_grow_0 6 rfl rfl)
theorem dJ8_grow_7 : decode cJ8_grow 7 = .ok (.invokevirtual 69, 3) := dk_182 0 69 (dk_at dksJ8_grow_0 7 rfl rfl)
theorem dJ8_grow_10 : decode cJ8_grow 10 = .ok (.areturn, 1) := dk_176 (dk_at dksJ8_grow_0 10 rfl rfl)
abbrev cJ8_grow_2 : ByteArray := prog_27_method_6_code
def yJ8_grow_2 : MethodName := ⟨RJ8, "grow", "(I)[Ljava/lang/Object;"⟩
def dkwJ8_grow_2_2 : List UInt8 := [27, 184, 0, 79, 189, 0, 7, 90, 181, 0, 9, 176]
abbrev dktJ8_grow_2_2 : List UInt8 := dkwJ8_grow_2_2 ++ []
def dkwJ8_grow_2_1 : List UInt8 := [28, 4, 122, 184, 0, 73, 62, 42, 42, 180, 0, 9, 29, 184, 0, 66, 90, 181, 0, 9, 176, 42, 16, 10]
abbrev dktJ8_grow_2_1 : List UInt8 := dkwJ8_grow_2_1 ++ dktJ8_grow_2_2
def dkwJ8_grow_2_0 : List UInt8 := [42, 180, 0, 9, 190, 61, 28, 157, 0, 13, 42, 180, 0, 9, 178, 0, 39, 165, 0, 28, 28, 27, 28, 100]
abbrev dktJ8_grow_2_0 : List UInt8 := dkwJ8_grow_2_0 ++ dktJ8_grow_2_1
theorem dksJ8_grow_2_0 : cJ8_grow_2.data.toList.drop 0 = dktJ8_grow_2_0 := by decide +kernel
theorem dksJ8_grow_2_1 : cJ8_grow_2.data.toList.drop 24 = dktJ8_grow_2_1 := dk_seg dksJ8_grow_2_0 24 rfl rfl
theorem dksJ8_grow_2_2 : cJ8_grow_2.data.toList.drop 48 = dktJ8_grow_2_2 := dk_seg dksJ8_grow_2_1 24 rfl rfl
theorem dJ8_grow_2_0 : decode cJ8_grow_2 0 = .ok (.aload_n 0, 1) := dk_42 (dk_at dksJ8_grow_2_0 0 rfl rfl)
theorem dJ8_grow_2_1 : decode cJ8_grow_2 1 = .ok (.getfield 9, 3) := dk_180 0 9 (dk_at dksJ8_grow_2_0 1 rfl rfl)
theorem dJ8_grow_2_4 : decode cJ8_grow_2 4 = .ok (.arraylength, 1) := dk_190 (dk_at dksJ8_grow_2_0 4 rfl rfl)
theorem dJ8_grow_2_5 : decode cJ8_grow_2 5 = .ok (.istore_n 2, 1) := dk_61 (dk_at dksJ8_grow_2_0 5 rfl rfl)
theorem dJ8_grow_2_6 : decode cJ8_grow_2 6 = .ok (.iload_n 2, 1) := dk_28 (dk_at dksJ8_grow_2_0 6 rfl rfl)
theorem dJ8_grow_2_7 : decode cJ8_grow_2 7 = .ok (.ifCond .gt 13, 3) := dk_157 0 13 (dk_at dksJ8_grow_2_0 7 rfl rfl)
theorem dJ8_grow_2_10 : decode cJ8_grow_2 10 = .ok (.aload_n 0, 1) := dk_42 (dk_at dksJ8_grow_2_0 10 rfl rfl)
theorem dJ8_grow_2_11 : decode cJ8_grow_2 11 = .ok (.getfield 9, 3) := dk_180 0 9 (dk_at dksJ8_grow_2_0 11 rfl rfl)
theorem dJ8_grow_2_14 : decode cJ8_grow_2 14 = .ok (.getstatic 39, 3) := dk_178 0 39 (dk_at dksJ8_grow_2_0 14 rfl rfl)
theorem dJ8_grow_2_17 : decode cJ8_grow_2 17 = .ok (.if_acmp .eq 28, 3) := dk_165 0 28 (dk_at dksJ8_grow_2_0 17 rfl rfl)
theorem dJ8_grow_2_20 : decode cJ8_grow_2 20 = .ok (.iload_n 2, 1) := dk_28 (dk_at dksJ8_grow_2_0 20 rfl rfl)
theorem dJ8_grow_2_21 : decode cJ8_grow_2 21 = .ok (.iload_n 1, 1) := dk_27 (dk_at dksJ8_grow_2_0 21 rfl rfl)
theorem dJ8_grow_2_22 : decode cJ8_grow_2 22 = .ok (.iload_n 2, 1) := dk_28 (dk_at dksJ8_grow_2_0 22 rfl rfl)
theorem dJ8_grow_2_23 : decode cJ8_grow_2 23 = .ok (.isub, 1) := dk_100 (dk_at dksJ8_grow_2_0 23 rfl rfl)
theorem dJ8_grow_2_24 : decode cJ8_grow_2 24 = .ok (.iload_n 2, 1) := dk_28 (dk_at dksJ8_grow_2_1 0 rfl rfl)
theorem dJ8_grow_2_25 : decode cJ8_grow_2 25 = .ok (.iconst 1, 1) := dk_4 (dk_at dksJ8_grow_2_1 1 rfl rfl)
theorem dJ8_grow_2_26 : decode cJ8_grow_2 26 = .ok (.ishr, 1) := dk_122 (dk_at dksJ8_grow_2_1 2 rfl rfl)
theorem dJ8_grow_2_27 : decode cJ8_grow_2 27 = .ok (.invokestatic 73, 3) := dk_184 0 73 (dk_at dksJ8_grow_2_1 3 rfl rfl)
theorem dJ8_grow_2_30 : decode cJ8_grow_2 30 = .ok (.istore_n 3, 1) := dk_62 (dk_at dksJ8_grow_2_1 6 rfl rfl)
theorem dJ8_grow_2_31 : decode cJ8_grow_2 31 = .ok (.aload_n 0, 1) := dk_42 (dk_at dksJ8_grow_2_1 7 rfl rfl)
theorem dJ8_grow_2_32 : decode cJ8_grow_2 32 = .ok (.aload_n 0, 1) := dk_42 (dk_at dksJ8_grow_2_1 8 rfl rfl)
theorem dJ8_grow_2_33 : decode cJ8_grow_2 33 = .ok (.getfield 9, 3) := dk_180 0 9 (dk_at dksJ8_grow_2_1 9 rfl rfl)
theorem dJ8_grow_2_36 : decode cJ8_grow_2 36 = .ok (.iload_n 3, 1) := dk_29 (dk_at dksJ8_grow_2_1 12 rfl rfl)
theorem dJ8_grow_2_37 : decode cJ8_grow_2 37 = .ok (.invokestatic 66, 3) := dk_184 0 66 (dk_at dksJ8_grow_2_1 13 rfl rfl)
theorem dJ8_grow_2_40 : decode cJ8_grow_2 40 = .ok (.dup_x1, 1) := dk_90 (dk_at dksJ8_grow_2_1 16 rfl rfl)
theorem dJ8_grow_2_41 : decode cJ8_grow_2 41 = .ok (.putfield 9, 3) := dk_181 0 9 (dk_at dksJ8_grow_2_1 17 rfl rfl)
theorem dJ8_grow_2_44 : decode cJ8_grow_2 44 = .ok (.areturn, 1) := dk_176 (dk_at dksJ8_grow_2_1 20 rfl rfl)
theorem dJ8_grow_2_45 : decode cJ8_grow_2 45 = .ok (.aload_n 0, 1) := dk_42 (dk_at dksJ8_grow_2_1 21 rfl rfl)
theorem dJ8_grow_2_46 : decode cJ8_grow_2 46 = .ok (.bipush 10, 2) := dk_16 10 (dk_at dksJ8_grow_2_1 22 rfl rfl)
theorem dJ8_grow_2_48 : decode cJ8_grow_2 48 = .ok (.iload_n 1, 1) := dk_27 (dk_at dksJ8_grow_2_2 0 rfl rfl)
theorem dJ8_grow_2_49 : decode cJ8_grow_2 49 = .ok (.invokestatic 79, 3) := dk_184 0 79 (dk_at dksJ8_grow_2_2 1 rfl rfl)
theorem dJ8_grow_2_52 : decode cJ8_grow_2 52 = .ok (.anewarray 7, 3) := dk_189 0 7 (dk_at dksJ8_grow_2_2 4 rfl rfl)
theorem dJ8_grow_2_55 : decode cJ8_grow_2 55 = .ok (.dup_x1, 1) := dk_90 (dk_at dksJ8_grow_2_2 7 rfl rfl)
theorem dJ8_grow_2_56 : decode cJ8_grow_2 56 = .ok (.putfield 9, 3) := dk_181 0 9 (dk_at dksJ8_grow_2_2 8 rfl rfl)
theorem dJ8_grow_2_59 : decode cJ8_grow_2 59 = .ok (.areturn, 1) := dk_176 (dk_at dksJ8_grow_2_2 11 rfl rfl)
abbrev cJ8_size : ByteArray := prog_27_method_8_code
def yJ8_size : MethodName := ⟨RJ8, "size", "()I"⟩
theorem dJ8_size_0 : decode cJ8_size 0 = .ok (.aload_n 0, 1) := by decide +kernel
theorem dJ8_size_1 : decode cJ8_size 1 = .ok (.getfield 48, 3) := by decide +kernel
theorem dJ8_size_4 : decode cJ8_size 4 = .ok (.ireturn, 1) := by decide +kernel
abbrev cJ8_remove : ByteArray := prog_27_method_29_code
def yJ8_remove : MethodName := ⟨RJ8, "remove", "(I)Ljava/lang/Object;"⟩
def dkwJ8_remove_1 : List UInt8 := [45, 176]
abbrev dktJ8_remove_1 : List UInt8 := dkwJ8_remove_1 ++ []
def dkwJ8_remove_0 : List UInt8 := [27, 42, 180, 0, 48, 184, 0, 118, 87, 42, 180, 0, 9, 77, 44, 27, 50, 78, 42, 44, 27, 182, 0, 144]
abbrev dktJ8_remove_0 : List UInt8 := dkwJ8_remove_0 ++ dktJ8_remove_1
theorem dksJ8_remove_0 : cJ8_remove.data.toList.drop 0 = dktJ8_remove_0 := by decide +kernel
theorem dksJ8_remove_1 : cJ8_remove.data.toList.drop 24 = dktJ8_remove_1 := dk_seg dksJ8_remove_0 24 rfl rfl
theorem dJ8_remove_0 : decode cJ8_remove 0 = .ok (.iload_n 1, 1) := dk_27 (dk_at dksJ8_remove_0 0 rfl rfl)
theorem dJ8_remove_1 : decode cJ8_remove 1 = .ok (.aload_n 0, 1) := dk_42 (dk_at dksJ8_remove_0 1 rfl rfl)
theorem dJ8_remove_2 : decode cJ8_remove 2 = .ok (.getfield 48, 3) := dk_180 0 48 (dk_at dksJ8_remove_0 2 rfl rfl)
theorem dJ8_remove_5 : decode cJ8_remove 5 = .ok (.invokestatic 118, 3) := dk_184 0 118 (dk_at dksJ8_remove_0 5 rfl rfl)
theorem dJ8_remove_8 : decode cJ8_remove 8 = .ok (.pop, 1) := dk_87 (dk_at dksJ8_remove_0 8 rfl rfl)
theorem dJ8_remove_9 : decode cJ8_remove 9 = .ok (.aload_n 0, 1) := dk_42 (dk_at dksJ8_remove_0 9 rfl rfl)
theorem dJ8_remove_10 : decode cJ8_remove 10 = .ok (.getfield 9, 3) := dk_180 0 9 (dk_at dksJ8_remove_0 10 rfl rfl)
theorem dJ8_remove_13 : decode cJ8_remove 13 = .ok (.astore_n 2, 1) := dk_77 (dk_at dksJ8_remove_0 13 rfl rfl)
theorem dJ8_remove_14 : decode cJ8_remove 14 = .ok (.aload_n 2, 1) := dk_44 (dk_at dksJ8_remove_0 14 rfl rfl)
theorem dJ8_remove_15 : decode cJ8_remove 15 = .ok (.iload_n 1, 1) := dk_27 (dk_at dksJ8_remove_0 15 rfl rfl)
theorem dJ8_remove_16 : decode cJ8_remove 16 = .ok (.aaload, 1) := dk_50 (dk_at dksJ8_remove_0 16 rfl rfl)
theorem dJ8_remove_17 : decode cJ8_remove 17 = .ok (.astore_n 3, 1) := dk_78 (dk_at dksJ8_remove_0 17 rfl rfl)
theorem dJ8_remove_18 : decode cJ8_remove 18 = .ok (.aload_n 0, 1) := dk_42 (dk_at dksJ8_remove_0 18 rfl rfl)
theorem dJ8_remove_19 : decode cJ8_remove 19 = .ok (.aload_n 2, 1) := dk_44 (dk_at dksJ8_remove_0 19 rfl rfl)
theorem dJ8_remove_20 : decode cJ8_remove 20 = .ok (.iload_n 1, 1) := dk_27 (dk_at dksJ8_remove_0 20 rfl rfl)
theorem dJ8_remove_21 : decode cJ8_remove 21 = .ok (.invokevirtual 144, 3) := dk_182 0 144 (dk_at dksJ8_remove_0 21 rfl rfl)
theorem dJ8_remove_24 : decode cJ8_remove 24 = .ok (.aload_n 3, 1) := dk_45 (dk_at dksJ8_remove_1 0 rfl rfl)
theorem dJ8_remove_25 : decode cJ8_remove 25 = .ok (.areturn, 1) := dk_176 (dk_at dksJ8_remove_1 1 rfl rfl)
abbrev cJ8_fastRemove : ByteArray := prog_27_method_39_code
def yJ8_fastRemove : MethodName := ⟨RJ8, "fastRemove", "([Ljava/lang/Object;I)V"⟩
def dkwJ8_fastRemove_1 : List UInt8 := [4, 96, 43, 28, 29, 28, 100, 184, 0, 112, 43, 42, 29, 90, 181, 0, 48, 1, 83, 177]
abbrev dktJ8_fastRemove_1 : List UInt8 := dkwJ8_fastRemove_1 ++ []
def dkwJ8_fastRemove_0 : List UInt8 := [42, 89, 180, 0, 63, 4, 96, 181, 0, 63, 42, 180, 0, 48, 4, 100, 89, 62, 28, 164, 0, 15, 43, 28]
abbrev dktJ8_fastRemove_0 : List UInt8 := dkwJ8_fastRemove_0 ++ dktJ8_fastRemove_1
theorem dksJ8_fastRemove_0 : cJ8_fastRemove.data.toList.drop 0 = dktJ8_fastRemove_0 := by decide +kernel
theorem dksJ8_fastRemove_1 : cJ8_fastRemove.data.toList.drop 24 = dktJ8_fastRemove_1 := dk_seg dksJ8_fastRemove_0 24 rfl rfl
theorem dJ8_fastRemove_0 : decode cJ8_fastRemove 0 = .ok (.aload_n 0, 1) := dk_42 (dk_at dksJ8_fastRemove_0 0 rfl rfl)
theorem dJ8_fastRemove_1 : decode cJ8_fastRemove 1 = .ok (.dup, 1) := dk_89 (dk_at dksJ8_fastRemove_0 1 rfl rfl)
theorem dJ8_fastRemove_2 : decode cJ8_fastRemove 2 = .ok (.getfield 63, 3) := dk_180 0 63 (dk_at dksJ8_fastRemove_0 2 rfl rfl)
theorem dJ8_fastRemove_5 : decode cJ8_fastRemove 5 = .ok (.iconst 1, 1) := dk_4 (dk_at dksJ8_fastRemove_0 5 rfl rfl)
theorem dJ8_fastRemove_6 : decode cJ8_fastRemove 6 = .ok (.iadd, 1) := dk_96 (dk_at dksJ8_fastRemove_0 6 rfl rfl)
theorem dJ8_fastRemove_7 : decode cJ8_fastRemove 7 = .ok (.putfield 63, 3) := dk_181 0 63 (dk_at dksJ8_fastRemove_0 7 rfl rfl)
theorem dJ8_fastRemove_10 : decode cJ8_fastRemove 10 = .ok (.aload_n 0, 1) := dk_42 (dk_at dksJ8_fastRemove_0 10 rfl rfl)
theorem dJ8_fastRemove_11 : decode cJ8_fastRemove 11 = .ok (.getfield 48, 3) := dk_180 0 48 (dk_at dksJ8_fastRemove_0 11 rfl rfl)
theorem dJ8_fastRemove_14 : decode cJ8_fastRemove 14 = .ok (.iconst 1, 1) := dk_4 (dk_at dksJ8_fastRemove_0 14 rfl rfl)
theorem dJ8_fastRemove_15 : decode cJ8_fastRemove 15 = .ok (.isub, 1) := dk_100 (dk_at dksJ8_fastRemove_0 15 rfl rfl)
theorem dJ8_fastRemove_16 : decode cJ8_fastRemove 16 = .ok (.dup, 1) := dk_89 (dk_at dksJ8_fastRemove_0 16 rfl rfl)
theorem dJ8_fastRemove_17 : decode cJ8_fastRemove 17 = .ok (.istore_n 3, 1) := dk_62 (dk_at dksJ8_fastRemove_0 17 rfl rfl)
theorem dJ8_fastRemove_18 : decode cJ8_fastRemove 18 = .ok (.iload_n 2, 1) := dk_28 (dk_at dksJ8_fastRemove_0 18 rfl rfl)
theorem dJ8_fastRemove_19 : decode cJ8_fastRemove 19 = .ok (.if_icmp .le 15, 3) := dk_164 0 15 (dk_at dksJ8_fastRemove_0 19 rfl rfl)
theorem dJ8_fastRemove_22 : decode cJ8_fastRemove 22 = .ok (.aload_n 1, 1) := dk_43 (dk_at dksJ8_fastRemove_0 22 rfl rfl)
theorem dJ8_fastRemove_23 : decode cJ8_fastRemove 23 = .ok (.iload_n 2, 1) := dk_28 (dk_at dksJ8_fastRemove_0 23 rfl rfl)
theorem dJ8_fastRemove_24 : decode cJ8_fastRemove 24 = .ok (.iconst 1, 1) := dk_4 (dk_at dksJ8_fastRemove_1 0 rfl rfl)
theorem dJ8_fastRemove_25 : decode cJ8_fastRemove 25 = .ok (.iadd, 1) := dk_96 (dk_at dksJ8_fastRemove_1 1 rfl rfl)
theorem dJ8_fastRemove_26 : decode cJ8_fastRemove 26 = .ok (.aload_n 1, 1) := dk_43 (dk_at dksJ8_fastRemove_1 2 rfl rfl)
theorem dJ8_fastRemove_27 : decode cJ8_fastRemove 27 = .ok (.iload_n 2, 1) := dk_28 (dk_at dksJ8_fastRemove_1 3 rfl rfl)
theorem dJ8_fastRemove_28 : decode cJ8_fastRemove 28 = .ok (.iload_n 3, 1) := dk_29 (dk_at dksJ8_fastRemove_1 4 rfl rfl)
theorem dJ8_fastRemove_29 : decode cJ8_fastRemove 29 = .ok (.iload_n 2, 1) := dk_28 (dk_at dksJ8_fastRemove_1 5 rfl rfl)
theorem dJ8_fastRemove_30 : decode cJ8_fastRemove 30 = .ok (.isub, 1) := dk_100 (dk_at dksJ8_fastRemove_1 6 rfl rfl)
theorem dJ8_fastRemove_31 : decode cJ8_fastRemove 31 = .ok (.invokestatic 112, 3) := dk_184 0 112 (dk_at dksJ8_fastRemove_1 7 rfl rfl)
theorem dJ8_fastRemove_34 : decode cJ8_fastRemove 34 = .ok (.aload_n 1, 1) := dk_43 (dk_at dksJ8_fastRemove_1 10 rfl rfl)
theorem dJ8_fastRemove_35 : decode cJ8_fastRemove 35 = .ok (.aload_n 0, 1) := dk_42 (dk_at dksJ8_fastRemove_1 11 rfl rfl)
theorem dJ8_fastRemove_36 : decode cJ8_fastRemove 36 = .ok (.iload_n 3, 1) := dk_29 (dk_at dksJ8_fastRemove_1 12 rfl rfl)
theorem dJ8_fastRemove_37 : decode cJ8_fastRemove 37 = .ok (.dup_x1, 1) := dk_90 (dk_at dksJ8_fastRemove_1 13 rfl rfl)
theorem dJ8_fastRemove_38 : decode cJ8_fastRemove 38 = .ok (.putfield 48, 3) := dk_181 0 48 (dk_at dksJ8_fastRemove_1 14 rfl rfl)
theorem dJ8_fastRemove_41 : decode cJ8_fastRemove 41 = .ok (.aconst_null, 1) := dk_1 (dk_at dksJ8_fastRemove_1 17 rfl rfl)
theorem dJ8_fastRemove_42 : decode cJ8_fastRemove 42 = .ok (.aastore, 1) := dk_83 (dk_at dksJ8_fastRemove_1 18 rfl rfl)
theorem dJ8_fastRemove_43 : decode cJ8_fastRemove 43 = .ok (.return_, 1) := dk_177 (dk_at dksJ8_fastRemove_1 19 rfl rfl)
abbrev cJ8_isEmpty : ByteArray := prog_27_method_9_code
def yJ8_isEmpty : MethodName := ⟨RJ8, "isEmpty", "()Z"⟩
def dkwJ8_isEmpty_0 : List UInt8 := [42, 180, 0, 48, 154, 0, 7, 4, 167, 0, 4, 3, 172]
abbrev dktJ8_isEmpty_0 : List UInt8 := dkwJ8_isEmpty_0 ++ []
theorem dksJ8_isEmpty_0 : cJ8_isEmpty.data.toList.drop 0 = dktJ8_isEmpty_0 := by decide +kernel
theorem dJ8_isEmpty_0 : decode cJ8_isEmpty 0 = .ok (.aload_n 0, 1) := dk_42 (dk_at dksJ8_isEmpty_0 0 rfl rfl)
theorem dJ8_isEmpty_1 : decode cJ8_isEmpty 1 = .ok (.getfield 48, 3) := dk_180 0 48 (dk_at dksJ8_isEmpty_0 1 rfl rfl)
theorem dJ8_isEmpty_4 : decode cJ8_isEmpty 4 = .ok (.ifCond .ne 7, 3) := dk_154 0 7 (dk_at dksJ8_isEmpty_0 4 rfl rfl)
theorem dJ8_isEmpty_7 : decode cJ8_isEmpty 7 = .ok (.iconst 1, 1) := dk_4 (dk_at dksJ8_isEmpty_0 7 rfl rfl)
theorem dJ8_isEmpty_8 : decode cJ8_isEmpty 8 = .ok (.goto 4, 3) := dk_167 0 4 (dk_at dksJ8_isEmpty_0 8 rfl rfl)
theorem dJ8_isEmpty_11 : decode cJ8_isEmpty 11 = .ok (.iconst 0, 1) := dk_3 (dk_at dksJ8_isEmpty_0 11 rfl rfl)
theorem dJ8_isEmpty_12 : decode cJ8_isEmpty 12 = .ok (.ireturn, 1) := dk_172 (dk_at dksJ8_isEmpty_0 12 rfl rfl)
abbrev cJ8_iterator : ByteArray := prog_27_method_55_code
def yJ8_iterator : MethodName := ⟨RJ8, "iterator", "()Ljava/util/Iterator;"⟩
def dkwJ8_iterator_0 : List UInt8 := [187, 1, 11, 89, 42, 183, 1, 13, 176]
abbrev dktJ8_iterator_0 : List UInt8 := dkwJ8_iterator_0 ++ []
theorem dksJ8_iterator_0 : cJ8_iterator.data.toList.drop 0 = dktJ8_iterator_0 := by decide +kernel
theorem dJ8_iterator_0 : decode cJ8_iterator 0 = .ok (.new 267, 3) := dk_187 1 11 (dk_at dksJ8_iterator_0 0 rfl rfl)
theorem dJ8_iterator_3 : decode cJ8_iterator 3 = .ok (.dup, 1) := dk_89 (dk_at dksJ8_iterator_0 3 rfl rfl)
theorem dJ8_iterator_4 : decode cJ8_iterator 4 = .ok (.aload_n 0, 1) := dk_42 (dk_at dksJ8_iterator_0 4 rfl rfl)
theorem dJ8_iterator_5 : decode cJ8_iterator 5 = .ok (.invokespecial 269, 3) := dk_183 1 13 (dk_at dksJ8_iterator_0 5 rfl rfl)
theorem dJ8_iterator_8 : decode cJ8_iterator 8 = .ok (.areturn, 1) := dk_176 (dk_at dksJ8_iterator_0 8 rfl rfl)
abbrev cJ8_clear : ByteArray := prog_27_method_40_code
def yJ8_clear : MethodName := ⟨RJ8, "clear", "()V"⟩
def dkwJ8_clear_1 : List UInt8 := [181, 0, 48, 62, 29, 28, 162, 0, 13, 43, 29, 1, 83, 132, 3, 1, 167, 255, 244, 177]
abbrev dktJ8_clear_1 : List UInt8 := dkwJ8_clear_1 ++ []
def dkwJ8_clear_0 : List UInt8 := [42, 89, 180, 0, 63, 4, 96, 181, 0, 63, 42, 180, 0, 9, 76, 42, 180, 0, 48, 61, 42, 3, 90]
abbrev dktJ8_clear_0 : List UInt8 := dkwJ8_clear_0 ++ dktJ8_clear_1
theorem dksJ8_clear_0 : cJ8_clear.data.toList.drop 0 = dktJ8_clear_0 := by decide +kernel
theorem dksJ8_clear_1 : cJ8_clear.data.toList.drop 23 = dktJ8_clear_1 := dk_seg dksJ8_clear_0 23 rfl rfl
theorem dJ8_clear_0 : decode cJ8_clear 0 = .ok (.aload_n 0, 1) := dk_42 (dk_at dksJ8_clear_0 0 rfl rfl)
theorem dJ8_clear_1 : decode cJ8_clear 1 = .ok (.dup, 1) := dk_89 (dk_at dksJ8_clear_0 1 rfl rfl)
theorem dJ8_clear_2 : decode cJ8_clear 2 = .ok (.getfield 63, 3) := dk_180 0 63 (dk_at dksJ8_clear_0 2 rfl rfl)
theorem dJ8_clear_5 : decode cJ8_clear 5 = .ok (.iconst 1, 1) := dk_4 (dk_at dksJ8_clear_0 5 rfl rfl)
theorem dJ8_clear_6 : decode cJ8_clear 6 = .ok (.iadd, 1) := dk_96 (dk_at dksJ8_clear_0 6 rfl rfl)
theorem dJ8_clear_7 : decode cJ8_clear 7 = .ok (.putfield 63, 3) := dk_181 0 63 (dk_at dksJ8_clear_0 7 rfl rfl)
theorem dJ8_clear_10 : decode cJ8_clear 10 = .ok (.aload_n 0, 1) := dk_42 (dk_at dksJ8_clear_0 10 rfl rfl)
theorem dJ8_clear_11 : decode cJ8_clear 11 = .ok (.getfield 9, 3) := dk_180 0 9 (dk_at dksJ8_clear_0 11 rfl rfl)
theorem dJ8_clear_14 : decode cJ8_clear 14 = .ok (.astore_n 1, 1) := dk_76 (dk_at dksJ8_clear_0 14 rfl rfl)
theorem dJ8_clear_15 : decode cJ8_clear 15 = .ok (.aload_n 0, 1) := dk_42 (dk_at dksJ8_clear_0 15 rfl rfl)
theorem dJ8_clear_16 : decode cJ8_clear 16 = .ok (.getfield 48, 3) := dk_180 0 48 (dk_at dksJ8_clear_0 16 rfl rfl)
theorem dJ8_clear_19 : decode cJ8_clear 19 = .ok (.istore_n 2, 1) := dk_61 (dk_at dksJ8_clear_0 19 rfl rfl)
theorem dJ8_clear_20 : decode cJ8_clear 20 = .ok (.aload_n 0, 1) := dk_42 (dk_at dksJ8_clear_0 20 rfl rfl)
theorem dJ8_clear_21 : decode cJ8_clear 21 = .ok (.iconst 0, 1) := dk_3 (dk_at dksJ8_clear_0 21 rfl rfl)
theorem dJ8_clear_22 : decode cJ8_clear 22 = .ok (.dup_x1, 1) := dk_90 (dk_at dksJ8_clear_0 22 rfl rfl)
theorem dJ8_clear_23 : decode cJ8_clear 23 = .ok (.putfield 48, 3) := dk_181 0 48 (dk_at dksJ8_clear_1 0 rfl rfl)
theorem dJ8_clear_26 : decode cJ8_clear 26 = .ok (.istore_n 3, 1) := dk_62 (dk_at dksJ8_clear_1 3 rfl rfl)
theorem dJ8_clear_27 : decode cJ8_clear 27 = .ok (.iload_n 3, 1) := dk_29 (dk_at dksJ8_clear_1 4 rfl rfl)
theorem dJ8_clear_28 : decode cJ8_clear 28 = .ok (.iload_n 2, 1) := dk_28 (dk_at dksJ8_clear_1 5 rfl rfl)
theorem dJ8_clear_29 : decode cJ8_clear 29 = .ok (.if_icmp .ge 13, 3) := dk_162 0 13 (dk_at dksJ8_clear_1 6 rfl rfl)
theorem dJ8_clear_32 : decode cJ8_clear 32 = .ok (.aload_n 1, 1) := dk_43 (dk_at dksJ8_clear_1 9 rfl rfl)
theorem dJ8_clear_33 : decode cJ8_clear 33 = .ok (.iload_n 3, 1) := dk_29 (dk_at dksJ8_clear_1 10 rfl rfl)
theorem dJ8_clear_34 : decode cJ8_clear 34 = .ok (.aconst_null, 1) := dk_1 (dk_at dksJ8_clear_1 11 rfl rfl)
theorem dJ8_clear_35 : decode cJ8_clear 35 = .ok (.aastore, 1) := dk_83 (dk_at dksJ8_clear_1 12 rfl rfl)
theorem dJ8_clear_36 : decode cJ8_clear 36 = .ok (.iinc 3 1, 3) := dk_132 3 1 (dk_at dksJ8_clear_1 13 rfl rfl)
theorem dJ8_clear_39 : decode cJ8_clear 39 = .ok (.goto (-12), 3) := dk_167 255 244 (dk_at dksJ8_clear_1 16 rfl rfl)
theorem dJ8_clear_42 : decode cJ8_clear 42 = .ok (.return_, 1) := dk_177 (dk_at dksJ8_clear_1 19 rfl rfl)
theorem q20 : (Jvm.Cond.initialized "java/util/ArrayList") ∈ lw_all := lw_g (lw_at lw_m1 13 rfl) rfl
theorem q156 : (Jvm.Cond.instantiable "java/util/ArrayList" (3 : Nat)) ∈ lw_all := lw_g (lw_at lw_m1 149 rfl) rfl
theorem q158 : (Jvm.Cond.instanceMethod ({ cls := "java/util/ArrayList", name := "<init>", desc := "()V" } : Jvm.MethodName)) ∈ lw_all := lw_g (lw_at lw_m1 151 rfl) rfl
theorem q159 : (Jvm.Cond.code ({ cls := "java/util/ArrayList", name := "<init>", desc := "()V" } : Jvm.MethodName) prog_27_method_2_code (1 : Nat) (Option.none : Option Jvm.ClassFile.FieldType)) ∈ lw_all := lw_g (lw_at lw_m1 152 rfl) rfl
theorem q160 : (Jvm.Cond.methodLink "java/util/ArrayList" (1 : Nat) ({ cls := "java/util/AbstractList", name := "<init>", desc := "()V" } : Jvm.MethodName)) ∈ lw_all := lw_g (lw_at lw_m1 153 rfl) rfl
theorem q167 : (Jvm.Cond.fieldLink "java/util/ArrayList" (39 : Nat) "java/util/ArrayList" "DEFAULTCAPACITY_EMPTY_ELEMENTDATA" "[Ljava/lang/Object;") ∈ lw_all := lw_g (lw_at lw_m1 160 rfl) rfl
theorem q168 : (Jvm.Cond.laysStatic "java/util/ArrayList" "DEFAULTCAPACITY_EMPTY_ELEMENTDATA" "[Ljava/lang/Object;") ∈ lw_tbl := lw_at lw_m1 161 rfl
theorem q169 : (Jvm.Cond.fieldLink "java/util/ArrayList" (9 : Nat) "java/util/ArrayList" "elementData" "[Ljava/lang/Object;") ∈ lw_all := lw_g (lw_at lw_m1 162 rfl) rfl
theorem q172 : (Jvm.Cond.fieldLink "java/util/ArrayList" (48 : Nat) "java/util/ArrayList" "size" "I") ∈ lw_all := lw_g (lw_at lw_m1 165 rfl) rfl
theorem q175 : (Jvm.Cond.sameField "java/util/ArrayList" "java/util/AbstractList" "modCount" "I") ∈ lw_all := lw_g (lw_at lw_m1 168 rfl) rfl
theorem q176 : (Jvm.Cond.fieldLink "java/util/ArrayList" (63 : Nat) "java/util/ArrayList" "modCount" "I") ∈ lw_all := lw_g (lw_at lw_m1 169 rfl) rfl
theorem q177 : (Jvm.Cond.lays "java/util/ArrayList" "java/util/ArrayList" "elementData" "[Ljava/lang/Object;") ∈ lw_all := lw_g (lw_at lw_m1 170 rfl) rfl
theorem q178 : (Jvm.Cond.soleField "java/util/ArrayList" "elementData") ∈ lw_all := lw_g (lw_at lw_m1 171 rfl) rfl
theorem q179 : (Jvm.Cond.lays "java/util/ArrayList" "java/util/ArrayList" "size" "I") ∈ lw_all := lw_g (lw_at lw_m1 172 rfl) rfl
theorem q180 : (Jvm.Cond.soleField "java/util/ArrayList" "size") ∈ lw_all := lw_g (lw_at lw_m1 173 rfl) rfl
theorem q181 : (Jvm.Cond.lays "java/util/ArrayList" "java/util/AbstractList" "modCount" "I") ∈ lw_all := lw_g (lw_at lw_m1 174 rfl) rfl
theorem q183 : (Jvm.Cond.superclass "java/util/ArrayList" "java/util/AbstractList") ∈ lw_all := lw_g (lw_at lw_m1 176 rfl) rfl
theorem q294 : (Jvm.Cond.castable "java/util/ArrayList" "java/util/List") ∈ lw_tbl := lw_at lw_m2 47 rfl
theorem q295 : (Jvm.Cond.selects "java/util/ArrayList" ({ cls := "java/util/List", name := "add", desc := "(Ljava/lang/Object;)Z" } : Jvm.MethodName) ({ cls := "java/util/ArrayList", name := "add", desc := "(Ljava/lang/Object;)Z" } : Jvm.MethodName)) ∈ lw_all := lw_g (lw_at lw_m2 48 rfl) rfl
theorem q296 : (Jvm.Cond.unhidden "java/util/ArrayList" "add" "(Ljava/lang/Object;)Z") ∈ lw_tbl := lw_at lw_m2 49 rfl
theorem q297 : (Jvm.Cond.instanceMethod ({ cls := "java/util/ArrayList", name := "add", desc := "(Ljava/lang/Object;)Z" } : Jvm.MethodName)) ∈ lw_all := lw_g (lw_at lw_m2 50 rfl) rfl
theorem q298 : (Jvm.Cond.publicMethod ({ cls := "java/util/ArrayList", name := "add", desc := "(Ljava/lang/Object;)Z" } : Jvm.MethodName)) ∈ lw_tbl := lw_at lw_m2 51 rfl
theorem q299 : (Jvm.Cond.code ({ cls := "java/util/ArrayList", name := "add", desc := "(Ljava/lang/Object;)Z" } : Jvm.MethodName) prog_27_method_25_code (2 : Nat) (Option.some Jvm.ClassFile.FieldType.boolean)) ∈ lw_all := lw_g (lw_at lw_m2 52 rfl) rfl
theorem q300 : (Jvm.Cond.methodLink "java/util/ArrayList" (131 : Nat) ({ cls := "java/util/ArrayList", name := "add", desc := "(Ljava/lang/Object;[Ljava/lang/Object;I)V" } : Jvm.MethodName)) ∈ lw_all := lw_g (lw_at lw_m2 53 rfl) rfl
theorem q301 : (Jvm.Cond.privateMethod ({ cls := "java/util/ArrayList", name := "add", desc := "(Ljava/lang/Object;[Ljava/lang/Object;I)V" } : Jvm.MethodName)) ∈ lw_tbl := lw_at lw_m2 54 rfl
theorem q302 : (Jvm.Cond.instanceMethod ({ cls := "java/util/ArrayList", name := "add", desc := "(Ljava/lang/Object;[Ljava/lang/Object;I)V" } : Jvm.MethodName)) ∈ lw_all := lw_g (lw_at lw_m2 55 rfl) rfl
theorem q303 : (Jvm.Cond.code ({ cls := "java/util/ArrayList", name := "add", desc := "(Ljava/lang/Object;[Ljava/lang/Object;I)V" } : Jvm.MethodName) prog_27_method_24_code (4 : Nat) (Option.none : Option Jvm.ClassFile.FieldType)) ∈ lw_all := lw_g (lw_at lw_m2 56 rfl) rfl
theorem q304 : (Jvm.Cond.methodLink "java/util/ArrayList" (129 : Nat) ({ cls := "java/util/ArrayList", name := "grow", desc := "()[Ljava/lang/Object;" } : Jvm.MethodName)) ∈ lw_all := lw_g (lw_at lw_m2 57 rfl) rfl
theorem q305 : (Jvm.Cond.privateMethod ({ cls := "java/util/ArrayList", name := "grow", desc := "()[Ljava/lang/Object;" } : Jvm.MethodName)) ∈ lw_tbl := lw_at lw_m2 58 rfl
theorem q306 : (Jvm.Cond.instanceMethod ({ cls := "java/util/ArrayList", name := "grow", desc := "()[Ljava/lang/Object;" } : Jvm.MethodName)) ∈ lw_all := lw_g (lw_at lw_m2 59 rfl) rfl
theorem q307 : (Jvm.Cond.code ({ cls := "java/util/ArrayList", name := "grow", desc := "()[Ljava/lang/Object;" } : Jvm.MethodName) prog_27_method_7_code (1 : Nat) (Option.some (Jvm.ClassFile.FieldType.array (Jvm.ClassFile.FieldType.object "java/lang/Object")))) ∈ lw_all := lw_g (lw_at lw_m2 60 rfl) rfl
theorem q308 : (Jvm.Cond.methodLink "java/util/ArrayList" (69 : Nat) ({ cls := "java/util/ArrayList", name := "grow", desc := "(I)[Ljava/lang/Object;" } : Jvm.MethodName)) ∈ lw_all := lw_g (lw_at lw_m2 61 rfl) rfl
theorem q309 : (Jvm.Cond.privateMethod ({ cls := "java/util/ArrayList", name := "grow", desc := "(I)[Ljava/lang/Object;" } : Jvm.MethodName)) ∈ lw_tbl := lw_at lw_m2 62 rfl
theorem q310 : (Jvm.Cond.instanceMethod ({ cls := "java/util/ArrayList", name := "grow", desc := "(I)[Ljava/lang/Object;" } : Jvm.MethodName)) ∈ lw_all := lw_g (lw_at lw_m2 63 rfl) rfl
theorem q311 : (Jvm.Cond.code ({ cls := "java/util/ArrayList", name := "grow", desc := "(I)[Ljava/lang/Object;" } : Jvm.MethodName) prog_27_method_6_code (4 : Nat) (Option.some (Jvm.ClassFile.FieldType.array (Jvm.ClassFile.FieldType.object "java/lang/Object")))) ∈ lw_all := lw_g (lw_at lw_m2 64 rfl) rfl
theorem q312 : (Jvm.Cond.methodLink "java/util/ArrayList" (73 : Nat) ({ cls := "jdk/internal/util/ArraysSupport", name := "newLength", desc := "(III)I" } : Jvm.MethodName)) ∈ lw_all := lw_g (lw_at lw_m2 65 rfl) rfl
theorem q322 : (Jvm.Cond.methodLink "java/util/ArrayList" (66 : Nat) ({ cls := "java/util/Arrays", name := "copyOf", desc := "([Ljava/lang/Object;I)[Ljava/lang/Object;" } : Jvm.MethodName)) ∈ lw_all := lw_g (lw_at lw_m2 75 rfl) rfl
theorem q333 : (Jvm.Cond.selects "java/util/ArrayList" ({ cls := "java/lang/Object", name := "getClass", desc := "()Ljava/lang/Class;" } : Jvm.MethodName) ({ cls := "java/lang/Object", name := "getClass", desc := "()Ljava/lang/Class;" } : Jvm.MethodName)) ∈ lw_all := lw_g (lw_at lw_m2 86 rfl) rfl
theorem q347 : (Jvm.Cond.methodLink "java/util/ArrayList" (79 : Nat) ({ cls := "java/lang/Math", name := "max", desc := "(II)I" } : Jvm.MethodName)) ∈ lw_all := lw_g (lw_at lw_m2 100 rfl) rfl
theorem q348 : (Jvm.Cond.classLink "java/util/ArrayList" (7 : Nat) "java/lang/Object") ∈ lw_all := lw_g (lw_at lw_m2 101 rfl) rfl
theorem q353 : (Jvm.Cond.selects "java/util/ArrayList" ({ cls := "java/util/List", name := "size", desc := "()I" } : Jvm.MethodName) ({ cls := "java/util/ArrayList", name := "size", desc := "()I" } : Jvm.MethodName)) ∈ lw_all := lw_g (lw_at lw_m2 106 rfl) rfl
theorem q354 : (Jvm.Cond.unhidden "java/util/ArrayList" "size" "()I") ∈ lw_tbl := lw_at lw_m2 107 rfl
theorem q355 : (Jvm.Cond.instanceMethod ({ cls := "java/util/ArrayList", name := "size", desc := "()I" } : Jvm.MethodName)) ∈ lw_all := lw_g (lw_at lw_m2 108 rfl) rfl
theorem q356 : (Jvm.Cond.publicMethod ({ cls := "java/util/ArrayList", name := "size", desc := "()I" } : Jvm.MethodName)) ∈ lw_tbl := lw_at lw_m2 109 rfl
theorem q357 : (Jvm.Cond.code ({ cls := "java/util/ArrayList", name := "size", desc := "()I" } : Jvm.MethodName) prog_27_method_8_code (1 : Nat) (Option.some Jvm.ClassFile.FieldType.int)) ∈ lw_all := lw_g (lw_at lw_m2 110 rfl) rfl
theorem q415 : (Jvm.Cond.selects "java/util/ArrayList" ({ cls := "java/util/List", name := "remove", desc := "(I)Ljava/lang/Object;" } : Jvm.MethodName) ({ cls := "java/util/ArrayList", name := "remove", desc := "(I)Ljava/lang/Object;" } : Jvm.MethodName)) ∈ lw_all := lw_g (lw_at lw_m2 168 rfl) rfl
theorem q416 : (Jvm.Cond.unhidden "java/util/ArrayList" "remove" "(I)Ljava/lang/Object;") ∈ lw_tbl := lw_at lw_m2 169 rfl
theorem q417 : (Jvm.Cond.instanceMethod ({ cls := "java/util/ArrayList", name := "remove", desc := "(I)Ljava/lang/Object;" } : Jvm.MethodName)) ∈ lw_all := lw_g (lw_at lw_m2 170 rfl) rfl
theorem q418 : (Jvm.Cond.publicMethod ({ cls := "java/util/ArrayList", name := "remove", desc := "(I)Ljava/lang/Object;" } : Jvm.MethodName)) ∈ lw_tbl := lw_at lw_m2 171 rfl
theorem q419 : (Jvm.Cond.code ({ cls := "java/util/ArrayList", name := "remove", desc := "(I)Ljava/lang/Object;" } : Jvm.MethodName) prog_27_method_29_code (4 : Nat) (Option.some (Jvm.ClassFile.FieldType.object "java/lang/Object"))) ∈ lw_all := lw_g (lw_at lw_m2 172 rfl) rfl
theorem q420 : (Jvm.Cond.methodLink "java/util/ArrayList" (118 : Nat) ({ cls := "java/util/Objects", name := "checkIndex", desc := "(II)I" } : Jvm.MethodName)) ∈ lw_all := lw_g (lw_at lw_m2 173 rfl) rfl
theorem q426 : (Jvm.Cond.methodLink "java/util/ArrayList" (144 : Nat) ({ cls := "java/util/ArrayList", name := "fastRemove", desc := "([Ljava/lang/Object;I)V" } : Jvm.MethodName)) ∈ lw_all := lw_g (lw_at lw_m2 179 rfl) rfl
theorem q427 : (Jvm.Cond.privateMethod ({ cls := "java/util/ArrayList", name := "fastRemove", desc := "([Ljava/lang/Object;I)V" } : Jvm.MethodName)) ∈ lw_tbl := lw_at lw_m2 180 rfl
theorem q428 : (Jvm.Cond.instanceMethod ({ cls := "java/util/ArrayList", name := "fastRemove", desc := "([Ljava/lang/Object;I)V" } : Jvm.MethodName)) ∈ lw_all := lw_g (lw_at lw_m2 181 rfl) rfl
theorem q429 : (Jvm.Cond.code ({ cls := "java/util/ArrayList", name := "fastRemove", desc := "([Ljava/lang/Object;I)V" } : Jvm.MethodName) prog_27_method_39_code (4 : Nat) (Option.none : Option Jvm.ClassFile.FieldType)) ∈ lw_all := lw_g (lw_at lw_m2 182 rfl) rfl
theorem q430 : (Jvm.Cond.methodLink "java/util/ArrayList" (112 : Nat) ({ cls := "java/lang/System", name := "arraycopy", desc := "(Ljava/lang/Object;ILjava/lang/Object;II)V" } : Jvm.MethodName)) ∈ lw_all := lw_g (lw_at lw_m2 183 rfl) rfl
theorem q439 : (Jvm.Cond.selects "java/util/ArrayList" ({ cls := "java/util/List", name := "isEmpty", desc := "()Z" } : Jvm.MethodName) ({ cls := "java/util/ArrayList", name := "isEmpty", desc := "()Z" } : Jvm.MethodName)) ∈ lw_all := lw_g (lw_at lw_m2 192 rfl) rfl
theorem q440 : (Jvm.Cond.unhidden "java/util/ArrayList" "isEmpty" "()Z") ∈ lw_tbl := lw_at lw_m2 193 rfl
theorem q441 : (Jvm.Cond.instanceMethod ({ cls := "java/util/ArrayList", name := "isEmpty", desc := "()Z" } : Jvm.MethodName)) ∈ lw_all := lw_g (lw_at lw_m2 194 rfl) rfl
theorem q442 : (Jvm.Cond.publicMethod ({ cls := "java/util/ArrayList", name := "isEmpty", desc := "()Z" } : Jvm.MethodName)) ∈ lw_tbl := lw_at lw_m2 195 rfl
theorem q443 : (Jvm.Cond.code ({ cls := "java/util/ArrayList", name := "isEmpty", desc := "()Z" } : Jvm.MethodName) prog_27_method_9_code (1 : Nat) (Option.some Jvm.ClassFile.FieldType.boolean)) ∈ lw_all := lw_g (lw_at lw_m2 196 rfl) rfl
theorem q448 : (Jvm.Cond.selects "java/util/ArrayList" ({ cls := "java/util/List", name := "iterator", desc := "()Ljava/util/Iterator;" } : Jvm.MethodName) ({ cls := "java/util/ArrayList", name := "iterator", desc := "()Ljava/util/Iterator;" } : Jvm.MethodName)) ∈ lw_all := lw_g (lw_at lw_m2 201 rfl) rfl
theorem q449 : (Jvm.Cond.unhidden "java/util/ArrayList" "iterator" "()Ljava/util/Iterator;") ∈ lw_tbl := lw_at lw_m2 202 rfl
theorem q450 : (Jvm.Cond.instanceMethod ({ cls := "java/util/ArrayList", name := "iterator", desc := "()Ljava/util/Iterator;" } : Jvm.MethodName)) ∈ lw_all := lw_g (lw_at lw_m2 203 rfl) rfl
theorem q451 : (Jvm.Cond.publicMethod ({ cls := "java/util/ArrayList", name := "iterator", desc := "()Ljava/util/Iterator;" } : Jvm.MethodName)) ∈ lw_tbl := lw_at lw_m2 204 rfl
theorem q452 : (Jvm.Cond.code ({ cls := "java/util/ArrayList", name := "iterator", desc := "()Ljava/util/Iterator;" } : Jvm.MethodName) prog_27_method_55_code (1 : Nat) (Option.some (Jvm.ClassFile.FieldType.object "java/util/Iterator"))) ∈ lw_all := lw_g (lw_at lw_m2 205 rfl) rfl
theorem q453 : (Jvm.Cond.classLink "java/util/ArrayList" (267 : Nat) "java/util/ArrayList$Itr") ∈ lw_all := lw_g (lw_at lw_m2 206 rfl) rfl
theorem q455 : (Jvm.Cond.methodLink "java/util/ArrayList" (269 : Nat) ({ cls := "java/util/ArrayList$Itr", name := "<init>", desc := "(Ljava/util/ArrayList;)V" } : Jvm.MethodName)) ∈ lw_all := lw_g (lw_at lw_m2 208 rfl) rfl
theorem q499 : (Jvm.Cond.selects "java/util/ArrayList" ({ cls := "java/util/List", name := "clear", desc := "()V" } : Jvm.MethodName) ({ cls := "java/util/ArrayList", name := "clear", desc := "()V" } : Jvm.MethodName)) ∈ lw_all := lw_g (lw_at lw_m3 12 rfl) rfl
theorem q500 : (Jvm.Cond.unhidden "java/util/ArrayList" "clear" "()V") ∈ lw_tbl := lw_at lw_m3 13 rfl
theorem q501 : (Jvm.Cond.instanceMethod ({ cls := "java/util/ArrayList", name := "clear", desc := "()V" } : Jvm.MethodName)) ∈ lw_all := lw_g (lw_at lw_m3 14 rfl) rfl
theorem q502 : (Jvm.Cond.publicMethod ({ cls := "java/util/ArrayList", name := "clear", desc := "()V" } : Jvm.MethodName)) ∈ lw_tbl := lw_at lw_m3 15 rfl
theorem q503 : (Jvm.Cond.code ({ cls := "java/util/ArrayList", name := "clear", desc := "()V" } : Jvm.MethodName) prog_27_method_40_code (4 : Nat) (Option.none : Option Jvm.ClassFile.FieldType)) ∈ lw_all := lw_g (lw_at lw_m3 16 rfl) rfl
theorem q587 : (Jvm.Cond.castable "java/util/ArrayList" "java/lang/Object") ∈ lw_tbl := lw_at lw_m3 100 rfl
theorem in_J8 : ∀ w ∈ wsJ80, w ∈ lw_all := lw_in wsJ80 [181, 177, 179] (by decide +kernel) (by decide +kernel)
/-! java/lang/Math -/
set_option maxRecDepth 100000
def RJ9 : String := "java/lang/Math"
abbrev cJ9_getExponent : ByteArray := prog_16_method_91_code
def yJ9_getExponent : MethodName := ⟨RJ9, "getExponent", "(F)I"⟩
def dkwJ9_getExponent_0 : List UInt8 := [34, 184, 0, 68, 18, 76, 126, 16, 23, 122, 16, 127, 100, 172]
abbrev dktJ9_getExponent_0 : List UInt8 := dkwJ9_getExponent_0 ++ []
theorem dksJ9_getExponent_0 : cJ9_getExponent.data.toList.drop 0 = dktJ9_getExponent_0 := by decide +kernel
theorem dJ9_getExponent_0 : decode cJ9_getExponent 0 = .ok (.fload_n 0, 1) := dk_34 (dk_at dksJ9_getExponent_0 0 rfl rfl)
theorem dJ9_getExponent_1 : decode cJ9_getExponent 1 = .ok (.invokestatic 68, 3) := dk_184 0 68 (dk_at dksJ9_getExponent_0 1 rfl rfl)
theorem dJ9_getExponent_4 : decode cJ9_getExponent 4 = .ok (.ldc 76, 2) := dk_18 76 (dk_at dksJ9_getExponent_0 4 rfl rfl)
theorem dJ9_getExponent_6 : decode cJ9_getExponent 6 = .ok (.iand, 1) := dk_126 (dk_at dksJ9_getExponent_0 6 rfl rfl)
theorem dJ9_getExponent_7 : decode cJ9_getExponent 7 = .ok (.bipush 23, 2) := dk_16 23 (dk_at dksJ9_getExponent_0 7 rfl rfl)
theorem dJ9_getExponent_9 : decode cJ9_getExponent 9 = .ok (.ishr, 1) := dk_122 (dk_at dksJ9_getExponent_0 9 rfl rfl)
theorem dJ9_getExponent_10 : decode cJ9_getExponent 10 = .ok (.bipush 127, 2) := dk_16 127 (dk_at dksJ9_getExponent_0 10 rfl rfl)
theorem dJ9_getExponent_12 : decode cJ9_getExponent 12 = .ok (.isub, 1) := dk_100 (dk_at dksJ9_getExponent_0 12 rfl rfl)
theorem dJ9_getExponent_13 : decode cJ9_getExponent 13 = .ok (.ireturn, 1) := dk_172 (dk_at dksJ9_getExponent_0 13 rfl rfl)
abbrev cJ9_min : ByteArray := prog_16_method_69_code
def yJ9_min : MethodName := ⟨RJ9, "min", "(II)I"⟩
def dkwJ9_min_0 : List UInt8 := [26, 27, 163, 0, 7, 26, 167, 0, 4, 27, 172]
abbrev dktJ9_min_0 : List UInt8 := dkwJ9_min_0 ++ []
theorem dksJ9_min_0 : cJ9_min.data.toList.drop 0 = dktJ9_min_0 := by decide +kernel
theorem dJ9_min_0 : decode cJ9_min 0 = .ok (.iload_n 0, 1) := dk_26 (dk_at dksJ9_min_0 0 rfl rfl)
theorem dJ9_min_1 : decode cJ9_min 1 = .ok (.iload_n 1, 1) := dk_27 (dk_at dksJ9_min_0 1 rfl rfl)
theorem dJ9_min_2 : decode cJ9_min 2 = .ok (.if_icmp .gt 7, 3) := dk_163 0 7 (dk_at dksJ9_min_0 2 rfl rfl)
theorem dJ9_min_5 : decode cJ9_min 5 = .ok (.iload_n 0, 1) := dk_26 (dk_at dksJ9_min_0 5 rfl rfl)
theorem dJ9_min_6 : decode cJ9_min 6 = .ok (.goto 4, 3) := dk_167 0 4 (dk_at dksJ9_min_0 6 rfl rfl)
theorem dJ9_min_9 : decode cJ9_min 9 = .ok (.iload_n 1, 1) := dk_27 (dk_at dksJ9_min_0 9 rfl rfl)
theorem dJ9_min_10 : decode cJ9_min 10 = .ok (.ireturn, 1) := dk_172 (dk_at dksJ9_min_0 10 rfl rfl)
abbrev cJ9_max : ByteArray := prog_16_method_65_code
def yJ9_max : MethodName := ⟨RJ9, "max", "(II)I"⟩
def dkwJ9_max_0 : List UInt8 := [26, 27, 161, 0, 7, 26, 167, 0, 4, 27, 172]
abbrev dktJ9_max_0 : List UInt8 := dkwJ9_max_0 ++ []
theorem dksJ9_max_0 : cJ9_max.data.toList.drop 0 = dktJ9_max_0 := by decide +kernel
theorem dJ9_max_0 : decode cJ9_max 0 = .ok (.iload_n 0, 1) := dk_26 (dk_at dksJ9_max_0 0 rfl rfl)
theorem dJ9_max_1 : decode cJ9_max 1 = .ok (.iload_n 1, 1) := dk_27 (dk_at dksJ9_max_0 1 rfl rfl)
theorem dJ9_max_2 : decode cJ9_max 2 = .ok (.if_icmp .lt 7, 3) := dk_161 0 7 (dk_at dksJ9_max_0 2 rfl rfl)
theorem dJ9_max_5 : decode cJ9_max 5 = .ok (.iload_n 0, 1) := dk_26 (dk_at dksJ9_max_0 5 rfl rfl)
theorem dJ9_max_6 : decode cJ9_max 6 = .ok (.goto 4, 3) := dk_167 0 4 (dk_at dksJ9_max_0 6 rfl rfl)
theorem dJ9_max_9 : decode cJ9_max 9 = .ok (.iload_n 1, 1) := dk_27 (dk_at dksJ9_max_0 9 rfl rfl)
theorem dJ9_max_10 : decode cJ9_max 10 = .ok (.ireturn, 1) := dk_172 (dk_at dksJ9_max_0 10 rfl rfl)
theorem q22 : (Jvm.Cond.initialized "java/lang/Math") ∈ lw_all := lw_g (lw_at lw_m1 15 rfl) rfl
theorem q281 : (Jvm.Cond.static ({ cls := "java/lang/Math", name := "getExponent", desc := "(F)I" } : Jvm.MethodName)) ∈ lw_all := lw_g (lw_at lw_m2 34 rfl) rfl
theorem q282 : (Jvm.Cond.code ({ cls := "java/lang/Math", name := "getExponent", desc := "(F)I" } : Jvm.MethodName) prog_16_method_91_code (1 : Nat) (Option.some Jvm.ClassFile.FieldType.int)) ∈ lw_all := lw_g (lw_at lw_m2 35 rfl) rfl
theorem q283 : (Jvm.Cond.methodLink "java/lang/Math" (68 : Nat) ({ cls := "java/lang/Float", name := "floatToRawIntBits", desc := "(F)I" } : Jvm.MethodName)) ∈ lw_all := lw_g (lw_at lw_m2 36 rfl) rfl
theorem q286 : (Jvm.Cond.constant "java/lang/Math" (76 : Nat) (2139095040 : Int32)) ∈ lw_all := lw_g (lw_at lw_m2 39 rfl) rfl
theorem q288 : (Jvm.Cond.static ({ cls := "java/lang/Math", name := "min", desc := "(II)I" } : Jvm.MethodName)) ∈ lw_all := lw_g (lw_at lw_m2 41 rfl) rfl
theorem q289 : (Jvm.Cond.code ({ cls := "java/lang/Math", name := "min", desc := "(II)I" } : Jvm.MethodName) prog_16_method_69_code (2 : Nat) (Option.some Jvm.ClassFile.FieldType.int)) ∈ lw_all := lw_g (lw_at lw_m2 42 rfl) rfl
theorem q316 : (Jvm.Cond.static ({ cls := "java/lang/Math", name := "max", desc := "(II)I" } : Jvm.MethodName)) ∈ lw_all := lw_g (lw_at lw_m2 69 rfl) rfl
theorem q317 : (Jvm.Cond.code ({ cls := "java/lang/Math", name := "max", desc := "(II)I" } : Jvm.MethodName) prog_16_method_65_code (2 : Nat) (Option.some Jvm.ClassFile.FieldType.int)) ∈ lw_all := lw_g (lw_at lw_m2 70 rfl) rfl
end
section
/-! jdk/internal/util/ArraysSupport -/
set_option maxRecDepth 100000
def RJ10 : String := "jdk/internal/util/ArraysSupport"
abbrev cJ10_newLength : ByteArray := prog_37_method_27_code
def yJ10_newLength : MethodName := ⟨RJ10, "newLength", "(III)I"⟩
def dkwJ10_newLength_1 : List UInt8 := [184, 0, 201, 172]
abbrev dktJ10_newLength_1 : List UInt8 := dkwJ10_newLength_1 ++ []
def dkwJ10_newLength_0 : List UInt8 := [26, 27, 28, 184, 0, 194, 96, 62, 3, 29, 162, 0, 11, 29, 18, 200, 163, 0, 5, 29, 172, 26, 27]
abbrev dktJ10_newLength_0 : List UInt8 := dkwJ10_newLength_0 ++ dktJ10_newLength_1
theorem dksJ10_newLength_0 : cJ10_newLength.data.toList.drop 0 = dktJ10_newLength_0 := by decide +kernel
theorem dksJ10_newLength_1 : cJ10_newLength.data.toList.drop 23 = dktJ10_newLength_1 := dk_seg dksJ10_newLength_0 23 rfl rfl
theorem dJ10_newLength_0 : decode cJ10_newLength 0 = .ok (.iload_n 0, 1) := dk_26 (dk_at dksJ10_newLength_0 0 rfl rfl)
theorem dJ10_newLength_1 : decode cJ10_newLength 1 = .ok (.iload_n 1, 1) := dk_27 (dk_at dksJ10_newLength_0 1 rfl rfl)
theorem dJ10_newLength_2 : decode cJ10_newLength 2 = .ok (.iload_n 2, 1) := dk_28 (dk_at dksJ10_newLength_0 2 rfl rfl)
theorem dJ10_newLength_3 : decode cJ10_newLength 3 = .ok (.invokestatic 194, 3) := dk_184 0 194 (dk_at dksJ10_newLength_0 3 rfl rfl)
theorem dJ10_newLength_6 : decode cJ10_newLength 6 = .ok (.iadd, 1) := dk_96 (dk_at dksJ10_newLength_0 6 rfl rfl)
theorem dJ10_newLength_7 : decode cJ10_newLength 7 = .ok (.istore_n 3, 1) := dk_62 (dk_at dksJ10_newLength_0 7 rfl rfl)
theorem dJ10_newLength_8 : decode cJ10_newLength 8 = .ok (.iconst 0, 1) := dk_3 (dk_at dksJ10_newLength_0 8 rfl rfl)
theorem dJ10_newLength_9 : decode cJ10_newLength 9 = .ok (.iload_n 3, 1) := dk_29 (dk_at dksJ10_newLength_0 9 rfl rfl)
theorem dJ10_newLength_10 : decode cJ10_newLength 10 = .ok (.if_icmp .ge 11, 3) := dk_162 0 11 (dk_at dksJ10_newLength_0 10 rfl rfl)
theorem dJ10_newLength_13 : decode cJ10_newLength 13 = .ok (.iload_n 3, 1) := dk_29 (dk_at dksJ10_newLength_0 13 rfl rfl)
theorem dJ10_newLength_14 : decode cJ10_newLength 14 = .ok (.ldc 200, 2) := dk_18 200 (dk_at dksJ10_newLength_0 14 rfl rfl)
theorem dJ10_newLength_16 : decode cJ10_newLength 16 = .ok (.if_icmp .gt 5, 3) := dk_163 0 5 (dk_at dksJ10_newLength_0 16 rfl rfl)
theorem dJ10_newLength_19 : decode cJ10_newLength 19 = .ok (.iload_n 3, 1) := dk_29 (dk_at dksJ10_newLength_0 19 rfl rfl)
theorem dJ10_newLength_20 : decode cJ10_newLength 20 = .ok (.ireturn, 1) := dk_172 (dk_at dksJ10_newLength_0 20 rfl rfl)
theorem dJ10_newLength_21 : decode cJ10_newLength 21 = .ok (.iload_n 0, 1) := dk_26 (dk_at dksJ10_newLength_0 21 rfl rfl)
theorem dJ10_newLength_22 : decode cJ10_newLength 22 = .ok (.iload_n 1, 1) := dk_27 (dk_at dksJ10_newLength_0 22 rfl rfl)
theorem dJ10_newLength_23 : decode cJ10_newLength 23 = .ok (.invokestatic 201, 3) := dk_184 0 201 (dk_at dksJ10_newLength_1 0 rfl rfl)
theorem dJ10_newLength_26 : decode cJ10_newLength 26 = .ok (.ireturn, 1) := dk_172 (dk_at dksJ10_newLength_1 3 rfl rfl)
abbrev cJ10_hugeLength : ByteArray := prog_37_method_28_code
def yJ10_hugeLength : MethodName := ⟨RJ10, "hugeLength", "(II)I"⟩
def dkwJ10_hugeLength_2 : List UInt8 := [191, 28, 18, 200, 163, 0, 6, 18, 200, 172, 28, 172]
abbrev dktJ10_hugeLength_2 : List UInt8 := dkwJ10_hugeLength_2 ++ []
def dkwJ10_hugeLength_1 : List UInt8 := [26, 182, 0, 98, 18, 208, 182, 0, 94, 27, 182, 0, 98, 18, 210, 182, 0, 94, 182, 0, 101, 183, 0, 212]
abbrev dktJ10_hugeLength_1 : List UInt8 := dkwJ10_hugeLength_1 ++ dktJ10_hugeLength_2
def dkwJ10_hugeLength_0 : List UInt8 := [26, 27, 96, 61, 28, 156, 0, 44, 187, 0, 204, 89, 187, 0, 89, 89, 183, 0, 91, 18, 206, 182, 0, 94]
abbrev dktJ10_hugeLength_0 : List UInt8 := dkwJ10_hugeLength_0 ++ dktJ10_hugeLength_1
theorem dksJ10_hugeLength_0 : cJ10_hugeLength.data.toList.drop 0 = dktJ10_hugeLength_0 := by decide +kernel
theorem dksJ10_hugeLength_1 : cJ10_hugeLength.data.toList.drop 24 = dktJ10_hugeLength_1 := dk_seg dksJ10_hugeLength_0 24 rfl rfl
theorem dksJ10_hugeLength_2 : cJ10_hugeLength.data.toList.drop 48 = dktJ10_hugeLength_2 := dk_seg dksJ10_hugeLength_1 24 rfl rfl
theorem dJ10_hugeLength_0 : decode cJ10_hugeLength 0 = .ok (.iload_n 0, 1) := dk_26 (dk_at dksJ10_hugeLength_0 0 rfl rfl)
theorem dJ10_hugeLength_1 : decode cJ10_hugeLength 1 = .ok (.iload_n 1, 1) := dk_27 (dk_at dksJ10_hugeLength_0 1 rfl rfl)
theorem dJ10_hugeLength_2 : decode cJ10_hugeLength 2 = .ok (.iadd, 1) := dk_96 (dk_at dksJ10_hugeLength_0 2 rfl rfl)
theorem dJ10_hugeLength_3 : decode cJ10_hugeLength 3 = .ok (.istore_n 2, 1) := dk_61 (dk_at dksJ10_hugeLength_0 3 rfl rfl)
theorem dJ10_hugeLength_4 : decode cJ10_hugeLength 4 = .ok (.iload_n 2, 1) := dk_28 (dk_at dksJ10_hugeLength_0 4 rfl rfl)
theorem dJ10_hugeLength_5 : decode cJ10_hugeLength 5 = .ok (.ifCond .ge 44, 3) := dk_156 0 44 (dk_at dksJ10_hugeLength_0 5 rfl rfl)
theorem dJ10_hugeLength_8 : decode cJ10_hugeLength 8 = .ok (.new 204, 3) := dk_187 0 204 (dk_at dksJ10_hugeLength_0 8 rfl rfl)
theorem dJ10_hugeLength_11 : decode cJ10_hugeLength 11 = .ok (.dup, 1) := dk_89 (dk_at dksJ10_hugeLength_0 11 rfl rfl)
theorem dJ10_hugeLength_12 : decode cJ10_hugeLength 12 = .ok (.new 89, 3) := dk_187 0 89 (dk_at dksJ10_hugeLength_0 12 rfl rfl)
theorem dJ10_hugeLength_15 : decode cJ10_hugeLength 15 = .ok (.dup, 1) := dk_89 (dk_at dksJ10_hugeLength_0 15 rfl rfl)
theorem dJ10_hugeLength_16 : decode cJ10_hugeLength 16 = .ok (.invokespecial 91, 3) := dk_183 0 91 (dk_at dksJ10_hugeLength_0 16 rfl rfl)
theorem dJ10_hugeLength_19 : decode cJ10_hugeLength 19 = .ok (.ldc 206, 2) := dk_18 206 (dk_at dksJ10_hugeLength_0 19 rfl rfl)
theorem dJ10_hugeLength_21 : decode cJ10_hugeLength 21 = .ok (.invokevirtual 94, 3) := dk_182 0 94 (dk_at dksJ10_hugeLength_0 21 rfl rfl)
theorem dJ10_hugeLength_24 : decode cJ10_hugeLength 24 = .ok (.iload_n 0, 1) := dk_26 (dk_at dksJ10_hugeLength_1 0 rfl rfl)
theorem dJ10_hugeLength_25 : decode cJ10_hugeLength 25 = .ok (.invokevirtual 98, 3) := dk_182 0 98 (dk_at dksJ10_hugeLength_1 1 rfl rfl)
theorem dJ10_hugeLength_28 : decode cJ10_hugeLength 28 = .ok (.ldc 208, 2) := dk_18 208 (dk_at dksJ10_hugeLength_1 4 rfl rfl)
theorem dJ10_hugeLength_30 : decode cJ10_hugeLength 30 = .ok (.invokevirtual 94, 3) := dk_182 0 94 (dk_at dksJ10_hugeLength_1 6 rfl rfl)
theorem dJ10_hugeLength_33 : decode cJ10_hugeLength 33 = .ok (.iload_n 1, 1) := dk_27 (dk_at dksJ10_hugeLength_1 9 rfl rfl)
theorem dJ10_hugeLength_34 : decode cJ10_hugeLength 34 = .ok (.invokevirtual 98, 3) := dk_182 0 98 (dk_at dksJ10_hugeLength_1 10 rfl rfl)
theorem dJ10_hugeLength_37 : decode cJ10_hugeLength 37 = .ok (.ldc 210, 2) := dk_18 210 (dk_at dksJ10_hugeLength_1 13 rfl rfl)
theorem dJ10_hugeLength_39 : decode cJ10_hugeLength 39 = .ok (.invokevirtual 94, 3) := dk_182 0 94 (dk_at dksJ10_hugeLength_1 15 rfl rfl)
theorem dJ10_hugeLength_42 : decode cJ10_hugeLength 42 = .ok (.invokevirtual 101, 3) := dk_182 0 101 (dk_at dksJ10_hugeLength_1 18 rfl rfl)
theorem dJ10_hugeLength_45 : decode cJ10_hugeLength 45 = .ok (.invokespecial 212, 3) := dk_183 0 212 (dk_at dksJ10_hugeLength_1 21 rfl rfl)
theorem dJ10_hugeLength_48 : decode cJ10_hugeLength 48 = .ok (.athrow, 1) := dk_191 (dk_at dksJ10_hugeLength_2 0 rfl rfl)
theorem dJ10_hugeLength_49 : decode cJ10_hugeLength 49 = .ok (.iload_n 2, 1) := dk_28 (dk_at dksJ10_hugeLength_2 1 rfl rfl)
theorem dJ10_hugeLength_50 : decode cJ10_hugeLength 50 = .ok (.ldc 200, 2) := dk_18 200 (dk_at dksJ10_hugeLength_2 2 rfl rfl)
theorem dJ10_hugeLength_52 : decode cJ10_hugeLength 52 = .ok (.if_icmp .gt 6, 3) := dk_163 0 6 (dk_at dksJ10_hugeLength_2 4 rfl rfl)
theorem dJ10_hugeLength_55 : decode cJ10_hugeLength 55 = .ok (.ldc 200, 2) := dk_18 200 (dk_at dksJ10_hugeLength_2 7 rfl rfl)
theorem dJ10_hugeLength_57 : decode cJ10_hugeLength 57 = .ok (.ireturn, 1) := dk_172 (dk_at dksJ10_hugeLength_2 9 rfl rfl)
theorem dJ10_hugeLength_58 : decode cJ10_hugeLength 58 = .ok (.iload_n 2, 1) := dk_28 (dk_at dksJ10_hugeLength_2 10 rfl rfl)
theorem dJ10_hugeLength_59 : decode cJ10_hugeLength 59 = .ok (.ireturn, 1) := dk_172 (dk_at dksJ10_hugeLength_2 11 rfl rfl)
theorem q24 : (Jvm.Cond.initialized "jdk/internal/util/ArraysSupport") ∈ lw_all := lw_g (lw_at lw_m1 17 rfl) rfl
theorem q313 : (Jvm.Cond.static ({ cls := "jdk/internal/util/ArraysSupport", name := "newLength", desc := "(III)I" } : Jvm.MethodName)) ∈ lw_all := lw_g (lw_at lw_m2 66 rfl) rfl
theorem q314 : (Jvm.Cond.code ({ cls := "jdk/internal/util/ArraysSupport", name := "newLength", desc := "(III)I" } : Jvm.MethodName) prog_37_method_27_code (4 : Nat) (Option.some Jvm.ClassFile.FieldType.int)) ∈ lw_all := lw_g (lw_at lw_m2 67 rfl) rfl
theorem q315 : (Jvm.Cond.methodLink "jdk/internal/util/ArraysSupport" (194 : Nat) ({ cls := "java/lang/Math", name := "max", desc := "(II)I" } : Jvm.MethodName)) ∈ lw_all := lw_g (lw_at lw_m2 68 rfl) rfl
theorem q318 : (Jvm.Cond.constant "jdk/internal/util/ArraysSupport" (200 : Nat) (2147483639 : Int32)) ∈ lw_all := lw_g (lw_at lw_m2 71 rfl) rfl
theorem q319 : (Jvm.Cond.methodLink "jdk/internal/util/ArraysSupport" (201 : Nat) ({ cls := "jdk/internal/util/ArraysSupport", name := "hugeLength", desc := "(II)I" } : Jvm.MethodName)) ∈ lw_all := lw_g (lw_at lw_m2 72 rfl) rfl
theorem q320 : (Jvm.Cond.static ({ cls := "jdk/internal/util/ArraysSupport", name := "hugeLength", desc := "(II)I" } : Jvm.MethodName)) ∈ lw_all := lw_g (lw_at lw_m2 73 rfl) rfl
theorem q321 : (Jvm.Cond.code ({ cls := "jdk/internal/util/ArraysSupport", name := "hugeLength", desc := "(II)I" } : Jvm.MethodName) prog_37_method_28_code (3 : Nat) (Option.some Jvm.ClassFile.FieldType.int)) ∈ lw_all := lw_g (lw_at lw_m2 74 rfl) rfl
/-! java/util/Arrays -/
set_option maxRecDepth 100000
def RJ11 : String := "java/util/Arrays"
abbrev cJ11_copyOf : ByteArray := prog_29_method_119_code
def yJ11_copyOf : MethodName := ⟨RJ11, "copyOf", "([Ljava/lang/Object;I)[Ljava/lang/Object;"⟩
def dkwJ11_copyOf_0 : List UInt8 := [42, 27, 42, 182, 0, 86, 184, 1, 44, 176]
abbrev dktJ11_copyOf_0 : List UInt8 := dkwJ11_copyOf_0 ++ []
theorem dksJ11_copyOf_0 : cJ11_copyOf.data.toList.drop 0 = dktJ11_copyOf_0 := by decide +kernel
theorem dJ11_copyOf_0 : decode cJ11_copyOf 0 = .ok (.aload_n 0, 1) := dk_42 (dk_at dksJ11_copyOf_0 0 rfl rfl)
theorem dJ11_copyOf_1 : decode cJ11_copyOf 1 = .ok (.iload_n 1, 1) := dk_27 (dk_at dksJ11_copyOf_0 1 rfl rfl)
theorem dJ11_copyOf_2 : decode cJ11_copyOf 2 = .ok (.aload_n 0, 1) := dk_42 (dk_at dksJ11_copyOf_0 2 rfl rfl)
theorem dJ11_copyOf_3 : decode cJ11_copyOf 3 = .ok (.invokevirtual 86, 3) := dk_182 0 86 (dk_at dksJ11_copyOf_0 3 rfl rfl)
theorem dJ11_copyOf_6 : decode cJ11_copyOf 6 = .ok (.invokestatic 300, 3) := dk_184 1 44 (dk_at dksJ11_copyOf_0 6 rfl rfl)
theorem dJ11_copyOf_9 : decode cJ11_copyOf 9 = .ok (.areturn, 1) := dk_176 (dk_at dksJ11_copyOf_0 9 rfl rfl)
abbrev cJ11_copyOf_2 : ByteArray := prog_29_method_120_code
def yJ11_copyOf_2 : MethodName := ⟨RJ11, "copyOf", "([Ljava/lang/Object;ILjava/lang/Class;)[Ljava/lang/Object;"⟩
def dkwJ11_copyOf_2_1 : List UInt8 := [78, 42, 3, 45, 3, 42, 190, 27, 184, 1, 48, 184, 0, 150, 45, 176]
abbrev dktJ11_copyOf_2_1 : List UInt8 := dkwJ11_copyOf_2_1 ++ []
def dkwJ11_copyOf_2_0 : List UInt8 := [44, 18, 110, 166, 0, 10, 27, 189, 0, 2, 167, 0, 14, 44, 182, 0, 90, 27, 184, 0, 95, 192, 0, 110]
abbrev dktJ11_copyOf_2_0 : List UInt8 := dkwJ11_copyOf_2_0 ++ dktJ11_copyOf_2_1
theorem dksJ11_copyOf_2_0 : cJ11_copyOf_2.data.toList.drop 0 = dktJ11_copyOf_2_0 := by decide +kernel
theorem dksJ11_copyOf_2_1 : cJ11_copyOf_2.data.toList.drop 24 = dktJ11_copyOf_2_1 := dk_seg dksJ11_copyOf_2_0 24 rfl rfl
theorem dJ11_copyOf_2_0 : decode cJ11_copyOf_2 0 = .ok (.aload_n 2, 1) := dk_44 (dk_at dksJ11_copyOf_2_0 0 rfl rfl)
theorem dJ11_copyOf_2_1 : decode cJ11_copyOf_2 1 = .ok (.ldc 110, 2) := dk_18 110 (dk_at dksJ11_copyOf_2_0 1 rfl rfl)
theorem dJ11_copyOf_2_3 : decode cJ11_copyOf_2 3 = .ok (.if_acmp .ne 10, 3) := dk_166 0 10 (dk_at dksJ11_copyOf_2_0 3 rfl rfl)
theorem dJ11_copyOf_2_6 : decode cJ11_copyOf_2 6 = .ok (.iload_n 1, 1) := dk_27 (dk_at dksJ11_copyOf_2_0 6 rfl rfl)
theorem dJ11_copyOf_2_7 : decode cJ11_copyOf_2 7 = .ok (.anewarray 2, 3) := dk_189 0 2 (dk_at dksJ11_copyOf_2_0 7 rfl rfl)
theorem dJ11_copyOf_2_10 : decode cJ11_copyOf_2 10 = .ok (.goto 14, 3) := dk_167 0 14 (dk_at dksJ11_copyOf_2_0 10 rfl rfl)
theorem dJ11_copyOf_2_13 : decode cJ11_copyOf_2 13 = .ok (.aload_n 2, 1) := dk_44 (dk_at dksJ11_copyOf_2_0 13 rfl rfl)
theorem dJ11_copyOf_2_14 : decode cJ11_copyOf_2 14 = .ok (.invokevirtual 90, 3) := dk_182 0 90 (dk_at dksJ11_copyOf_2_0 14 rfl rfl)
theorem dJ11_copyOf_2_17 : decode cJ11_copyOf_2 17 = .ok (.iload_n 1, 1) := dk_27 (dk_at dksJ11_copyOf_2_0 17 rfl rfl)
theorem dJ11_copyOf_2_18 : decode cJ11_copyOf_2 18 = .ok (.invokestatic 95, 3) := dk_184 0 95 (dk_at dksJ11_copyOf_2_0 18 rfl rfl)
theorem dJ11_copyOf_2_21 : decode cJ11_copyOf_2 21 = .ok (.checkcast 110, 3) := dk_192 0 110 (dk_at dksJ11_copyOf_2_0 21 rfl rfl)
theorem dJ11_copyOf_2_24 : decode cJ11_copyOf_2 24 = .ok (.astore_n 3, 1) := dk_78 (dk_at dksJ11_copyOf_2_1 0 rfl rfl)
theorem dJ11_copyOf_2_25 : decode cJ11_copyOf_2 25 = .ok (.aload_n 0, 1) := dk_42 (dk_at dksJ11_copyOf_2_1 1 rfl rfl)
theorem dJ11_copyOf_2_26 : decode cJ11_copyOf_2 26 = .ok (.iconst 0, 1) := dk_3 (dk_at dksJ11_copyOf_2_1 2 rfl rfl)
theorem dJ11_copyOf_2_27 : decode cJ11_copyOf_2 27 = .ok (.aload_n 3, 1) := dk_45 (dk_at dksJ11_copyOf_2_1 3 rfl rfl)
theorem dJ11_copyOf_2_28 : decode cJ11_copyOf_2 28 = .ok (.iconst 0, 1) := dk_3 (dk_at dksJ11_copyOf_2_1 4 rfl rfl)
theorem dJ11_copyOf_2_29 : decode cJ11_copyOf_2 29 = .ok (.aload_n 0, 1) := dk_42 (dk_at dksJ11_copyOf_2_1 5 rfl rfl)
theorem dJ11_copyOf_2_30 : decode cJ11_copyOf_2 30 = .ok (.arraylength, 1) := dk_190 (dk_at dksJ11_copyOf_2_1 6 rfl rfl)
theorem dJ11_copyOf_2_31 : decode cJ11_copyOf_2 31 = .ok (.iload_n 1, 1) := dk_27 (dk_at dksJ11_copyOf_2_1 7 rfl rfl)
theorem dJ11_copyOf_2_32 : decode cJ11_copyOf_2 32 = .ok (.invokestatic 304, 3) := dk_184 1 48 (dk_at dksJ11_copyOf_2_1 8 rfl rfl)
theorem dJ11_copyOf_2_35 : decode cJ11_copyOf_2 35 = .ok (.invokestatic 150, 3) := dk_184 0 150 (dk_at dksJ11_copyOf_2_1 11 rfl rfl)
theorem dJ11_copyOf_2_38 : decode cJ11_copyOf_2 38 = .ok (.aload_n 3, 1) := dk_45 (dk_at dksJ11_copyOf_2_1 14 rfl rfl)
theorem dJ11_copyOf_2_39 : decode cJ11_copyOf_2 39 = .ok (.areturn, 1) := dk_176 (dk_at dksJ11_copyOf_2_1 15 rfl rfl)
theorem q25 : (Jvm.Cond.initialized "java/util/Arrays") ∈ lw_all := lw_g (lw_at lw_m1 18 rfl) rfl
theorem q323 : (Jvm.Cond.static ({ cls := "java/util/Arrays", name := "copyOf", desc := "([Ljava/lang/Object;I)[Ljava/lang/Object;" } : Jvm.MethodName)) ∈ lw_all := lw_g (lw_at lw_m2 76 rfl) rfl
theorem q324 : (Jvm.Cond.code ({ cls := "java/util/Arrays", name := "copyOf", desc := "([Ljava/lang/Object;I)[Ljava/lang/Object;" } : Jvm.MethodName) prog_29_method_119_code (2 : Nat) (Option.some (Jvm.ClassFile.FieldType.array (Jvm.ClassFile.FieldType.object "java/lang/Object")))) ∈ lw_all := lw_g (lw_at lw_m2 77 rfl) rfl
theorem q325 : (Jvm.Cond.methodLink "java/util/Arrays" (86 : Nat) ({ cls := "java/lang/Object", name := "getClass", desc := "()Ljava/lang/Class;" } : Jvm.MethodName)) ∈ lw_all := lw_g (lw_at lw_m2 78 rfl) rfl
theorem q337 : (Jvm.Cond.methodLink "java/util/Arrays" (300 : Nat) ({ cls := "java/util/Arrays", name := "copyOf", desc := "([Ljava/lang/Object;ILjava/lang/Class;)[Ljava/lang/Object;" } : Jvm.MethodName)) ∈ lw_all := lw_g (lw_at lw_m2 90 rfl) rfl
theorem q338 : (Jvm.Cond.static ({ cls := "java/util/Arrays", name := "copyOf", desc := "([Ljava/lang/Object;ILjava/lang/Class;)[Ljava/lang/Object;" } : Jvm.MethodName)) ∈ lw_all := lw_g (lw_at lw_m2 91 rfl) rfl
theorem q339 : (Jvm.Cond.code ({ cls := "java/util/Arrays", name := "copyOf", desc := "([Ljava/lang/Object;ILjava/lang/Class;)[Ljava/lang/Object;" } : Jvm.MethodName) prog_29_method_120_code (4 : Nat) (Option.some (Jvm.ClassFile.FieldType.array (Jvm.ClassFile.FieldType.object "java/lang/Object")))) ∈ lw_all := lw_g (lw_at lw_m2 92 rfl) rfl
theorem q340 : (Jvm.Cond.classLink "java/util/Arrays" (110 : Nat) "[Ljava/lang/Object;") ∈ lw_all := lw_g (lw_at lw_m2 93 rfl) rfl
theorem q342 : (Jvm.Cond.classLink "java/util/Arrays" (2 : Nat) "java/lang/Object") ∈ lw_all := lw_g (lw_at lw_m2 95 rfl) rfl
theorem q343 : (Jvm.Cond.methodLink "java/util/Arrays" (304 : Nat) ({ cls := "java/lang/Math", name := "min", desc := "(II)I" } : Jvm.MethodName)) ∈ lw_all := lw_g (lw_at lw_m2 96 rfl) rfl
theorem q344 : (Jvm.Cond.methodLink "java/util/Arrays" (150 : Nat) ({ cls := "java/lang/System", name := "arraycopy", desc := "(Ljava/lang/Object;ILjava/lang/Object;II)V" } : Jvm.MethodName)) ∈ lw_all := lw_g (lw_at lw_m2 97 rfl) rfl
/-! java/util/Objects -/
set_option maxRecDepth 100000
def RJ13 : String := "java/util/Objects"
abbrev cJ13_checkIndex : ByteArray := prog_34_method_17_code
def yJ13_checkIndex : MethodName := ⟨RJ13, "checkIndex", "(II)I"⟩
def dkwJ13_checkIndex_0 : List UInt8 := [26, 27, 1, 184, 0, 105, 172]
abbrev dktJ13_checkIndex_0 : List UInt8 := dkwJ13_checkIndex_0 ++ []
theorem dksJ13_checkIndex_0 : cJ13_checkIndex.data.toList.drop 0 = dktJ13_checkIndex_0 := by decide +kernel
theorem dJ13_checkIndex_0 : decode cJ13_checkIndex 0 = .ok (.iload_n 0, 1) := dk_26 (dk_at dksJ13_checkIndex_0 0 rfl rfl)
theorem dJ13_checkIndex_1 : decode cJ13_checkIndex 1 = .ok (.iload_n 1, 1) := dk_27 (dk_at dksJ13_checkIndex_0 1 rfl rfl)
theorem dJ13_checkIndex_2 : decode cJ13_checkIndex 2 = .ok (.aconst_null, 1) := dk_1 (dk_at dksJ13_checkIndex_0 2 rfl rfl)
theorem dJ13_checkIndex_3 : decode cJ13_checkIndex 3 = .ok (.invokestatic 105, 3) := dk_184 0 105 (dk_at dksJ13_checkIndex_0 3 rfl rfl)
theorem dJ13_checkIndex_6 : decode cJ13_checkIndex 6 = .ok (.ireturn, 1) := dk_172 (dk_at dksJ13_checkIndex_0 6 rfl rfl)
theorem q29 : (Jvm.Cond.initialized "java/util/Objects") ∈ lw_all := lw_g (lw_at lw_m1 22 rfl) rfl
theorem q421 : (Jvm.Cond.static ({ cls := "java/util/Objects", name := "checkIndex", desc := "(II)I" } : Jvm.MethodName)) ∈ lw_all := lw_g (lw_at lw_m2 174 rfl) rfl
theorem q422 : (Jvm.Cond.code ({ cls := "java/util/Objects", name := "checkIndex", desc := "(II)I" } : Jvm.MethodName) prog_34_method_17_code (2 : Nat) (Option.some Jvm.ClassFile.FieldType.int)) ∈ lw_all := lw_g (lw_at lw_m2 175 rfl) rfl
theorem q423 : (Jvm.Cond.methodLink "java/util/Objects" (105 : Nat) ({ cls := "jdk/internal/util/Preconditions", name := "checkIndex", desc := "(IILjava/util/function/BiFunction;)I" } : Jvm.MethodName)) ∈ lw_all := lw_g (lw_at lw_m2 176 rfl) rfl
/-! jdk/internal/util/Preconditions -/
set_option maxRecDepth 100000
def RJ14 : String := "jdk/internal/util/Preconditions"
abbrev cJ14_checkIndex : ByteArray := prog_38_method_11_code
def yJ14_checkIndex : MethodName := ⟨RJ14, "checkIndex", "(IILjava/util/function/BiFunction;)I"⟩
def dkwJ14_checkIndex_0 : List UInt8 := [26, 155, 0, 8, 26, 27, 161, 0, 10, 44, 26, 27, 184, 0, 95, 191, 26, 172]
abbrev dktJ14_checkIndex_0 : List UInt8 := dkwJ14_checkIndex_0 ++ []
theorem dksJ14_checkIndex_0 : cJ14_checkIndex.data.toList.drop 0 = dktJ14_checkIndex_0 := by decide +kernel
theorem dJ14_checkIndex_0 : decode cJ14_checkIndex 0 = .ok (.iload_n 0, 1) := dk_26 (dk_at dksJ14_checkIndex_0 0 rfl rfl)
theorem dJ14_checkIndex_1 : decode cJ14_checkIndex 1 = .ok (.ifCond .lt 8, 3) := dk_155 0 8 (dk_at dksJ14_checkIndex_0 1 rfl rfl)
theorem dJ14_checkIndex_4 : decode cJ14_checkIndex 4 = .ok (.iload_n 0, 1) := dk_26 (dk_at dksJ14_checkIndex_0 4 rfl rfl)
theorem dJ14_checkIndex_5 : decode cJ14_checkIndex 5 = .ok (.iload_n 1, 1) := dk_27 (dk_at dksJ14_checkIndex_0 5 rfl rfl)
theorem dJ14_checkIndex_6 : decode cJ14_checkIndex 6 = .ok (.if_icmp .lt 10, 3) := dk_161 0 10 (dk_at dksJ14_checkIndex_0 6 rfl rfl)
theorem dJ14_checkIndex_9 : decode cJ14_checkIndex 9 = .ok (.aload_n 2, 1) := dk_44 (dk_at dksJ14_checkIndex_0 9 rfl rfl)
theorem dJ14_checkIndex_10 : decode cJ14_checkIndex 10 = .ok (.iload_n 0, 1) := dk_26 (dk_at dksJ14_checkIndex_0 10 rfl rfl)
theorem dJ14_checkIndex_11 : decode cJ14_checkIndex 11 = .ok (.iload_n 1, 1) := dk_27 (dk_at dksJ14_checkIndex_0 11 rfl rfl)
theorem dJ14_checkIndex_12 : decode cJ14_checkIndex 12 = .ok (.invokestatic 95, 3) := dk_184 0 95 (dk_at dksJ14_checkIndex_0 12 rfl rfl)
theorem dJ14_checkIndex_15 : decode cJ14_checkIndex 15 = .ok (.athrow, 1) := dk_191 (dk_at dksJ14_checkIndex_0 15 rfl rfl)
theorem dJ14_checkIndex_16 : decode cJ14_checkIndex 16 = .ok (.iload_n 0, 1) := dk_26 (dk_at dksJ14_checkIndex_0 16 rfl rfl)
theorem dJ14_checkIndex_17 : decode cJ14_checkIndex 17 = .ok (.ireturn, 1) := dk_172 (dk_at dksJ14_checkIndex_0 17 rfl rfl)
theorem q30 : (Jvm.Cond.initialized "jdk/internal/util/Preconditions") ∈ lw_all := lw_g (lw_at lw_m1 23 rfl) rfl
theorem q424 : (Jvm.Cond.static ({ cls := "jdk/internal/util/Preconditions", name := "checkIndex", desc := "(IILjava/util/function/BiFunction;)I" } : Jvm.MethodName)) ∈ lw_all := lw_g (lw_at lw_m2 177 rfl) rfl
theorem q425 : (Jvm.Cond.code ({ cls := "jdk/internal/util/Preconditions", name := "checkIndex", desc := "(IILjava/util/function/BiFunction;)I" } : Jvm.MethodName) prog_38_method_11_code (3 : Nat) (Option.some Jvm.ClassFile.FieldType.int)) ∈ lw_all := lw_g (lw_at lw_m2 178 rfl) rfl
/-! java/util/ArrayList$Itr -/
set_option maxRecDepth 100000
def RJ15 : String := "java/util/ArrayList$Itr"
def TJ15 : u_T := fun k => match k with
  | 0 => ("java/util/ArrayList$Itr", "cursor", "I", false)
  | 1 => ("java/util/ArrayList$Itr", "lastRet", "I", false)
  | 2 => ("java/util/ArrayList$Itr", "expectedModCount", "I", false)
  | _ => ("java/util/ArrayList$Itr", "this$0", "Ljava/util/ArrayList;", true)
def tyJ15 : Nat → FieldType := fun k => match k with
  | 0 => .int
  | 1 => .int
  | 2 => .int
  | _ => .object "java/util/ArrayList"
abbrev wsJ150 : List Cond := u_ws RJ15 TJ15 4
theorem nmJ15 : ∀ a, a < 4 → ∀ b, b < 4 → a ≠ b → (TJ15 a).2.1 ≠ (TJ15 b).2.1 := by decide +kernel
theorem tyJ15_ok : ∀ k, k < 4 → parseFieldDescriptor (TJ15 k).2.2.1 = some (tyJ15 k) := by decide +kernel
abbrev cJ15_init : ByteArray := prog_28_method_1_code
def yJ15_init : MethodName := ⟨RJ15, "<init>", "(Ljava/util/ArrayList;)V"⟩
def dkwJ15_init_1 : List UInt8 := [181, 0, 22, 177]
abbrev dktJ15_init_1 : List UInt8 := dkwJ15_init_1 ++ []
def dkwJ15_init_0 : List UInt8 := [42, 43, 181, 0, 1, 42, 183, 0, 7, 42, 2, 181, 0, 13, 42, 42, 180, 0, 1, 180, 0, 17]
abbrev dktJ15_init_0 : List UInt8 := dkwJ15_init_0 ++ dktJ15_init_1
theorem dksJ15_init_0 : cJ15_init.data.toList.drop 0 = dktJ15_init_0 := by decide +kernel
theorem dksJ15_init_1 : cJ15_init.data.toList.drop 22 = dktJ15_init_1 := dk_seg dksJ15_init_0 22 rfl rfl
theorem dJ15_init_0 : decode cJ15_init 0 = .ok (.aload_n 0, 1) := dk_42 (dk_at dksJ15_init_0 0 rfl rfl)
theorem dJ15_init_1 : decode cJ15_init 1 = .ok (.aload_n 1, 1) := dk_43 (dk_at dksJ15_init_0 1 rfl rfl)
theorem dJ15_init_2 : decode cJ15_init 2 = .ok (.putfield 1, 3) := dk_181 0 1 (dk_at dksJ15_init_0 2 rfl rfl)
theorem dJ15_init_5 : decode cJ15_init 5 = .ok (.aload_n 0, 1) := dk_42 (dk_at dksJ15_init_0 5 rfl rfl)
theorem dJ15_init_6 : decode cJ15_init 6 = .ok (.invokespecial 7, 3) := dk_183 0 7 (dk_at dksJ15_init_0 6 rfl rfl)
theorem dJ15_init_9 : decode cJ15_init 9 = .ok (.aload_n 0, 1) := dk_42 (dk_at dksJ15_init_0 9 rfl rfl)
theorem dJ15_init_10 : decode cJ15_init 10 = .ok (.iconst (-1), 1) := dk_2 (dk_at dksJ15_init_0 10 rfl rfl)
theorem dJ15_init_11 : decode cJ15_init 11 = .ok (.putfield 13, 3) := dk_181 0 13 (dk_at dksJ15_init_0 11 rfl rfl)
theorem dJ15_init_14 : decode cJ15_init 14 = .ok (.aload_n 0, 1) := dk_42 (dk_at dksJ15_init_0 14 rfl rfl)
theorem dJ15_init_15 : decode cJ15_init 15 = .ok (.aload_n 0, 1) := dk_42 (dk_at dksJ15_init_0 15 rfl rfl)
theorem dJ15_init_16 : decode cJ15_init 16 = .ok (.getfield 1, 3) := dk_180 0 1 (dk_at dksJ15_init_0 16 rfl rfl)
theorem dJ15_init_19 : decode cJ15_init 19 = .ok (.getfield 17, 3) := dk_180 0 17 (dk_at dksJ15_init_0 19 rfl rfl)
theorem dJ15_init_22 : decode cJ15_init 22 = .ok (.putfield 22, 3) := dk_181 0 22 (dk_at dksJ15_init_1 0 rfl rfl)
theorem dJ15_init_25 : decode cJ15_init 25 = .ok (.return_, 1) := dk_177 (dk_at dksJ15_init_1 3 rfl rfl)
abbrev cJ15_hasNext : ByteArray := prog_28_method_2_code
def yJ15_hasNext : MethodName := ⟨RJ15, "hasNext", "()Z"⟩
def dkwJ15_hasNext_0 : List UInt8 := [42, 180, 0, 25, 42, 180, 0, 1, 180, 0, 28, 159, 0, 7, 4, 167, 0, 4, 3, 172]
abbrev dktJ15_hasNext_0 : List UInt8 := dkwJ15_hasNext_0 ++ []
theorem dksJ15_hasNext_0 : cJ15_hasNext.data.toList.drop 0 = dktJ15_hasNext_0 := by decide +kernel
theorem dJ15_hasNext_0 : decode cJ15_hasNext 0 = .ok (.aload_n 0, 1) := dk_42 (dk_at dksJ15_hasNext_0 0 rfl rfl)
theorem dJ15_hasNext_1 : decode cJ15_hasNext 1 = .ok (.getfield 25, 3) := dk_180 0 25 (dk_at dksJ15_hasNext_0 1 rfl rfl)
theorem dJ15_hasNext_4 : decode cJ15_hasNext 4 = .ok (.aload_n 0, 1) := dk_42 (dk_at dksJ15_hasNext_0 4 rfl rfl)
theorem dJ15_hasNext_5 : decode cJ15_hasNext 5 = .ok (.getfield 1, 3) := dk_180 0 1 (dk_at dksJ15_hasNext_0 5 rfl rfl)
theorem dJ15_hasNext_8 : decode cJ15_hasNext 8 = .ok (.getfield 28, 3) := dk_180 0 28 (dk_at dksJ15_hasNext_0 8 rfl rfl)
theorem dJ15_hasNext_11 : decode cJ15_hasNext 11 = .ok (.if_icmp .eq 7, 3) := dk_159 0 7 (dk_at dksJ15_hasNext_0 11 rfl rfl)
theorem dJ15_hasNext_14 : decode cJ15_hasNext 14 = .ok (.iconst 1, 1) := dk_4 (dk_at dksJ15_hasNext_0 14 rfl rfl)
theorem dJ15_hasNext_15 : decode cJ15_hasNext 15 = .ok (.goto 4, 3) := dk_167 0 4 (dk_at dksJ15_hasNext_0 15 rfl rfl)
theorem dJ15_hasNext_18 : decode cJ15_hasNext 18 = .ok (.iconst 0, 1) := dk_3 (dk_at dksJ15_hasNext_0 18 rfl rfl)
theorem dJ15_hasNext_19 : decode cJ15_hasNext 19 = .ok (.ireturn, 1) := dk_172 (dk_at dksJ15_hasNext_0 19 rfl rfl)
abbrev cJ15_next : ByteArray := prog_28_method_3_code
def yJ15_next : MethodName := ⟨RJ15, "next", "()Ljava/lang/Object;"⟩
def dkwJ15_next_2 : List UInt8 := [183, 0, 43, 191, 42, 27, 4, 96, 181, 0, 25, 44, 42, 27, 90, 181, 0, 13, 50, 176]
abbrev dktJ15_next_2 : List UInt8 := dkwJ15_next_2 ++ []
def dkwJ15_next_1 : List UInt8 := [183, 0, 36, 191, 42, 180, 0, 1, 180, 0, 37, 77, 27, 44, 190, 161, 0, 11, 187, 0, 41, 89]
abbrev dktJ15_next_1 : List UInt8 := dkwJ15_next_1 ++ dktJ15_next_2
def dkwJ15_next_0 : List UInt8 := [42, 182, 0, 31, 42, 180, 0, 25, 60, 27, 42, 180, 0, 1, 180, 0, 28, 161, 0, 11, 187, 0, 34, 89]
abbrev dktJ15_next_0 : List UInt8 := dkwJ15_next_0 ++ dktJ15_next_1
theorem dksJ15_next_0 : cJ15_next.data.toList.drop 0 = dktJ15_next_0 := by decide +kernel
theorem dksJ15_next_1 : cJ15_next.data.toList.drop 24 = dktJ15_next_1 := dk_seg dksJ15_next_0 24 rfl rfl
theorem dksJ15_next_2 : cJ15_next.data.toList.drop 46 = dktJ15_next_2 := dk_seg dksJ15_next_1 22 rfl rfl
theorem dJ15_next_0 : decode cJ15_next 0 = .ok (.aload_n 0, 1) := dk_42 (dk_at dksJ15_next_0 0 rfl rfl)
theorem dJ15_next_1 : decode cJ15_next 1 = .ok (.invokevirtual 31, 3) := dk_182 0 31 (dk_at dksJ15_next_0 1 rfl rfl)
theorem dJ15_next_4 : decode cJ15_next 4 = .ok (.aload_n 0, 1) := dk_42 (dk_at dksJ15_next_0 4 rfl rfl)
theorem dJ15_next_5 : decode cJ15_next 5 = .ok (.getfield 25, 3) := dk_180 0 25 (dk_at dksJ15_next_0 5 rfl rfl)
theorem dJ15_next_8 : decode cJ15_next 8 = .ok (.istore_n 1, 1) := dk_60 (dk_at dksJ15_next_0 8 rfl rfl)
theorem dJ15_next_9 : decode cJ15_next 9 = .ok (.iload_n 1, 1) := dk_27 (dk_at dksJ15_next_0 9 rfl rfl)
theorem dJ15_next_10 : decode cJ15_next 10 = .ok (.aload_n 0, 1) := dk_42 (dk_at dksJ15_next_0 10 rfl rfl)
theorem dJ15_next_11 : decode cJ15_next 11 = .ok (.getfield 1, 3) := dk_180 0 1 (dk_at dksJ15_next_0 11 rfl rfl)
theorem dJ15_next_14 : decode cJ15_next 14 = .ok (.getfield 28, 3) := dk_180 0 28 (dk_at dksJ15_next_0 14 rfl rfl)
theorem dJ15_next_17 : decode cJ15_next 17 = .ok (.if_icmp .lt 11, 3) := dk_161 0 11 (dk_at dksJ15_next_0 17 rfl rfl)
theorem dJ15_next_20 : decode cJ15_next 20 = .ok (.new 34, 3) := dk_187 0 34 (dk_at dksJ15_next_0 20 rfl rfl)
theorem dJ15_next_23 : decode cJ15_next 23 = .ok (.dup, 1) := dk_89 (dk_at dksJ15_next_0 23 rfl rfl)
theorem dJ15_next_24 : decode cJ15_next 24 = .ok (.invokespecial 36, 3) := dk_183 0 36 (dk_at dksJ15_next_1 0 rfl rfl)
theorem dJ15_next_27 : decode cJ15_next 27 = .ok (.athrow, 1) := dk_191 (dk_at dksJ15_next_1 3 rfl rfl)
theorem dJ15_next_28 : decode cJ15_next 28 = .ok (.aload_n 0, 1) := dk_42 (dk_at dksJ15_next_1 4 rfl rfl)
theorem dJ15_next_29 : decode cJ15_next 29 = .ok (.getfield 1, 3) := dk_180 0 1 (dk_at dksJ15_next_1 5 rfl rfl)
theorem dJ15_next_32 : decode cJ15_next 32 = .ok (.getfield 37, 3) := dk_180 0 37 (dk_at dksJ15_next_1 8 rfl rfl)
theorem dJ15_next_35 : decode cJ15_next 35 = .ok (.astore_n 2, 1) := dk_77 (dk_at dksJ15_next_1 11 rfl rfl)
theorem dJ15_next_36 : decode cJ15_next 36 = .ok (.iload_n 1, 1) := dk_27 (dk_at dksJ15_next_1 12 rfl rfl)
theorem dJ15_next_37 : decode cJ15_next 37 = .ok (.aload_n 2, 1) := dk_44 (dk_at dksJ15_next_1 13 rfl rfl)
theorem dJ15_next_38 : decode cJ15_next 38 = .ok (.arraylength, 1) := dk_190 (dk_at dksJ15_next_1 14 rfl rfl)
theorem dJ15_next_39 : decode cJ15_next 39 = .ok (.if_icmp .lt 11, 3) := dk_161 0 11 (dk_at dksJ15_next_1 15 rfl rfl)
theorem dJ15_next_42 : decode cJ15_next 42 = .ok (.new 41, 3) := dk_187 0 41 (dk_at dksJ15_next_1 18 rfl rfl)
theorem dJ15_next_45 : decode cJ15_next 45 = .ok (.dup, 1) := dk_89 (dk_at dksJ15_next_1 21 rfl rfl)
theorem dJ15_next_46 : decode cJ15_next 46 = .ok (.invokespecial 43, 3) := dk_183 0 43 (dk_at dksJ15_next_2 0 rfl rfl)
theorem dJ15_next_49 : decode cJ15_next 49 = .ok (.athrow, 1) := dk_191 (dk_at dksJ15_next_2 3 rfl rfl)
theorem dJ15_next_50 : decode cJ15_next 50 = .ok (.aload_n 0, 1) := dk_42 (dk_at dksJ15_next_2 4 rfl rfl)
theorem dJ15_next_51 : decode cJ15_next 51 = .ok (.iload_n 1, 1) := dk_27 (dk_at dksJ15_next_2 5 rfl rfl)
theorem dJ15_next_52 : decode cJ15_next 52 = .ok (.iconst 1, 1) := dk_4 (dk_at dksJ15_next_2 6 rfl rfl)
theorem dJ15_next_53 : decode cJ15_next 53 = .ok (.iadd, 1) := dk_96 (dk_at dksJ15_next_2 7 rfl rfl)
theorem dJ15_next_54 : decode cJ15_next 54 = .ok (.putfield 25, 3) := dk_181 0 25 (dk_at dksJ15_next_2 8 rfl rfl)
theorem dJ15_next_57 : decode cJ15_next 57 = .ok (.aload_n 2, 1) := dk_44 (dk_at dksJ15_next_2 11 rfl rfl)
theorem dJ15_next_58 : decode cJ15_next 58 = .ok (.aload_n 0, 1) := dk_42 (dk_at dksJ15_next_2 12 rfl rfl)
theorem dJ15_next_59 : decode cJ15_next 59 = .ok (.iload_n 1, 1) := dk_27 (dk_at dksJ15_next_2 13 rfl rfl)
theorem dJ15_next_60 : decode cJ15_next 60 = .ok (.dup_x1, 1) := dk_90 (dk_at dksJ15_next_2 14 rfl rfl)
theorem dJ15_next_61 : decode cJ15_next 61 = .ok (.putfield 13, 3) := dk_181 0 13 (dk_at dksJ15_next_2 15 rfl rfl)
theorem dJ15_next_64 : decode cJ15_next 64 = .ok (.aaload, 1) := dk_50 (dk_at dksJ15_next_2 18 rfl rfl)
theorem dJ15_next_65 : decode cJ15_next 65 = .ok (.areturn, 1) := dk_176 (dk_at dksJ15_next_2 19 rfl rfl)
abbrev cJ15_checkForComodification : ByteArray := prog_28_method_6_code
def yJ15_checkForComodification : MethodName := ⟨RJ15, "checkForComodification", "()V"⟩
def dkwJ15_checkForComodification_0 : List UInt8 := [42, 180, 0, 1, 180, 0, 17, 42, 180, 0, 22, 159, 0, 11, 187, 0, 41, 89, 183, 0, 43, 191, 177]
abbrev dktJ15_checkForComodification_0 : List UInt8 := dkwJ15_checkForComodification_0 ++ []
theorem dksJ15_checkForComodification_0 : cJ15_checkForComodification.data.toList.drop 0 = dktJ15_checkForComodification_0 := by decide +kernel
theorem dJ15_checkForComodification_0 : decode cJ15_checkForComodification 0 = .ok (.aload_n 0, 1) := dk_42 (dk_at dksJ15_checkForComodification_0 0 rfl rfl)
theorem dJ15_checkForComodification_1 : decode cJ15_checkForComodification 1 = .ok (.getfield 1, 3) := dk_180 0 1 (dk_at dksJ15_checkForComodification_0 1 rfl rfl)
theorem dJ15_checkForComodification_4 : decode cJ15_checkForComodification 4 = .ok (.getfield 17, 3) := dk_180 0 17 (dk_at dksJ15_checkForComodification_0 4 rfl rfl)
theorem dJ15_checkForComodification_7 : decode cJ15_checkForComodification 7 = .ok (.aload_n 0, 1) := dk_42 (dk_at dksJ15_checkForComodification_0 7 rfl rfl)
theorem dJ15_checkForComodification_8 : decode cJ15_checkForComodification 8 = .ok (.getfield 22, 3) := dk_180 0 22 (dk_at dksJ15_checkForComodification_0 8 rfl rfl)
theorem dJ15_checkForComodification_11 : decode cJ15_checkForComodification 11 = .ok (.if_icmp .eq 11, 3) := dk_159 0 11 (dk_at dksJ15_checkForComodification_0 11 rfl rfl)
theorem dJ15_checkForComodification_14 : decode cJ15_checkForComodification 14 = .ok (.new 41, 3) := dk_187 0 41 (dk_at dksJ15_checkForComodification_0 14 rfl rfl)
theorem dJ15_checkForComodification_17 : decode cJ15_checkForComodification 17 = .ok (.dup, 1) := dk_89 (dk_at dksJ15_checkForComodification_0 17 rfl rfl)
theorem dJ15_checkForComodification_18 : decode cJ15_checkForComodification 18 = .ok (.invokespecial 43, 3) := dk_183 0 43 (dk_at dksJ15_checkForComodification_0 18 rfl rfl)
theorem dJ15_checkForComodification_21 : decode cJ15_checkForComodification 21 = .ok (.athrow, 1) := dk_191 (dk_at dksJ15_checkForComodification_0 21 rfl rfl)
theorem dJ15_checkForComodification_22 : decode cJ15_checkForComodification 22 = .ok (.return_, 1) := dk_177 (dk_at dksJ15_checkForComodification_0 22 rfl rfl)
theorem q31 : (Jvm.Cond.initialized "java/util/ArrayList$Itr") ∈ lw_all := lw_g (lw_at lw_m1 24 rfl) rfl
theorem q170 : (Jvm.Cond.fieldLink "java/util/ArrayList$Itr" (37 : Nat) "java/util/ArrayList" "elementData" "[Ljava/lang/Object;") ∈ lw_all := lw_g (lw_at lw_m1 163 rfl) rfl
theorem q171 : (Jvm.Cond.fieldLinkNest "java/util/ArrayList$Itr" (28 : Nat) "java/util/ArrayList" "size" "I" "java/util/ArrayList") ∈ lw_tbl := lw_at lw_m1 164 rfl
theorem q174 : (Jvm.Cond.fieldLink "java/util/ArrayList$Itr" (17 : Nat) "java/util/ArrayList" "modCount" "I") ∈ lw_all := lw_g (lw_at lw_m1 167 rfl) rfl
theorem q334 : (Jvm.Cond.selects "java/util/ArrayList$Itr" ({ cls := "java/lang/Object", name := "getClass", desc := "()Ljava/lang/Class;" } : Jvm.MethodName) ({ cls := "java/lang/Object", name := "getClass", desc := "()Ljava/lang/Class;" } : Jvm.MethodName)) ∈ lw_all := lw_g (lw_at lw_m2 87 rfl) rfl
theorem q454 : (Jvm.Cond.instantiable "java/util/ArrayList$Itr" (4 : Nat)) ∈ lw_all := lw_g (lw_at lw_m2 207 rfl) rfl
theorem q456 : (Jvm.Cond.instanceMethod ({ cls := "java/util/ArrayList$Itr", name := "<init>", desc := "(Ljava/util/ArrayList;)V" } : Jvm.MethodName)) ∈ lw_all := lw_g (lw_at lw_m2 209 rfl) rfl
theorem q457 : (Jvm.Cond.code ({ cls := "java/util/ArrayList$Itr", name := "<init>", desc := "(Ljava/util/ArrayList;)V" } : Jvm.MethodName) prog_28_method_1_code (2 : Nat) (Option.none : Option Jvm.ClassFile.FieldType)) ∈ lw_all := lw_g (lw_at lw_m2 210 rfl) rfl
theorem q458 : (Jvm.Cond.methodLink "java/util/ArrayList$Itr" (7 : Nat) ({ cls := "java/lang/Object", name := "<init>", desc := "()V" } : Jvm.MethodName)) ∈ lw_all := lw_g (lw_at lw_m2 211 rfl) rfl
theorem q459 : (Jvm.Cond.fieldLink "java/util/ArrayList$Itr" (25 : Nat) "java/util/ArrayList$Itr" "cursor" "I") ∈ lw_all := lw_g (lw_at lw_m2 212 rfl) rfl
theorem q460 : (Jvm.Cond.fieldLink "java/util/ArrayList$Itr" (13 : Nat) "java/util/ArrayList$Itr" "lastRet" "I") ∈ lw_all := lw_g (lw_at lw_m2 213 rfl) rfl
theorem q461 : (Jvm.Cond.fieldLink "java/util/ArrayList$Itr" (22 : Nat) "java/util/ArrayList$Itr" "expectedModCount" "I") ∈ lw_all := lw_g (lw_at lw_m2 214 rfl) rfl
theorem q462 : (Jvm.Cond.fieldLink "java/util/ArrayList$Itr" (1 : Nat) "java/util/ArrayList$Itr" "this$0" "Ljava/util/ArrayList;") ∈ lw_all := lw_g (lw_at lw_m2 215 rfl) rfl
theorem q463 : (Jvm.Cond.lays "java/util/ArrayList$Itr" "java/util/ArrayList$Itr" "cursor" "I") ∈ lw_all := lw_g (lw_at lw_m2 216 rfl) rfl
theorem q464 : (Jvm.Cond.soleField "java/util/ArrayList$Itr" "cursor") ∈ lw_all := lw_g (lw_at lw_m2 217 rfl) rfl
theorem q465 : (Jvm.Cond.lays "java/util/ArrayList$Itr" "java/util/ArrayList$Itr" "lastRet" "I") ∈ lw_all := lw_g (lw_at lw_m2 218 rfl) rfl
theorem q466 : (Jvm.Cond.soleField "java/util/ArrayList$Itr" "lastRet") ∈ lw_all := lw_g (lw_at lw_m2 219 rfl) rfl
theorem q467 : (Jvm.Cond.lays "java/util/ArrayList$Itr" "java/util/ArrayList$Itr" "expectedModCount" "I") ∈ lw_all := lw_g (lw_at lw_m2 220 rfl) rfl
theorem q468 : (Jvm.Cond.soleField "java/util/ArrayList$Itr" "expectedModCount") ∈ lw_all := lw_g (lw_at lw_m2 221 rfl) rfl
theorem q469 : (Jvm.Cond.laysFinal "java/util/ArrayList$Itr" "java/util/ArrayList$Itr" "this$0" "Ljava/util/ArrayList;") ∈ lw_all := lw_g (lw_at lw_m2 222 rfl) rfl
theorem q470 : (Jvm.Cond.soleField "java/util/ArrayList$Itr" "this$0") ∈ lw_all := lw_g (lw_at lw_m2 223 rfl) rfl
theorem q471 : (Jvm.Cond.superclass "java/util/ArrayList$Itr" "java/lang/Object") ∈ lw_all := lw_g (lw_at lw_m2 224 rfl) rfl
theorem q476 : (Jvm.Cond.castable "java/util/ArrayList$Itr" "java/util/Iterator") ∈ lw_tbl := lw_at lw_m2 229 rfl
theorem q477 : (Jvm.Cond.selects "java/util/ArrayList$Itr" ({ cls := "java/util/Iterator", name := "hasNext", desc := "()Z" } : Jvm.MethodName) ({ cls := "java/util/ArrayList$Itr", name := "hasNext", desc := "()Z" } : Jvm.MethodName)) ∈ lw_all := lw_g (lw_at lw_m2 230 rfl) rfl
theorem q478 : (Jvm.Cond.unhidden "java/util/ArrayList$Itr" "hasNext" "()Z") ∈ lw_tbl := lw_at lw_m2 231 rfl
theorem q479 : (Jvm.Cond.instanceMethod ({ cls := "java/util/ArrayList$Itr", name := "hasNext", desc := "()Z" } : Jvm.MethodName)) ∈ lw_all := lw_g (lw_at lw_m2 232 rfl) rfl
theorem q480 : (Jvm.Cond.publicMethod ({ cls := "java/util/ArrayList$Itr", name := "hasNext", desc := "()Z" } : Jvm.MethodName)) ∈ lw_tbl := lw_at lw_m2 233 rfl
theorem q481 : (Jvm.Cond.code ({ cls := "java/util/ArrayList$Itr", name := "hasNext", desc := "()Z" } : Jvm.MethodName) prog_28_method_2_code (1 : Nat) (Option.some Jvm.ClassFile.FieldType.boolean)) ∈ lw_all := lw_g (lw_at lw_m2 234 rfl) rfl
theorem q486 : (Jvm.Cond.selects "java/util/ArrayList$Itr" ({ cls := "java/util/Iterator", name := "next", desc := "()Ljava/lang/Object;" } : Jvm.MethodName) ({ cls := "java/util/ArrayList$Itr", name := "next", desc := "()Ljava/lang/Object;" } : Jvm.MethodName)) ∈ lw_all := lw_g (lw_at lw_m2 239 rfl) rfl
theorem q487 : (Jvm.Cond.unhidden "java/util/ArrayList$Itr" "next" "()Ljava/lang/Object;") ∈ lw_tbl := lw_at lw_m3 0 rfl
theorem q488 : (Jvm.Cond.instanceMethod ({ cls := "java/util/ArrayList$Itr", name := "next", desc := "()Ljava/lang/Object;" } : Jvm.MethodName)) ∈ lw_all := lw_g (lw_at lw_m3 1 rfl) rfl
theorem q489 : (Jvm.Cond.publicMethod ({ cls := "java/util/ArrayList$Itr", name := "next", desc := "()Ljava/lang/Object;" } : Jvm.MethodName)) ∈ lw_tbl := lw_at lw_m3 2 rfl
theorem q490 : (Jvm.Cond.code ({ cls := "java/util/ArrayList$Itr", name := "next", desc := "()Ljava/lang/Object;" } : Jvm.MethodName) prog_28_method_3_code (3 : Nat) (Option.some (Jvm.ClassFile.FieldType.object "java/lang/Object"))) ∈ lw_all := lw_g (lw_at lw_m3 3 rfl) rfl
theorem q491 : (Jvm.Cond.methodLink "java/util/ArrayList$Itr" (31 : Nat) ({ cls := "java/util/ArrayList$Itr", name := "checkForComodification", desc := "()V" } : Jvm.MethodName)) ∈ lw_all := lw_g (lw_at lw_m3 4 rfl) rfl
theorem q492 : (Jvm.Cond.instanceMethod ({ cls := "java/util/ArrayList$Itr", name := "checkForComodification", desc := "()V" } : Jvm.MethodName)) ∈ lw_all := lw_g (lw_at lw_m3 5 rfl) rfl
theorem q493 : (Jvm.Cond.selects "java/util/ArrayList$Itr" ({ cls := "java/util/ArrayList$Itr", name := "checkForComodification", desc := "()V" } : Jvm.MethodName) ({ cls := "java/util/ArrayList$Itr", name := "checkForComodification", desc := "()V" } : Jvm.MethodName)) ∈ lw_all := lw_g (lw_at lw_m3 6 rfl) rfl
theorem q494 : (Jvm.Cond.code ({ cls := "java/util/ArrayList$Itr", name := "checkForComodification", desc := "()V" } : Jvm.MethodName) prog_28_method_6_code (1 : Nat) (Option.none : Option Jvm.ClassFile.FieldType)) ∈ lw_all := lw_g (lw_at lw_m3 7 rfl) rfl
theorem q590 : (Jvm.Cond.castable "java/util/ArrayList$Itr" "java/lang/Object") ∈ lw_tbl := lw_at lw_m3 103 rfl
theorem in_J15 : ∀ w ∈ wsJ150, w ∈ lw_all := lw_in wsJ150 [463, 465, 467, 469] (by decide +kernel) (by decide +kernel)
/-! java/lang/Object -/
set_option maxRecDepth 100000
def RJ16 : String := "java/lang/Object"
abbrev cJ16_init : ByteArray := object_method_1_code
def yJ16_init : MethodName := ⟨RJ16, "<init>", "()V"⟩
theorem dJ16_init_0 : decode cJ16_init 0 = .ok (.return_, 1) := by decide +kernel
theorem q38 : (Jvm.Cond.instanceMethod ({ cls := "java/lang/Object", name := "<init>", desc := "()V" } : Jvm.MethodName)) ∈ lw_all := lw_g (lw_at lw_m1 31 rfl) rfl
theorem q39 : (Jvm.Cond.code ({ cls := "java/lang/Object", name := "<init>", desc := "()V" } : Jvm.MethodName) object_method_1_code (1 : Nat) (Option.none : Option Jvm.ClassFile.FieldType)) ∈ lw_all := lw_g (lw_at lw_m1 32 rfl) rfl
theorem q326 : (Jvm.Cond.instanceMethod ({ cls := "java/lang/Object", name := "getClass", desc := "()Ljava/lang/Class;" } : Jvm.MethodName)) ∈ lw_all := lw_g (lw_at lw_m2 79 rfl) rfl
theorem q327 : (Jvm.Cond.sameMethod "java/lang/Object" "java/lang/Object" "getClass" "()Ljava/lang/Class;") ∈ lw_all := lw_g (lw_at lw_m2 80 rfl) rfl
theorem q336 : (Jvm.Cond.native ({ cls := "java/lang/Object", name := "getClass", desc := "()Ljava/lang/Class;" } : Jvm.MethodName)) ∈ lw_all := lw_g (lw_at lw_m2 89 rfl) rfl
theorem q581 : (Jvm.Cond.initialized "java/lang/Object") ∈ lw_all := lw_g (lw_at lw_m3 94 rfl) rfl
theorem q595 : (Jvm.Cond.declares ({ cls := "java/lang/Object", name := "getClass", desc := "()Ljava/lang/Class;" } : Jvm.MethodName)) ∈ lw_tbl := lw_at lw_m3 108 rfl
theorem q7 : (Jvm.Cond.initialized "IntegerRadixHeapDeskLaw") ∈ lw_all := lw_g (lw_at lw_m1 0 rfl) rfl
set_option maxRecDepth 100000
theorem q32 : (Jvm.Cond.classLink "IntegerRadixHeapDeskLaw" (7 : Nat) "IntegerRadixHeapDesk") ∈ lw_all := lw_g (lw_at lw_m1 25 rfl) rfl
theorem q34 : (Jvm.Cond.methodLink "IntegerRadixHeapDeskLaw" (9 : Nat) ({ cls := "IntegerRadixHeapDesk", name := "<init>", desc := "()V" } : Jvm.MethodName)) ∈ lw_all := lw_g (lw_at lw_m1 27 rfl) rfl
theorem q231 : (Jvm.Cond.methodLink "IntegerRadixHeapDeskLaw" (13 : Nat) ({ cls := "IntegerRadixHeapDesk", name := "put", desc := "(II)Z" } : Jvm.MethodName)) ∈ lw_all := lw_g (lw_at lw_m1 224 rfl) rfl
theorem q358 : (Jvm.Cond.methodLink "IntegerRadixHeapDeskLaw" (18 : Nat) ({ cls := "IntegerRadixHeapDesk", name := "above", desc := "(II)Z" } : Jvm.MethodName)) ∈ lw_all := lw_g (lw_at lw_m2 111 rfl) rfl
theorem q362 : (Jvm.Cond.methodLink "IntegerRadixHeapDeskLaw" (22 : Nat) ({ cls := "IntegerRadixHeapDesk", name := "least", desc := "(I)I" } : Jvm.MethodName)) ∈ lw_all := lw_g (lw_at lw_m2 115 rfl) rfl
theorem q401 : (Jvm.Cond.methodLink "IntegerRadixHeapDeskLaw" (27 : Nat) ({ cls := "IntegerRadixHeapDesk", name := "takeLeast", desc := "(I)I" } : Jvm.MethodName)) ∈ lw_all := lw_g (lw_at lw_m2 154 rfl) rfl
theorem q504 : (Jvm.Cond.methodLink "IntegerRadixHeapDeskLaw" (31 : Nat) ({ cls := "IntegerRadixHeapDesk", name := "size", desc := "(I)I" } : Jvm.MethodName)) ∈ lw_all := lw_g (lw_at lw_m3 17 rfl) rfl
theorem q514 : (Jvm.Cond.methodLink "IntegerRadixHeapDeskLaw" (35 : Nat) ({ cls := "IntegerRadixHeapDesk", name := "isEmpty", desc := "(I)Z" } : Jvm.MethodName)) ∈ lw_all := lw_g (lw_at lw_m3 27 rfl) rfl
theorem q518 : (Jvm.Cond.methodLink "IntegerRadixHeapDeskLaw" (40 : Nat) ({ cls := "IntegerRadixHeapDesk", name := "renew", desc := "(I)V" } : Jvm.MethodName)) ∈ lw_all := lw_g (lw_at lw_m3 31 rfl) rfl
theorem q522 : (Jvm.Cond.classLink "IntegerRadixHeapDeskLaw" (10 : Nat) "IntegerRadixHeapDeskModel") ∈ lw_all := lw_g (lw_at lw_m3 35 rfl) rfl
theorem q524 : (Jvm.Cond.methodLink "IntegerRadixHeapDeskLaw" (12 : Nat) ({ cls := "IntegerRadixHeapDeskModel", name := "<init>", desc := "()V" } : Jvm.MethodName)) ∈ lw_all := lw_g (lw_at lw_m3 37 rfl) rfl
theorem q541 : (Jvm.Cond.methodLink "IntegerRadixHeapDeskLaw" (17 : Nat) ({ cls := "IntegerRadixHeapDeskModel", name := "put", desc := "(II)Z" } : Jvm.MethodName)) ∈ lw_all := lw_g (lw_at lw_m3 54 rfl) rfl
theorem q551 : (Jvm.Cond.methodLink "IntegerRadixHeapDeskLaw" (21 : Nat) ({ cls := "IntegerRadixHeapDeskModel", name := "above", desc := "(II)Z" } : Jvm.MethodName)) ∈ lw_all := lw_g (lw_at lw_m3 64 rfl) rfl
theorem q555 : (Jvm.Cond.methodLink "IntegerRadixHeapDeskLaw" (26 : Nat) ({ cls := "IntegerRadixHeapDeskModel", name := "least", desc := "(I)I" } : Jvm.MethodName)) ∈ lw_all := lw_g (lw_at lw_m3 68 rfl) rfl
theorem q563 : (Jvm.Cond.methodLink "IntegerRadixHeapDeskLaw" (30 : Nat) ({ cls := "IntegerRadixHeapDeskModel", name := "takeLeast", desc := "(I)I" } : Jvm.MethodName)) ∈ lw_all := lw_g (lw_at lw_m3 76 rfl) rfl
theorem q567 : (Jvm.Cond.methodLink "IntegerRadixHeapDeskLaw" (34 : Nat) ({ cls := "IntegerRadixHeapDeskModel", name := "size", desc := "(I)I" } : Jvm.MethodName)) ∈ lw_all := lw_g (lw_at lw_m3 80 rfl) rfl
theorem q571 : (Jvm.Cond.methodLink "IntegerRadixHeapDeskLaw" (39 : Nat) ({ cls := "IntegerRadixHeapDeskModel", name := "isEmpty", desc := "(I)Z" } : Jvm.MethodName)) ∈ lw_all := lw_g (lw_at lw_m3 84 rfl) rfl
theorem q575 : (Jvm.Cond.methodLink "IntegerRadixHeapDeskLaw" (44 : Nat) ({ cls := "IntegerRadixHeapDeskModel", name := "renew", desc := "(I)V" } : Jvm.MethodName)) ∈ lw_all := lw_g (lw_at lw_m3 88 rfl) rfl
theorem q597 : (Jvm.Cond.castable "[B" "java/lang/Object") ∈ lw_tbl := lw_at lw_m3 110 rfl
set_option maxRecDepth 100000
theorem q599 : (Jvm.Cond.castable "[I" "java/lang/Object") ∈ lw_tbl := lw_at lw_m3 112 rfl
set_option maxRecDepth 100000
theorem q596 : (Jvm.Cond.castable "[LIntegerRadixHeap;" "java/lang/Object") ∈ lw_tbl := lw_at lw_m3 109 rfl
set_option maxRecDepth 100000
theorem q593 : (Jvm.Cond.sameMethod "[Ljava/lang/Object;" "java/lang/Object" "getClass" "()Ljava/lang/Class;") ∈ lw_all := lw_g (lw_at lw_m3 106 rfl) rfl
set_option maxRecDepth 100000
theorem q594 : (Jvm.Cond.selects "[Ljava/lang/Object;" ({ cls := "java/lang/Object", name := "getClass", desc := "()Ljava/lang/Class;" } : Jvm.MethodName) ({ cls := "java/lang/Object", name := "getClass", desc := "()Ljava/lang/Class;" } : Jvm.MethodName)) ∈ lw_all := lw_g (lw_at lw_m3 107 rfl) rfl
theorem q600 : (Jvm.Cond.castable "[Ljava/lang/Object;" "java/lang/Object") ∈ lw_tbl := lw_at lw_m3 113 rfl
theorem q598 : (Jvm.Cond.castable "[Ljava/util/List;" "java/lang/Object") ∈ lw_tbl := lw_at lw_m3 111 rfl
set_option maxRecDepth 100000
theorem q601 : (Jvm.Cond.fieldLink "java/lang/Class" (13 : Nat) "java/lang/Class" "componentType" "Ljava/lang/Class;") ∈ lw_all := lw_g (lw_at lw_m3 114 rfl) rfl
set_option maxRecDepth 100000
theorem q23 : (Jvm.Cond.initialized "java/lang/Float") ∈ lw_all := lw_g (lw_at lw_m1 16 rfl) rfl
set_option maxRecDepth 100000
theorem q284 : (Jvm.Cond.static ({ cls := "java/lang/Float", name := "floatToRawIntBits", desc := "(F)I" } : Jvm.MethodName)) ∈ lw_all := lw_g (lw_at lw_m2 37 rfl) rfl
theorem q285 : (Jvm.Cond.native ({ cls := "java/lang/Float", name := "floatToRawIntBits", desc := "(F)I" } : Jvm.MethodName)) ∈ lw_all := lw_g (lw_at lw_m2 38 rfl) rfl
theorem q17 : (Jvm.Cond.initialized "java/lang/Integer$IntegerCache") ∈ lw_all := lw_g (lw_at lw_m1 10 rfl) rfl
set_option maxRecDepth 100000
theorem q128 : (Jvm.Cond.laysStatic "java/lang/Integer$IntegerCache" "high" "I") ∈ lw_tbl := lw_at lw_m1 121 rfl
theorem q130 : (Jvm.Cond.laysStatic "java/lang/Integer$IntegerCache" "cache" "[Ljava/lang/Integer;") ∈ lw_tbl := lw_at lw_m1 123 rfl
theorem q592 : (Jvm.Cond.castable "java/lang/String" "java/lang/Object") ∈ lw_tbl := lw_at lw_m3 105 rfl
set_option maxRecDepth 100000
theorem q27 : (Jvm.Cond.initialized "java/lang/System") ∈ lw_all := lw_g (lw_at lw_m1 20 rfl) rfl
set_option maxRecDepth 100000
theorem q345 : (Jvm.Cond.static ({ cls := "java/lang/System", name := "arraycopy", desc := "(Ljava/lang/Object;ILjava/lang/Object;II)V" } : Jvm.MethodName)) ∈ lw_all := lw_g (lw_at lw_m2 98 rfl) rfl
theorem q346 : (Jvm.Cond.native ({ cls := "java/lang/System", name := "arraycopy", desc := "(Ljava/lang/Object;ILjava/lang/Object;II)V" } : Jvm.MethodName)) ∈ lw_all := lw_g (lw_at lw_m2 99 rfl) rfl
theorem q26 : (Jvm.Cond.initialized "java/lang/reflect/Array") ∈ lw_all := lw_g (lw_at lw_m1 19 rfl) rfl
set_option maxRecDepth 100000
theorem q474 : (Jvm.Cond.interfaceMethod "java/util/Iterator" "java/util/Iterator" "hasNext" "()Z") ∈ lw_tbl := lw_at lw_m2 227 rfl
set_option maxRecDepth 100000
theorem q475 : (Jvm.Cond.declares ({ cls := "java/util/Iterator", name := "hasNext", desc := "()Z" } : Jvm.MethodName)) ∈ lw_tbl := lw_at lw_m2 228 rfl
theorem q484 : (Jvm.Cond.interfaceMethod "java/util/Iterator" "java/util/Iterator" "next" "()Ljava/lang/Object;") ∈ lw_tbl := lw_at lw_m2 237 rfl
theorem q485 : (Jvm.Cond.declares ({ cls := "java/util/Iterator", name := "next", desc := "()Ljava/lang/Object;" } : Jvm.MethodName)) ∈ lw_tbl := lw_at lw_m2 238 rfl
theorem q292 : (Jvm.Cond.interfaceMethod "java/util/List" "java/util/List" "add" "(Ljava/lang/Object;)Z") ∈ lw_tbl := lw_at lw_m2 45 rfl
set_option maxRecDepth 100000
theorem q293 : (Jvm.Cond.declares ({ cls := "java/util/List", name := "add", desc := "(Ljava/lang/Object;)Z" } : Jvm.MethodName)) ∈ lw_tbl := lw_at lw_m2 46 rfl
theorem q351 : (Jvm.Cond.interfaceMethod "java/util/List" "java/util/List" "size" "()I") ∈ lw_tbl := lw_at lw_m2 104 rfl
theorem q352 : (Jvm.Cond.declares ({ cls := "java/util/List", name := "size", desc := "()I" } : Jvm.MethodName)) ∈ lw_tbl := lw_at lw_m2 105 rfl
theorem q413 : (Jvm.Cond.interfaceMethod "java/util/List" "java/util/List" "remove" "(I)Ljava/lang/Object;") ∈ lw_tbl := lw_at lw_m2 166 rfl
theorem q414 : (Jvm.Cond.declares ({ cls := "java/util/List", name := "remove", desc := "(I)Ljava/lang/Object;" } : Jvm.MethodName)) ∈ lw_tbl := lw_at lw_m2 167 rfl
theorem q437 : (Jvm.Cond.interfaceMethod "java/util/List" "java/util/List" "isEmpty" "()Z") ∈ lw_tbl := lw_at lw_m2 190 rfl
theorem q438 : (Jvm.Cond.declares ({ cls := "java/util/List", name := "isEmpty", desc := "()Z" } : Jvm.MethodName)) ∈ lw_tbl := lw_at lw_m2 191 rfl
theorem q446 : (Jvm.Cond.interfaceMethod "java/util/List" "java/util/List" "iterator" "()Ljava/util/Iterator;") ∈ lw_tbl := lw_at lw_m2 199 rfl
theorem q447 : (Jvm.Cond.declares ({ cls := "java/util/List", name := "iterator", desc := "()Ljava/util/Iterator;" } : Jvm.MethodName)) ∈ lw_tbl := lw_at lw_m2 200 rfl
theorem q497 : (Jvm.Cond.interfaceMethod "java/util/List" "java/util/List" "clear" "()V") ∈ lw_tbl := lw_at lw_m3 10 rfl
theorem q498 : (Jvm.Cond.declares ({ cls := "java/util/List", name := "clear", desc := "()V" } : Jvm.MethodName)) ∈ lw_tbl := lw_at lw_m3 11 rfl
theorem q583 : (Jvm.Cond.castable "java/util/List" "java/lang/Object") ∈ lw_tbl := lw_at lw_m3 96 rfl
theorem q44 : (Jvm.Cond.arrayOver (Jvm.ClassFile.FieldType.object "IntegerRadixHeap")) ∈ lw_tbl := lw_at lw_m1 37 rfl
set_option maxRecDepth 100000
theorem q123 : (Jvm.Cond.arrayClass Jvm.ClassFile.FieldType.byte) ∈ lw_all := lw_g (lw_at lw_m1 116 rfl) rfl
theorem q154 : (Jvm.Cond.arrayOver (Jvm.ClassFile.FieldType.object "java/util/List")) ∈ lw_tbl := lw_at lw_m1 147 rfl
theorem q230 : (Jvm.Cond.arrayClass Jvm.ClassFile.FieldType.int) ∈ lw_all := lw_g (lw_at lw_m1 223 rfl) rfl
theorem q341 : (Jvm.Cond.arrayOver (Jvm.ClassFile.FieldType.object "java/lang/Object")) ∈ lw_tbl := lw_at lw_m2 94 rfl
end
section
/-! IntegerRadixHeapDesk -/
set_option maxRecDepth 100000
def RX0 : String := "IntegerRadixHeapDesk"
def TX0 : u_T := fun k => match k with
  | 0 => ("IntegerRadixHeapDesk", "file", "[LIntegerRadixHeap;", true)
  | 1 => ("IntegerRadixHeapDesk", "floor", "[I", true)
  | _ => ("IntegerRadixHeapDesk", "puts", "I", false)
def tyX0 : Nat → FieldType := fun k => match k with
  | 0 => .array (.object "IntegerRadixHeap")
  | 1 => .array .int
  | _ => .int
abbrev wsX00 : List Cond := u_ws RX0 TX0 3
theorem nmX0 : ∀ a, a < 3 → ∀ b, b < 3 → a ≠ b → (TX0 a).2.1 ≠ (TX0 b).2.1 := by decide +kernel
theorem tyX0_ok : ∀ k, k < 3 → parseFieldDescriptor (TX0 k).2.2.1 = some (tyX0 k) := by decide +kernel
abbrev cX0_init : ByteArray := prog_3_method_1_code
def yX0_init : MethodName := ⟨RX0, "<init>", "()V"⟩
def dkwX0_init_0 : List UInt8 := [42, 183, 0, 1, 42, 184, 0, 7, 181, 0, 13, 42, 7, 188, 10, 181, 0, 17, 177]
abbrev dktX0_init_0 : List UInt8 := dkwX0_init_0 ++ []
theorem dksX0_init_0 : cX0_init.data.toList.drop 0 = dktX0_init_0 := by decide +kernel
theorem dX0_init_0 : decode cX0_init 0 = .ok (.aload_n 0, 1) := dk_42 (dk_at dksX0_init_0 0 rfl rfl)
theorem dX0_init_1 : decode cX0_init 1 = .ok (.invokespecial 1, 3) := dk_183 0 1 (dk_at dksX0_init_0 1 rfl rfl)
theorem dX0_init_4 : decode cX0_init 4 = .ok (.aload_n 0, 1) := dk_42 (dk_at dksX0_init_0 4 rfl rfl)
theorem dX0_init_5 : decode cX0_init 5 = .ok (.invokestatic 7, 3) := dk_184 0 7 (dk_at dksX0_init_0 5 rfl rfl)
theorem dX0_init_8 : decode cX0_init 8 = .ok (.putfield 13, 3) := dk_181 0 13 (dk_at dksX0_init_0 8 rfl rfl)
theorem dX0_init_11 : decode cX0_init 11 = .ok (.aload_n 0, 1) := dk_42 (dk_at dksX0_init_0 11 rfl rfl)
theorem dX0_init_12 : decode cX0_init 12 = .ok (.iconst 4, 1) := dk_7 (dk_at dksX0_init_0 12 rfl rfl)
theorem dX0_init_13 : decode cX0_init 13 = .ok (.newarray .int, 2) := dk_188_10 (dk_at dksX0_init_0 13 rfl rfl)
theorem dX0_init_15 : decode cX0_init 15 = .ok (.putfield 17, 3) := dk_181 0 17 (dk_at dksX0_init_0 15 rfl rfl)
theorem dX0_init_18 : decode cX0_init 18 = .ok (.return_, 1) := dk_177 (dk_at dksX0_init_0 18 rfl rfl)
abbrev cX0_make : ByteArray := prog_3_method_4_code
def yX0_make : MethodName := ⟨RX0, "make", "()[LIntegerRadixHeap;"⟩
def dkwX0_make_1 : List UInt8 := [42, 176]
abbrev dktX0_make_1 : List UInt8 := dkwX0_make_1 ++ []
def dkwX0_make_0 : List UInt8 := [7, 189, 0, 23, 75, 3, 60, 27, 7, 162, 0, 15, 42, 27, 184, 0, 25, 83, 132, 1, 1, 167, 255, 242]
abbrev dktX0_make_0 : List UInt8 := dkwX0_make_0 ++ dktX0_make_1
theorem dksX0_make_0 : cX0_make.data.toList.drop 0 = dktX0_make_0 := by decide +kernel
theorem dksX0_make_1 : cX0_make.data.toList.drop 24 = dktX0_make_1 := dk_seg dksX0_make_0 24 rfl rfl
theorem dX0_make_0 : decode cX0_make 0 = .ok (.iconst 4, 1) := dk_7 (dk_at dksX0_make_0 0 rfl rfl)
theorem dX0_make_1 : decode cX0_make 1 = .ok (.anewarray 23, 3) := dk_189 0 23 (dk_at dksX0_make_0 1 rfl rfl)
theorem dX0_make_4 : decode cX0_make 4 = .ok (.astore_n 0, 1) := dk_75 (dk_at dksX0_make_0 4 rfl rfl)
theorem dX0_make_5 : decode cX0_make 5 = .ok (.iconst 0, 1) := dk_3 (dk_at dksX0_make_0 5 rfl rfl)
theorem dX0_make_6 : decode cX0_make 6 = .ok (.istore_n 1, 1) := dk_60 (dk_at dksX0_make_0 6 rfl rfl)
theorem dX0_make_7 : decode cX0_make 7 = .ok (.iload_n 1, 1) := dk_27 (dk_at dksX0_make_0 7 rfl rfl)
theorem dX0_make_8 : decode cX0_make 8 = .ok (.iconst 4, 1) := dk_7 (dk_at dksX0_make_0 8 rfl rfl)
theorem dX0_make_9 : decode cX0_make 9 = .ok (.if_icmp .ge 15, 3) := dk_162 0 15 (dk_at dksX0_make_0 9 rfl rfl)
theorem dX0_make_12 : decode cX0_make 12 = .ok (.aload_n 0, 1) := dk_42 (dk_at dksX0_make_0 12 rfl rfl)
theorem dX0_make_13 : decode cX0_make 13 = .ok (.iload_n 1, 1) := dk_27 (dk_at dksX0_make_0 13 rfl rfl)
theorem dX0_make_14 : decode cX0_make 14 = .ok (.invokestatic 25, 3) := dk_184 0 25 (dk_at dksX0_make_0 14 rfl rfl)
theorem dX0_make_17 : decode cX0_make 17 = .ok (.aastore, 1) := dk_83 (dk_at dksX0_make_0 17 rfl rfl)
theorem dX0_make_18 : decode cX0_make 18 = .ok (.iinc 1 1, 3) := dk_132 1 1 (dk_at dksX0_make_0 18 rfl rfl)
theorem dX0_make_21 : decode cX0_make 21 = .ok (.goto (-14), 3) := dk_167 255 242 (dk_at dksX0_make_0 21 rfl rfl)
theorem dX0_make_24 : decode cX0_make 24 = .ok (.aload_n 0, 1) := dk_42 (dk_at dksX0_make_1 0 rfl rfl)
theorem dX0_make_25 : decode cX0_make 25 = .ok (.areturn, 1) := dk_176 (dk_at dksX0_make_1 1 rfl rfl)
abbrev cX0_fresh : ByteArray := prog_3_method_5_code
def yX0_fresh : MethodName := ⟨RX0, "fresh", "()LIntegerRadixHeap;"⟩
def dkwX0_fresh_0 : List UInt8 := [187, 0, 23, 89, 3, 18, 29, 183, 0, 30, 176]
abbrev dktX0_fresh_0 : List UInt8 := dkwX0_fresh_0 ++ []
theorem dksX0_fresh_0 : cX0_fresh.data.toList.drop 0 = dktX0_fresh_0 := by decide +kernel
theorem dX0_fresh_0 : decode cX0_fresh 0 = .ok (.new 23, 3) := dk_187 0 23 (dk_at dksX0_fresh_0 0 rfl rfl)
theorem dX0_fresh_3 : decode cX0_fresh 3 = .ok (.dup, 1) := dk_89 (dk_at dksX0_fresh_0 3 rfl rfl)
theorem dX0_fresh_4 : decode cX0_fresh 4 = .ok (.iconst 0, 1) := dk_3 (dk_at dksX0_fresh_0 4 rfl rfl)
theorem dX0_fresh_5 : decode cX0_fresh 5 = .ok (.ldc 29, 2) := dk_18 29 (dk_at dksX0_fresh_0 5 rfl rfl)
theorem dX0_fresh_7 : decode cX0_fresh 7 = .ok (.invokespecial 30, 3) := dk_183 0 30 (dk_at dksX0_fresh_0 7 rfl rfl)
theorem dX0_fresh_10 : decode cX0_fresh 10 = .ok (.areturn, 1) := dk_176 (dk_at dksX0_fresh_0 10 rfl rfl)
abbrev cX0_log : ByteArray := prog_3_method_3_code
def yX0_log : MethodName := ⟨RX0, "log", "(D)D"⟩
def dkwX0_log_1 : List UInt8 := [167, 255, 239, 21, 4, 135, 40, 15, 103, 99, 175]
abbrev dktX0_log_1 : List UInt8 := dkwX0_log_1 ++ []
def dkwX0_log_0 : List UInt8 := [38, 73, 3, 54, 4, 40, 20, 0, 21, 151, 155, 0, 15, 40, 20, 0, 21, 111, 73, 132, 4, 1]
abbrev dktX0_log_0 : List UInt8 := dkwX0_log_0 ++ dktX0_log_1
theorem dksX0_log_0 : cX0_log.data.toList.drop 0 = dktX0_log_0 := by decide +kernel
theorem dksX0_log_1 : cX0_log.data.toList.drop 22 = dktX0_log_1 := dk_seg dksX0_log_0 22 rfl rfl
theorem dX0_log_0 : decode cX0_log 0 = .ok (.dload_n 0, 1) := dk_38 (dk_at dksX0_log_0 0 rfl rfl)
theorem dX0_log_1 : decode cX0_log 1 = .ok (.dstore_n 2, 1) := dk_73 (dk_at dksX0_log_0 1 rfl rfl)
theorem dX0_log_2 : decode cX0_log 2 = .ok (.iconst 0, 1) := dk_3 (dk_at dksX0_log_0 2 rfl rfl)
theorem dX0_log_3 : decode cX0_log 3 = .ok (.istore 4, 2) := dk_54 4 (dk_at dksX0_log_0 3 rfl rfl)
theorem dX0_log_5 : decode cX0_log 5 = .ok (.dload_n 2, 1) := dk_40 (dk_at dksX0_log_0 5 rfl rfl)
theorem dX0_log_6 : decode cX0_log 6 = .ok (.ldc2_w 21, 3) := dk_20 0 21 (dk_at dksX0_log_0 6 rfl rfl)
theorem dX0_log_9 : decode cX0_log 9 = .ok (.dcmp .l, 1) := dk_151 (dk_at dksX0_log_0 9 rfl rfl)
theorem dX0_log_10 : decode cX0_log 10 = .ok (.ifCond .lt 15, 3) := dk_155 0 15 (dk_at dksX0_log_0 10 rfl rfl)
theorem dX0_log_13 : decode cX0_log 13 = .ok (.dload_n 2, 1) := dk_40 (dk_at dksX0_log_0 13 rfl rfl)
theorem dX0_log_14 : decode cX0_log 14 = .ok (.ldc2_w 21, 3) := dk_20 0 21 (dk_at dksX0_log_0 14 rfl rfl)
theorem dX0_log_17 : decode cX0_log 17 = .ok (.ddiv, 1) := dk_111 (dk_at dksX0_log_0 17 rfl rfl)
theorem dX0_log_18 : decode cX0_log 18 = .ok (.dstore_n 2, 1) := dk_73 (dk_at dksX0_log_0 18 rfl rfl)
theorem dX0_log_19 : decode cX0_log 19 = .ok (.iinc 4 1, 3) := dk_132 4 1 (dk_at dksX0_log_0 19 rfl rfl)
theorem dX0_log_22 : decode cX0_log 22 = .ok (.goto (-17), 3) := dk_167 255 239 (dk_at dksX0_log_1 0 rfl rfl)
theorem dX0_log_25 : decode cX0_log 25 = .ok (.iload 4, 2) := dk_21 4 (dk_at dksX0_log_1 3 rfl rfl)
theorem dX0_log_27 : decode cX0_log 27 = .ok (.i2d, 1) := dk_135 (dk_at dksX0_log_1 5 rfl rfl)
theorem dX0_log_28 : decode cX0_log 28 = .ok (.dload_n 2, 1) := dk_40 (dk_at dksX0_log_1 6 rfl rfl)
theorem dX0_log_29 : decode cX0_log 29 = .ok (.dconst 1, 1) := dk_15 (dk_at dksX0_log_1 7 rfl rfl)
theorem dX0_log_30 : decode cX0_log 30 = .ok (.dsub, 1) := dk_103 (dk_at dksX0_log_1 8 rfl rfl)
theorem dX0_log_31 : decode cX0_log 31 = .ok (.dadd, 1) := dk_99 (dk_at dksX0_log_1 9 rfl rfl)
theorem dX0_log_32 : decode cX0_log 32 = .ok (.dreturn, 1) := dk_175 (dk_at dksX0_log_1 10 rfl rfl)
abbrev cX0_floor : ByteArray := prog_3_method_2_code
def yX0_floor : MethodName := ⟨RX0, "floor", "(D)D"⟩
def dkwX0_floor_0 : List UInt8 := [38, 143, 65, 32, 138, 38, 151, 158, 0, 10, 32, 10, 101, 138, 167, 0, 5, 32, 138, 175]
abbrev dktX0_floor_0 : List UInt8 := dkwX0_floor_0 ++ []
theorem dksX0_floor_0 : cX0_floor.data.toList.drop 0 = dktX0_floor_0 := by decide +kernel
theorem dX0_floor_0 : decode cX0_floor 0 = .ok (.dload_n 0, 1) := dk_38 (dk_at dksX0_floor_0 0 rfl rfl)
theorem dX0_floor_1 : decode cX0_floor 1 = .ok (.d2l, 1) := dk_143 (dk_at dksX0_floor_0 1 rfl rfl)
theorem dX0_floor_2 : decode cX0_floor 2 = .ok (.lstore_n 2, 1) := dk_65 (dk_at dksX0_floor_0 2 rfl rfl)
theorem dX0_floor_3 : decode cX0_floor 3 = .ok (.lload_n 2, 1) := dk_32 (dk_at dksX0_floor_0 3 rfl rfl)
theorem dX0_floor_4 : decode cX0_floor 4 = .ok (.l2d, 1) := dk_138 (dk_at dksX0_floor_0 4 rfl rfl)
theorem dX0_floor_5 : decode cX0_floor 5 = .ok (.dload_n 0, 1) := dk_38 (dk_at dksX0_floor_0 5 rfl rfl)
theorem dX0_floor_6 : decode cX0_floor 6 = .ok (.dcmp .l, 1) := dk_151 (dk_at dksX0_floor_0 6 rfl rfl)
theorem dX0_floor_7 : decode cX0_floor 7 = .ok (.ifCond .le 10, 3) := dk_158 0 10 (dk_at dksX0_floor_0 7 rfl rfl)
theorem dX0_floor_10 : decode cX0_floor 10 = .ok (.lload_n 2, 1) := dk_32 (dk_at dksX0_floor_0 10 rfl rfl)
theorem dX0_floor_11 : decode cX0_floor 11 = .ok (.lconst 1, 1) := dk_10 (dk_at dksX0_floor_0 11 rfl rfl)
theorem dX0_floor_12 : decode cX0_floor 12 = .ok (.lsub, 1) := dk_101 (dk_at dksX0_floor_0 12 rfl rfl)
theorem dX0_floor_13 : decode cX0_floor 13 = .ok (.l2d, 1) := dk_138 (dk_at dksX0_floor_0 13 rfl rfl)
theorem dX0_floor_14 : decode cX0_floor 14 = .ok (.goto 5, 3) := dk_167 0 5 (dk_at dksX0_floor_0 14 rfl rfl)
theorem dX0_floor_17 : decode cX0_floor 17 = .ok (.lload_n 2, 1) := dk_32 (dk_at dksX0_floor_0 17 rfl rfl)
theorem dX0_floor_18 : decode cX0_floor 18 = .ok (.l2d, 1) := dk_138 (dk_at dksX0_floor_0 18 rfl rfl)
theorem dX0_floor_19 : decode cX0_floor 19 = .ok (.dreturn, 1) := dk_175 (dk_at dksX0_floor_0 19 rfl rfl)
abbrev cX0_put : ByteArray := prog_3_method_7_code
def yX0_put : MethodName := ⟨RX0, "put", "(II)Z"⟩
def dkwX0_put_2 : List UInt8 := [29, 50, 21, 4, 184, 0, 41, 182, 0, 47, 4, 172]
abbrev dktX0_put_2 : List UInt8 := dkwX0_put_2 ++ []
def dkwX0_put_1 : List UInt8 := [180, 0, 17, 29, 46, 162, 0, 5, 3, 172, 42, 89, 180, 0, 37, 4, 96, 181, 0, 37, 42, 180, 0, 13]
abbrev dktX0_put_1 : List UInt8 := dkwX0_put_1 ++ dktX0_put_2
def dkwX0_put_0 : List UInt8 := [27, 6, 126, 62, 28, 184, 0, 33, 54, 4, 42, 180, 0, 37, 16, 64, 162, 0, 14, 21, 4, 42]
abbrev dktX0_put_0 : List UInt8 := dkwX0_put_0 ++ dktX0_put_1
theorem dksX0_put_0 : cX0_put.data.toList.drop 0 = dktX0_put_0 := by decide +kernel
theorem dksX0_put_1 : cX0_put.data.toList.drop 22 = dktX0_put_1 := dk_seg dksX0_put_0 22 rfl rfl
theorem dksX0_put_2 : cX0_put.data.toList.drop 46 = dktX0_put_2 := dk_seg dksX0_put_1 24 rfl rfl
theorem dX0_put_0 : decode cX0_put 0 = .ok (.iload_n 1, 1) := dk_27 (dk_at dksX0_put_0 0 rfl rfl)
theorem dX0_put_1 : decode cX0_put 1 = .ok (.iconst 3, 1) := dk_6 (dk_at dksX0_put_0 1 rfl rfl)
theorem dX0_put_2 : decode cX0_put 2 = .ok (.iand, 1) := dk_126 (dk_at dksX0_put_0 2 rfl rfl)
theorem dX0_put_3 : decode cX0_put 3 = .ok (.istore_n 3, 1) := dk_62 (dk_at dksX0_put_0 3 rfl rfl)
theorem dX0_put_4 : decode cX0_put 4 = .ok (.iload_n 2, 1) := dk_28 (dk_at dksX0_put_0 4 rfl rfl)
theorem dX0_put_5 : decode cX0_put 5 = .ok (.invokestatic 33, 3) := dk_184 0 33 (dk_at dksX0_put_0 5 rfl rfl)
theorem dX0_put_8 : decode cX0_put 8 = .ok (.istore 4, 2) := dk_54 4 (dk_at dksX0_put_0 8 rfl rfl)
theorem dX0_put_10 : decode cX0_put 10 = .ok (.aload_n 0, 1) := dk_42 (dk_at dksX0_put_0 10 rfl rfl)
theorem dX0_put_11 : decode cX0_put 11 = .ok (.getfield 37, 3) := dk_180 0 37 (dk_at dksX0_put_0 11 rfl rfl)
theorem dX0_put_14 : decode cX0_put 14 = .ok (.bipush 64, 2) := dk_16 64 (dk_at dksX0_put_0 14 rfl rfl)
theorem dX0_put_16 : decode cX0_put 16 = .ok (.if_icmp .ge 14, 3) := dk_162 0 14 (dk_at dksX0_put_0 16 rfl rfl)
theorem dX0_put_19 : decode cX0_put 19 = .ok (.iload 4, 2) := dk_21 4 (dk_at dksX0_put_0 19 rfl rfl)
theorem dX0_put_21 : decode cX0_put 21 = .ok (.aload_n 0, 1) := dk_42 (dk_at dksX0_put_0 21 rfl rfl)
theorem dX0_put_22 : decode cX0_put 22 = .ok (.getfield 17, 3) := dk_180 0 17 (dk_at dksX0_put_1 0 rfl rfl)
theorem dX0_put_25 : decode cX0_put 25 = .ok (.iload_n 3, 1) := dk_29 (dk_at dksX0_put_1 3 rfl rfl)
theorem dX0_put_26 : decode cX0_put 26 = .ok (.iaload, 1) := dk_46 (dk_at dksX0_put_1 4 rfl rfl)
theorem dX0_put_27 : decode cX0_put 27 = .ok (.if_icmp .ge 5, 3) := dk_162 0 5 (dk_at dksX0_put_1 5 rfl rfl)
theorem dX0_put_30 : decode cX0_put 30 = .ok (.iconst 0, 1) := dk_3 (dk_at dksX0_put_1 8 rfl rfl)
theorem dX0_put_31 : decode cX0_put 31 = .ok (.ireturn, 1) := dk_172 (dk_at dksX0_put_1 9 rfl rfl)
theorem dX0_put_32 : decode cX0_put 32 = .ok (.aload_n 0, 1) := dk_42 (dk_at dksX0_put_1 10 rfl rfl)
theorem dX0_put_33 : decode cX0_put 33 = .ok (.dup, 1) := dk_89 (dk_at dksX0_put_1 11 rfl rfl)
theorem dX0_put_34 : decode cX0_put 34 = .ok (.getfield 37, 3) := dk_180 0 37 (dk_at dksX0_put_1 12 rfl rfl)
theorem dX0_put_37 : decode cX0_put 37 = .ok (.iconst 1, 1) := dk_4 (dk_at dksX0_put_1 15 rfl rfl)
theorem dX0_put_38 : decode cX0_put 38 = .ok (.iadd, 1) := dk_96 (dk_at dksX0_put_1 16 rfl rfl)
theorem dX0_put_39 : decode cX0_put 39 = .ok (.putfield 37, 3) := dk_181 0 37 (dk_at dksX0_put_1 17 rfl rfl)
theorem dX0_put_42 : decode cX0_put 42 = .ok (.aload_n 0, 1) := dk_42 (dk_at dksX0_put_1 20 rfl rfl)
theorem dX0_put_43 : decode cX0_put 43 = .ok (.getfield 13, 3) := dk_180 0 13 (dk_at dksX0_put_1 21 rfl rfl)
theorem dX0_put_46 : decode cX0_put 46 = .ok (.iload_n 3, 1) := dk_29 (dk_at dksX0_put_2 0 rfl rfl)
theorem dX0_put_47 : decode cX0_put 47 = .ok (.aaload, 1) := dk_50 (dk_at dksX0_put_2 1 rfl rfl)
theorem dX0_put_48 : decode cX0_put 48 = .ok (.iload 4, 2) := dk_21 4 (dk_at dksX0_put_2 2 rfl rfl)
theorem dX0_put_50 : decode cX0_put 50 = .ok (.invokestatic 41, 3) := dk_184 0 41 (dk_at dksX0_put_2 4 rfl rfl)
theorem dX0_put_53 : decode cX0_put 53 = .ok (.invokevirtual 47, 3) := dk_182 0 47 (dk_at dksX0_put_2 7 rfl rfl)
theorem dX0_put_56 : decode cX0_put 56 = .ok (.iconst 1, 1) := dk_4 (dk_at dksX0_put_2 10 rfl rfl)
theorem dX0_put_57 : decode cX0_put 57 = .ok (.ireturn, 1) := dk_172 (dk_at dksX0_put_2 11 rfl rfl)
abbrev cX0_told : ByteArray := prog_3_method_6_code
def yX0_told : MethodName := ⟨RX0, "told", "(I)I"⟩
def dkwX0_told_0 : List UInt8 := [26, 18, 29, 126, 172]
abbrev dktX0_told_0 : List UInt8 := dkwX0_told_0 ++ []
theorem dksX0_told_0 : cX0_told.data.toList.drop 0 = dktX0_told_0 := by decide +kernel
theorem dX0_told_0 : decode cX0_told 0 = .ok (.iload_n 0, 1) := dk_26 (dk_at dksX0_told_0 0 rfl rfl)
theorem dX0_told_1 : decode cX0_told 1 = .ok (.ldc 29, 2) := dk_18 29 (dk_at dksX0_told_0 1 rfl rfl)
theorem dX0_told_3 : decode cX0_told 3 = .ok (.iand, 1) := dk_126 (dk_at dksX0_told_0 3 rfl rfl)
theorem dX0_told_4 : decode cX0_told 4 = .ok (.ireturn, 1) := dk_172 (dk_at dksX0_told_0 4 rfl rfl)
abbrev cX0_above : ByteArray := prog_3_method_8_code
def yX0_above : MethodName := ⟨RX0, "above", "(II)Z"⟩
def dkwX0_above_2 : List UInt8 := [180, 0, 13, 29, 50, 21, 4, 184, 0, 41, 182, 0, 47, 4, 172]
abbrev dktX0_above_2 : List UInt8 := dkwX0_above_2 ++ []
def dkwX0_above_1 : List UInt8 := [162, 0, 10, 21, 4, 18, 29, 164, 0, 5, 3, 172, 42, 89, 180, 0, 37, 4, 96, 181, 0, 37, 42]
abbrev dktX0_above_1 : List UInt8 := dkwX0_above_1 ++ dktX0_above_2
def dkwX0_above_0 : List UInt8 := [27, 6, 126, 62, 42, 180, 0, 17, 29, 46, 28, 17, 3, 255, 126, 96, 54, 4, 42, 180, 0, 37, 16, 64]
abbrev dktX0_above_0 : List UInt8 := dkwX0_above_0 ++ dktX0_above_1
theorem dksX0_above_0 : cX0_above.data.toList.drop 0 = dktX0_above_0 := by decide +kernel
theorem dksX0_above_1 : cX0_above.data.toList.drop 24 = dktX0_above_1 := dk_seg dksX0_above_0 24 rfl rfl
theorem dksX0_above_2 : cX0_above.data.toList.drop 47 = dktX0_above_2 := dk_seg dksX0_above_1 23 rfl rfl
theorem dX0_above_0 : decode cX0_above 0 = .ok (.iload_n 1, 1) := dk_27 (dk_at dksX0_above_0 0 rfl rfl)
theorem dX0_above_1 : decode cX0_above 1 = .ok (.iconst 3, 1) := dk_6 (dk_at dksX0_above_0 1 rfl rfl)
theorem dX0_above_2 : decode cX0_above 2 = .ok (.iand, 1) := dk_126 (dk_at dksX0_above_0 2 rfl rfl)
theorem dX0_above_3 : decode cX0_above 3 = .ok (.istore_n 3, 1) := dk_62 (dk_at dksX0_above_0 3 rfl rfl)
theorem dX0_above_4 : decode cX0_above 4 = .ok (.aload_n 0, 1) := dk_42 (dk_at dksX0_above_0 4 rfl rfl)
theorem dX0_above_5 : decode cX0_above 5 = .ok (.getfield 17, 3) := dk_180 0 17 (dk_at dksX0_above_0 5 rfl rfl)
theorem dX0_above_8 : decode cX0_above 8 = .ok (.iload_n 3, 1) := dk_29 (dk_at dksX0_above_0 8 rfl rfl)
theorem dX0_above_9 : decode cX0_above 9 = .ok (.iaload, 1) := dk_46 (dk_at dksX0_above_0 9 rfl rfl)
theorem dX0_above_10 : decode cX0_above 10 = .ok (.iload_n 2, 1) := dk_28 (dk_at dksX0_above_0 10 rfl rfl)
theorem dX0_above_11 : decode cX0_above 11 = .ok (.sipush 1023, 3) := dk_17 3 255 (dk_at dksX0_above_0 11 rfl rfl)
theorem dX0_above_14 : decode cX0_above 14 = .ok (.iand, 1) := dk_126 (dk_at dksX0_above_0 14 rfl rfl)
theorem dX0_above_15 : decode cX0_above 15 = .ok (.iadd, 1) := dk_96 (dk_at dksX0_above_0 15 rfl rfl)
theorem dX0_above_16 : decode cX0_above 16 = .ok (.istore 4, 2) := dk_54 4 (dk_at dksX0_above_0 16 rfl rfl)
theorem dX0_above_18 : decode cX0_above 18 = .ok (.aload_n 0, 1) := dk_42 (dk_at dksX0_above_0 18 rfl rfl)
theorem dX0_above_19 : decode cX0_above 19 = .ok (.getfield 37, 3) := dk_180 0 37 (dk_at dksX0_above_0 19 rfl rfl)
theorem dX0_above_22 : decode cX0_above 22 = .ok (.bipush 64, 2) := dk_16 64 (dk_at dksX0_above_0 22 rfl rfl)
theorem dX0_above_24 : decode cX0_above 24 = .ok (.if_icmp .ge 10, 3) := dk_162 0 10 (dk_at dksX0_above_1 0 rfl rfl)
theorem dX0_above_27 : decode cX0_above 27 = .ok (.iload 4, 2) := dk_21 4 (dk_at dksX0_above_1 3 rfl rfl)
theorem dX0_above_29 : decode cX0_above 29 = .ok (.ldc 29, 2) := dk_18 29 (dk_at dksX0_above_1 5 rfl rfl)
theorem dX0_above_31 : decode cX0_above 31 = .ok (.if_icmp .le 5, 3) := dk_164 0 5 (dk_at dksX0_above_1 7 rfl rfl)
theorem dX0_above_34 : decode cX0_above 34 = .ok (.iconst 0, 1) := dk_3 (dk_at dksX0_above_1 10 rfl rfl)
theorem dX0_above_35 : decode cX0_above 35 = .ok (.ireturn, 1) := dk_172 (dk_at dksX0_above_1 11 rfl rfl)
theorem dX0_above_36 : decode cX0_above 36 = .ok (.aload_n 0, 1) := dk_42 (dk_at dksX0_above_1 12 rfl rfl)
theorem dX0_above_37 : decode cX0_above 37 = .ok (.dup, 1) := dk_89 (dk_at dksX0_above_1 13 rfl rfl)
theorem dX0_above_38 : decode cX0_above 38 = .ok (.getfield 37, 3) := dk_180 0 37 (dk_at dksX0_above_1 14 rfl rfl)
theorem dX0_above_41 : decode cX0_above 41 = .ok (.iconst 1, 1) := dk_4 (dk_at dksX0_above_1 17 rfl rfl)
theorem dX0_above_42 : decode cX0_above 42 = .ok (.iadd, 1) := dk_96 (dk_at dksX0_above_1 18 rfl rfl)
theorem dX0_above_43 : decode cX0_above 43 = .ok (.putfield 37, 3) := dk_181 0 37 (dk_at dksX0_above_1 19 rfl rfl)
theorem dX0_above_46 : decode cX0_above 46 = .ok (.aload_n 0, 1) := dk_42 (dk_at dksX0_above_1 22 rfl rfl)
theorem dX0_above_47 : decode cX0_above 47 = .ok (.getfield 13, 3) := dk_180 0 13 (dk_at dksX0_above_2 0 rfl rfl)
theorem dX0_above_50 : decode cX0_above 50 = .ok (.iload_n 3, 1) := dk_29 (dk_at dksX0_above_2 3 rfl rfl)
theorem dX0_above_51 : decode cX0_above 51 = .ok (.aaload, 1) := dk_50 (dk_at dksX0_above_2 4 rfl rfl)
theorem dX0_above_52 : decode cX0_above 52 = .ok (.iload 4, 2) := dk_21 4 (dk_at dksX0_above_2 5 rfl rfl)
theorem dX0_above_54 : decode cX0_above 54 = .ok (.invokestatic 41, 3) := dk_184 0 41 (dk_at dksX0_above_2 7 rfl rfl)
theorem dX0_above_57 : decode cX0_above 57 = .ok (.invokevirtual 47, 3) := dk_182 0 47 (dk_at dksX0_above_2 10 rfl rfl)
theorem dX0_above_60 : decode cX0_above 60 = .ok (.iconst 1, 1) := dk_4 (dk_at dksX0_above_2 13 rfl rfl)
theorem dX0_above_61 : decode cX0_above 61 = .ok (.ireturn, 1) := dk_172 (dk_at dksX0_above_2 14 rfl rfl)
abbrev cX0_least : ByteArray := prog_3_method_9_code
def yX0_least : MethodName := ⟨RX0, "least", "(I)I"⟩
def dkwX0_least_1 : List UInt8 := [192, 0, 42, 182, 0, 59, 172]
abbrev dktX0_least_1 : List UInt8 := dkwX0_least_1 ++ []
def dkwX0_least_0 : List UInt8 := [42, 180, 0, 13, 27, 6, 126, 50, 77, 44, 182, 0, 51, 153, 0, 7, 2, 167, 0, 13, 44, 182, 0, 55]
abbrev dktX0_least_0 : List UInt8 := dkwX0_least_0 ++ dktX0_least_1
theorem dksX0_least_0 : cX0_least.data.toList.drop 0 = dktX0_least_0 := by decide +kernel
theorem dksX0_least_1 : cX0_least.data.toList.drop 24 = dktX0_least_1 := dk_seg dksX0_least_0 24 rfl rfl
theorem dX0_least_0 : decode cX0_least 0 = .ok (.aload_n 0, 1) := dk_42 (dk_at dksX0_least_0 0 rfl rfl)
theorem dX0_least_1 : decode cX0_least 1 = .ok (.getfield 13, 3) := dk_180 0 13 (dk_at dksX0_least_0 1 rfl rfl)
theorem dX0_least_4 : decode cX0_least 4 = .ok (.iload_n 1, 1) := dk_27 (dk_at dksX0_least_0 4 rfl rfl)
theorem dX0_least_5 : decode cX0_least 5 = .ok (.iconst 3, 1) := dk_6 (dk_at dksX0_least_0 5 rfl rfl)
theorem dX0_least_6 : decode cX0_least 6 = .ok (.iand, 1) := dk_126 (dk_at dksX0_least_0 6 rfl rfl)
theorem dX0_least_7 : decode cX0_least 7 = .ok (.aaload, 1) := dk_50 (dk_at dksX0_least_0 7 rfl rfl)
theorem dX0_least_8 : decode cX0_least 8 = .ok (.astore_n 2, 1) := dk_77 (dk_at dksX0_least_0 8 rfl rfl)
theorem dX0_least_9 : decode cX0_least 9 = .ok (.aload_n 2, 1) := dk_44 (dk_at dksX0_least_0 9 rfl rfl)
theorem dX0_least_10 : decode cX0_least 10 = .ok (.invokevirtual 51, 3) := dk_182 0 51 (dk_at dksX0_least_0 10 rfl rfl)
theorem dX0_least_13 : decode cX0_least 13 = .ok (.ifCond .eq 7, 3) := dk_153 0 7 (dk_at dksX0_least_0 13 rfl rfl)
theorem dX0_least_16 : decode cX0_least 16 = .ok (.iconst (-1), 1) := dk_2 (dk_at dksX0_least_0 16 rfl rfl)
theorem dX0_least_17 : decode cX0_least 17 = .ok (.goto 13, 3) := dk_167 0 13 (dk_at dksX0_least_0 17 rfl rfl)
theorem dX0_least_20 : decode cX0_least 20 = .ok (.aload_n 2, 1) := dk_44 (dk_at dksX0_least_0 20 rfl rfl)
theorem dX0_least_21 : decode cX0_least 21 = .ok (.invokevirtual 55, 3) := dk_182 0 55 (dk_at dksX0_least_0 21 rfl rfl)
theorem dX0_least_24 : decode cX0_least 24 = .ok (.checkcast 42, 3) := dk_192 0 42 (dk_at dksX0_least_1 0 rfl rfl)
theorem dX0_least_27 : decode cX0_least 27 = .ok (.invokevirtual 59, 3) := dk_182 0 59 (dk_at dksX0_least_1 3 rfl rfl)
theorem dX0_least_30 : decode cX0_least 30 = .ok (.ireturn, 1) := dk_172 (dk_at dksX0_least_1 6 rfl rfl)
abbrev cX0_takeLeast : ByteArray := prog_3_method_10_code
def yX0_takeLeast : MethodName := ⟨RX0, "takeLeast", "(I)I"⟩
def dkwX0_takeLeast_1 : List UInt8 := [192, 0, 42, 182, 0, 59, 62, 42, 180, 0, 17, 27, 6, 126, 29, 79, 29, 172]
abbrev dktX0_takeLeast_1 : List UInt8 := dkwX0_takeLeast_1 ++ []
def dkwX0_takeLeast_0 : List UInt8 := [42, 180, 0, 13, 27, 6, 126, 50, 77, 44, 182, 0, 51, 153, 0, 5, 2, 172, 44, 182, 0, 63]
abbrev dktX0_takeLeast_0 : List UInt8 := dkwX0_takeLeast_0 ++ dktX0_takeLeast_1
theorem dksX0_takeLeast_0 : cX0_takeLeast.data.toList.drop 0 = dktX0_takeLeast_0 := by decide +kernel
theorem dksX0_takeLeast_1 : cX0_takeLeast.data.toList.drop 22 = dktX0_takeLeast_1 := dk_seg dksX0_takeLeast_0 22 rfl rfl
theorem dX0_takeLeast_0 : decode cX0_takeLeast 0 = .ok (.aload_n 0, 1) := dk_42 (dk_at dksX0_takeLeast_0 0 rfl rfl)
theorem dX0_takeLeast_1 : decode cX0_takeLeast 1 = .ok (.getfield 13, 3) := dk_180 0 13 (dk_at dksX0_takeLeast_0 1 rfl rfl)
theorem dX0_takeLeast_4 : decode cX0_takeLeast 4 = .ok (.iload_n 1, 1) := dk_27 (dk_at dksX0_takeLeast_0 4 rfl rfl)
theorem dX0_takeLeast_5 : decode cX0_takeLeast 5 = .ok (.iconst 3, 1) := dk_6 (dk_at dksX0_takeLeast_0 5 rfl rfl)
theorem dX0_takeLeast_6 : decode cX0_takeLeast 6 = .ok (.iand, 1) := dk_126 (dk_at dksX0_takeLeast_0 6 rfl rfl)
theorem dX0_takeLeast_7 : decode cX0_takeLeast 7 = .ok (.aaload, 1) := dk_50 (dk_at dksX0_takeLeast_0 7 rfl rfl)
theorem dX0_takeLeast_8 : decode cX0_takeLeast 8 = .ok (.astore_n 2, 1) := dk_77 (dk_at dksX0_takeLeast_0 8 rfl rfl)
theorem dX0_takeLeast_9 : decode cX0_takeLeast 9 = .ok (.aload_n 2, 1) := dk_44 (dk_at dksX0_takeLeast_0 9 rfl rfl)
theorem dX0_takeLeast_10 : decode cX0_takeLeast 10 = .ok (.invokevirtual 51, 3) := dk_182 0 51 (dk_at dksX0_takeLeast_0 10 rfl rfl)
theorem dX0_takeLeast_13 : decode cX0_takeLeast 13 = .ok (.ifCond .eq 5, 3) := dk_153 0 5 (dk_at dksX0_takeLeast_0 13 rfl rfl)
theorem dX0_takeLeast_16 : decode cX0_takeLeast 16 = .ok (.iconst (-1), 1) := dk_2 (dk_at dksX0_takeLeast_0 16 rfl rfl)
theorem dX0_takeLeast_17 : decode cX0_takeLeast 17 = .ok (.ireturn, 1) := dk_172 (dk_at dksX0_takeLeast_0 17 rfl rfl)
theorem dX0_takeLeast_18 : decode cX0_takeLeast 18 = .ok (.aload_n 2, 1) := dk_44 (dk_at dksX0_takeLeast_0 18 rfl rfl)
theorem dX0_takeLeast_19 : decode cX0_takeLeast 19 = .ok (.invokevirtual 63, 3) := dk_182 0 63 (dk_at dksX0_takeLeast_0 19 rfl rfl)
theorem dX0_takeLeast_22 : decode cX0_takeLeast 22 = .ok (.checkcast 42, 3) := dk_192 0 42 (dk_at dksX0_takeLeast_1 0 rfl rfl)
theorem dX0_takeLeast_25 : decode cX0_takeLeast 25 = .ok (.invokevirtual 59, 3) := dk_182 0 59 (dk_at dksX0_takeLeast_1 3 rfl rfl)
theorem dX0_takeLeast_28 : decode cX0_takeLeast 28 = .ok (.istore_n 3, 1) := dk_62 (dk_at dksX0_takeLeast_1 6 rfl rfl)
theorem dX0_takeLeast_29 : decode cX0_takeLeast 29 = .ok (.aload_n 0, 1) := dk_42 (dk_at dksX0_takeLeast_1 7 rfl rfl)
theorem dX0_takeLeast_30 : decode cX0_takeLeast 30 = .ok (.getfield 17, 3) := dk_180 0 17 (dk_at dksX0_takeLeast_1 8 rfl rfl)
theorem dX0_takeLeast_33 : decode cX0_takeLeast 33 = .ok (.iload_n 1, 1) := dk_27 (dk_at dksX0_takeLeast_1 11 rfl rfl)
theorem dX0_takeLeast_34 : decode cX0_takeLeast 34 = .ok (.iconst 3, 1) := dk_6 (dk_at dksX0_takeLeast_1 12 rfl rfl)
theorem dX0_takeLeast_35 : decode cX0_takeLeast 35 = .ok (.iand, 1) := dk_126 (dk_at dksX0_takeLeast_1 13 rfl rfl)
theorem dX0_takeLeast_36 : decode cX0_takeLeast 36 = .ok (.iload_n 3, 1) := dk_29 (dk_at dksX0_takeLeast_1 14 rfl rfl)
theorem dX0_takeLeast_37 : decode cX0_takeLeast 37 = .ok (.iastore, 1) := dk_79 (dk_at dksX0_takeLeast_1 15 rfl rfl)
theorem dX0_takeLeast_38 : decode cX0_takeLeast 38 = .ok (.iload_n 3, 1) := dk_29 (dk_at dksX0_takeLeast_1 16 rfl rfl)
theorem dX0_takeLeast_39 : decode cX0_takeLeast 39 = .ok (.ireturn, 1) := dk_172 (dk_at dksX0_takeLeast_1 17 rfl rfl)
abbrev cX0_size : ByteArray := prog_3_method_11_code
def yX0_size : MethodName := ⟨RX0, "size", "(I)I"⟩
def dkwX0_size_0 : List UInt8 := [42, 180, 0, 13, 27, 6, 126, 50, 182, 0, 66, 136, 172]
abbrev dktX0_size_0 : List UInt8 := dkwX0_size_0 ++ []
theorem dksX0_size_0 : cX0_size.data.toList.drop 0 = dktX0_size_0 := by decide +kernel
theorem dX0_size_0 : decode cX0_size 0 = .ok (.aload_n 0, 1) := dk_42 (dk_at dksX0_size_0 0 rfl rfl)
theorem dX0_size_1 : decode cX0_size 1 = .ok (.getfield 13, 3) := dk_180 0 13 (dk_at dksX0_size_0 1 rfl rfl)
theorem dX0_size_4 : decode cX0_size 4 = .ok (.iload_n 1, 1) := dk_27 (dk_at dksX0_size_0 4 rfl rfl)
theorem dX0_size_5 : decode cX0_size 5 = .ok (.iconst 3, 1) := dk_6 (dk_at dksX0_size_0 5 rfl rfl)
theorem dX0_size_6 : decode cX0_size 6 = .ok (.iand, 1) := dk_126 (dk_at dksX0_size_0 6 rfl rfl)
theorem dX0_size_7 : decode cX0_size 7 = .ok (.aaload, 1) := dk_50 (dk_at dksX0_size_0 7 rfl rfl)
theorem dX0_size_8 : decode cX0_size 8 = .ok (.invokevirtual 66, 3) := dk_182 0 66 (dk_at dksX0_size_0 8 rfl rfl)
theorem dX0_size_11 : decode cX0_size 11 = .ok (.l2i, 1) := dk_136 (dk_at dksX0_size_0 11 rfl rfl)
theorem dX0_size_12 : decode cX0_size 12 = .ok (.ireturn, 1) := dk_172 (dk_at dksX0_size_0 12 rfl rfl)
abbrev cX0_isEmpty : ByteArray := prog_3_method_12_code
def yX0_isEmpty : MethodName := ⟨RX0, "isEmpty", "(I)Z"⟩
def dkwX0_isEmpty_0 : List UInt8 := [42, 180, 0, 13, 27, 6, 126, 50, 182, 0, 51, 172]
abbrev dktX0_isEmpty_0 : List UInt8 := dkwX0_isEmpty_0 ++ []
theorem dksX0_isEmpty_0 : cX0_isEmpty.data.toList.drop 0 = dktX0_isEmpty_0 := by decide +kernel
theorem dX0_isEmpty_0 : decode cX0_isEmpty 0 = .ok (.aload_n 0, 1) := dk_42 (dk_at dksX0_isEmpty_0 0 rfl rfl)
theorem dX0_isEmpty_1 : decode cX0_isEmpty 1 = .ok (.getfield 13, 3) := dk_180 0 13 (dk_at dksX0_isEmpty_0 1 rfl rfl)
theorem dX0_isEmpty_4 : decode cX0_isEmpty 4 = .ok (.iload_n 1, 1) := dk_27 (dk_at dksX0_isEmpty_0 4 rfl rfl)
theorem dX0_isEmpty_5 : decode cX0_isEmpty 5 = .ok (.iconst 3, 1) := dk_6 (dk_at dksX0_isEmpty_0 5 rfl rfl)
theorem dX0_isEmpty_6 : decode cX0_isEmpty 6 = .ok (.iand, 1) := dk_126 (dk_at dksX0_isEmpty_0 6 rfl rfl)
theorem dX0_isEmpty_7 : decode cX0_isEmpty 7 = .ok (.aaload, 1) := dk_50 (dk_at dksX0_isEmpty_0 7 rfl rfl)
theorem dX0_isEmpty_8 : decode cX0_isEmpty 8 = .ok (.invokevirtual 51, 3) := dk_182 0 51 (dk_at dksX0_isEmpty_0 8 rfl rfl)
theorem dX0_isEmpty_11 : decode cX0_isEmpty 11 = .ok (.ireturn, 1) := dk_172 (dk_at dksX0_isEmpty_0 11 rfl rfl)
abbrev cX0_renew : ByteArray := prog_3_method_13_code
def yX0_renew : MethodName := ⟨RX0, "renew", "(I)V"⟩
def dkwX0_renew_0 : List UInt8 := [42, 180, 0, 13, 27, 6, 126, 184, 0, 25, 83, 42, 180, 0, 17, 27, 6, 126, 3, 79, 177]
abbrev dktX0_renew_0 : List UInt8 := dkwX0_renew_0 ++ []
theorem dksX0_renew_0 : cX0_renew.data.toList.drop 0 = dktX0_renew_0 := by decide +kernel
theorem dX0_renew_0 : decode cX0_renew 0 = .ok (.aload_n 0, 1) := dk_42 (dk_at dksX0_renew_0 0 rfl rfl)
theorem dX0_renew_1 : decode cX0_renew 1 = .ok (.getfield 13, 3) := dk_180 0 13 (dk_at dksX0_renew_0 1 rfl rfl)
theorem dX0_renew_4 : decode cX0_renew 4 = .ok (.iload_n 1, 1) := dk_27 (dk_at dksX0_renew_0 4 rfl rfl)
theorem dX0_renew_5 : decode cX0_renew 5 = .ok (.iconst 3, 1) := dk_6 (dk_at dksX0_renew_0 5 rfl rfl)
theorem dX0_renew_6 : decode cX0_renew 6 = .ok (.iand, 1) := dk_126 (dk_at dksX0_renew_0 6 rfl rfl)
theorem dX0_renew_7 : decode cX0_renew 7 = .ok (.invokestatic 25, 3) := dk_184 0 25 (dk_at dksX0_renew_0 7 rfl rfl)
theorem dX0_renew_10 : decode cX0_renew 10 = .ok (.aastore, 1) := dk_83 (dk_at dksX0_renew_0 10 rfl rfl)
theorem dX0_renew_11 : decode cX0_renew 11 = .ok (.aload_n 0, 1) := dk_42 (dk_at dksX0_renew_0 11 rfl rfl)
theorem dX0_renew_12 : decode cX0_renew 12 = .ok (.getfield 17, 3) := dk_180 0 17 (dk_at dksX0_renew_0 12 rfl rfl)
theorem dX0_renew_15 : decode cX0_renew 15 = .ok (.iload_n 1, 1) := dk_27 (dk_at dksX0_renew_0 15 rfl rfl)
theorem dX0_renew_16 : decode cX0_renew 16 = .ok (.iconst 3, 1) := dk_6 (dk_at dksX0_renew_0 16 rfl rfl)
theorem dX0_renew_17 : decode cX0_renew 17 = .ok (.iand, 1) := dk_126 (dk_at dksX0_renew_0 17 rfl rfl)
theorem dX0_renew_18 : decode cX0_renew 18 = .ok (.iconst 0, 1) := dk_3 (dk_at dksX0_renew_0 18 rfl rfl)
theorem dX0_renew_19 : decode cX0_renew 19 = .ok (.iastore, 1) := dk_79 (dk_at dksX0_renew_0 19 rfl rfl)
theorem dX0_renew_20 : decode cX0_renew 20 = .ok (.return_, 1) := dk_177 (dk_at dksX0_renew_0 20 rfl rfl)
theorem q8 : (Jvm.Cond.initialized "IntegerRadixHeapDesk") ∈ lw_all := lw_g (lw_at lw_m1 1 rfl) rfl
theorem q33 : (Jvm.Cond.instantiable "IntegerRadixHeapDesk" (3 : Nat)) ∈ lw_all := lw_g (lw_at lw_m1 26 rfl) rfl
theorem q35 : (Jvm.Cond.instanceMethod ({ cls := "IntegerRadixHeapDesk", name := "<init>", desc := "()V" } : Jvm.MethodName)) ∈ lw_all := lw_g (lw_at lw_m1 28 rfl) rfl
theorem q36 : (Jvm.Cond.code ({ cls := "IntegerRadixHeapDesk", name := "<init>", desc := "()V" } : Jvm.MethodName) prog_3_method_1_code (1 : Nat) (Option.none : Option Jvm.ClassFile.FieldType)) ∈ lw_all := lw_g (lw_at lw_m1 29 rfl) rfl
theorem q37 : (Jvm.Cond.methodLink "IntegerRadixHeapDesk" (1 : Nat) ({ cls := "java/lang/Object", name := "<init>", desc := "()V" } : Jvm.MethodName)) ∈ lw_all := lw_g (lw_at lw_m1 30 rfl) rfl
theorem q40 : (Jvm.Cond.methodLink "IntegerRadixHeapDesk" (7 : Nat) ({ cls := "IntegerRadixHeapDesk", name := "make", desc := "()[LIntegerRadixHeap;" } : Jvm.MethodName)) ∈ lw_all := lw_g (lw_at lw_m1 33 rfl) rfl
theorem q41 : (Jvm.Cond.static ({ cls := "IntegerRadixHeapDesk", name := "make", desc := "()[LIntegerRadixHeap;" } : Jvm.MethodName)) ∈ lw_all := lw_g (lw_at lw_m1 34 rfl) rfl
theorem q42 : (Jvm.Cond.code ({ cls := "IntegerRadixHeapDesk", name := "make", desc := "()[LIntegerRadixHeap;" } : Jvm.MethodName) prog_3_method_4_code (2 : Nat) (Option.some (Jvm.ClassFile.FieldType.array (Jvm.ClassFile.FieldType.object "IntegerRadixHeap")))) ∈ lw_all := lw_g (lw_at lw_m1 35 rfl) rfl
theorem q43 : (Jvm.Cond.classLink "IntegerRadixHeapDesk" (23 : Nat) "IntegerRadixHeap") ∈ lw_all := lw_g (lw_at lw_m1 36 rfl) rfl
theorem q45 : (Jvm.Cond.methodLink "IntegerRadixHeapDesk" (25 : Nat) ({ cls := "IntegerRadixHeapDesk", name := "fresh", desc := "()LIntegerRadixHeap;" } : Jvm.MethodName)) ∈ lw_all := lw_g (lw_at lw_m1 38 rfl) rfl
theorem q46 : (Jvm.Cond.static ({ cls := "IntegerRadixHeapDesk", name := "fresh", desc := "()LIntegerRadixHeap;" } : Jvm.MethodName)) ∈ lw_all := lw_g (lw_at lw_m1 39 rfl) rfl
theorem q47 : (Jvm.Cond.code ({ cls := "IntegerRadixHeapDesk", name := "fresh", desc := "()LIntegerRadixHeap;" } : Jvm.MethodName) prog_3_method_5_code (0 : Nat) (Option.some (Jvm.ClassFile.FieldType.object "IntegerRadixHeap"))) ∈ lw_all := lw_g (lw_at lw_m1 40 rfl) rfl
theorem q49 : (Jvm.Cond.constant "IntegerRadixHeapDesk" (29 : Nat) (1048575 : Int32)) ∈ lw_all := lw_g (lw_at lw_m1 42 rfl) rfl
theorem q50 : (Jvm.Cond.methodLink "IntegerRadixHeapDesk" (30 : Nat) ({ cls := "IntegerRadixHeap", name := "<init>", desc := "(II)V" } : Jvm.MethodName)) ∈ lw_all := lw_g (lw_at lw_m1 43 rfl) rfl
theorem q146 : (Jvm.Cond.static ({ cls := "IntegerRadixHeapDesk", name := "log", desc := "(D)D" } : Jvm.MethodName)) ∈ lw_all := lw_g (lw_at lw_m1 139 rfl) rfl
theorem q147 : (Jvm.Cond.code ({ cls := "IntegerRadixHeapDesk", name := "log", desc := "(D)D" } : Jvm.MethodName) prog_3_method_3_code (5 : Nat) (Option.some Jvm.ClassFile.FieldType.double)) ∈ lw_all := lw_g (lw_at lw_m1 140 rfl) rfl
theorem q148 : (Jvm.Cond.constantDouble "IntegerRadixHeapDesk" (21 : Nat) (4611686018427387904 : UInt64)) ∈ lw_all := lw_g (lw_at lw_m1 141 rfl) rfl
theorem q151 : (Jvm.Cond.static ({ cls := "IntegerRadixHeapDesk", name := "floor", desc := "(D)D" } : Jvm.MethodName)) ∈ lw_all := lw_g (lw_at lw_m1 144 rfl) rfl
theorem q152 : (Jvm.Cond.code ({ cls := "IntegerRadixHeapDesk", name := "floor", desc := "(D)D" } : Jvm.MethodName) prog_3_method_2_code (4 : Nat) (Option.some Jvm.ClassFile.FieldType.double)) ∈ lw_all := lw_g (lw_at lw_m1 145 rfl) rfl
theorem q220 : (Jvm.Cond.fieldLink "IntegerRadixHeapDesk" (13 : Nat) "IntegerRadixHeapDesk" "file" "[LIntegerRadixHeap;") ∈ lw_all := lw_g (lw_at lw_m1 213 rfl) rfl
theorem q221 : (Jvm.Cond.fieldLink "IntegerRadixHeapDesk" (17 : Nat) "IntegerRadixHeapDesk" "floor" "[I") ∈ lw_all := lw_g (lw_at lw_m1 214 rfl) rfl
theorem q222 : (Jvm.Cond.fieldLink "IntegerRadixHeapDesk" (37 : Nat) "IntegerRadixHeapDesk" "puts" "I") ∈ lw_all := lw_g (lw_at lw_m1 215 rfl) rfl
theorem q223 : (Jvm.Cond.laysFinal "IntegerRadixHeapDesk" "IntegerRadixHeapDesk" "file" "[LIntegerRadixHeap;") ∈ lw_all := lw_g (lw_at lw_m1 216 rfl) rfl
theorem q224 : (Jvm.Cond.soleField "IntegerRadixHeapDesk" "file") ∈ lw_all := lw_g (lw_at lw_m1 217 rfl) rfl
theorem q225 : (Jvm.Cond.laysFinal "IntegerRadixHeapDesk" "IntegerRadixHeapDesk" "floor" "[I") ∈ lw_all := lw_g (lw_at lw_m1 218 rfl) rfl
theorem q226 : (Jvm.Cond.soleField "IntegerRadixHeapDesk" "floor") ∈ lw_all := lw_g (lw_at lw_m1 219 rfl) rfl
theorem q227 : (Jvm.Cond.lays "IntegerRadixHeapDesk" "IntegerRadixHeapDesk" "puts" "I") ∈ lw_all := lw_g (lw_at lw_m1 220 rfl) rfl
theorem q228 : (Jvm.Cond.soleField "IntegerRadixHeapDesk" "puts") ∈ lw_all := lw_g (lw_at lw_m1 221 rfl) rfl
theorem q229 : (Jvm.Cond.superclass "IntegerRadixHeapDesk" "java/lang/Object") ∈ lw_all := lw_g (lw_at lw_m1 222 rfl) rfl
theorem q232 : (Jvm.Cond.instanceMethod ({ cls := "IntegerRadixHeapDesk", name := "put", desc := "(II)Z" } : Jvm.MethodName)) ∈ lw_all := lw_g (lw_at lw_m1 225 rfl) rfl
theorem q233 : (Jvm.Cond.selects "IntegerRadixHeapDesk" ({ cls := "IntegerRadixHeapDesk", name := "put", desc := "(II)Z" } : Jvm.MethodName) ({ cls := "IntegerRadixHeapDesk", name := "put", desc := "(II)Z" } : Jvm.MethodName)) ∈ lw_all := lw_g (lw_at lw_m1 226 rfl) rfl
theorem q234 : (Jvm.Cond.code ({ cls := "IntegerRadixHeapDesk", name := "put", desc := "(II)Z" } : Jvm.MethodName) prog_3_method_7_code (5 : Nat) (Option.some Jvm.ClassFile.FieldType.boolean)) ∈ lw_all := lw_g (lw_at lw_m1 227 rfl) rfl
theorem q235 : (Jvm.Cond.methodLink "IntegerRadixHeapDesk" (33 : Nat) ({ cls := "IntegerRadixHeapDesk", name := "told", desc := "(I)I" } : Jvm.MethodName)) ∈ lw_all := lw_g (lw_at lw_m1 228 rfl) rfl
theorem q236 : (Jvm.Cond.static ({ cls := "IntegerRadixHeapDesk", name := "told", desc := "(I)I" } : Jvm.MethodName)) ∈ lw_all := lw_g (lw_at lw_m1 229 rfl) rfl
theorem q237 : (Jvm.Cond.code ({ cls := "IntegerRadixHeapDesk", name := "told", desc := "(I)I" } : Jvm.MethodName) prog_3_method_6_code (1 : Nat) (Option.some Jvm.ClassFile.FieldType.int)) ∈ lw_all := lw_g (lw_at lw_m1 230 rfl) rfl
theorem q238 : (Jvm.Cond.methodLink "IntegerRadixHeapDesk" (41 : Nat) ({ cls := "java/lang/Integer", name := "valueOf", desc := "(I)Ljava/lang/Integer;" } : Jvm.MethodName)) ∈ lw_all := lw_g (lw_at lw_m1 231 rfl) rfl
theorem q239 : (Jvm.Cond.methodLink "IntegerRadixHeapDesk" (47 : Nat) ({ cls := "IntegerRadixHeap", name := "insert", desc := "(Ljava/lang/Object;)V" } : Jvm.MethodName)) ∈ lw_all := lw_g (lw_at lw_m1 232 rfl) rfl
theorem q329 : (Jvm.Cond.selects "IntegerRadixHeapDesk" ({ cls := "java/lang/Object", name := "getClass", desc := "()Ljava/lang/Class;" } : Jvm.MethodName) ({ cls := "java/lang/Object", name := "getClass", desc := "()Ljava/lang/Class;" } : Jvm.MethodName)) ∈ lw_all := lw_g (lw_at lw_m2 82 rfl) rfl
theorem q359 : (Jvm.Cond.instanceMethod ({ cls := "IntegerRadixHeapDesk", name := "above", desc := "(II)Z" } : Jvm.MethodName)) ∈ lw_all := lw_g (lw_at lw_m2 112 rfl) rfl
theorem q360 : (Jvm.Cond.selects "IntegerRadixHeapDesk" ({ cls := "IntegerRadixHeapDesk", name := "above", desc := "(II)Z" } : Jvm.MethodName) ({ cls := "IntegerRadixHeapDesk", name := "above", desc := "(II)Z" } : Jvm.MethodName)) ∈ lw_all := lw_g (lw_at lw_m2 113 rfl) rfl
theorem q361 : (Jvm.Cond.code ({ cls := "IntegerRadixHeapDesk", name := "above", desc := "(II)Z" } : Jvm.MethodName) prog_3_method_8_code (5 : Nat) (Option.some Jvm.ClassFile.FieldType.boolean)) ∈ lw_all := lw_g (lw_at lw_m2 114 rfl) rfl
theorem q363 : (Jvm.Cond.instanceMethod ({ cls := "IntegerRadixHeapDesk", name := "least", desc := "(I)I" } : Jvm.MethodName)) ∈ lw_all := lw_g (lw_at lw_m2 116 rfl) rfl
theorem q364 : (Jvm.Cond.selects "IntegerRadixHeapDesk" ({ cls := "IntegerRadixHeapDesk", name := "least", desc := "(I)I" } : Jvm.MethodName) ({ cls := "IntegerRadixHeapDesk", name := "least", desc := "(I)I" } : Jvm.MethodName)) ∈ lw_all := lw_g (lw_at lw_m2 117 rfl) rfl
theorem q365 : (Jvm.Cond.code ({ cls := "IntegerRadixHeapDesk", name := "least", desc := "(I)I" } : Jvm.MethodName) prog_3_method_9_code (3 : Nat) (Option.some Jvm.ClassFile.FieldType.int)) ∈ lw_all := lw_g (lw_at lw_m2 118 rfl) rfl
theorem q366 : (Jvm.Cond.methodLink "IntegerRadixHeapDesk" (51 : Nat) ({ cls := "IntegerRadixHeap", name := "isEmpty", desc := "()Z" } : Jvm.MethodName)) ∈ lw_all := lw_g (lw_at lw_m2 119 rfl) rfl
theorem q372 : (Jvm.Cond.methodLink "IntegerRadixHeapDesk" (55 : Nat) ({ cls := "IntegerRadixHeap", name := "findMin", desc := "()Ljava/lang/Object;" } : Jvm.MethodName)) ∈ lw_all := lw_g (lw_at lw_m2 125 rfl) rfl
theorem q399 : (Jvm.Cond.classLink "IntegerRadixHeapDesk" (42 : Nat) "java/lang/Integer") ∈ lw_all := lw_g (lw_at lw_m2 152 rfl) rfl
theorem q400 : (Jvm.Cond.methodLink "IntegerRadixHeapDesk" (59 : Nat) ({ cls := "java/lang/Integer", name := "intValue", desc := "()I" } : Jvm.MethodName)) ∈ lw_all := lw_g (lw_at lw_m2 153 rfl) rfl
theorem q402 : (Jvm.Cond.instanceMethod ({ cls := "IntegerRadixHeapDesk", name := "takeLeast", desc := "(I)I" } : Jvm.MethodName)) ∈ lw_all := lw_g (lw_at lw_m2 155 rfl) rfl
theorem q403 : (Jvm.Cond.selects "IntegerRadixHeapDesk" ({ cls := "IntegerRadixHeapDesk", name := "takeLeast", desc := "(I)I" } : Jvm.MethodName) ({ cls := "IntegerRadixHeapDesk", name := "takeLeast", desc := "(I)I" } : Jvm.MethodName)) ∈ lw_all := lw_g (lw_at lw_m2 156 rfl) rfl
theorem q404 : (Jvm.Cond.code ({ cls := "IntegerRadixHeapDesk", name := "takeLeast", desc := "(I)I" } : Jvm.MethodName) prog_3_method_10_code (4 : Nat) (Option.some Jvm.ClassFile.FieldType.int)) ∈ lw_all := lw_g (lw_at lw_m2 157 rfl) rfl
theorem q405 : (Jvm.Cond.methodLink "IntegerRadixHeapDesk" (63 : Nat) ({ cls := "IntegerRadixHeap", name := "deleteMin", desc := "()Ljava/lang/Object;" } : Jvm.MethodName)) ∈ lw_all := lw_g (lw_at lw_m2 158 rfl) rfl
theorem q505 : (Jvm.Cond.instanceMethod ({ cls := "IntegerRadixHeapDesk", name := "size", desc := "(I)I" } : Jvm.MethodName)) ∈ lw_all := lw_g (lw_at lw_m3 18 rfl) rfl
theorem q506 : (Jvm.Cond.selects "IntegerRadixHeapDesk" ({ cls := "IntegerRadixHeapDesk", name := "size", desc := "(I)I" } : Jvm.MethodName) ({ cls := "IntegerRadixHeapDesk", name := "size", desc := "(I)I" } : Jvm.MethodName)) ∈ lw_all := lw_g (lw_at lw_m3 19 rfl) rfl
theorem q507 : (Jvm.Cond.code ({ cls := "IntegerRadixHeapDesk", name := "size", desc := "(I)I" } : Jvm.MethodName) prog_3_method_11_code (2 : Nat) (Option.some Jvm.ClassFile.FieldType.int)) ∈ lw_all := lw_g (lw_at lw_m3 20 rfl) rfl
theorem q508 : (Jvm.Cond.methodLink "IntegerRadixHeapDesk" (66 : Nat) ({ cls := "IntegerRadixHeap", name := "size", desc := "()J" } : Jvm.MethodName)) ∈ lw_all := lw_g (lw_at lw_m3 21 rfl) rfl
theorem q515 : (Jvm.Cond.instanceMethod ({ cls := "IntegerRadixHeapDesk", name := "isEmpty", desc := "(I)Z" } : Jvm.MethodName)) ∈ lw_all := lw_g (lw_at lw_m3 28 rfl) rfl
theorem q516 : (Jvm.Cond.selects "IntegerRadixHeapDesk" ({ cls := "IntegerRadixHeapDesk", name := "isEmpty", desc := "(I)Z" } : Jvm.MethodName) ({ cls := "IntegerRadixHeapDesk", name := "isEmpty", desc := "(I)Z" } : Jvm.MethodName)) ∈ lw_all := lw_g (lw_at lw_m3 29 rfl) rfl
theorem q517 : (Jvm.Cond.code ({ cls := "IntegerRadixHeapDesk", name := "isEmpty", desc := "(I)Z" } : Jvm.MethodName) prog_3_method_12_code (2 : Nat) (Option.some Jvm.ClassFile.FieldType.boolean)) ∈ lw_all := lw_g (lw_at lw_m3 30 rfl) rfl
theorem q519 : (Jvm.Cond.instanceMethod ({ cls := "IntegerRadixHeapDesk", name := "renew", desc := "(I)V" } : Jvm.MethodName)) ∈ lw_all := lw_g (lw_at lw_m3 32 rfl) rfl
theorem q520 : (Jvm.Cond.selects "IntegerRadixHeapDesk" ({ cls := "IntegerRadixHeapDesk", name := "renew", desc := "(I)V" } : Jvm.MethodName) ({ cls := "IntegerRadixHeapDesk", name := "renew", desc := "(I)V" } : Jvm.MethodName)) ∈ lw_all := lw_g (lw_at lw_m3 33 rfl) rfl
theorem q521 : (Jvm.Cond.code ({ cls := "IntegerRadixHeapDesk", name := "renew", desc := "(I)V" } : Jvm.MethodName) prog_3_method_13_code (2 : Nat) (Option.none : Option Jvm.ClassFile.FieldType)) ∈ lw_all := lw_g (lw_at lw_m3 34 rfl) rfl
theorem q584 : (Jvm.Cond.castable "IntegerRadixHeapDesk" "java/lang/Object") ∈ lw_tbl := lw_at lw_m3 97 rfl
theorem in_X0 : ∀ w ∈ wsX00, w ∈ lw_all := lw_in wsX00 [223, 225, 227] (by decide +kernel) (by decide +kernel)
/-! AbstractRadixHeap -/
set_option maxRecDepth 100000
def RX1 : String := "AbstractRadixHeap"
abbrev cX1_init : ByteArray := prog_1_method_1_code
def yX1_init : MethodName := ⟨RX1, "<init>", "()V"⟩
theorem dX1_init_0 : decode cX1_init 0 = .ok (.aload_n 0, 1) := by decide +kernel
theorem dX1_init_1 : decode cX1_init 1 = .ok (.invokespecial 1, 3) := by decide +kernel
theorem dX1_init_4 : decode cX1_init 4 = .ok (.return_, 1) := by decide +kernel
abbrev cX1_insert : ByteArray := prog_1_method_3_code
def yX1_insert : MethodName := ⟨RX1, "insert", "(Ljava/lang/Object;)V"⟩
def dkwX1_insert_5 : List UInt8 := [28, 50, 185, 0, 58, 1, 0, 4, 100, 181, 0, 61, 42, 89, 180, 0, 7, 10, 97, 181, 0, 7, 177]
abbrev dktX1_insert_5 : List UInt8 := dkwX1_insert_5 ++ []
def dkwX1_insert_4 : List UInt8 := [180, 0, 16, 182, 0, 30, 156, 0, 30, 42, 43, 181, 0, 16, 42, 28, 181, 0, 54, 42, 42, 180, 0, 44]
abbrev dktX1_insert_4 : List UInt8 := dkwX1_insert_4 ++ dktX1_insert_5
def dkwX1_insert_3 : List UInt8 := [180, 0, 44, 28, 50, 43, 185, 0, 48, 2, 0, 87, 42, 180, 0, 16, 198, 0, 15, 42, 43, 42]
abbrev dktX1_insert_3 : List UInt8 := dkwX1_insert_3 ++ dktX1_insert_4
def dkwX1_insert_2 : List UInt8 := [156, 0, 13, 187, 0, 20, 89, 18, 39, 183, 0, 24, 191, 42, 43, 42, 180, 0, 36, 182, 0, 41, 61, 42]
abbrev dktX1_insert_2 : List UInt8 := dkwX1_insert_2 ++ dktX1_insert_3
def dkwX1_insert_1 : List UInt8 := [158, 0, 13, 187, 0, 20, 89, 18, 34, 183, 0, 24, 191, 42, 43, 42, 180, 0, 36, 182, 0, 30]
abbrev dktX1_insert_1 : List UInt8 := dkwX1_insert_1 ++ dktX1_insert_2
def dkwX1_insert_0 : List UInt8 := [43, 199, 0, 13, 187, 0, 20, 89, 18, 22, 183, 0, 24, 191, 42, 43, 42, 180, 0, 27, 182, 0, 30]
abbrev dktX1_insert_0 : List UInt8 := dkwX1_insert_0 ++ dktX1_insert_1
theorem dksX1_insert_0 : cX1_insert.data.toList.drop 0 = dktX1_insert_0 := by decide +kernel
theorem dksX1_insert_1 : cX1_insert.data.toList.drop 23 = dktX1_insert_1 := dk_seg dksX1_insert_0 23 rfl rfl
theorem dksX1_insert_2 : cX1_insert.data.toList.drop 45 = dktX1_insert_2 := dk_seg dksX1_insert_1 22 rfl rfl
theorem dksX1_insert_3 : cX1_insert.data.toList.drop 69 = dktX1_insert_3 := dk_seg dksX1_insert_2 24 rfl rfl
theorem dksX1_insert_4 : cX1_insert.data.toList.drop 91 = dktX1_insert_4 := dk_seg dksX1_insert_3 22 rfl rfl
theorem dksX1_insert_5 : cX1_insert.data.toList.drop 115 = dktX1_insert_5 := dk_seg dksX1_insert_4 24 rfl rfl
theorem dX1_insert_0 : decode cX1_insert 0 = .ok (.aload_n 1, 1) := dk_43 (dk_at dksX1_insert_0 0 rfl rfl)
theorem dX1_insert_1 : decode cX1_insert 1 = .ok (.ifnonnull 13, 3) := dk_199 0 13 (dk_at dksX1_insert_0 1 rfl rfl)
theorem dX1_insert_4 : decode cX1_insert 4 = .ok (.new 20, 3) := dk_187 0 20 (dk_at dksX1_insert_0 4 rfl rfl)
theorem dX1_insert_7 : decode cX1_insert 7 = .ok (.dup, 1) := dk_89 (dk_at dksX1_insert_0 7 rfl rfl)
theorem dX1_insert_8 : decode cX1_insert 8 = .ok (.ldc 22, 2) := dk_18 22 (dk_at dksX1_insert_0 8 rfl rfl)
theorem dX1_insert_10 : decode cX1_insert 10 = .ok (.invokespecial 24, 3) := dk_183 0 24 (dk_at dksX1_insert_0 10 rfl rfl)
theorem dX1_insert_13 : decode cX1_insert 13 = .ok (.athrow, 1) := dk_191 (dk_at dksX1_insert_0 13 rfl rfl)
theorem dX1_insert_14 : decode cX1_insert 14 = .ok (.aload_n 0, 1) := dk_42 (dk_at dksX1_insert_0 14 rfl rfl)
theorem dX1_insert_15 : decode cX1_insert 15 = .ok (.aload_n 1, 1) := dk_43 (dk_at dksX1_insert_0 15 rfl rfl)
theorem dX1_insert_16 : decode cX1_insert 16 = .ok (.aload_n 0, 1) := dk_42 (dk_at dksX1_insert_0 16 rfl rfl)
theorem dX1_insert_17 : decode cX1_insert 17 = .ok (.getfield 27, 3) := dk_180 0 27 (dk_at dksX1_insert_0 17 rfl rfl)
theorem dX1_insert_20 : decode cX1_insert 20 = .ok (.invokevirtual 30, 3) := dk_182 0 30 (dk_at dksX1_insert_0 20 rfl rfl)
theorem dX1_insert_23 : decode cX1_insert 23 = .ok (.ifCond .le 13, 3) := dk_158 0 13 (dk_at dksX1_insert_1 0 rfl rfl)
theorem dX1_insert_26 : decode cX1_insert 26 = .ok (.new 20, 3) := dk_187 0 20 (dk_at dksX1_insert_1 3 rfl rfl)
theorem dX1_insert_29 : decode cX1_insert 29 = .ok (.dup, 1) := dk_89 (dk_at dksX1_insert_1 6 rfl rfl)
theorem dX1_insert_30 : decode cX1_insert 30 = .ok (.ldc 34, 2) := dk_18 34 (dk_at dksX1_insert_1 7 rfl rfl)
theorem dX1_insert_32 : decode cX1_insert 32 = .ok (.invokespecial 24, 3) := dk_183 0 24 (dk_at dksX1_insert_1 9 rfl rfl)
theorem dX1_insert_35 : decode cX1_insert 35 = .ok (.athrow, 1) := dk_191 (dk_at dksX1_insert_1 12 rfl rfl)
theorem dX1_insert_36 : decode cX1_insert 36 = .ok (.aload_n 0, 1) := dk_42 (dk_at dksX1_insert_1 13 rfl rfl)
theorem dX1_insert_37 : decode cX1_insert 37 = .ok (.aload_n 1, 1) := dk_43 (dk_at dksX1_insert_1 14 rfl rfl)
theorem dX1_insert_38 : decode cX1_insert 38 = .ok (.aload_n 0, 1) := dk_42 (dk_at dksX1_insert_1 15 rfl rfl)
theorem dX1_insert_39 : decode cX1_insert 39 = .ok (.getfield 36, 3) := dk_180 0 36 (dk_at dksX1_insert_1 16 rfl rfl)
theorem dX1_insert_42 : decode cX1_insert 42 = .ok (.invokevirtual 30, 3) := dk_182 0 30 (dk_at dksX1_insert_1 19 rfl rfl)
theorem dX1_insert_45 : decode cX1_insert 45 = .ok (.ifCond .ge 13, 3) := dk_156 0 13 (dk_at dksX1_insert_2 0 rfl rfl)
theorem dX1_insert_48 : decode cX1_insert 48 = .ok (.new 20, 3) := dk_187 0 20 (dk_at dksX1_insert_2 3 rfl rfl)
theorem dX1_insert_51 : decode cX1_insert 51 = .ok (.dup, 1) := dk_89 (dk_at dksX1_insert_2 6 rfl rfl)
theorem dX1_insert_52 : decode cX1_insert 52 = .ok (.ldc 39, 2) := dk_18 39 (dk_at dksX1_insert_2 7 rfl rfl)
theorem dX1_insert_54 : decode cX1_insert 54 = .ok (.invokespecial 24, 3) := dk_183 0 24 (dk_at dksX1_insert_2 9 rfl rfl)
theorem dX1_insert_57 : decode cX1_insert 57 = .ok (.athrow, 1) := dk_191 (dk_at dksX1_insert_2 12 rfl rfl)
theorem dX1_insert_58 : decode cX1_insert 58 = .ok (.aload_n 0, 1) := dk_42 (dk_at dksX1_insert_2 13 rfl rfl)
theorem dX1_insert_59 : decode cX1_insert 59 = .ok (.aload_n 1, 1) := dk_43 (dk_at dksX1_insert_2 14 rfl rfl)
theorem dX1_insert_60 : decode cX1_insert 60 = .ok (.aload_n 0, 1) := dk_42 (dk_at dksX1_insert_2 15 rfl rfl)
theorem dX1_insert_61 : decode cX1_insert 61 = .ok (.getfield 36, 3) := dk_180 0 36 (dk_at dksX1_insert_2 16 rfl rfl)
theorem dX1_insert_64 : decode cX1_insert 64 = .ok (.invokevirtual 41, 3) := dk_182 0 41 (dk_at dksX1_insert_2 19 rfl rfl)
theorem dX1_insert_67 : decode cX1_insert 67 = .ok (.istore_n 2, 1) := dk_61 (dk_at dksX1_insert_2 22 rfl rfl)
theorem dX1_insert_68 : decode cX1_insert 68 = .ok (.aload_n 0, 1) := dk_42 (dk_at dksX1_insert_2 23 rfl rfl)
theorem dX1_insert_69 : decode cX1_insert 69 = .ok (.getfield 44, 3) := dk_180 0 44 (dk_at dksX1_insert_3 0 rfl rfl)
theorem dX1_insert_72 : decode cX1_insert 72 = .ok (.iload_n 2, 1) := dk_28 (dk_at dksX1_insert_3 3 rfl rfl)
theorem dX1_insert_73 : decode cX1_insert 73 = .ok (.aaload, 1) := dk_50 (dk_at dksX1_insert_3 4 rfl rfl)
theorem dX1_insert_74 : decode cX1_insert 74 = .ok (.aload_n 1, 1) := dk_43 (dk_at dksX1_insert_3 5 rfl rfl)
theorem dX1_insert_75 : decode cX1_insert 75 = .ok (.invokeinterface 48 2, 5) := by decide +kernel
theorem dX1_insert_80 : decode cX1_insert 80 = .ok (.pop, 1) := dk_87 (dk_at dksX1_insert_3 11 rfl rfl)
theorem dX1_insert_81 : decode cX1_insert 81 = .ok (.aload_n 0, 1) := dk_42 (dk_at dksX1_insert_3 12 rfl rfl)
theorem dX1_insert_82 : decode cX1_insert 82 = .ok (.getfield 16, 3) := dk_180 0 16 (dk_at dksX1_insert_3 13 rfl rfl)
theorem dX1_insert_85 : decode cX1_insert 85 = .ok (.ifnull 15, 3) := dk_198 0 15 (dk_at dksX1_insert_3 16 rfl rfl)
theorem dX1_insert_88 : decode cX1_insert 88 = .ok (.aload_n 0, 1) := dk_42 (dk_at dksX1_insert_3 19 rfl rfl)
theorem dX1_insert_89 : decode cX1_insert 89 = .ok (.aload_n 1, 1) := dk_43 (dk_at dksX1_insert_3 20 rfl rfl)
theorem dX1_insert_90 : decode cX1_insert 90 = .ok (.aload_n 0, 1) := dk_42 (dk_at dksX1_insert_3 21 rfl rfl)
theorem dX1_insert_91 : decode cX1_insert 91 = .ok (.getfield 16, 3) := dk_180 0 16 (dk_at dksX1_insert_4 0 rfl rfl)
theorem dX1_insert_94 : decode cX1_insert 94 = .ok (.invokevirtual 30, 3) := dk_182 0 30 (dk_at dksX1_insert_4 3 rfl rfl)
theorem dX1_insert_97 : decode cX1_insert 97 = .ok (.ifCond .ge 30, 3) := dk_156 0 30 (dk_at dksX1_insert_4 6 rfl rfl)
theorem dX1_insert_100 : decode cX1_insert 100 = .ok (.aload_n 0, 1) := dk_42 (dk_at dksX1_insert_4 9 rfl rfl)
theorem dX1_insert_101 : decode cX1_insert 101 = .ok (.aload_n 1, 1) := dk_43 (dk_at dksX1_insert_4 10 rfl rfl)
theorem dX1_insert_102 : decode cX1_insert 102 = .ok (.putfield 16, 3) := dk_181 0 16 (dk_at dksX1_insert_4 11 rfl rfl)
theorem dX1_insert_105 : decode cX1_insert 105 = .ok (.aload_n 0, 1) := dk_42 (dk_at dksX1_insert_4 14 rfl rfl)
theorem dX1_insert_106 : decode cX1_insert 106 = .ok (.iload_n 2, 1) := dk_28 (dk_at dksX1_insert_4 15 rfl rfl)
theorem dX1_insert_107 : decode cX1_insert 107 = .ok (.putfield 54, 3) := dk_181 0 54 (dk_at dksX1_insert_4 16 rfl rfl)
theorem dX1_insert_110 : decode cX1_insert 110 = .ok (.aload_n 0, 1) := dk_42 (dk_at dksX1_insert_4 19 rfl rfl)
theorem dX1_insert_111 : decode cX1_insert 111 = .ok (.aload_n 0, 1) := dk_42 (dk_at dksX1_insert_4 20 rfl rfl)
theorem dX1_insert_112 : decode cX1_insert 112 = .ok (.getfield 44, 3) := dk_180 0 44 (dk_at dksX1_insert_4 21 rfl rfl)
theorem dX1_insert_115 : decode cX1_insert 115 = .ok (.iload_n 2, 1) := dk_28 (dk_at dksX1_insert_5 0 rfl rfl)
theorem dX1_insert_116 : decode cX1_insert 116 = .ok (.aaload, 1) := dk_50 (dk_at dksX1_insert_5 1 rfl rfl)
theorem dX1_insert_117 : decode cX1_insert 117 = .ok (.invokeinterface 58 1, 5) := by decide +kernel
theorem dX1_insert_122 : decode cX1_insert 122 = .ok (.iconst 1, 1) := dk_4 (dk_at dksX1_insert_5 7 rfl rfl)
theorem dX1_insert_123 : decode cX1_insert 123 = .ok (.isub, 1) := dk_100 (dk_at dksX1_insert_5 8 rfl rfl)
theorem dX1_insert_124 : decode cX1_insert 124 = .ok (.putfield 61, 3) := dk_181 0 61 (dk_at dksX1_insert_5 9 rfl rfl)
theorem dX1_insert_127 : decode cX1_insert 127 = .ok (.aload_n 0, 1) := dk_42 (dk_at dksX1_insert_5 12 rfl rfl)
theorem dX1_insert_128 : decode cX1_insert 128 = .ok (.dup, 1) := dk_89 (dk_at dksX1_insert_5 13 rfl rfl)
theorem dX1_insert_129 : decode cX1_insert 129 = .ok (.getfield 7, 3) := dk_180 0 7 (dk_at dksX1_insert_5 14 rfl rfl)
theorem dX1_insert_132 : decode cX1_insert 132 = .ok (.lconst 1, 1) := dk_10 (dk_at dksX1_insert_5 17 rfl rfl)
theorem dX1_insert_133 : decode cX1_insert 133 = .ok (.ladd, 1) := dk_97 (dk_at dksX1_insert_5 18 rfl rfl)
theorem dX1_insert_134 : decode cX1_insert 134 = .ok (.putfield 7, 3) := dk_181 0 7 (dk_at dksX1_insert_5 19 rfl rfl)
theorem dX1_insert_137 : decode cX1_insert 137 = .ok (.return_, 1) := dk_177 (dk_at dksX1_insert_5 22 rfl rfl)
abbrev cX1_computeBucket : ByteArray := prog_1_method_8_code
def yX1_computeBucket : MethodName := ⟨RX1, "computeBucket", "(Ljava/lang/Object;Ljava/lang/Object;)I"⟩
def dkwX1_computeBucket_0 : List UInt8 := [4, 42, 43, 44, 182, 0, 89, 42, 180, 0, 44, 190, 5, 100, 184, 0, 92, 96, 172]
abbrev dktX1_computeBucket_0 : List UInt8 := dkwX1_computeBucket_0 ++ []
theorem dksX1_computeBucket_0 : cX1_computeBucket.data.toList.drop 0 = dktX1_computeBucket_0 := by decide +kernel
theorem dX1_computeBucket_0 : decode cX1_computeBucket 0 = .ok (.iconst 1, 1) := dk_4 (dk_at dksX1_computeBucket_0 0 rfl rfl)
theorem dX1_computeBucket_1 : decode cX1_computeBucket 1 = .ok (.aload_n 0, 1) := dk_42 (dk_at dksX1_computeBucket_0 1 rfl rfl)
theorem dX1_computeBucket_2 : decode cX1_computeBucket 2 = .ok (.aload_n 1, 1) := dk_43 (dk_at dksX1_computeBucket_0 2 rfl rfl)
theorem dX1_computeBucket_3 : decode cX1_computeBucket 3 = .ok (.aload_n 2, 1) := dk_44 (dk_at dksX1_computeBucket_0 3 rfl rfl)
theorem dX1_computeBucket_4 : decode cX1_computeBucket 4 = .ok (.invokevirtual 89, 3) := dk_182 0 89 (dk_at dksX1_computeBucket_0 4 rfl rfl)
theorem dX1_computeBucket_7 : decode cX1_computeBucket 7 = .ok (.aload_n 0, 1) := dk_42 (dk_at dksX1_computeBucket_0 7 rfl rfl)
theorem dX1_computeBucket_8 : decode cX1_computeBucket 8 = .ok (.getfield 44, 3) := dk_180 0 44 (dk_at dksX1_computeBucket_0 8 rfl rfl)
theorem dX1_computeBucket_11 : decode cX1_computeBucket 11 = .ok (.arraylength, 1) := dk_190 (dk_at dksX1_computeBucket_0 11 rfl rfl)
theorem dX1_computeBucket_12 : decode cX1_computeBucket 12 = .ok (.iconst 2, 1) := dk_5 (dk_at dksX1_computeBucket_0 12 rfl rfl)
theorem dX1_computeBucket_13 : decode cX1_computeBucket 13 = .ok (.isub, 1) := dk_100 (dk_at dksX1_computeBucket_0 13 rfl rfl)
theorem dX1_computeBucket_14 : decode cX1_computeBucket 14 = .ok (.invokestatic 92, 3) := dk_184 0 92 (dk_at dksX1_computeBucket_0 14 rfl rfl)
theorem dX1_computeBucket_17 : decode cX1_computeBucket 17 = .ok (.iadd, 1) := dk_96 (dk_at dksX1_computeBucket_0 17 rfl rfl)
theorem dX1_computeBucket_18 : decode cX1_computeBucket 18 = .ok (.ireturn, 1) := dk_172 (dk_at dksX1_computeBucket_0 18 rfl rfl)
abbrev cX1_isEmpty : ByteArray := prog_1_method_5_code
def yX1_isEmpty : MethodName := ⟨RX1, "isEmpty", "()Z"⟩
def dkwX1_isEmpty_0 : List UInt8 := [42, 180, 0, 7, 9, 148, 154, 0, 7, 4, 167, 0, 4, 3, 172]
abbrev dktX1_isEmpty_0 : List UInt8 := dkwX1_isEmpty_0 ++ []
theorem dksX1_isEmpty_0 : cX1_isEmpty.data.toList.drop 0 = dktX1_isEmpty_0 := by decide +kernel
theorem dX1_isEmpty_0 : decode cX1_isEmpty 0 = .ok (.aload_n 0, 1) := dk_42 (dk_at dksX1_isEmpty_0 0 rfl rfl)
theorem dX1_isEmpty_1 : decode cX1_isEmpty 1 = .ok (.getfield 7, 3) := dk_180 0 7 (dk_at dksX1_isEmpty_0 1 rfl rfl)
theorem dX1_isEmpty_4 : decode cX1_isEmpty 4 = .ok (.lconst 0, 1) := dk_9 (dk_at dksX1_isEmpty_0 4 rfl rfl)
theorem dX1_isEmpty_5 : decode cX1_isEmpty 5 = .ok (.lcmp, 1) := dk_148 (dk_at dksX1_isEmpty_0 5 rfl rfl)
theorem dX1_isEmpty_6 : decode cX1_isEmpty 6 = .ok (.ifCond .ne 7, 3) := dk_154 0 7 (dk_at dksX1_isEmpty_0 6 rfl rfl)
theorem dX1_isEmpty_9 : decode cX1_isEmpty 9 = .ok (.iconst 1, 1) := dk_4 (dk_at dksX1_isEmpty_0 9 rfl rfl)
theorem dX1_isEmpty_10 : decode cX1_isEmpty 10 = .ok (.goto 4, 3) := dk_167 0 4 (dk_at dksX1_isEmpty_0 10 rfl rfl)
theorem dX1_isEmpty_13 : decode cX1_isEmpty 13 = .ok (.iconst 0, 1) := dk_3 (dk_at dksX1_isEmpty_0 13 rfl rfl)
theorem dX1_isEmpty_14 : decode cX1_isEmpty 14 = .ok (.ireturn, 1) := dk_172 (dk_at dksX1_isEmpty_0 14 rfl rfl)
abbrev cX1_findMin : ByteArray := prog_1_method_2_code
def yX1_findMin : MethodName := ⟨RX1, "findMin", "()Ljava/lang/Object;"⟩
def dkwX1_findMin_0 : List UInt8 := [42, 180, 0, 7, 9, 148, 154, 0, 11, 187, 0, 13, 89, 183, 0, 15, 191, 42, 180, 0, 16, 176]
abbrev dktX1_findMin_0 : List UInt8 := dkwX1_findMin_0 ++ []
theorem dksX1_findMin_0 : cX1_findMin.data.toList.drop 0 = dktX1_findMin_0 := by decide +kernel
theorem dX1_findMin_0 : decode cX1_findMin 0 = .ok (.aload_n 0, 1) := dk_42 (dk_at dksX1_findMin_0 0 rfl rfl)
theorem dX1_findMin_1 : decode cX1_findMin 1 = .ok (.getfield 7, 3) := dk_180 0 7 (dk_at dksX1_findMin_0 1 rfl rfl)
theorem dX1_findMin_4 : decode cX1_findMin 4 = .ok (.lconst 0, 1) := dk_9 (dk_at dksX1_findMin_0 4 rfl rfl)
theorem dX1_findMin_5 : decode cX1_findMin 5 = .ok (.lcmp, 1) := dk_148 (dk_at dksX1_findMin_0 5 rfl rfl)
theorem dX1_findMin_6 : decode cX1_findMin 6 = .ok (.ifCond .ne 11, 3) := dk_154 0 11 (dk_at dksX1_findMin_0 6 rfl rfl)
theorem dX1_findMin_9 : decode cX1_findMin 9 = .ok (.new 13, 3) := dk_187 0 13 (dk_at dksX1_findMin_0 9 rfl rfl)
theorem dX1_findMin_12 : decode cX1_findMin 12 = .ok (.dup, 1) := dk_89 (dk_at dksX1_findMin_0 12 rfl rfl)
theorem dX1_findMin_13 : decode cX1_findMin 13 = .ok (.invokespecial 15, 3) := dk_183 0 15 (dk_at dksX1_findMin_0 13 rfl rfl)
theorem dX1_findMin_16 : decode cX1_findMin 16 = .ok (.athrow, 1) := dk_191 (dk_at dksX1_findMin_0 16 rfl rfl)
theorem dX1_findMin_17 : decode cX1_findMin 17 = .ok (.aload_n 0, 1) := dk_42 (dk_at dksX1_findMin_0 17 rfl rfl)
theorem dX1_findMin_18 : decode cX1_findMin 18 = .ok (.getfield 16, 3) := dk_180 0 16 (dk_at dksX1_findMin_0 18 rfl rfl)
theorem dX1_findMin_21 : decode cX1_findMin 21 = .ok (.areturn, 1) := dk_176 (dk_at dksX1_findMin_0 21 rfl rfl)
abbrev cX1_deleteMin : ByteArray := prog_1_method_4_code
def yX1_deleteMin : MethodName := ⟨RX1, "deleteMin", "()Ljava/lang/Object;"⟩
def dkwX1_deleteMin_11 : List UInt8 := [42, 42, 180, 0, 54, 4, 96, 182, 0, 68, 42, 180, 0, 36, 176]
abbrev dktX1_deleteMin_11 : List UInt8 := dkwX1_deleteMin_11 ++ []
def dkwX1_deleteMin_10 : List UInt8 := [181, 0, 54, 42, 29, 181, 0, 61, 42, 89, 180, 0, 7, 10, 101, 93, 181, 0, 7, 9, 148, 158, 0, 13]
abbrev dktX1_deleteMin_10 : List UInt8 := dkwX1_deleteMin_10 ++ dktX1_deleteMin_11
def dkwX1_deleteMin_9 : List UInt8 := [167, 255, 163, 42, 180, 0, 44, 42, 180, 0, 54, 50, 185, 0, 86, 1, 0, 42, 43, 181, 0, 16, 42, 28]
abbrev dktX1_deleteMin_9 : List UInt8 := dkwX1_deleteMin_9 ++ dktX1_deleteMin_10
def dkwX1_deleteMin_8 : List UInt8 := [25, 6, 76, 21, 7, 61, 42, 180, 0, 44, 21, 7, 50, 185, 0, 58, 1, 0, 4, 100, 62, 132, 4, 1]
abbrev dktX1_deleteMin_8 : List UInt8 := dkwX1_deleteMin_8 ++ dktX1_deleteMin_9
def dkwX1_deleteMin_7 : List UInt8 := [50, 25, 6, 185, 0, 48, 2, 0, 87, 43, 198, 0, 13, 42, 25, 6, 43, 182, 0, 30, 156, 0, 24]
abbrev dktX1_deleteMin_7 : List UInt8 := dkwX1_deleteMin_7 ++ dktX1_deleteMin_8
def dkwX1_deleteMin_6 : List UInt8 := [180, 0, 61, 159, 0, 65, 42, 25, 6, 42, 180, 0, 36, 182, 0, 41, 54, 7, 42, 180, 0, 44, 21, 7]
abbrev dktX1_deleteMin_6 : List UInt8 := dkwX1_deleteMin_6 ++ dktX1_deleteMin_7
def dkwX1_deleteMin_5 : List UInt8 := [25, 5, 185, 0, 76, 1, 0, 153, 0, 89, 25, 5, 185, 0, 82, 1, 0, 58, 6, 21, 4, 42]
abbrev dktX1_deleteMin_5 : List UInt8 := dkwX1_deleteMin_5 ++ dktX1_deleteMin_6
def dkwX1_deleteMin_4 : List UInt8 := [2, 61, 2, 62, 3, 54, 4, 42, 180, 0, 44, 42, 180, 0, 54, 50, 185, 0, 72, 1, 0, 58, 5]
abbrev dktX1_deleteMin_4 : List UInt8 := dkwX1_deleteMin_4 ++ dktX1_deleteMin_5
def dkwX1_deleteMin_3 : List UInt8 := [180, 0, 7, 10, 101, 93, 181, 0, 7, 9, 148, 158, 0, 187, 42, 3, 182, 0, 68, 167, 0, 179, 1, 76]
abbrev dktX1_deleteMin_3 : List UInt8 := dkwX1_deleteMin_3 ++ dktX1_deleteMin_4
def dkwX1_deleteMin_2 : List UInt8 := [185, 0, 64, 2, 0, 87, 42, 1, 181, 0, 16, 42, 2, 181, 0, 54, 42, 2, 181, 0, 61, 42, 89]
abbrev dktX1_deleteMin_2 : List UInt8 := dkwX1_deleteMin_2 ++ dktX1_deleteMin_3
def dkwX1_deleteMin_1 : List UInt8 := [181, 0, 36, 42, 180, 0, 54, 154, 0, 61, 42, 180, 0, 44, 42, 180, 0, 54, 50, 42, 180, 0, 61]
abbrev dktX1_deleteMin_1 : List UInt8 := dkwX1_deleteMin_1 ++ dktX1_deleteMin_2
def dkwX1_deleteMin_0 : List UInt8 := [42, 180, 0, 7, 9, 148, 154, 0, 11, 187, 0, 13, 89, 183, 0, 15, 191, 42, 42, 180, 0, 16]
abbrev dktX1_deleteMin_0 : List UInt8 := dkwX1_deleteMin_0 ++ dktX1_deleteMin_1
theorem dksX1_deleteMin_0 : cX1_deleteMin.data.toList.drop 0 = dktX1_deleteMin_0 := by decide +kernel
theorem dksX1_deleteMin_1 : cX1_deleteMin.data.toList.drop 22 = dktX1_deleteMin_1 := dk_seg dksX1_deleteMin_0 22 rfl rfl
theorem dksX1_deleteMin_2 : cX1_deleteMin.data.toList.drop 45 = dktX1_deleteMin_2 := dk_seg dksX1_deleteMin_1 23 rfl rfl
theorem dksX1_deleteMin_3 : cX1_deleteMin.data.toList.drop 68 = dktX1_deleteMin_3 := dk_seg dksX1_deleteMin_2 23 rfl rfl
theorem dksX1_deleteMin_4 : cX1_deleteMin.data.toList.drop 92 = dktX1_deleteMin_4 := dk_seg dksX1_deleteMin_3 24 rfl rfl
theorem dksX1_deleteMin_5 : cX1_deleteMin.data.toList.drop 115 = dktX1_deleteMin_5 := dk_seg dksX1_deleteMin_4 23 rfl rfl
theorem dksX1_deleteMin_6 : cX1_deleteMin.data.toList.drop 137 = dktX1_deleteMin_6 := dk_seg dksX1_deleteMin_5 22 rfl rfl
theorem dksX1_deleteMin_7 : cX1_deleteMin.data.toList.drop 161 = dktX1_deleteMin_7 := dk_seg dksX1_deleteMin_6 24 rfl rfl
theorem dksX1_deleteMin_8 : cX1_deleteMin.data.toList.drop 184 = dktX1_deleteMin_8 := dk_seg dksX1_deleteMin_7 23 rfl rfl
theorem dksX1_deleteMin_9 : cX1_deleteMin.data.toList.drop 208 = dktX1_deleteMin_9 := dk_seg dksX1_deleteMin_8 24 rfl rfl
theorem dksX1_deleteMin_10 : cX1_deleteMin.data.toList.drop 232 = dktX1_deleteMin_10 := dk_seg dksX1_deleteMin_9 24 rfl rfl
theorem dksX1_deleteMin_11 : cX1_deleteMin.data.toList.drop 256 = dktX1_deleteMin_11 := dk_seg dksX1_deleteMin_10 24 rfl rfl
theorem dX1_deleteMin_0 : decode cX1_deleteMin 0 = .ok (.aload_n 0, 1) := dk_42 (dk_at dksX1_deleteMin_0 0 rfl rfl)
theorem dX1_deleteMin_1 : decode cX1_deleteMin 1 = .ok (.getfield 7, 3) := dk_180 0 7 (dk_at dksX1_deleteMin_0 1 rfl rfl)
theorem dX1_deleteMin_4 : decode cX1_deleteMin 4 = .ok (.lconst 0, 1) := dk_9 (dk_at dksX1_deleteMin_0 4 rfl rfl)
theorem dX1_deleteMin_5 : decode cX1_deleteMin 5 = .ok (.lcmp, 1) := dk_148 (dk_at dksX1_deleteMin_0 5 rfl rfl)
theorem dX1_deleteMin_6 : decode cX1_deleteMin 6 = .ok (.ifCond .ne 11, 3) := dk_154 0 11 (dk_at dksX1_deleteMin_0 6 rfl rfl)
theorem dX1_deleteMin_9 : decode cX1_deleteMin 9 = .ok (.new 13, 3) := dk_187 0 13 (dk_at dksX1_deleteMin_0 9 rfl rfl)
theorem dX1_deleteMin_12 : decode cX1_deleteMin 12 = .ok (.dup, 1) := dk_89 (dk_at dksX1_deleteMin_0 12 rfl rfl)
theorem dX1_deleteMin_13 : decode cX1_deleteMin 13 = .ok (.invokespecial 15, 3) := dk_183 0 15 (dk_at dksX1_deleteMin_0 13 rfl rfl)
theorem dX1_deleteMin_16 : decode cX1_deleteMin 16 = .ok (.athrow, 1) := dk_191 (dk_at dksX1_deleteMin_0 16 rfl rfl)
theorem dX1_deleteMin_17 : decode cX1_deleteMin 17 = .ok (.aload_n 0, 1) := dk_42 (dk_at dksX1_deleteMin_0 17 rfl rfl)
theorem dX1_deleteMin_18 : decode cX1_deleteMin 18 = .ok (.aload_n 0, 1) := dk_42 (dk_at dksX1_deleteMin_0 18 rfl rfl)
theorem dX1_deleteMin_19 : decode cX1_deleteMin 19 = .ok (.getfield 16, 3) := dk_180 0 16 (dk_at dksX1_deleteMin_0 19 rfl rfl)
theorem dX1_deleteMin_22 : decode cX1_deleteMin 22 = .ok (.putfield 36, 3) := dk_181 0 36 (dk_at dksX1_deleteMin_1 0 rfl rfl)
theorem dX1_deleteMin_25 : decode cX1_deleteMin 25 = .ok (.aload_n 0, 1) := dk_42 (dk_at dksX1_deleteMin_1 3 rfl rfl)
theorem dX1_deleteMin_26 : decode cX1_deleteMin 26 = .ok (.getfield 54, 3) := dk_180 0 54 (dk_at dksX1_deleteMin_1 4 rfl rfl)
theorem dX1_deleteMin_29 : decode cX1_deleteMin 29 = .ok (.ifCond .ne 61, 3) := dk_154 0 61 (dk_at dksX1_deleteMin_1 7 rfl rfl)
theorem dX1_deleteMin_32 : decode cX1_deleteMin 32 = .ok (.aload_n 0, 1) := dk_42 (dk_at dksX1_deleteMin_1 10 rfl rfl)
theorem dX1_deleteMin_33 : decode cX1_deleteMin 33 = .ok (.getfield 44, 3) := dk_180 0 44 (dk_at dksX1_deleteMin_1 11 rfl rfl)
theorem dX1_deleteMin_36 : decode cX1_deleteMin 36 = .ok (.aload_n 0, 1) := dk_42 (dk_at dksX1_deleteMin_1 14 rfl rfl)
theorem dX1_deleteMin_37 : decode cX1_deleteMin 37 = .ok (.getfield 54, 3) := dk_180 0 54 (dk_at dksX1_deleteMin_1 15 rfl rfl)
theorem dX1_deleteMin_40 : decode cX1_deleteMin 40 = .ok (.aaload, 1) := dk_50 (dk_at dksX1_deleteMin_1 18 rfl rfl)
theorem dX1_deleteMin_41 : decode cX1_deleteMin 41 = .ok (.aload_n 0, 1) := dk_42 (dk_at dksX1_deleteMin_1 19 rfl rfl)
theorem dX1_deleteMin_42 : decode cX1_deleteMin 42 = .ok (.getfield 61, 3) := dk_180 0 61 (dk_at dksX1_deleteMin_1 20 rfl rfl)
theorem dX1_deleteMin_45 : decode cX1_deleteMin 45 = .ok (.invokeinterface 64 2, 5) := by decide +kernel
theorem dX1_deleteMin_50 : decode cX1_deleteMin 50 = .ok (.pop, 1) := dk_87 (dk_at dksX1_deleteMin_2 5 rfl rfl)
theorem dX1_deleteMin_51 : decode cX1_deleteMin 51 = .ok (.aload_n 0, 1) := dk_42 (dk_at dksX1_deleteMin_2 6 rfl rfl)
theorem dX1_deleteMin_52 : decode cX1_deleteMin 52 = .ok (.aconst_null, 1) := dk_1 (dk_at dksX1_deleteMin_2 7 rfl rfl)
theorem dX1_deleteMin_53 : decode cX1_deleteMin 53 = .ok (.putfield 16, 3) := dk_181 0 16 (dk_at dksX1_deleteMin_2 8 rfl rfl)
theorem dX1_deleteMin_56 : decode cX1_deleteMin 56 = .ok (.aload_n 0, 1) := dk_42 (dk_at dksX1_deleteMin_2 11 rfl rfl)
theorem dX1_deleteMin_57 : decode cX1_deleteMin 57 = .ok (.iconst (-1), 1) := dk_2 (dk_at dksX1_deleteMin_2 12 rfl rfl)
theorem dX1_deleteMin_58 : decode cX1_deleteMin 58 = .ok (.putfield 54, 3) := dk_181 0 54 (dk_at dksX1_deleteMin_2 13 rfl rfl)
theorem dX1_deleteMin_61 : decode cX1_deleteMin 61 = .ok (.aload_n 0, 1) := dk_42 (dk_at dksX1_deleteMin_2 16 rfl rfl)
theorem dX1_deleteMin_62 : decode cX1_deleteMin 62 = .ok (.iconst (-1), 1) := dk_2 (dk_at dksX1_deleteMin_2 17 rfl rfl)
theorem dX1_deleteMin_63 : decode cX1_deleteMin 63 = .ok (.putfield 61, 3) := dk_181 0 61 (dk_at dksX1_deleteMin_2 18 rfl rfl)
theorem dX1_deleteMin_66 : decode cX1_deleteMin 66 = .ok (.aload_n 0, 1) := dk_42 (dk_at dksX1_deleteMin_2 21 rfl rfl)
theorem dX1_deleteMin_67 : decode cX1_deleteMin 67 = .ok (.dup, 1) := dk_89 (dk_at dksX1_deleteMin_2 22 rfl rfl)
theorem dX1_deleteMin_68 : decode cX1_deleteMin 68 = .ok (.getfield 7, 3) := dk_180 0 7 (dk_at dksX1_deleteMin_3 0 rfl rfl)
theorem dX1_deleteMin_71 : decode cX1_deleteMin 71 = .ok (.lconst 1, 1) := dk_10 (dk_at dksX1_deleteMin_3 3 rfl rfl)
theorem dX1_deleteMin_72 : decode cX1_deleteMin 72 = .ok (.lsub, 1) := dk_101 (dk_at dksX1_deleteMin_3 4 rfl rfl)
theorem dX1_deleteMin_73 : decode cX1_deleteMin 73 = .ok (.dup2_x1, 1) := dk_93 (dk_at dksX1_deleteMin_3 5 rfl rfl)
theorem dX1_deleteMin_74 : decode cX1_deleteMin 74 = .ok (.putfield 7, 3) := dk_181 0 7 (dk_at dksX1_deleteMin_3 6 rfl rfl)
theorem dX1_deleteMin_77 : decode cX1_deleteMin 77 = .ok (.lconst 0, 1) := dk_9 (dk_at dksX1_deleteMin_3 9 rfl rfl)
theorem dX1_deleteMin_78 : decode cX1_deleteMin 78 = .ok (.lcmp, 1) := dk_148 (dk_at dksX1_deleteMin_3 10 rfl rfl)
theorem dX1_deleteMin_79 : decode cX1_deleteMin 79 = .ok (.ifCond .le 187, 3) := dk_158 0 187 (dk_at dksX1_deleteMin_3 11 rfl rfl)
theorem dX1_deleteMin_82 : decode cX1_deleteMin 82 = .ok (.aload_n 0, 1) := dk_42 (dk_at dksX1_deleteMin_3 14 rfl rfl)
theorem dX1_deleteMin_83 : decode cX1_deleteMin 83 = .ok (.iconst 0, 1) := dk_3 (dk_at dksX1_deleteMin_3 15 rfl rfl)
theorem dX1_deleteMin_84 : decode cX1_deleteMin 84 = .ok (.invokevirtual 68, 3) := dk_182 0 68 (dk_at dksX1_deleteMin_3 16 rfl rfl)
theorem dX1_deleteMin_87 : decode cX1_deleteMin 87 = .ok (.goto 179, 3) := dk_167 0 179 (dk_at dksX1_deleteMin_3 19 rfl rfl)
theorem dX1_deleteMin_90 : decode cX1_deleteMin 90 = .ok (.aconst_null, 1) := dk_1 (dk_at dksX1_deleteMin_3 22 rfl rfl)
theorem dX1_deleteMin_91 : decode cX1_deleteMin 91 = .ok (.astore_n 1, 1) := dk_76 (dk_at dksX1_deleteMin_3 23 rfl rfl)
theorem dX1_deleteMin_92 : decode cX1_deleteMin 92 = .ok (.iconst (-1), 1) := dk_2 (dk_at dksX1_deleteMin_4 0 rfl rfl)
theorem dX1_deleteMin_93 : decode cX1_deleteMin 93 = .ok (.istore_n 2, 1) := dk_61 (dk_at dksX1_deleteMin_4 1 rfl rfl)
theorem dX1_deleteMin_94 : decode cX1_deleteMin 94 = .ok (.iconst (-1), 1) := dk_2 (dk_at dksX1_deleteMin_4 2 rfl rfl)
theorem dX1_deleteMin_95 : decode cX1_deleteMin 95 = .ok (.istore_n 3, 1) := dk_62 (dk_at dksX1_deleteMin_4 3 rfl rfl)
theorem dX1_deleteMin_96 : decode cX1_deleteMin 96 = .ok (.iconst 0, 1) := dk_3 (dk_at dksX1_deleteMin_4 4 rfl rfl)
theorem dX1_deleteMin_97 : decode cX1_deleteMin 97 = .ok (.istore 4, 2) := dk_54 4 (dk_at dksX1_deleteMin_4 5 rfl rfl)
theorem dX1_deleteMin_99 : decode cX1_deleteMin 99 = .ok (.aload_n 0, 1) := dk_42 (dk_at dksX1_deleteMin_4 7 rfl rfl)
theorem dX1_deleteMin_100 : decode cX1_deleteMin 100 = .ok (.getfield 44, 3) := dk_180 0 44 (dk_at dksX1_deleteMin_4 8 rfl rfl)
theorem dX1_deleteMin_103 : decode cX1_deleteMin 103 = .ok (.aload_n 0, 1) := dk_42 (dk_at dksX1_deleteMin_4 11 rfl rfl)
theorem dX1_deleteMin_104 : decode cX1_deleteMin 104 = .ok (.getfield 54, 3) := dk_180 0 54 (dk_at dksX1_deleteMin_4 12 rfl rfl)
theorem dX1_deleteMin_107 : decode cX1_deleteMin 107 = .ok (.aaload, 1) := dk_50 (dk_at dksX1_deleteMin_4 15 rfl rfl)
theorem dX1_deleteMin_108 : decode cX1_deleteMin 108 = .ok (.invokeinterface 72 1, 5) := by decide +kernel
theorem dX1_deleteMin_113 : decode cX1_deleteMin 113 = .ok (.astore 5, 2) := dk_58 5 (dk_at dksX1_deleteMin_4 21 rfl rfl)
theorem dX1_deleteMin_115 : decode cX1_deleteMin 115 = .ok (.aload 5, 2) := dk_25 5 (dk_at dksX1_deleteMin_5 0 rfl rfl)
theorem dX1_deleteMin_117 : decode cX1_deleteMin 117 = .ok (.invokeinterface 76 1, 5) := by decide +kernel
theorem dX1_deleteMin_122 : decode cX1_deleteMin 122 = .ok (.ifCond .eq 89, 3) := dk_153 0 89 (dk_at dksX1_deleteMin_5 7 rfl rfl)
theorem dX1_deleteMin_125 : decode cX1_deleteMin 125 = .ok (.aload 5, 2) := dk_25 5 (dk_at dksX1_deleteMin_5 10 rfl rfl)
theorem dX1_deleteMin_127 : decode cX1_deleteMin 127 = .ok (.invokeinterface 82 1, 5) := by decide +kernel
theorem dX1_deleteMin_132 : decode cX1_deleteMin 132 = .ok (.astore 6, 2) := dk_58 6 (dk_at dksX1_deleteMin_5 17 rfl rfl)
theorem dX1_deleteMin_134 : decode cX1_deleteMin 134 = .ok (.iload 4, 2) := dk_21 4 (dk_at dksX1_deleteMin_5 19 rfl rfl)
theorem dX1_deleteMin_136 : decode cX1_deleteMin 136 = .ok (.aload_n 0, 1) := dk_42 (dk_at dksX1_deleteMin_5 21 rfl rfl)
theorem dX1_deleteMin_137 : decode cX1_deleteMin 137 = .ok (.getfield 61, 3) := dk_180 0 61 (dk_at dksX1_deleteMin_6 0 rfl rfl)
theorem dX1_deleteMin_140 : decode cX1_deleteMin 140 = .ok (.if_icmp .eq 65, 3) := dk_159 0 65 (dk_at dksX1_deleteMin_6 3 rfl rfl)
theorem dX1_deleteMin_143 : decode cX1_deleteMin 143 = .ok (.aload_n 0, 1) := dk_42 (dk_at dksX1_deleteMin_6 6 rfl rfl)
theorem dX1_deleteMin_144 : decode cX1_deleteMin 144 = .ok (.aload 6, 2) := dk_25 6 (dk_at dksX1_deleteMin_6 7 rfl rfl)
theorem dX1_deleteMin_146 : decode cX1_deleteMin 146 = .ok (.aload_n 0, 1) := dk_42 (dk_at dksX1_deleteMin_6 9 rfl rfl)
theorem dX1_deleteMin_147 : decode cX1_deleteMin 147 = .ok (.getfield 36, 3) := dk_180 0 36 (dk_at dksX1_deleteMin_6 10 rfl rfl)
theorem dX1_deleteMin_150 : decode cX1_deleteMin 150 = .ok (.invokevirtual 41, 3) := dk_182 0 41 (dk_at dksX1_deleteMin_6 13 rfl rfl)
theorem dX1_deleteMin_153 : decode cX1_deleteMin 153 = .ok (.istore 7, 2) := dk_54 7 (dk_at dksX1_deleteMin_6 16 rfl rfl)
theorem dX1_deleteMin_155 : decode cX1_deleteMin 155 = .ok (.aload_n 0, 1) := dk_42 (dk_at dksX1_deleteMin_6 18 rfl rfl)
theorem dX1_deleteMin_156 : decode cX1_deleteMin 156 = .ok (.getfield 44, 3) := dk_180 0 44 (dk_at dksX1_deleteMin_6 19 rfl rfl)
theorem dX1_deleteMin_159 : decode cX1_deleteMin 159 = .ok (.iload 7, 2) := dk_21 7 (dk_at dksX1_deleteMin_6 22 rfl rfl)
theorem dX1_deleteMin_161 : decode cX1_deleteMin 161 = .ok (.aaload, 1) := dk_50 (dk_at dksX1_deleteMin_7 0 rfl rfl)
theorem dX1_deleteMin_162 : decode cX1_deleteMin 162 = .ok (.aload 6, 2) := dk_25 6 (dk_at dksX1_deleteMin_7 1 rfl rfl)
theorem dX1_deleteMin_164 : decode cX1_deleteMin 164 = .ok (.invokeinterface 48 2, 5) := by decide +kernel
theorem dX1_deleteMin_169 : decode cX1_deleteMin 169 = .ok (.pop, 1) := dk_87 (dk_at dksX1_deleteMin_7 8 rfl rfl)
theorem dX1_deleteMin_170 : decode cX1_deleteMin 170 = .ok (.aload_n 1, 1) := dk_43 (dk_at dksX1_deleteMin_7 9 rfl rfl)
theorem dX1_deleteMin_171 : decode cX1_deleteMin 171 = .ok (.ifnull 13, 3) := dk_198 0 13 (dk_at dksX1_deleteMin_7 10 rfl rfl)
theorem dX1_deleteMin_174 : decode cX1_deleteMin 174 = .ok (.aload_n 0, 1) := dk_42 (dk_at dksX1_deleteMin_7 13 rfl rfl)
theorem dX1_deleteMin_175 : decode cX1_deleteMin 175 = .ok (.aload 6, 2) := dk_25 6 (dk_at dksX1_deleteMin_7 14 rfl rfl)
theorem dX1_deleteMin_177 : decode cX1_deleteMin 177 = .ok (.aload_n 1, 1) := dk_43 (dk_at dksX1_deleteMin_7 16 rfl rfl)
theorem dX1_deleteMin_178 : decode cX1_deleteMin 178 = .ok (.invokevirtual 30, 3) := dk_182 0 30 (dk_at dksX1_deleteMin_7 17 rfl rfl)
theorem dX1_deleteMin_181 : decode cX1_deleteMin 181 = .ok (.ifCond .ge 24, 3) := dk_156 0 24 (dk_at dksX1_deleteMin_7 20 rfl rfl)
theorem dX1_deleteMin_184 : decode cX1_deleteMin 184 = .ok (.aload 6, 2) := dk_25 6 (dk_at dksX1_deleteMin_8 0 rfl rfl)
theorem dX1_deleteMin_186 : decode cX1_deleteMin 186 = .ok (.astore_n 1, 1) := dk_76 (dk_at dksX1_deleteMin_8 2 rfl rfl)
theorem dX1_deleteMin_187 : decode cX1_deleteMin 187 = .ok (.iload 7, 2) := dk_21 7 (dk_at dksX1_deleteMin_8 3 rfl rfl)
theorem dX1_deleteMin_189 : decode cX1_deleteMin 189 = .ok (.istore_n 2, 1) := dk_61 (dk_at dksX1_deleteMin_8 5 rfl rfl)
theorem dX1_deleteMin_190 : decode cX1_deleteMin 190 = .ok (.aload_n 0, 1) := dk_42 (dk_at dksX1_deleteMin_8 6 rfl rfl)
theorem dX1_deleteMin_191 : decode cX1_deleteMin 191 = .ok (.getfield 44, 3) := dk_180 0 44 (dk_at dksX1_deleteMin_8 7 rfl rfl)
theorem dX1_deleteMin_194 : decode cX1_deleteMin 194 = .ok (.iload 7, 2) := dk_21 7 (dk_at dksX1_deleteMin_8 10 rfl rfl)
theorem dX1_deleteMin_196 : decode cX1_deleteMin 196 = .ok (.aaload, 1) := dk_50 (dk_at dksX1_deleteMin_8 12 rfl rfl)
theorem dX1_deleteMin_197 : decode cX1_deleteMin 197 = .ok (.invokeinterface 58 1, 5) := by decide +kernel
theorem dX1_deleteMin_202 : decode cX1_deleteMin 202 = .ok (.iconst 1, 1) := dk_4 (dk_at dksX1_deleteMin_8 18 rfl rfl)
theorem dX1_deleteMin_203 : decode cX1_deleteMin 203 = .ok (.isub, 1) := dk_100 (dk_at dksX1_deleteMin_8 19 rfl rfl)
theorem dX1_deleteMin_204 : decode cX1_deleteMin 204 = .ok (.istore_n 3, 1) := dk_62 (dk_at dksX1_deleteMin_8 20 rfl rfl)
theorem dX1_deleteMin_205 : decode cX1_deleteMin 205 = .ok (.iinc 4 1, 3) := dk_132 4 1 (dk_at dksX1_deleteMin_8 21 rfl rfl)
theorem dX1_deleteMin_208 : decode cX1_deleteMin 208 = .ok (.goto (-93), 3) := dk_167 255 163 (dk_at dksX1_deleteMin_9 0 rfl rfl)
theorem dX1_deleteMin_211 : decode cX1_deleteMin 211 = .ok (.aload_n 0, 1) := dk_42 (dk_at dksX1_deleteMin_9 3 rfl rfl)
theorem dX1_deleteMin_212 : decode cX1_deleteMin 212 = .ok (.getfield 44, 3) := dk_180 0 44 (dk_at dksX1_deleteMin_9 4 rfl rfl)
theorem dX1_deleteMin_215 : decode cX1_deleteMin 215 = .ok (.aload_n 0, 1) := dk_42 (dk_at dksX1_deleteMin_9 7 rfl rfl)
theorem dX1_deleteMin_216 : decode cX1_deleteMin 216 = .ok (.getfield 54, 3) := dk_180 0 54 (dk_at dksX1_deleteMin_9 8 rfl rfl)
theorem dX1_deleteMin_219 : decode cX1_deleteMin 219 = .ok (.aaload, 1) := dk_50 (dk_at dksX1_deleteMin_9 11 rfl rfl)
theorem dX1_deleteMin_220 : decode cX1_deleteMin 220 = .ok (.invokeinterface 86 1, 5) := by decide +kernel
theorem dX1_deleteMin_225 : decode cX1_deleteMin 225 = .ok (.aload_n 0, 1) := dk_42 (dk_at dksX1_deleteMin_9 17 rfl rfl)
theorem dX1_deleteMin_226 : decode cX1_deleteMin 226 = .ok (.aload_n 1, 1) := dk_43 (dk_at dksX1_deleteMin_9 18 rfl rfl)
theorem dX1_deleteMin_227 : decode cX1_deleteMin 227 = .ok (.putfield 16, 3) := dk_181 0 16 (dk_at dksX1_deleteMin_9 19 rfl rfl)
theorem dX1_deleteMin_230 : decode cX1_deleteMin 230 = .ok (.aload_n 0, 1) := dk_42 (dk_at dksX1_deleteMin_9 22 rfl rfl)
theorem dX1_deleteMin_231 : decode cX1_deleteMin 231 = .ok (.iload_n 2, 1) := dk_28 (dk_at dksX1_deleteMin_9 23 rfl rfl)
theorem dX1_deleteMin_232 : decode cX1_deleteMin 232 = .ok (.putfield 54, 3) := dk_181 0 54 (dk_at dksX1_deleteMin_10 0 rfl rfl)
theorem dX1_deleteMin_235 : decode cX1_deleteMin 235 = .ok (.aload_n 0, 1) := dk_42 (dk_at dksX1_deleteMin_10 3 rfl rfl)
theorem dX1_deleteMin_236 : decode cX1_deleteMin 236 = .ok (.iload_n 3, 1) := dk_29 (dk_at dksX1_deleteMin_10 4 rfl rfl)
theorem dX1_deleteMin_237 : decode cX1_deleteMin 237 = .ok (.putfield 61, 3) := dk_181 0 61 (dk_at dksX1_deleteMin_10 5 rfl rfl)
theorem dX1_deleteMin_240 : decode cX1_deleteMin 240 = .ok (.aload_n 0, 1) := dk_42 (dk_at dksX1_deleteMin_10 8 rfl rfl)
theorem dX1_deleteMin_241 : decode cX1_deleteMin 241 = .ok (.dup, 1) := dk_89 (dk_at dksX1_deleteMin_10 9 rfl rfl)
theorem dX1_deleteMin_242 : decode cX1_deleteMin 242 = .ok (.getfield 7, 3) := dk_180 0 7 (dk_at dksX1_deleteMin_10 10 rfl rfl)
theorem dX1_deleteMin_245 : decode cX1_deleteMin 245 = .ok (.lconst 1, 1) := dk_10 (dk_at dksX1_deleteMin_10 13 rfl rfl)
theorem dX1_deleteMin_246 : decode cX1_deleteMin 246 = .ok (.lsub, 1) := dk_101 (dk_at dksX1_deleteMin_10 14 rfl rfl)
theorem dX1_deleteMin_247 : decode cX1_deleteMin 247 = .ok (.dup2_x1, 1) := dk_93 (dk_at dksX1_deleteMin_10 15 rfl rfl)
theorem dX1_deleteMin_248 : decode cX1_deleteMin 248 = .ok (.putfield 7, 3) := dk_181 0 7 (dk_at dksX1_deleteMin_10 16 rfl rfl)
theorem dX1_deleteMin_251 : decode cX1_deleteMin 251 = .ok (.lconst 0, 1) := dk_9 (dk_at dksX1_deleteMin_10 19 rfl rfl)
theorem dX1_deleteMin_252 : decode cX1_deleteMin 252 = .ok (.lcmp, 1) := dk_148 (dk_at dksX1_deleteMin_10 20 rfl rfl)
theorem dX1_deleteMin_253 : decode cX1_deleteMin 253 = .ok (.ifCond .le 13, 3) := dk_158 0 13 (dk_at dksX1_deleteMin_10 21 rfl rfl)
theorem dX1_deleteMin_256 : decode cX1_deleteMin 256 = .ok (.aload_n 0, 1) := dk_42 (dk_at dksX1_deleteMin_11 0 rfl rfl)
theorem dX1_deleteMin_257 : decode cX1_deleteMin 257 = .ok (.aload_n 0, 1) := dk_42 (dk_at dksX1_deleteMin_11 1 rfl rfl)
theorem dX1_deleteMin_258 : decode cX1_deleteMin 258 = .ok (.getfield 54, 3) := dk_180 0 54 (dk_at dksX1_deleteMin_11 2 rfl rfl)
theorem dX1_deleteMin_261 : decode cX1_deleteMin 261 = .ok (.iconst 1, 1) := dk_4 (dk_at dksX1_deleteMin_11 5 rfl rfl)
theorem dX1_deleteMin_262 : decode cX1_deleteMin 262 = .ok (.iadd, 1) := dk_96 (dk_at dksX1_deleteMin_11 6 rfl rfl)
theorem dX1_deleteMin_263 : decode cX1_deleteMin 263 = .ok (.invokevirtual 68, 3) := dk_182 0 68 (dk_at dksX1_deleteMin_11 7 rfl rfl)
theorem dX1_deleteMin_266 : decode cX1_deleteMin 266 = .ok (.aload_n 0, 1) := dk_42 (dk_at dksX1_deleteMin_11 10 rfl rfl)
theorem dX1_deleteMin_267 : decode cX1_deleteMin 267 = .ok (.getfield 36, 3) := dk_180 0 36 (dk_at dksX1_deleteMin_11 11 rfl rfl)
theorem dX1_deleteMin_270 : decode cX1_deleteMin 270 = .ok (.areturn, 1) := dk_176 (dk_at dksX1_deleteMin_11 14 rfl rfl)
abbrev cX1_findAndCacheMinimum : ByteArray := prog_1_method_10_code
def yX1_findAndCacheMinimum : MethodName := ⟨RX1, "findAndCacheMinimum", "(I)V"⟩
def dkwX1_findAndCacheMinimum_5 : List UInt8 := [156, 0, 14, 42, 25, 4, 181, 0, 16, 42, 28, 181, 0, 61, 132, 2, 1, 167, 255, 205, 177]
abbrev dktX1_findAndCacheMinimum_5 : List UInt8 := dkwX1_findAndCacheMinimum_5 ++ []
def dkwX1_findAndCacheMinimum_4 : List UInt8 := [185, 0, 82, 1, 0, 58, 4, 42, 180, 0, 16, 198, 0, 16, 42, 25, 4, 42, 180, 0, 16, 182, 0, 30]
abbrev dktX1_findAndCacheMinimum_4 : List UInt8 := dkwX1_findAndCacheMinimum_4 ++ dktX1_findAndCacheMinimum_5
def dkwX1_findAndCacheMinimum_3 : List UInt8 := [180, 0, 54, 50, 185, 0, 72, 1, 0, 78, 45, 185, 0, 76, 1, 0, 153, 0, 48, 45]
abbrev dktX1_findAndCacheMinimum_3 : List UInt8 := dkwX1_findAndCacheMinimum_3 ++ dktX1_findAndCacheMinimum_4
def dkwX1_findAndCacheMinimum_2 : List UInt8 := [167, 255, 222, 42, 2, 181, 0, 61, 42, 180, 0, 54, 155, 0, 74, 3, 61, 42, 180, 0, 44, 42]
abbrev dktX1_findAndCacheMinimum_2 : List UInt8 := dkwX1_findAndCacheMinimum_2 ++ dktX1_findAndCacheMinimum_3
def dkwX1_findAndCacheMinimum_1 : List UInt8 := [180, 0, 44, 28, 50, 185, 0, 98, 1, 0, 154, 0, 11, 42, 28, 181, 0, 54, 167, 0, 9, 132, 2, 1]
abbrev dktX1_findAndCacheMinimum_1 : List UInt8 := dkwX1_findAndCacheMinimum_1 ++ dktX1_findAndCacheMinimum_2
def dkwX1_findAndCacheMinimum_0 : List UInt8 := [42, 180, 0, 16, 199, 0, 130, 42, 2, 181, 0, 54, 27, 61, 28, 42, 180, 0, 44, 190, 162, 0, 31, 42]
abbrev dktX1_findAndCacheMinimum_0 : List UInt8 := dkwX1_findAndCacheMinimum_0 ++ dktX1_findAndCacheMinimum_1
theorem dksX1_findAndCacheMinimum_0 : cX1_findAndCacheMinimum.data.toList.drop 0 = dktX1_findAndCacheMinimum_0 := by decide +kernel
theorem dksX1_findAndCacheMinimum_1 : cX1_findAndCacheMinimum.data.toList.drop 24 = dktX1_findAndCacheMinimum_1 := dk_seg dksX1_findAndCacheMinimum_0 24 rfl rfl
theorem dksX1_findAndCacheMinimum_2 : cX1_findAndCacheMinimum.data.toList.drop 48 = dktX1_findAndCacheMinimum_2 := dk_seg dksX1_findAndCacheMinimum_1 24 rfl rfl
theorem dksX1_findAndCacheMinimum_3 : cX1_findAndCacheMinimum.data.toList.drop 70 = dktX1_findAndCacheMinimum_3 := dk_seg dksX1_findAndCacheMinimum_2 22 rfl rfl
theorem dksX1_findAndCacheMinimum_4 : cX1_findAndCacheMinimum.data.toList.drop 90 = dktX1_findAndCacheMinimum_4 := dk_seg dksX1_findAndCacheMinimum_3 20 rfl rfl
theorem dksX1_findAndCacheMinimum_5 : cX1_findAndCacheMinimum.data.toList.drop 114 = dktX1_findAndCacheMinimum_5 := dk_seg dksX1_findAndCacheMinimum_4 24 rfl rfl
theorem dX1_findAndCacheMinimum_0 : decode cX1_findAndCacheMinimum 0 = .ok (.aload_n 0, 1) := dk_42 (dk_at dksX1_findAndCacheMinimum_0 0 rfl rfl)
theorem dX1_findAndCacheMinimum_1 : decode cX1_findAndCacheMinimum 1 = .ok (.getfield 16, 3) := dk_180 0 16 (dk_at dksX1_findAndCacheMinimum_0 1 rfl rfl)
theorem dX1_findAndCacheMinimum_4 : decode cX1_findAndCacheMinimum 4 = .ok (.ifnonnull 130, 3) := dk_199 0 130 (dk_at dksX1_findAndCacheMinimum_0 4 rfl rfl)
theorem dX1_findAndCacheMinimum_7 : decode cX1_findAndCacheMinimum 7 = .ok (.aload_n 0, 1) := dk_42 (dk_at dksX1_findAndCacheMinimum_0 7 rfl rfl)
theorem dX1_findAndCacheMinimum_8 : decode cX1_findAndCacheMinimum 8 = .ok (.iconst (-1), 1) := dk_2 (dk_at dksX1_findAndCacheMinimum_0 8 rfl rfl)
theorem dX1_findAndCacheMinimum_9 : decode cX1_findAndCacheMinimum 9 = .ok (.putfield 54, 3) := dk_181 0 54 (dk_at dksX1_findAndCacheMinimum_0 9 rfl rfl)
theorem dX1_findAndCacheMinimum_12 : decode cX1_findAndCacheMinimum 12 = .ok (.iload_n 1, 1) := dk_27 (dk_at dksX1_findAndCacheMinimum_0 12 rfl rfl)
theorem dX1_findAndCacheMinimum_13 : decode cX1_findAndCacheMinimum 13 = .ok (.istore_n 2, 1) := dk_61 (dk_at dksX1_findAndCacheMinimum_0 13 rfl rfl)
theorem dX1_findAndCacheMinimum_14 : decode cX1_findAndCacheMinimum 14 = .ok (.iload_n 2, 1) := dk_28 (dk_at dksX1_findAndCacheMinimum_0 14 rfl rfl)
theorem dX1_findAndCacheMinimum_15 : decode cX1_findAndCacheMinimum 15 = .ok (.aload_n 0, 1) := dk_42 (dk_at dksX1_findAndCacheMinimum_0 15 rfl rfl)
theorem dX1_findAndCacheMinimum_16 : decode cX1_findAndCacheMinimum 16 = .ok (.getfield 44, 3) := dk_180 0 44 (dk_at dksX1_findAndCacheMinimum_0 16 rfl rfl)
theorem dX1_findAndCacheMinimum_19 : decode cX1_findAndCacheMinimum 19 = .ok (.arraylength, 1) := dk_190 (dk_at dksX1_findAndCacheMinimum_0 19 rfl rfl)
theorem dX1_findAndCacheMinimum_20 : decode cX1_findAndCacheMinimum 20 = .ok (.if_icmp .ge 31, 3) := dk_162 0 31 (dk_at dksX1_findAndCacheMinimum_0 20 rfl rfl)
theorem dX1_findAndCacheMinimum_23 : decode cX1_findAndCacheMinimum 23 = .ok (.aload_n 0, 1) := dk_42 (dk_at dksX1_findAndCacheMinimum_0 23 rfl rfl)
theorem dX1_findAndCacheMinimum_24 : decode cX1_findAndCacheMinimum 24 = .ok (.getfield 44, 3) := dk_180 0 44 (dk_at dksX1_findAndCacheMinimum_1 0 rfl rfl)
theorem dX1_findAndCacheMinimum_27 : decode cX1_findAndCacheMinimum 27 = .ok (.iload_n 2, 1) := dk_28 (dk_at dksX1_findAndCacheMinimum_1 3 rfl rfl)
theorem dX1_findAndCacheMinimum_28 : decode cX1_findAndCacheMinimum 28 = .ok (.aaload, 1) := dk_50 (dk_at dksX1_findAndCacheMinimum_1 4 rfl rfl)
theorem dX1_findAndCacheMinimum_29 : decode cX1_findAndCacheMinimum 29 = .ok (.invokeinterface 98 1, 5) := by decide +kernel
theorem dX1_findAndCacheMinimum_34 : decode cX1_findAndCacheMinimum 34 = .ok (.ifCond .ne 11, 3) := dk_154 0 11 (dk_at dksX1_findAndCacheMinimum_1 10 rfl rfl)
theorem dX1_findAndCacheMinimum_37 : decode cX1_findAndCacheMinimum 37 = .ok (.aload_n 0, 1) := dk_42 (dk_at dksX1_findAndCacheMinimum_1 13 rfl rfl)
theorem dX1_findAndCacheMinimum_38 : decode cX1_findAndCacheMinimum 38 = .ok (.iload_n 2, 1) := dk_28 (dk_at dksX1_findAndCacheMinimum_1 14 rfl rfl)
theorem dX1_findAndCacheMinimum_39 : decode cX1_findAndCacheMinimum 39 = .ok (.putfield 54, 3) := dk_181 0 54 (dk_at dksX1_findAndCacheMinimum_1 15 rfl rfl)
theorem dX1_findAndCacheMinimum_42 : decode cX1_findAndCacheMinimum 42 = .ok (.goto 9, 3) := dk_167 0 9 (dk_at dksX1_findAndCacheMinimum_1 18 rfl rfl)
theorem dX1_findAndCacheMinimum_45 : decode cX1_findAndCacheMinimum 45 = .ok (.iinc 2 1, 3) := dk_132 2 1 (dk_at dksX1_findAndCacheMinimum_1 21 rfl rfl)
theorem dX1_findAndCacheMinimum_48 : decode cX1_findAndCacheMinimum 48 = .ok (.goto (-34), 3) := dk_167 255 222 (dk_at dksX1_findAndCacheMinimum_2 0 rfl rfl)
theorem dX1_findAndCacheMinimum_51 : decode cX1_findAndCacheMinimum 51 = .ok (.aload_n 0, 1) := dk_42 (dk_at dksX1_findAndCacheMinimum_2 3 rfl rfl)
theorem dX1_findAndCacheMinimum_52 : decode cX1_findAndCacheMinimum 52 = .ok (.iconst (-1), 1) := dk_2 (dk_at dksX1_findAndCacheMinimum_2 4 rfl rfl)
theorem dX1_findAndCacheMinimum_53 : decode cX1_findAndCacheMinimum 53 = .ok (.putfield 61, 3) := dk_181 0 61 (dk_at dksX1_findAndCacheMinimum_2 5 rfl rfl)
theorem dX1_findAndCacheMinimum_56 : decode cX1_findAndCacheMinimum 56 = .ok (.aload_n 0, 1) := dk_42 (dk_at dksX1_findAndCacheMinimum_2 8 rfl rfl)
theorem dX1_findAndCacheMinimum_57 : decode cX1_findAndCacheMinimum 57 = .ok (.getfield 54, 3) := dk_180 0 54 (dk_at dksX1_findAndCacheMinimum_2 9 rfl rfl)
theorem dX1_findAndCacheMinimum_60 : decode cX1_findAndCacheMinimum 60 = .ok (.ifCond .lt 74, 3) := dk_155 0 74 (dk_at dksX1_findAndCacheMinimum_2 12 rfl rfl)
theorem dX1_findAndCacheMinimum_63 : decode cX1_findAndCacheMinimum 63 = .ok (.iconst 0, 1) := dk_3 (dk_at dksX1_findAndCacheMinimum_2 15 rfl rfl)
theorem dX1_findAndCacheMinimum_64 : decode cX1_findAndCacheMinimum 64 = .ok (.istore_n 2, 1) := dk_61 (dk_at dksX1_findAndCacheMinimum_2 16 rfl rfl)
theorem dX1_findAndCacheMinimum_65 : decode cX1_findAndCacheMinimum 65 = .ok (.aload_n 0, 1) := dk_42 (dk_at dksX1_findAndCacheMinimum_2 17 rfl rfl)
theorem dX1_findAndCacheMinimum_66 : decode cX1_findAndCacheMinimum 66 = .ok (.getfield 44, 3) := dk_180 0 44 (dk_at dksX1_findAndCacheMinimum_2 18 rfl rfl)
theorem dX1_findAndCacheMinimum_69 : decode cX1_findAndCacheMinimum 69 = .ok (.aload_n 0, 1) := dk_42 (dk_at dksX1_findAndCacheMinimum_2 21 rfl rfl)
theorem dX1_findAndCacheMinimum_70 : decode cX1_findAndCacheMinimum 70 = .ok (.getfield 54, 3) := dk_180 0 54 (dk_at dksX1_findAndCacheMinimum_3 0 rfl rfl)
theorem dX1_findAndCacheMinimum_73 : decode cX1_findAndCacheMinimum 73 = .ok (.aaload, 1) := dk_50 (dk_at dksX1_findAndCacheMinimum_3 3 rfl rfl)
theorem dX1_findAndCacheMinimum_74 : decode cX1_findAndCacheMinimum 74 = .ok (.invokeinterface 72 1, 5) := by decide +kernel
theorem dX1_findAndCacheMinimum_79 : decode cX1_findAndCacheMinimum 79 = .ok (.astore_n 3, 1) := dk_78 (dk_at dksX1_findAndCacheMinimum_3 9 rfl rfl)
theorem dX1_findAndCacheMinimum_80 : decode cX1_findAndCacheMinimum 80 = .ok (.aload_n 3, 1) := dk_45 (dk_at dksX1_findAndCacheMinimum_3 10 rfl rfl)
theorem dX1_findAndCacheMinimum_81 : decode cX1_findAndCacheMinimum 81 = .ok (.invokeinterface 76 1, 5) := by decide +kernel
theorem dX1_findAndCacheMinimum_86 : decode cX1_findAndCacheMinimum 86 = .ok (.ifCond .eq 48, 3) := dk_153 0 48 (dk_at dksX1_findAndCacheMinimum_3 16 rfl rfl)
theorem dX1_findAndCacheMinimum_89 : decode cX1_findAndCacheMinimum 89 = .ok (.aload_n 3, 1) := dk_45 (dk_at dksX1_findAndCacheMinimum_3 19 rfl rfl)
theorem dX1_findAndCacheMinimum_90 : decode cX1_findAndCacheMinimum 90 = .ok (.invokeinterface 82 1, 5) := by decide +kernel
theorem dX1_findAndCacheMinimum_95 : decode cX1_findAndCacheMinimum 95 = .ok (.astore 4, 2) := dk_58 4 (dk_at dksX1_findAndCacheMinimum_4 5 rfl rfl)
theorem dX1_findAndCacheMinimum_97 : decode cX1_findAndCacheMinimum 97 = .ok (.aload_n 0, 1) := dk_42 (dk_at dksX1_findAndCacheMinimum_4 7 rfl rfl)
theorem dX1_findAndCacheMinimum_98 : decode cX1_findAndCacheMinimum 98 = .ok (.getfield 16, 3) := dk_180 0 16 (dk_at dksX1_findAndCacheMinimum_4 8 rfl rfl)
theorem dX1_findAndCacheMinimum_101 : decode cX1_findAndCacheMinimum 101 = .ok (.ifnull 16, 3) := dk_198 0 16 (dk_at dksX1_findAndCacheMinimum_4 11 rfl rfl)
theorem dX1_findAndCacheMinimum_104 : decode cX1_findAndCacheMinimum 104 = .ok (.aload_n 0, 1) := dk_42 (dk_at dksX1_findAndCacheMinimum_4 14 rfl rfl)
theorem dX1_findAndCacheMinimum_105 : decode cX1_findAndCacheMinimum 105 = .ok (.aload 4, 2) := dk_25 4 (dk_at dksX1_findAndCacheMinimum_4 15 rfl rfl)
theorem dX1_findAndCacheMinimum_107 : decode cX1_findAndCacheMinimum 107 = .ok (.aload_n 0, 1) := dk_42 (dk_at dksX1_findAndCacheMinimum_4 17 rfl rfl)
theorem dX1_findAndCacheMinimum_108 : decode cX1_findAndCacheMinimum 108 = .ok (.getfield 16, 3) := dk_180 0 16 (dk_at dksX1_findAndCacheMinimum_4 18 rfl rfl)
theorem dX1_findAndCacheMinimum_111 : decode cX1_findAndCacheMinimum 111 = .ok (.invokevirtual 30, 3) := dk_182 0 30 (dk_at dksX1_findAndCacheMinimum_4 21 rfl rfl)
theorem dX1_findAndCacheMinimum_114 : decode cX1_findAndCacheMinimum 114 = .ok (.ifCond .ge 14, 3) := dk_156 0 14 (dk_at dksX1_findAndCacheMinimum_5 0 rfl rfl)
theorem dX1_findAndCacheMinimum_117 : decode cX1_findAndCacheMinimum 117 = .ok (.aload_n 0, 1) := dk_42 (dk_at dksX1_findAndCacheMinimum_5 3 rfl rfl)
theorem dX1_findAndCacheMinimum_118 : decode cX1_findAndCacheMinimum 118 = .ok (.aload 4, 2) := dk_25 4 (dk_at dksX1_findAndCacheMinimum_5 4 rfl rfl)
theorem dX1_findAndCacheMinimum_120 : decode cX1_findAndCacheMinimum 120 = .ok (.putfield 16, 3) := dk_181 0 16 (dk_at dksX1_findAndCacheMinimum_5 6 rfl rfl)
theorem dX1_findAndCacheMinimum_123 : decode cX1_findAndCacheMinimum 123 = .ok (.aload_n 0, 1) := dk_42 (dk_at dksX1_findAndCacheMinimum_5 9 rfl rfl)
theorem dX1_findAndCacheMinimum_124 : decode cX1_findAndCacheMinimum 124 = .ok (.iload_n 2, 1) := dk_28 (dk_at dksX1_findAndCacheMinimum_5 10 rfl rfl)
theorem dX1_findAndCacheMinimum_125 : decode cX1_findAndCacheMinimum 125 = .ok (.putfield 61, 3) := dk_181 0 61 (dk_at dksX1_findAndCacheMinimum_5 11 rfl rfl)
theorem dX1_findAndCacheMinimum_128 : decode cX1_findAndCacheMinimum 128 = .ok (.iinc 2 1, 3) := dk_132 2 1 (dk_at dksX1_findAndCacheMinimum_5 14 rfl rfl)
theorem dX1_findAndCacheMinimum_131 : decode cX1_findAndCacheMinimum 131 = .ok (.goto (-51), 3) := dk_167 255 205 (dk_at dksX1_findAndCacheMinimum_5 17 rfl rfl)
theorem dX1_findAndCacheMinimum_134 : decode cX1_findAndCacheMinimum 134 = .ok (.return_, 1) := dk_177 (dk_at dksX1_findAndCacheMinimum_5 20 rfl rfl)
abbrev cX1_size : ByteArray := prog_1_method_6_code
def yX1_size : MethodName := ⟨RX1, "size", "()J"⟩
theorem dX1_size_0 : decode cX1_size 0 = .ok (.aload_n 0, 1) := by decide +kernel
theorem dX1_size_1 : decode cX1_size 1 = .ok (.getfield 7, 3) := by decide +kernel
theorem dX1_size_4 : decode cX1_size 4 = .ok (.lreturn, 1) := by decide +kernel
theorem q9 : (Jvm.Cond.initialized "AbstractRadixHeap") ∈ lw_all := lw_g (lw_at lw_m1 2 rfl) rfl
theorem q54 : (Jvm.Cond.instanceMethod ({ cls := "AbstractRadixHeap", name := "<init>", desc := "()V" } : Jvm.MethodName)) ∈ lw_all := lw_g (lw_at lw_m1 47 rfl) rfl
theorem q55 : (Jvm.Cond.code ({ cls := "AbstractRadixHeap", name := "<init>", desc := "()V" } : Jvm.MethodName) prog_1_method_1_code (1 : Nat) (Option.none : Option Jvm.ClassFile.FieldType)) ∈ lw_all := lw_g (lw_at lw_m1 48 rfl) rfl
theorem q56 : (Jvm.Cond.methodLink "AbstractRadixHeap" (1 : Nat) ({ cls := "java/lang/Object", name := "<init>", desc := "()V" } : Jvm.MethodName)) ∈ lw_all := lw_g (lw_at lw_m1 49 rfl) rfl
theorem q186 : (Jvm.Cond.fieldLink "AbstractRadixHeap" (44 : Nat) "AbstractRadixHeap" "buckets" "[Ljava/util/List;") ∈ lw_all := lw_g (lw_at lw_m1 179 rfl) rfl
theorem q189 : (Jvm.Cond.fieldLink "AbstractRadixHeap" (7 : Nat) "AbstractRadixHeap" "size" "J") ∈ lw_all := lw_g (lw_at lw_m1 182 rfl) rfl
theorem q192 : (Jvm.Cond.fieldLink "AbstractRadixHeap" (36 : Nat) "AbstractRadixHeap" "lastDeletedKey" "Ljava/lang/Object;") ∈ lw_all := lw_g (lw_at lw_m1 185 rfl) rfl
theorem q195 : (Jvm.Cond.fieldLink "AbstractRadixHeap" (16 : Nat) "AbstractRadixHeap" "currentMin" "Ljava/lang/Object;") ∈ lw_all := lw_g (lw_at lw_m1 188 rfl) rfl
theorem q196 : (Jvm.Cond.fieldLink "AbstractRadixHeap" (54 : Nat) "AbstractRadixHeap" "currentMinBucket" "I") ∈ lw_all := lw_g (lw_at lw_m1 189 rfl) rfl
theorem q197 : (Jvm.Cond.fieldLink "AbstractRadixHeap" (61 : Nat) "AbstractRadixHeap" "currentMinPos" "I") ∈ lw_all := lw_g (lw_at lw_m1 190 rfl) rfl
theorem q202 : (Jvm.Cond.fieldLink "AbstractRadixHeap" (27 : Nat) "AbstractRadixHeap" "maxKey" "Ljava/lang/Object;") ∈ lw_all := lw_g (lw_at lw_m1 195 rfl) rfl
theorem q204 : (Jvm.Cond.soleField "AbstractRadixHeap" "buckets") ∈ lw_all := lw_g (lw_at lw_m1 197 rfl) rfl
theorem q206 : (Jvm.Cond.soleField "AbstractRadixHeap" "size") ∈ lw_all := lw_g (lw_at lw_m1 199 rfl) rfl
theorem q208 : (Jvm.Cond.soleField "AbstractRadixHeap" "lastDeletedKey") ∈ lw_all := lw_g (lw_at lw_m1 201 rfl) rfl
theorem q210 : (Jvm.Cond.soleField "AbstractRadixHeap" "currentMin") ∈ lw_all := lw_g (lw_at lw_m1 203 rfl) rfl
theorem q212 : (Jvm.Cond.soleField "AbstractRadixHeap" "currentMinBucket") ∈ lw_all := lw_g (lw_at lw_m1 205 rfl) rfl
theorem q214 : (Jvm.Cond.soleField "AbstractRadixHeap" "currentMinPos") ∈ lw_all := lw_g (lw_at lw_m1 207 rfl) rfl
theorem q216 : (Jvm.Cond.soleField "AbstractRadixHeap" "minKey") ∈ lw_all := lw_g (lw_at lw_m1 209 rfl) rfl
theorem q218 : (Jvm.Cond.soleField "AbstractRadixHeap" "maxKey") ∈ lw_all := lw_g (lw_at lw_m1 211 rfl) rfl
theorem q241 : (Jvm.Cond.declares ({ cls := "AbstractRadixHeap", name := "insert", desc := "(Ljava/lang/Object;)V" } : Jvm.MethodName)) ∈ lw_tbl := lw_at lw_m1 234 rfl
theorem q243 : (Jvm.Cond.instanceMethod ({ cls := "AbstractRadixHeap", name := "insert", desc := "(Ljava/lang/Object;)V" } : Jvm.MethodName)) ∈ lw_all := lw_g (lw_at lw_m1 236 rfl) rfl
theorem q244 : (Jvm.Cond.code ({ cls := "AbstractRadixHeap", name := "insert", desc := "(Ljava/lang/Object;)V" } : Jvm.MethodName) prog_1_method_3_code (3 : Nat) (Option.none : Option Jvm.ClassFile.FieldType)) ∈ lw_all := lw_g (lw_at lw_m1 237 rfl) rfl
theorem q245 : (Jvm.Cond.classLink "AbstractRadixHeap" (20 : Nat) "java/lang/IllegalArgumentException") ∈ lw_all := lw_g (lw_at lw_m1 238 rfl) rfl
theorem q246 : (Jvm.Cond.stringRef "AbstractRadixHeap" (22 : Nat) "Null keys not permitted") ∈ lw_tbl := lw_at lw_m1 239 rfl
theorem q247 : (Jvm.Cond.methodLink "AbstractRadixHeap" (24 : Nat) ({ cls := "java/lang/IllegalArgumentException", name := "<init>", desc := "(Ljava/lang/String;)V" } : Jvm.MethodName)) ∈ lw_all := lw_g (lw_at lw_m2 0 rfl) rfl
theorem q248 : (Jvm.Cond.methodLink "AbstractRadixHeap" (30 : Nat) ({ cls := "AbstractRadixHeap", name := "compare", desc := "(Ljava/lang/Object;Ljava/lang/Object;)I" } : Jvm.MethodName)) ∈ lw_all := lw_g (lw_at lw_m2 1 rfl) rfl
theorem q249 : (Jvm.Cond.declares ({ cls := "AbstractRadixHeap", name := "compare", desc := "(Ljava/lang/Object;Ljava/lang/Object;)I" } : Jvm.MethodName)) ∈ lw_tbl := lw_at lw_m2 2 rfl
theorem q250 : (Jvm.Cond.sameMethod "AbstractRadixHeap" "AbstractRadixHeap" "compare" "(Ljava/lang/Object;Ljava/lang/Object;)I") ∈ lw_all := lw_g (lw_at lw_m2 3 rfl) rfl
theorem q263 : (Jvm.Cond.stringRef "AbstractRadixHeap" (34 : Nat) "Key is more than the maximum allowed key") ∈ lw_tbl := lw_at lw_m2 16 rfl
theorem q264 : (Jvm.Cond.stringRef "AbstractRadixHeap" (39 : Nat) "Invalid key. Monotone heap.") ∈ lw_tbl := lw_at lw_m2 17 rfl
theorem q265 : (Jvm.Cond.methodLink "AbstractRadixHeap" (41 : Nat) ({ cls := "AbstractRadixHeap", name := "computeBucket", desc := "(Ljava/lang/Object;Ljava/lang/Object;)I" } : Jvm.MethodName)) ∈ lw_all := lw_g (lw_at lw_m2 18 rfl) rfl
theorem q266 : (Jvm.Cond.instanceMethod ({ cls := "AbstractRadixHeap", name := "computeBucket", desc := "(Ljava/lang/Object;Ljava/lang/Object;)I" } : Jvm.MethodName)) ∈ lw_all := lw_g (lw_at lw_m2 19 rfl) rfl
theorem q267 : (Jvm.Cond.sameMethod "AbstractRadixHeap" "AbstractRadixHeap" "computeBucket" "(Ljava/lang/Object;Ljava/lang/Object;)I") ∈ lw_all := lw_g (lw_at lw_m2 20 rfl) rfl
theorem q269 : (Jvm.Cond.code ({ cls := "AbstractRadixHeap", name := "computeBucket", desc := "(Ljava/lang/Object;Ljava/lang/Object;)I" } : Jvm.MethodName) prog_1_method_8_code (3 : Nat) (Option.some Jvm.ClassFile.FieldType.int)) ∈ lw_all := lw_g (lw_at lw_m2 22 rfl) rfl
theorem q270 : (Jvm.Cond.methodLink "AbstractRadixHeap" (89 : Nat) ({ cls := "AbstractRadixHeap", name := "msd", desc := "(Ljava/lang/Object;Ljava/lang/Object;)I" } : Jvm.MethodName)) ∈ lw_all := lw_g (lw_at lw_m2 23 rfl) rfl
theorem q271 : (Jvm.Cond.declares ({ cls := "AbstractRadixHeap", name := "msd", desc := "(Ljava/lang/Object;Ljava/lang/Object;)I" } : Jvm.MethodName)) ∈ lw_tbl := lw_at lw_m2 24 rfl
theorem q272 : (Jvm.Cond.sameMethod "AbstractRadixHeap" "AbstractRadixHeap" "msd" "(Ljava/lang/Object;Ljava/lang/Object;)I") ∈ lw_all := lw_g (lw_at lw_m2 25 rfl) rfl
theorem q287 : (Jvm.Cond.methodLink "AbstractRadixHeap" (92 : Nat) ({ cls := "java/lang/Math", name := "min", desc := "(II)I" } : Jvm.MethodName)) ∈ lw_all := lw_g (lw_at lw_m2 40 rfl) rfl
theorem q290 : (Jvm.Cond.interfaceEntry "AbstractRadixHeap" (48 : Nat)) ∈ lw_tbl := lw_at lw_m2 43 rfl
theorem q291 : (Jvm.Cond.methodLink "AbstractRadixHeap" (48 : Nat) ({ cls := "java/util/List", name := "add", desc := "(Ljava/lang/Object;)Z" } : Jvm.MethodName)) ∈ lw_all := lw_g (lw_at lw_m2 44 rfl) rfl
theorem q349 : (Jvm.Cond.interfaceEntry "AbstractRadixHeap" (58 : Nat)) ∈ lw_tbl := lw_at lw_m2 102 rfl
theorem q350 : (Jvm.Cond.methodLink "AbstractRadixHeap" (58 : Nat) ({ cls := "java/util/List", name := "size", desc := "()I" } : Jvm.MethodName)) ∈ lw_all := lw_g (lw_at lw_m2 103 rfl) rfl
theorem q368 : (Jvm.Cond.declares ({ cls := "AbstractRadixHeap", name := "isEmpty", desc := "()Z" } : Jvm.MethodName)) ∈ lw_tbl := lw_at lw_m2 121 rfl
theorem q370 : (Jvm.Cond.instanceMethod ({ cls := "AbstractRadixHeap", name := "isEmpty", desc := "()Z" } : Jvm.MethodName)) ∈ lw_all := lw_g (lw_at lw_m2 123 rfl) rfl
theorem q371 : (Jvm.Cond.code ({ cls := "AbstractRadixHeap", name := "isEmpty", desc := "()Z" } : Jvm.MethodName) prog_1_method_5_code (1 : Nat) (Option.some Jvm.ClassFile.FieldType.boolean)) ∈ lw_all := lw_g (lw_at lw_m2 124 rfl) rfl
theorem q374 : (Jvm.Cond.declares ({ cls := "AbstractRadixHeap", name := "findMin", desc := "()Ljava/lang/Object;" } : Jvm.MethodName)) ∈ lw_tbl := lw_at lw_m2 127 rfl
theorem q376 : (Jvm.Cond.instanceMethod ({ cls := "AbstractRadixHeap", name := "findMin", desc := "()Ljava/lang/Object;" } : Jvm.MethodName)) ∈ lw_all := lw_g (lw_at lw_m2 129 rfl) rfl
theorem q377 : (Jvm.Cond.code ({ cls := "AbstractRadixHeap", name := "findMin", desc := "()Ljava/lang/Object;" } : Jvm.MethodName) prog_1_method_2_code (1 : Nat) (Option.some (Jvm.ClassFile.FieldType.object "java/lang/Object"))) ∈ lw_all := lw_g (lw_at lw_m2 130 rfl) rfl
theorem q378 : (Jvm.Cond.classLink "AbstractRadixHeap" (13 : Nat) "java/util/NoSuchElementException") ∈ lw_all := lw_g (lw_at lw_m2 131 rfl) rfl
theorem q387 : (Jvm.Cond.methodLink "AbstractRadixHeap" (15 : Nat) ({ cls := "java/util/NoSuchElementException", name := "<init>", desc := "()V" } : Jvm.MethodName)) ∈ lw_all := lw_g (lw_at lw_m2 140 rfl) rfl
theorem q407 : (Jvm.Cond.declares ({ cls := "AbstractRadixHeap", name := "deleteMin", desc := "()Ljava/lang/Object;" } : Jvm.MethodName)) ∈ lw_tbl := lw_at lw_m2 160 rfl
theorem q409 : (Jvm.Cond.instanceMethod ({ cls := "AbstractRadixHeap", name := "deleteMin", desc := "()Ljava/lang/Object;" } : Jvm.MethodName)) ∈ lw_all := lw_g (lw_at lw_m2 162 rfl) rfl
theorem q410 : (Jvm.Cond.code ({ cls := "AbstractRadixHeap", name := "deleteMin", desc := "()Ljava/lang/Object;" } : Jvm.MethodName) prog_1_method_4_code (8 : Nat) (Option.some (Jvm.ClassFile.FieldType.object "java/lang/Object"))) ∈ lw_all := lw_g (lw_at lw_m2 163 rfl) rfl
theorem q411 : (Jvm.Cond.interfaceEntry "AbstractRadixHeap" (64 : Nat)) ∈ lw_tbl := lw_at lw_m2 164 rfl
theorem q412 : (Jvm.Cond.methodLink "AbstractRadixHeap" (64 : Nat) ({ cls := "java/util/List", name := "remove", desc := "(I)Ljava/lang/Object;" } : Jvm.MethodName)) ∈ lw_all := lw_g (lw_at lw_m2 165 rfl) rfl
theorem q431 : (Jvm.Cond.methodLink "AbstractRadixHeap" (68 : Nat) ({ cls := "AbstractRadixHeap", name := "findAndCacheMinimum", desc := "(I)V" } : Jvm.MethodName)) ∈ lw_all := lw_g (lw_at lw_m2 184 rfl) rfl
theorem q432 : (Jvm.Cond.privateMethod ({ cls := "AbstractRadixHeap", name := "findAndCacheMinimum", desc := "(I)V" } : Jvm.MethodName)) ∈ lw_tbl := lw_at lw_m2 185 rfl
theorem q433 : (Jvm.Cond.instanceMethod ({ cls := "AbstractRadixHeap", name := "findAndCacheMinimum", desc := "(I)V" } : Jvm.MethodName)) ∈ lw_all := lw_g (lw_at lw_m2 186 rfl) rfl
theorem q434 : (Jvm.Cond.code ({ cls := "AbstractRadixHeap", name := "findAndCacheMinimum", desc := "(I)V" } : Jvm.MethodName) prog_1_method_10_code (5 : Nat) (Option.none : Option Jvm.ClassFile.FieldType)) ∈ lw_all := lw_g (lw_at lw_m2 187 rfl) rfl
theorem q435 : (Jvm.Cond.interfaceEntry "AbstractRadixHeap" (98 : Nat)) ∈ lw_tbl := lw_at lw_m2 188 rfl
theorem q436 : (Jvm.Cond.methodLink "AbstractRadixHeap" (98 : Nat) ({ cls := "java/util/List", name := "isEmpty", desc := "()Z" } : Jvm.MethodName)) ∈ lw_all := lw_g (lw_at lw_m2 189 rfl) rfl
theorem q444 : (Jvm.Cond.interfaceEntry "AbstractRadixHeap" (72 : Nat)) ∈ lw_tbl := lw_at lw_m2 197 rfl
theorem q445 : (Jvm.Cond.methodLink "AbstractRadixHeap" (72 : Nat) ({ cls := "java/util/List", name := "iterator", desc := "()Ljava/util/Iterator;" } : Jvm.MethodName)) ∈ lw_all := lw_g (lw_at lw_m2 198 rfl) rfl
theorem q472 : (Jvm.Cond.interfaceEntry "AbstractRadixHeap" (76 : Nat)) ∈ lw_tbl := lw_at lw_m2 225 rfl
theorem q473 : (Jvm.Cond.methodLink "AbstractRadixHeap" (76 : Nat) ({ cls := "java/util/Iterator", name := "hasNext", desc := "()Z" } : Jvm.MethodName)) ∈ lw_all := lw_g (lw_at lw_m2 226 rfl) rfl
theorem q482 : (Jvm.Cond.interfaceEntry "AbstractRadixHeap" (82 : Nat)) ∈ lw_tbl := lw_at lw_m2 235 rfl
theorem q483 : (Jvm.Cond.methodLink "AbstractRadixHeap" (82 : Nat) ({ cls := "java/util/Iterator", name := "next", desc := "()Ljava/lang/Object;" } : Jvm.MethodName)) ∈ lw_all := lw_g (lw_at lw_m2 236 rfl) rfl
theorem q495 : (Jvm.Cond.interfaceEntry "AbstractRadixHeap" (86 : Nat)) ∈ lw_tbl := lw_at lw_m3 8 rfl
theorem q496 : (Jvm.Cond.methodLink "AbstractRadixHeap" (86 : Nat) ({ cls := "java/util/List", name := "clear", desc := "()V" } : Jvm.MethodName)) ∈ lw_all := lw_g (lw_at lw_m3 9 rfl) rfl
theorem q510 : (Jvm.Cond.declares ({ cls := "AbstractRadixHeap", name := "size", desc := "()J" } : Jvm.MethodName)) ∈ lw_tbl := lw_at lw_m3 23 rfl
theorem q512 : (Jvm.Cond.instanceMethod ({ cls := "AbstractRadixHeap", name := "size", desc := "()J" } : Jvm.MethodName)) ∈ lw_all := lw_g (lw_at lw_m3 25 rfl) rfl
theorem q513 : (Jvm.Cond.code ({ cls := "AbstractRadixHeap", name := "size", desc := "()J" } : Jvm.MethodName) prog_1_method_6_code (1 : Nat) (Option.some Jvm.ClassFile.FieldType.long)) ∈ lw_all := lw_g (lw_at lw_m3 26 rfl) rfl
theorem q580 : (Jvm.Cond.sameMethod "AbstractRadixHeap" "AbstractRadixHeap" "findAndCacheMinimum" "(I)V") ∈ lw_all := lw_g (lw_at lw_m3 93 rfl) rfl
end
section
/-! IntegerRadixHeap -/
set_option maxRecDepth 100000
def RX2 : String := "IntegerRadixHeap"
def TX2 : u_T := fun k => match k with
  | 0 => ("AbstractRadixHeap", "buckets", "[Ljava/util/List;", false)
  | 1 => ("AbstractRadixHeap", "size", "J", false)
  | 2 => ("AbstractRadixHeap", "lastDeletedKey", "Ljava/lang/Object;", false)
  | 3 => ("AbstractRadixHeap", "currentMin", "Ljava/lang/Object;", false)
  | 4 => ("AbstractRadixHeap", "currentMinBucket", "I", false)
  | 5 => ("AbstractRadixHeap", "currentMinPos", "I", false)
  | 6 => ("AbstractRadixHeap", "minKey", "Ljava/lang/Object;", false)
  | _ => ("AbstractRadixHeap", "maxKey", "Ljava/lang/Object;", false)
def tyX2 : Nat → FieldType := fun k => match k with
  | 0 => .array (.object "java/util/List")
  | 1 => .long
  | 2 => .object "java/lang/Object"
  | 3 => .object "java/lang/Object"
  | 4 => .int
  | 5 => .int
  | 6 => .object "java/lang/Object"
  | _ => .object "java/lang/Object"
abbrev wsX20 : List Cond := u_ws RX2 TX2 8
theorem nmX2 : ∀ a, a < 8 → ∀ b, b < 8 → a ≠ b → (TX2 a).2.1 ≠ (TX2 b).2.1 := by decide +kernel
theorem tyX2_ok : ∀ k, k < 8 → parseFieldDescriptor (TX2 k).2.2.1 = some (tyX2 k) := by decide +kernel
abbrev cX2_init : ByteArray := prog_2_method_1_code
def yX2_init : MethodName := ⟨RX2, "<init>", "(II)V"⟩
def dkwX2_init_6 : List UInt8 := [181, 0, 58, 177]
abbrev dktX2_init_6 : List UInt8 := dkwX2_init_6 ++ []
def dkwX2_init_5 : List UInt8 := [21, 4, 187, 0, 51, 89, 183, 0, 53, 83, 132, 4, 1, 167, 255, 229, 42, 9, 181, 0, 54, 42, 1]
abbrev dktX2_init_5 : List UInt8 := dkwX2_init_5 ++ dktX2_init_6
def dkwX2_init_4 : List UInt8 := [189, 0, 45, 181, 0, 47, 3, 54, 4, 21, 4, 42, 180, 0, 47, 190, 162, 0, 23, 42, 180, 0, 47]
abbrev dktX2_init_4 : List UInt8 := dkwX2_init_4 ++ dktX2_init_5
def dkwX2_init_3 : List UInt8 := [135, 27, 135, 103, 184, 0, 34, 20, 0, 40, 184, 0, 34, 111, 184, 0, 42, 142, 96, 62, 42, 29]
abbrev dktX2_init_3 : List UInt8 := dkwX2_init_3 ++ dktX2_init_4
def dkwX2_init_2 : List UInt8 := [183, 0, 11, 191, 42, 28, 184, 0, 14, 181, 0, 31, 28, 27, 160, 0, 8, 5, 62, 167, 0, 25, 6, 28]
abbrev dktX2_init_2 : List UInt8 := dkwX2_init_2 ++ dktX2_init_3
def dkwX2_init_1 : List UInt8 := [181, 0, 20, 42, 27, 184, 0, 14, 181, 0, 26, 28, 27, 162, 0, 13, 187, 0, 7, 89, 18, 29]
abbrev dktX2_init_1 : List UInt8 := dkwX2_init_1 ++ dktX2_init_2
def dkwX2_init_0 : List UInt8 := [42, 183, 0, 1, 27, 156, 0, 13, 187, 0, 7, 89, 18, 9, 183, 0, 11, 191, 42, 27, 184, 0, 14]
abbrev dktX2_init_0 : List UInt8 := dkwX2_init_0 ++ dktX2_init_1
theorem dksX2_init_0 : cX2_init.data.toList.drop 0 = dktX2_init_0 := by decide +kernel
theorem dksX2_init_1 : cX2_init.data.toList.drop 23 = dktX2_init_1 := dk_seg dksX2_init_0 23 rfl rfl
theorem dksX2_init_2 : cX2_init.data.toList.drop 45 = dktX2_init_2 := dk_seg dksX2_init_1 22 rfl rfl
theorem dksX2_init_3 : cX2_init.data.toList.drop 69 = dktX2_init_3 := dk_seg dksX2_init_2 24 rfl rfl
theorem dksX2_init_4 : cX2_init.data.toList.drop 91 = dktX2_init_4 := dk_seg dksX2_init_3 22 rfl rfl
theorem dksX2_init_5 : cX2_init.data.toList.drop 114 = dktX2_init_5 := dk_seg dksX2_init_4 23 rfl rfl
theorem dksX2_init_6 : cX2_init.data.toList.drop 137 = dktX2_init_6 := dk_seg dksX2_init_5 23 rfl rfl
theorem dX2_init_0 : decode cX2_init 0 = .ok (.aload_n 0, 1) := dk_42 (dk_at dksX2_init_0 0 rfl rfl)
theorem dX2_init_1 : decode cX2_init 1 = .ok (.invokespecial 1, 3) := dk_183 0 1 (dk_at dksX2_init_0 1 rfl rfl)
theorem dX2_init_4 : decode cX2_init 4 = .ok (.iload_n 1, 1) := dk_27 (dk_at dksX2_init_0 4 rfl rfl)
theorem dX2_init_5 : decode cX2_init 5 = .ok (.ifCond .ge 13, 3) := dk_156 0 13 (dk_at dksX2_init_0 5 rfl rfl)
theorem dX2_init_8 : decode cX2_init 8 = .ok (.new 7, 3) := dk_187 0 7 (dk_at dksX2_init_0 8 rfl rfl)
theorem dX2_init_11 : decode cX2_init 11 = .ok (.dup, 1) := dk_89 (dk_at dksX2_init_0 11 rfl rfl)
theorem dX2_init_12 : decode cX2_init 12 = .ok (.ldc 9, 2) := dk_18 9 (dk_at dksX2_init_0 12 rfl rfl)
theorem dX2_init_14 : decode cX2_init 14 = .ok (.invokespecial 11, 3) := dk_183 0 11 (dk_at dksX2_init_0 14 rfl rfl)
theorem dX2_init_17 : decode cX2_init 17 = .ok (.athrow, 1) := dk_191 (dk_at dksX2_init_0 17 rfl rfl)
theorem dX2_init_18 : decode cX2_init 18 = .ok (.aload_n 0, 1) := dk_42 (dk_at dksX2_init_0 18 rfl rfl)
theorem dX2_init_19 : decode cX2_init 19 = .ok (.iload_n 1, 1) := dk_27 (dk_at dksX2_init_0 19 rfl rfl)
theorem dX2_init_20 : decode cX2_init 20 = .ok (.invokestatic 14, 3) := dk_184 0 14 (dk_at dksX2_init_0 20 rfl rfl)
theorem dX2_init_23 : decode cX2_init 23 = .ok (.putfield 20, 3) := dk_181 0 20 (dk_at dksX2_init_1 0 rfl rfl)
theorem dX2_init_26 : decode cX2_init 26 = .ok (.aload_n 0, 1) := dk_42 (dk_at dksX2_init_1 3 rfl rfl)
theorem dX2_init_27 : decode cX2_init 27 = .ok (.iload_n 1, 1) := dk_27 (dk_at dksX2_init_1 4 rfl rfl)
theorem dX2_init_28 : decode cX2_init 28 = .ok (.invokestatic 14, 3) := dk_184 0 14 (dk_at dksX2_init_1 5 rfl rfl)
theorem dX2_init_31 : decode cX2_init 31 = .ok (.putfield 26, 3) := dk_181 0 26 (dk_at dksX2_init_1 8 rfl rfl)
theorem dX2_init_34 : decode cX2_init 34 = .ok (.iload_n 2, 1) := dk_28 (dk_at dksX2_init_1 11 rfl rfl)
theorem dX2_init_35 : decode cX2_init 35 = .ok (.iload_n 1, 1) := dk_27 (dk_at dksX2_init_1 12 rfl rfl)
theorem dX2_init_36 : decode cX2_init 36 = .ok (.if_icmp .ge 13, 3) := dk_162 0 13 (dk_at dksX2_init_1 13 rfl rfl)
theorem dX2_init_39 : decode cX2_init 39 = .ok (.new 7, 3) := dk_187 0 7 (dk_at dksX2_init_1 16 rfl rfl)
theorem dX2_init_42 : decode cX2_init 42 = .ok (.dup, 1) := dk_89 (dk_at dksX2_init_1 19 rfl rfl)
theorem dX2_init_43 : decode cX2_init 43 = .ok (.ldc 29, 2) := dk_18 29 (dk_at dksX2_init_1 20 rfl rfl)
theorem dX2_init_45 : decode cX2_init 45 = .ok (.invokespecial 11, 3) := dk_183 0 11 (dk_at dksX2_init_2 0 rfl rfl)
theorem dX2_init_48 : decode cX2_init 48 = .ok (.athrow, 1) := dk_191 (dk_at dksX2_init_2 3 rfl rfl)
theorem dX2_init_49 : decode cX2_init 49 = .ok (.aload_n 0, 1) := dk_42 (dk_at dksX2_init_2 4 rfl rfl)
theorem dX2_init_50 : decode cX2_init 50 = .ok (.iload_n 2, 1) := dk_28 (dk_at dksX2_init_2 5 rfl rfl)
theorem dX2_init_51 : decode cX2_init 51 = .ok (.invokestatic 14, 3) := dk_184 0 14 (dk_at dksX2_init_2 6 rfl rfl)
theorem dX2_init_54 : decode cX2_init 54 = .ok (.putfield 31, 3) := dk_181 0 31 (dk_at dksX2_init_2 9 rfl rfl)
theorem dX2_init_57 : decode cX2_init 57 = .ok (.iload_n 2, 1) := dk_28 (dk_at dksX2_init_2 12 rfl rfl)
theorem dX2_init_58 : decode cX2_init 58 = .ok (.iload_n 1, 1) := dk_27 (dk_at dksX2_init_2 13 rfl rfl)
theorem dX2_init_59 : decode cX2_init 59 = .ok (.if_icmp .ne 8, 3) := dk_160 0 8 (dk_at dksX2_init_2 14 rfl rfl)
theorem dX2_init_62 : decode cX2_init 62 = .ok (.iconst 2, 1) := dk_5 (dk_at dksX2_init_2 17 rfl rfl)
theorem dX2_init_63 : decode cX2_init 63 = .ok (.istore_n 3, 1) := dk_62 (dk_at dksX2_init_2 18 rfl rfl)
theorem dX2_init_64 : decode cX2_init 64 = .ok (.goto 25, 3) := dk_167 0 25 (dk_at dksX2_init_2 19 rfl rfl)
theorem dX2_init_67 : decode cX2_init 67 = .ok (.iconst 3, 1) := dk_6 (dk_at dksX2_init_2 22 rfl rfl)
theorem dX2_init_68 : decode cX2_init 68 = .ok (.iload_n 2, 1) := dk_28 (dk_at dksX2_init_2 23 rfl rfl)
theorem dX2_init_69 : decode cX2_init 69 = .ok (.i2d, 1) := dk_135 (dk_at dksX2_init_3 0 rfl rfl)
theorem dX2_init_70 : decode cX2_init 70 = .ok (.iload_n 1, 1) := dk_27 (dk_at dksX2_init_3 1 rfl rfl)
theorem dX2_init_71 : decode cX2_init 71 = .ok (.i2d, 1) := dk_135 (dk_at dksX2_init_3 2 rfl rfl)
theorem dX2_init_72 : decode cX2_init 72 = .ok (.dsub, 1) := dk_103 (dk_at dksX2_init_3 3 rfl rfl)
theorem dX2_init_73 : decode cX2_init 73 = .ok (.invokestatic 34, 3) := dk_184 0 34 (dk_at dksX2_init_3 4 rfl rfl)
theorem dX2_init_76 : decode cX2_init 76 = .ok (.ldc2_w 40, 3) := dk_20 0 40 (dk_at dksX2_init_3 7 rfl rfl)
theorem dX2_init_79 : decode cX2_init 79 = .ok (.invokestatic 34, 3) := dk_184 0 34 (dk_at dksX2_init_3 10 rfl rfl)
theorem dX2_init_82 : decode cX2_init 82 = .ok (.ddiv, 1) := dk_111 (dk_at dksX2_init_3 13 rfl rfl)
theorem dX2_init_83 : decode cX2_init 83 = .ok (.invokestatic 42, 3) := dk_184 0 42 (dk_at dksX2_init_3 14 rfl rfl)
theorem dX2_init_86 : decode cX2_init 86 = .ok (.d2i, 1) := dk_142 (dk_at dksX2_init_3 17 rfl rfl)
theorem dX2_init_87 : decode cX2_init 87 = .ok (.iadd, 1) := dk_96 (dk_at dksX2_init_3 18 rfl rfl)
theorem dX2_init_88 : decode cX2_init 88 = .ok (.istore_n 3, 1) := dk_62 (dk_at dksX2_init_3 19 rfl rfl)
theorem dX2_init_89 : decode cX2_init 89 = .ok (.aload_n 0, 1) := dk_42 (dk_at dksX2_init_3 20 rfl rfl)
theorem dX2_init_90 : decode cX2_init 90 = .ok (.iload_n 3, 1) := dk_29 (dk_at dksX2_init_3 21 rfl rfl)
theorem dX2_init_91 : decode cX2_init 91 = .ok (.anewarray 45, 3) := dk_189 0 45 (dk_at dksX2_init_4 0 rfl rfl)
theorem dX2_init_94 : decode cX2_init 94 = .ok (.putfield 47, 3) := dk_181 0 47 (dk_at dksX2_init_4 3 rfl rfl)
theorem dX2_init_97 : decode cX2_init 97 = .ok (.iconst 0, 1) := dk_3 (dk_at dksX2_init_4 6 rfl rfl)
theorem dX2_init_98 : decode cX2_init 98 = .ok (.istore 4, 2) := dk_54 4 (dk_at dksX2_init_4 7 rfl rfl)
theorem dX2_init_100 : decode cX2_init 100 = .ok (.iload 4, 2) := dk_21 4 (dk_at dksX2_init_4 9 rfl rfl)
theorem dX2_init_102 : decode cX2_init 102 = .ok (.aload_n 0, 1) := dk_42 (dk_at dksX2_init_4 11 rfl rfl)
theorem dX2_init_103 : decode cX2_init 103 = .ok (.getfield 47, 3) := dk_180 0 47 (dk_at dksX2_init_4 12 rfl rfl)
theorem dX2_init_106 : decode cX2_init 106 = .ok (.arraylength, 1) := dk_190 (dk_at dksX2_init_4 15 rfl rfl)
theorem dX2_init_107 : decode cX2_init 107 = .ok (.if_icmp .ge 23, 3) := dk_162 0 23 (dk_at dksX2_init_4 16 rfl rfl)
theorem dX2_init_110 : decode cX2_init 110 = .ok (.aload_n 0, 1) := dk_42 (dk_at dksX2_init_4 19 rfl rfl)
theorem dX2_init_111 : decode cX2_init 111 = .ok (.getfield 47, 3) := dk_180 0 47 (dk_at dksX2_init_4 20 rfl rfl)
theorem dX2_init_114 : decode cX2_init 114 = .ok (.iload 4, 2) := dk_21 4 (dk_at dksX2_init_5 0 rfl rfl)
theorem dX2_init_116 : decode cX2_init 116 = .ok (.new 51, 3) := dk_187 0 51 (dk_at dksX2_init_5 2 rfl rfl)
theorem dX2_init_119 : decode cX2_init 119 = .ok (.dup, 1) := dk_89 (dk_at dksX2_init_5 5 rfl rfl)
theorem dX2_init_120 : decode cX2_init 120 = .ok (.invokespecial 53, 3) := dk_183 0 53 (dk_at dksX2_init_5 6 rfl rfl)
theorem dX2_init_123 : decode cX2_init 123 = .ok (.aastore, 1) := dk_83 (dk_at dksX2_init_5 9 rfl rfl)
theorem dX2_init_124 : decode cX2_init 124 = .ok (.iinc 4 1, 3) := dk_132 4 1 (dk_at dksX2_init_5 10 rfl rfl)
theorem dX2_init_127 : decode cX2_init 127 = .ok (.goto (-27), 3) := dk_167 255 229 (dk_at dksX2_init_5 13 rfl rfl)
theorem dX2_init_130 : decode cX2_init 130 = .ok (.aload_n 0, 1) := dk_42 (dk_at dksX2_init_5 16 rfl rfl)
theorem dX2_init_131 : decode cX2_init 131 = .ok (.lconst 0, 1) := dk_9 (dk_at dksX2_init_5 17 rfl rfl)
theorem dX2_init_132 : decode cX2_init 132 = .ok (.putfield 54, 3) := dk_181 0 54 (dk_at dksX2_init_5 18 rfl rfl)
theorem dX2_init_135 : decode cX2_init 135 = .ok (.aload_n 0, 1) := dk_42 (dk_at dksX2_init_5 21 rfl rfl)
theorem dX2_init_136 : decode cX2_init 136 = .ok (.aconst_null, 1) := dk_1 (dk_at dksX2_init_5 22 rfl rfl)
theorem dX2_init_137 : decode cX2_init 137 = .ok (.putfield 58, 3) := dk_181 0 58 (dk_at dksX2_init_6 0 rfl rfl)
theorem dX2_init_140 : decode cX2_init 140 = .ok (.return_, 1) := dk_177 (dk_at dksX2_init_6 3 rfl rfl)
abbrev cX2_compare : ByteArray := prog_2_method_5_code
def yX2_compare : MethodName := ⟨RX2, "compare", "(Ljava/lang/Object;Ljava/lang/Object;)I"⟩
def dkwX2_compare_0 : List UInt8 := [42, 43, 192, 0, 15, 44, 192, 0, 15, 182, 0, 75, 172]
abbrev dktX2_compare_0 : List UInt8 := dkwX2_compare_0 ++ []
theorem dksX2_compare_0 : cX2_compare.data.toList.drop 0 = dktX2_compare_0 := by decide +kernel
theorem dX2_compare_0 : decode cX2_compare 0 = .ok (.aload_n 0, 1) := dk_42 (dk_at dksX2_compare_0 0 rfl rfl)
theorem dX2_compare_1 : decode cX2_compare 1 = .ok (.aload_n 1, 1) := dk_43 (dk_at dksX2_compare_0 1 rfl rfl)
theorem dX2_compare_2 : decode cX2_compare 2 = .ok (.checkcast 15, 3) := dk_192 0 15 (dk_at dksX2_compare_0 2 rfl rfl)
theorem dX2_compare_5 : decode cX2_compare 5 = .ok (.aload_n 2, 1) := dk_44 (dk_at dksX2_compare_0 5 rfl rfl)
theorem dX2_compare_6 : decode cX2_compare 6 = .ok (.checkcast 15, 3) := dk_192 0 15 (dk_at dksX2_compare_0 6 rfl rfl)
theorem dX2_compare_9 : decode cX2_compare 9 = .ok (.invokevirtual 75, 3) := dk_182 0 75 (dk_at dksX2_compare_0 9 rfl rfl)
theorem dX2_compare_12 : decode cX2_compare 12 = .ok (.ireturn, 1) := dk_172 (dk_at dksX2_compare_0 12 rfl rfl)
abbrev cX2_compare_2 : ByteArray := prog_2_method_2_code
def yX2_compare_2 : MethodName := ⟨RX2, "compare", "(Ljava/lang/Integer;Ljava/lang/Integer;)I"⟩
def dkwX2_compare_2_1 : List UInt8 := [4, 172, 3, 172]
abbrev dktX2_compare_2_1 : List UInt8 := dkwX2_compare_2_1 ++ []
def dkwX2_compare_2_0 : List UInt8 := [43, 182, 0, 61, 44, 182, 0, 61, 162, 0, 5, 2, 172, 43, 182, 0, 61, 44, 182, 0, 61, 164, 0, 5]
abbrev dktX2_compare_2_0 : List UInt8 := dkwX2_compare_2_0 ++ dktX2_compare_2_1
theorem dksX2_compare_2_0 : cX2_compare_2.data.toList.drop 0 = dktX2_compare_2_0 := by decide +kernel
theorem dksX2_compare_2_1 : cX2_compare_2.data.toList.drop 24 = dktX2_compare_2_1 := dk_seg dksX2_compare_2_0 24 rfl rfl
theorem dX2_compare_2_0 : decode cX2_compare_2 0 = .ok (.aload_n 1, 1) := dk_43 (dk_at dksX2_compare_2_0 0 rfl rfl)
theorem dX2_compare_2_1 : decode cX2_compare_2 1 = .ok (.invokevirtual 61, 3) := dk_182 0 61 (dk_at dksX2_compare_2_0 1 rfl rfl)
theorem dX2_compare_2_4 : decode cX2_compare_2 4 = .ok (.aload_n 2, 1) := dk_44 (dk_at dksX2_compare_2_0 4 rfl rfl)
theorem dX2_compare_2_5 : decode cX2_compare_2 5 = .ok (.invokevirtual 61, 3) := dk_182 0 61 (dk_at dksX2_compare_2_0 5 rfl rfl)
theorem dX2_compare_2_8 : decode cX2_compare_2 8 = .ok (.if_icmp .ge 5, 3) := dk_162 0 5 (dk_at dksX2_compare_2_0 8 rfl rfl)
theorem dX2_compare_2_11 : decode cX2_compare_2 11 = .ok (.iconst (-1), 1) := dk_2 (dk_at dksX2_compare_2_0 11 rfl rfl)
theorem dX2_compare_2_12 : decode cX2_compare_2 12 = .ok (.ireturn, 1) := dk_172 (dk_at dksX2_compare_2_0 12 rfl rfl)
theorem dX2_compare_2_13 : decode cX2_compare_2 13 = .ok (.aload_n 1, 1) := dk_43 (dk_at dksX2_compare_2_0 13 rfl rfl)
theorem dX2_compare_2_14 : decode cX2_compare_2 14 = .ok (.invokevirtual 61, 3) := dk_182 0 61 (dk_at dksX2_compare_2_0 14 rfl rfl)
theorem dX2_compare_2_17 : decode cX2_compare_2 17 = .ok (.aload_n 2, 1) := dk_44 (dk_at dksX2_compare_2_0 17 rfl rfl)
theorem dX2_compare_2_18 : decode cX2_compare_2 18 = .ok (.invokevirtual 61, 3) := dk_182 0 61 (dk_at dksX2_compare_2_0 18 rfl rfl)
theorem dX2_compare_2_21 : decode cX2_compare_2 21 = .ok (.if_icmp .le 5, 3) := dk_164 0 5 (dk_at dksX2_compare_2_0 21 rfl rfl)
theorem dX2_compare_2_24 : decode cX2_compare_2 24 = .ok (.iconst 1, 1) := dk_4 (dk_at dksX2_compare_2_1 0 rfl rfl)
theorem dX2_compare_2_25 : decode cX2_compare_2 25 = .ok (.ireturn, 1) := dk_172 (dk_at dksX2_compare_2_1 1 rfl rfl)
theorem dX2_compare_2_26 : decode cX2_compare_2 26 = .ok (.iconst 0, 1) := dk_3 (dk_at dksX2_compare_2_1 2 rfl rfl)
theorem dX2_compare_2_27 : decode cX2_compare_2 27 = .ok (.ireturn, 1) := dk_172 (dk_at dksX2_compare_2_1 3 rfl rfl)
abbrev cX2_msd : ByteArray := prog_2_method_4_code
def yX2_msd : MethodName := ⟨RX2, "msd", "(Ljava/lang/Object;Ljava/lang/Object;)I"⟩
def dkwX2_msd_0 : List UInt8 := [42, 43, 192, 0, 15, 44, 192, 0, 15, 182, 0, 71, 172]
abbrev dktX2_msd_0 : List UInt8 := dkwX2_msd_0 ++ []
theorem dksX2_msd_0 : cX2_msd.data.toList.drop 0 = dktX2_msd_0 := by decide +kernel
theorem dX2_msd_0 : decode cX2_msd 0 = .ok (.aload_n 0, 1) := dk_42 (dk_at dksX2_msd_0 0 rfl rfl)
theorem dX2_msd_1 : decode cX2_msd 1 = .ok (.aload_n 1, 1) := dk_43 (dk_at dksX2_msd_0 1 rfl rfl)
theorem dX2_msd_2 : decode cX2_msd 2 = .ok (.checkcast 15, 3) := dk_192 0 15 (dk_at dksX2_msd_0 2 rfl rfl)
theorem dX2_msd_5 : decode cX2_msd 5 = .ok (.aload_n 2, 1) := dk_44 (dk_at dksX2_msd_0 5 rfl rfl)
theorem dX2_msd_6 : decode cX2_msd 6 = .ok (.checkcast 15, 3) := dk_192 0 15 (dk_at dksX2_msd_0 6 rfl rfl)
theorem dX2_msd_9 : decode cX2_msd 9 = .ok (.invokevirtual 71, 3) := dk_182 0 71 (dk_at dksX2_msd_0 9 rfl rfl)
theorem dX2_msd_12 : decode cX2_msd 12 = .ok (.ireturn, 1) := dk_172 (dk_at dksX2_msd_0 12 rfl rfl)
abbrev cX2_msd_2 : ByteArray := prog_2_method_3_code
def yX2_msd_2 : MethodName := ⟨RX2, "msd", "(Ljava/lang/Integer;Ljava/lang/Integer;)I"⟩
def dkwX2_msd_2_1 : List UInt8 := [37, 184, 0, 65, 172]
abbrev dktX2_msd_2_1 : List UInt8 := dkwX2_msd_2_1 ++ []
def dkwX2_msd_2_0 : List UInt8 := [43, 182, 0, 61, 44, 182, 0, 61, 160, 0, 5, 2, 172, 43, 182, 0, 61, 44, 182, 0, 61, 130, 134, 70]
abbrev dktX2_msd_2_0 : List UInt8 := dkwX2_msd_2_0 ++ dktX2_msd_2_1
theorem dksX2_msd_2_0 : cX2_msd_2.data.toList.drop 0 = dktX2_msd_2_0 := by decide +kernel
theorem dksX2_msd_2_1 : cX2_msd_2.data.toList.drop 24 = dktX2_msd_2_1 := dk_seg dksX2_msd_2_0 24 rfl rfl
theorem dX2_msd_2_0 : decode cX2_msd_2 0 = .ok (.aload_n 1, 1) := dk_43 (dk_at dksX2_msd_2_0 0 rfl rfl)
theorem dX2_msd_2_1 : decode cX2_msd_2 1 = .ok (.invokevirtual 61, 3) := dk_182 0 61 (dk_at dksX2_msd_2_0 1 rfl rfl)
theorem dX2_msd_2_4 : decode cX2_msd_2 4 = .ok (.aload_n 2, 1) := dk_44 (dk_at dksX2_msd_2_0 4 rfl rfl)
theorem dX2_msd_2_5 : decode cX2_msd_2 5 = .ok (.invokevirtual 61, 3) := dk_182 0 61 (dk_at dksX2_msd_2_0 5 rfl rfl)
theorem dX2_msd_2_8 : decode cX2_msd_2 8 = .ok (.if_icmp .ne 5, 3) := dk_160 0 5 (dk_at dksX2_msd_2_0 8 rfl rfl)
theorem dX2_msd_2_11 : decode cX2_msd_2 11 = .ok (.iconst (-1), 1) := dk_2 (dk_at dksX2_msd_2_0 11 rfl rfl)
theorem dX2_msd_2_12 : decode cX2_msd_2 12 = .ok (.ireturn, 1) := dk_172 (dk_at dksX2_msd_2_0 12 rfl rfl)
theorem dX2_msd_2_13 : decode cX2_msd_2 13 = .ok (.aload_n 1, 1) := dk_43 (dk_at dksX2_msd_2_0 13 rfl rfl)
theorem dX2_msd_2_14 : decode cX2_msd_2 14 = .ok (.invokevirtual 61, 3) := dk_182 0 61 (dk_at dksX2_msd_2_0 14 rfl rfl)
theorem dX2_msd_2_17 : decode cX2_msd_2 17 = .ok (.aload_n 2, 1) := dk_44 (dk_at dksX2_msd_2_0 17 rfl rfl)
theorem dX2_msd_2_18 : decode cX2_msd_2 18 = .ok (.invokevirtual 61, 3) := dk_182 0 61 (dk_at dksX2_msd_2_0 18 rfl rfl)
theorem dX2_msd_2_21 : decode cX2_msd_2 21 = .ok (.ixor, 1) := dk_130 (dk_at dksX2_msd_2_0 21 rfl rfl)
theorem dX2_msd_2_22 : decode cX2_msd_2 22 = .ok (.i2f, 1) := dk_134 (dk_at dksX2_msd_2_0 22 rfl rfl)
theorem dX2_msd_2_23 : decode cX2_msd_2 23 = .ok (.fstore_n 3, 1) := dk_70 (dk_at dksX2_msd_2_0 23 rfl rfl)
theorem dX2_msd_2_24 : decode cX2_msd_2 24 = .ok (.fload_n 3, 1) := dk_37 (dk_at dksX2_msd_2_1 0 rfl rfl)
theorem dX2_msd_2_25 : decode cX2_msd_2 25 = .ok (.invokestatic 65, 3) := dk_184 0 65 (dk_at dksX2_msd_2_1 1 rfl rfl)
theorem dX2_msd_2_28 : decode cX2_msd_2 28 = .ok (.ireturn, 1) := dk_172 (dk_at dksX2_msd_2_1 4 rfl rfl)
theorem q10 : (Jvm.Cond.initialized "IntegerRadixHeap") ∈ lw_all := lw_g (lw_at lw_m1 3 rfl) rfl
theorem q48 : (Jvm.Cond.instantiable "IntegerRadixHeap" (8 : Nat)) ∈ lw_all := lw_g (lw_at lw_m1 41 rfl) rfl
theorem q51 : (Jvm.Cond.instanceMethod ({ cls := "IntegerRadixHeap", name := "<init>", desc := "(II)V" } : Jvm.MethodName)) ∈ lw_all := lw_g (lw_at lw_m1 44 rfl) rfl
theorem q52 : (Jvm.Cond.code ({ cls := "IntegerRadixHeap", name := "<init>", desc := "(II)V" } : Jvm.MethodName) prog_2_method_1_code (5 : Nat) (Option.none : Option Jvm.ClassFile.FieldType)) ∈ lw_all := lw_g (lw_at lw_m1 45 rfl) rfl
theorem q53 : (Jvm.Cond.methodLink "IntegerRadixHeap" (1 : Nat) ({ cls := "AbstractRadixHeap", name := "<init>", desc := "()V" } : Jvm.MethodName)) ∈ lw_all := lw_g (lw_at lw_m1 46 rfl) rfl
theorem q57 : (Jvm.Cond.classLink "IntegerRadixHeap" (7 : Nat) "java/lang/IllegalArgumentException") ∈ lw_all := lw_g (lw_at lw_m1 50 rfl) rfl
theorem q97 : (Jvm.Cond.stringRef "IntegerRadixHeap" (9 : Nat) "Minimum key must be non-negative") ∈ lw_tbl := lw_at lw_m1 90 rfl
theorem q98 : (Jvm.Cond.methodLink "IntegerRadixHeap" (11 : Nat) ({ cls := "java/lang/IllegalArgumentException", name := "<init>", desc := "(Ljava/lang/String;)V" } : Jvm.MethodName)) ∈ lw_all := lw_g (lw_at lw_m1 91 rfl) rfl
theorem q124 : (Jvm.Cond.methodLink "IntegerRadixHeap" (14 : Nat) ({ cls := "java/lang/Integer", name := "valueOf", desc := "(I)Ljava/lang/Integer;" } : Jvm.MethodName)) ∈ lw_all := lw_g (lw_at lw_m1 117 rfl) rfl
theorem q144 : (Jvm.Cond.stringRef "IntegerRadixHeap" (29 : Nat) "Maximum key cannot be less than the minimum") ∈ lw_tbl := lw_at lw_m1 137 rfl
theorem q145 : (Jvm.Cond.methodLink "IntegerRadixHeap" (34 : Nat) ({ cls := "IntegerRadixHeapDesk", name := "log", desc := "(D)D" } : Jvm.MethodName)) ∈ lw_all := lw_g (lw_at lw_m1 138 rfl) rfl
theorem q149 : (Jvm.Cond.constantDouble "IntegerRadixHeap" (40 : Nat) (4611686018427387904 : UInt64)) ∈ lw_all := lw_g (lw_at lw_m1 142 rfl) rfl
theorem q150 : (Jvm.Cond.methodLink "IntegerRadixHeap" (42 : Nat) ({ cls := "IntegerRadixHeapDesk", name := "floor", desc := "(D)D" } : Jvm.MethodName)) ∈ lw_all := lw_g (lw_at lw_m1 143 rfl) rfl
theorem q153 : (Jvm.Cond.classLink "IntegerRadixHeap" (45 : Nat) "java/util/List") ∈ lw_all := lw_g (lw_at lw_m1 146 rfl) rfl
theorem q155 : (Jvm.Cond.classLink "IntegerRadixHeap" (51 : Nat) "java/util/ArrayList") ∈ lw_all := lw_g (lw_at lw_m1 148 rfl) rfl
theorem q157 : (Jvm.Cond.methodLink "IntegerRadixHeap" (53 : Nat) ({ cls := "java/util/ArrayList", name := "<init>", desc := "()V" } : Jvm.MethodName)) ∈ lw_all := lw_g (lw_at lw_m1 150 rfl) rfl
theorem q184 : (Jvm.Cond.fieldLink "IntegerRadixHeap" (47 : Nat) "IntegerRadixHeap" "buckets" "[Ljava/util/List;") ∈ lw_all := lw_g (lw_at lw_m1 177 rfl) rfl
theorem q185 : (Jvm.Cond.sameField "IntegerRadixHeap" "AbstractRadixHeap" "buckets" "[Ljava/util/List;") ∈ lw_all := lw_g (lw_at lw_m1 178 rfl) rfl
theorem q187 : (Jvm.Cond.fieldLink "IntegerRadixHeap" (54 : Nat) "IntegerRadixHeap" "size" "J") ∈ lw_all := lw_g (lw_at lw_m1 180 rfl) rfl
theorem q188 : (Jvm.Cond.sameField "IntegerRadixHeap" "AbstractRadixHeap" "size" "J") ∈ lw_all := lw_g (lw_at lw_m1 181 rfl) rfl
theorem q190 : (Jvm.Cond.fieldLink "IntegerRadixHeap" (26 : Nat) "IntegerRadixHeap" "lastDeletedKey" "Ljava/lang/Object;") ∈ lw_all := lw_g (lw_at lw_m1 183 rfl) rfl
theorem q191 : (Jvm.Cond.sameField "IntegerRadixHeap" "AbstractRadixHeap" "lastDeletedKey" "Ljava/lang/Object;") ∈ lw_all := lw_g (lw_at lw_m1 184 rfl) rfl
theorem q193 : (Jvm.Cond.fieldLink "IntegerRadixHeap" (58 : Nat) "IntegerRadixHeap" "currentMin" "Ljava/lang/Object;") ∈ lw_all := lw_g (lw_at lw_m1 186 rfl) rfl
theorem q194 : (Jvm.Cond.sameField "IntegerRadixHeap" "AbstractRadixHeap" "currentMin" "Ljava/lang/Object;") ∈ lw_all := lw_g (lw_at lw_m1 187 rfl) rfl
theorem q198 : (Jvm.Cond.fieldLink "IntegerRadixHeap" (20 : Nat) "IntegerRadixHeap" "minKey" "Ljava/lang/Object;") ∈ lw_all := lw_g (lw_at lw_m1 191 rfl) rfl
theorem q199 : (Jvm.Cond.sameField "IntegerRadixHeap" "AbstractRadixHeap" "minKey" "Ljava/lang/Object;") ∈ lw_all := lw_g (lw_at lw_m1 192 rfl) rfl
theorem q200 : (Jvm.Cond.fieldLink "IntegerRadixHeap" (31 : Nat) "IntegerRadixHeap" "maxKey" "Ljava/lang/Object;") ∈ lw_all := lw_g (lw_at lw_m1 193 rfl) rfl
theorem q201 : (Jvm.Cond.sameField "IntegerRadixHeap" "AbstractRadixHeap" "maxKey" "Ljava/lang/Object;") ∈ lw_all := lw_g (lw_at lw_m1 194 rfl) rfl
theorem q203 : (Jvm.Cond.lays "IntegerRadixHeap" "AbstractRadixHeap" "buckets" "[Ljava/util/List;") ∈ lw_all := lw_g (lw_at lw_m1 196 rfl) rfl
theorem q205 : (Jvm.Cond.lays "IntegerRadixHeap" "AbstractRadixHeap" "size" "J") ∈ lw_all := lw_g (lw_at lw_m1 198 rfl) rfl
theorem q207 : (Jvm.Cond.lays "IntegerRadixHeap" "AbstractRadixHeap" "lastDeletedKey" "Ljava/lang/Object;") ∈ lw_all := lw_g (lw_at lw_m1 200 rfl) rfl
theorem q209 : (Jvm.Cond.lays "IntegerRadixHeap" "AbstractRadixHeap" "currentMin" "Ljava/lang/Object;") ∈ lw_all := lw_g (lw_at lw_m1 202 rfl) rfl
theorem q211 : (Jvm.Cond.lays "IntegerRadixHeap" "AbstractRadixHeap" "currentMinBucket" "I") ∈ lw_all := lw_g (lw_at lw_m1 204 rfl) rfl
theorem q213 : (Jvm.Cond.lays "IntegerRadixHeap" "AbstractRadixHeap" "currentMinPos" "I") ∈ lw_all := lw_g (lw_at lw_m1 206 rfl) rfl
theorem q215 : (Jvm.Cond.lays "IntegerRadixHeap" "AbstractRadixHeap" "minKey" "Ljava/lang/Object;") ∈ lw_all := lw_g (lw_at lw_m1 208 rfl) rfl
theorem q217 : (Jvm.Cond.lays "IntegerRadixHeap" "AbstractRadixHeap" "maxKey" "Ljava/lang/Object;") ∈ lw_all := lw_g (lw_at lw_m1 210 rfl) rfl
theorem q219 : (Jvm.Cond.superclass "IntegerRadixHeap" "AbstractRadixHeap") ∈ lw_all := lw_g (lw_at lw_m1 212 rfl) rfl
theorem q240 : (Jvm.Cond.sameMethod "IntegerRadixHeap" "AbstractRadixHeap" "insert" "(Ljava/lang/Object;)V") ∈ lw_all := lw_g (lw_at lw_m1 233 rfl) rfl
theorem q242 : (Jvm.Cond.selects "IntegerRadixHeap" ({ cls := "IntegerRadixHeap", name := "insert", desc := "(Ljava/lang/Object;)V" } : Jvm.MethodName) ({ cls := "AbstractRadixHeap", name := "insert", desc := "(Ljava/lang/Object;)V" } : Jvm.MethodName)) ∈ lw_all := lw_g (lw_at lw_m1 235 rfl) rfl
theorem q251 : (Jvm.Cond.selects "IntegerRadixHeap" ({ cls := "AbstractRadixHeap", name := "compare", desc := "(Ljava/lang/Object;Ljava/lang/Object;)I" } : Jvm.MethodName) ({ cls := "IntegerRadixHeap", name := "compare", desc := "(Ljava/lang/Object;Ljava/lang/Object;)I" } : Jvm.MethodName)) ∈ lw_all := lw_g (lw_at lw_m2 4 rfl) rfl
theorem q252 : (Jvm.Cond.instanceMethod ({ cls := "IntegerRadixHeap", name := "compare", desc := "(Ljava/lang/Object;Ljava/lang/Object;)I" } : Jvm.MethodName)) ∈ lw_all := lw_g (lw_at lw_m2 5 rfl) rfl
theorem q253 : (Jvm.Cond.code ({ cls := "IntegerRadixHeap", name := "compare", desc := "(Ljava/lang/Object;Ljava/lang/Object;)I" } : Jvm.MethodName) prog_2_method_5_code (3 : Nat) (Option.some Jvm.ClassFile.FieldType.int)) ∈ lw_all := lw_g (lw_at lw_m2 6 rfl) rfl
theorem q254 : (Jvm.Cond.classLink "IntegerRadixHeap" (15 : Nat) "java/lang/Integer") ∈ lw_all := lw_g (lw_at lw_m2 7 rfl) rfl
theorem q255 : (Jvm.Cond.methodLink "IntegerRadixHeap" (75 : Nat) ({ cls := "IntegerRadixHeap", name := "compare", desc := "(Ljava/lang/Integer;Ljava/lang/Integer;)I" } : Jvm.MethodName)) ∈ lw_all := lw_g (lw_at lw_m2 8 rfl) rfl
theorem q256 : (Jvm.Cond.instanceMethod ({ cls := "IntegerRadixHeap", name := "compare", desc := "(Ljava/lang/Integer;Ljava/lang/Integer;)I" } : Jvm.MethodName)) ∈ lw_all := lw_g (lw_at lw_m2 9 rfl) rfl
theorem q257 : (Jvm.Cond.selects "IntegerRadixHeap" ({ cls := "IntegerRadixHeap", name := "compare", desc := "(Ljava/lang/Integer;Ljava/lang/Integer;)I" } : Jvm.MethodName) ({ cls := "IntegerRadixHeap", name := "compare", desc := "(Ljava/lang/Integer;Ljava/lang/Integer;)I" } : Jvm.MethodName)) ∈ lw_all := lw_g (lw_at lw_m2 10 rfl) rfl
theorem q258 : (Jvm.Cond.code ({ cls := "IntegerRadixHeap", name := "compare", desc := "(Ljava/lang/Integer;Ljava/lang/Integer;)I" } : Jvm.MethodName) prog_2_method_2_code (3 : Nat) (Option.some Jvm.ClassFile.FieldType.int)) ∈ lw_all := lw_g (lw_at lw_m2 11 rfl) rfl
theorem q259 : (Jvm.Cond.methodLink "IntegerRadixHeap" (61 : Nat) ({ cls := "java/lang/Integer", name := "intValue", desc := "()I" } : Jvm.MethodName)) ∈ lw_all := lw_g (lw_at lw_m2 12 rfl) rfl
theorem q268 : (Jvm.Cond.selects "IntegerRadixHeap" ({ cls := "AbstractRadixHeap", name := "computeBucket", desc := "(Ljava/lang/Object;Ljava/lang/Object;)I" } : Jvm.MethodName) ({ cls := "AbstractRadixHeap", name := "computeBucket", desc := "(Ljava/lang/Object;Ljava/lang/Object;)I" } : Jvm.MethodName)) ∈ lw_all := lw_g (lw_at lw_m2 21 rfl) rfl
theorem q273 : (Jvm.Cond.selects "IntegerRadixHeap" ({ cls := "AbstractRadixHeap", name := "msd", desc := "(Ljava/lang/Object;Ljava/lang/Object;)I" } : Jvm.MethodName) ({ cls := "IntegerRadixHeap", name := "msd", desc := "(Ljava/lang/Object;Ljava/lang/Object;)I" } : Jvm.MethodName)) ∈ lw_all := lw_g (lw_at lw_m2 26 rfl) rfl
theorem q274 : (Jvm.Cond.instanceMethod ({ cls := "IntegerRadixHeap", name := "msd", desc := "(Ljava/lang/Object;Ljava/lang/Object;)I" } : Jvm.MethodName)) ∈ lw_all := lw_g (lw_at lw_m2 27 rfl) rfl
theorem q275 : (Jvm.Cond.code ({ cls := "IntegerRadixHeap", name := "msd", desc := "(Ljava/lang/Object;Ljava/lang/Object;)I" } : Jvm.MethodName) prog_2_method_4_code (3 : Nat) (Option.some Jvm.ClassFile.FieldType.int)) ∈ lw_all := lw_g (lw_at lw_m2 28 rfl) rfl
theorem q276 : (Jvm.Cond.methodLink "IntegerRadixHeap" (71 : Nat) ({ cls := "IntegerRadixHeap", name := "msd", desc := "(Ljava/lang/Integer;Ljava/lang/Integer;)I" } : Jvm.MethodName)) ∈ lw_all := lw_g (lw_at lw_m2 29 rfl) rfl
theorem q277 : (Jvm.Cond.instanceMethod ({ cls := "IntegerRadixHeap", name := "msd", desc := "(Ljava/lang/Integer;Ljava/lang/Integer;)I" } : Jvm.MethodName)) ∈ lw_all := lw_g (lw_at lw_m2 30 rfl) rfl
theorem q278 : (Jvm.Cond.selects "IntegerRadixHeap" ({ cls := "IntegerRadixHeap", name := "msd", desc := "(Ljava/lang/Integer;Ljava/lang/Integer;)I" } : Jvm.MethodName) ({ cls := "IntegerRadixHeap", name := "msd", desc := "(Ljava/lang/Integer;Ljava/lang/Integer;)I" } : Jvm.MethodName)) ∈ lw_all := lw_g (lw_at lw_m2 31 rfl) rfl
theorem q279 : (Jvm.Cond.code ({ cls := "IntegerRadixHeap", name := "msd", desc := "(Ljava/lang/Integer;Ljava/lang/Integer;)I" } : Jvm.MethodName) prog_2_method_3_code (4 : Nat) (Option.some Jvm.ClassFile.FieldType.int)) ∈ lw_all := lw_g (lw_at lw_m2 32 rfl) rfl
theorem q280 : (Jvm.Cond.methodLink "IntegerRadixHeap" (65 : Nat) ({ cls := "java/lang/Math", name := "getExponent", desc := "(F)I" } : Jvm.MethodName)) ∈ lw_all := lw_g (lw_at lw_m2 33 rfl) rfl
theorem q328 : (Jvm.Cond.selects "IntegerRadixHeap" ({ cls := "java/lang/Object", name := "getClass", desc := "()Ljava/lang/Class;" } : Jvm.MethodName) ({ cls := "java/lang/Object", name := "getClass", desc := "()Ljava/lang/Class;" } : Jvm.MethodName)) ∈ lw_all := lw_g (lw_at lw_m2 81 rfl) rfl
theorem q367 : (Jvm.Cond.sameMethod "IntegerRadixHeap" "AbstractRadixHeap" "isEmpty" "()Z") ∈ lw_all := lw_g (lw_at lw_m2 120 rfl) rfl
theorem q369 : (Jvm.Cond.selects "IntegerRadixHeap" ({ cls := "IntegerRadixHeap", name := "isEmpty", desc := "()Z" } : Jvm.MethodName) ({ cls := "AbstractRadixHeap", name := "isEmpty", desc := "()Z" } : Jvm.MethodName)) ∈ lw_all := lw_g (lw_at lw_m2 122 rfl) rfl
theorem q373 : (Jvm.Cond.sameMethod "IntegerRadixHeap" "AbstractRadixHeap" "findMin" "()Ljava/lang/Object;") ∈ lw_all := lw_g (lw_at lw_m2 126 rfl) rfl
theorem q375 : (Jvm.Cond.selects "IntegerRadixHeap" ({ cls := "IntegerRadixHeap", name := "findMin", desc := "()Ljava/lang/Object;" } : Jvm.MethodName) ({ cls := "AbstractRadixHeap", name := "findMin", desc := "()Ljava/lang/Object;" } : Jvm.MethodName)) ∈ lw_all := lw_g (lw_at lw_m2 128 rfl) rfl
theorem q406 : (Jvm.Cond.sameMethod "IntegerRadixHeap" "AbstractRadixHeap" "deleteMin" "()Ljava/lang/Object;") ∈ lw_all := lw_g (lw_at lw_m2 159 rfl) rfl
theorem q408 : (Jvm.Cond.selects "IntegerRadixHeap" ({ cls := "IntegerRadixHeap", name := "deleteMin", desc := "()Ljava/lang/Object;" } : Jvm.MethodName) ({ cls := "AbstractRadixHeap", name := "deleteMin", desc := "()Ljava/lang/Object;" } : Jvm.MethodName)) ∈ lw_all := lw_g (lw_at lw_m2 161 rfl) rfl
theorem q509 : (Jvm.Cond.sameMethod "IntegerRadixHeap" "AbstractRadixHeap" "size" "()J") ∈ lw_all := lw_g (lw_at lw_m3 22 rfl) rfl
theorem q511 : (Jvm.Cond.selects "IntegerRadixHeap" ({ cls := "IntegerRadixHeap", name := "size", desc := "()J" } : Jvm.MethodName) ({ cls := "AbstractRadixHeap", name := "size", desc := "()J" } : Jvm.MethodName)) ∈ lw_all := lw_g (lw_at lw_m3 24 rfl) rfl
theorem q582 : (Jvm.Cond.castable "IntegerRadixHeap" "java/lang/Object") ∈ lw_tbl := lw_at lw_m3 95 rfl
theorem in_X2 : ∀ w ∈ wsX20, w ∈ lw_all := lw_in wsX20 [203, 205, 207, 209, 211, 213, 215, 217] (by decide +kernel) (by decide +kernel)
/-! IntegerRadixHeapDeskModel -/
set_option maxRecDepth 100000
def RX3 : String := "IntegerRadixHeapDeskModel"
def TX3 : u_T := fun k => match k with
  | 0 => ("IntegerRadixHeapDeskModel", "keys", "[I", true)
  | 1 => ("IntegerRadixHeapDeskModel", "home", "[I", true)
  | 2 => ("IntegerRadixHeapDeskModel", "taken", "[I", true)
  | _ => ("IntegerRadixHeapDeskModel", "puts", "I", false)
def tyX3 : Nat → FieldType := fun k => match k with
  | 0 => .array .int
  | 1 => .array .int
  | 2 => .array .int
  | _ => .int
abbrev wsX30 : List Cond := u_ws RX3 TX3 4
theorem nmX3 : ∀ a, a < 4 → ∀ b, b < 4 → a ≠ b → (TX3 a).2.1 ≠ (TX3 b).2.1 := by decide +kernel
theorem tyX3_ok : ∀ k, k < 4 → parseFieldDescriptor (TX3 k).2.2.1 = some (tyX3 k) := by decide +kernel
abbrev cX3_init : ByteArray := prog_5_method_1_code
def yX3_init : MethodName := ⟨RX3, "<init>", "()V"⟩
def dkwX3_init_1 : List UInt8 := [181, 0, 16, 177]
abbrev dktX3_init_1 : List UInt8 := dkwX3_init_1 ++ []
def dkwX3_init_0 : List UInt8 := [42, 183, 0, 1, 42, 16, 64, 188, 10, 181, 0, 7, 42, 16, 64, 188, 10, 181, 0, 13, 42, 7, 188, 10]
abbrev dktX3_init_0 : List UInt8 := dkwX3_init_0 ++ dktX3_init_1
theorem dksX3_init_0 : cX3_init.data.toList.drop 0 = dktX3_init_0 := by decide +kernel
theorem dksX3_init_1 : cX3_init.data.toList.drop 24 = dktX3_init_1 := dk_seg dksX3_init_0 24 rfl rfl
theorem dX3_init_0 : decode cX3_init 0 = .ok (.aload_n 0, 1) := dk_42 (dk_at dksX3_init_0 0 rfl rfl)
theorem dX3_init_1 : decode cX3_init 1 = .ok (.invokespecial 1, 3) := dk_183 0 1 (dk_at dksX3_init_0 1 rfl rfl)
theorem dX3_init_4 : decode cX3_init 4 = .ok (.aload_n 0, 1) := dk_42 (dk_at dksX3_init_0 4 rfl rfl)
theorem dX3_init_5 : decode cX3_init 5 = .ok (.bipush 64, 2) := dk_16 64 (dk_at dksX3_init_0 5 rfl rfl)
theorem dX3_init_7 : decode cX3_init 7 = .ok (.newarray .int, 2) := dk_188_10 (dk_at dksX3_init_0 7 rfl rfl)
theorem dX3_init_9 : decode cX3_init 9 = .ok (.putfield 7, 3) := dk_181 0 7 (dk_at dksX3_init_0 9 rfl rfl)
theorem dX3_init_12 : decode cX3_init 12 = .ok (.aload_n 0, 1) := dk_42 (dk_at dksX3_init_0 12 rfl rfl)
theorem dX3_init_13 : decode cX3_init 13 = .ok (.bipush 64, 2) := dk_16 64 (dk_at dksX3_init_0 13 rfl rfl)
theorem dX3_init_15 : decode cX3_init 15 = .ok (.newarray .int, 2) := dk_188_10 (dk_at dksX3_init_0 15 rfl rfl)
theorem dX3_init_17 : decode cX3_init 17 = .ok (.putfield 13, 3) := dk_181 0 13 (dk_at dksX3_init_0 17 rfl rfl)
theorem dX3_init_20 : decode cX3_init 20 = .ok (.aload_n 0, 1) := dk_42 (dk_at dksX3_init_0 20 rfl rfl)
theorem dX3_init_21 : decode cX3_init 21 = .ok (.iconst 4, 1) := dk_7 (dk_at dksX3_init_0 21 rfl rfl)
theorem dX3_init_22 : decode cX3_init 22 = .ok (.newarray .int, 2) := dk_188_10 (dk_at dksX3_init_0 22 rfl rfl)
theorem dX3_init_24 : decode cX3_init 24 = .ok (.putfield 16, 3) := dk_181 0 16 (dk_at dksX3_init_1 0 rfl rfl)
theorem dX3_init_27 : decode cX3_init 27 = .ok (.return_, 1) := dk_177 (dk_at dksX3_init_1 3 rfl rfl)
abbrev cX3_put : ByteArray := prog_5_method_4_code
def yX3_put : MethodName := ⟨RX3, "put", "(II)Z"⟩
def dkwX3_put_0 : List UInt8 := [42, 27, 28, 18, 24, 126, 182, 0, 25, 172]
abbrev dktX3_put_0 : List UInt8 := dkwX3_put_0 ++ []
theorem dksX3_put_0 : cX3_put.data.toList.drop 0 = dktX3_put_0 := by decide +kernel
theorem dX3_put_0 : decode cX3_put 0 = .ok (.aload_n 0, 1) := dk_42 (dk_at dksX3_put_0 0 rfl rfl)
theorem dX3_put_1 : decode cX3_put 1 = .ok (.iload_n 1, 1) := dk_27 (dk_at dksX3_put_0 1 rfl rfl)
theorem dX3_put_2 : decode cX3_put 2 = .ok (.iload_n 2, 1) := dk_28 (dk_at dksX3_put_0 2 rfl rfl)
theorem dX3_put_3 : decode cX3_put 3 = .ok (.ldc 24, 2) := dk_18 24 (dk_at dksX3_put_0 3 rfl rfl)
theorem dX3_put_5 : decode cX3_put 5 = .ok (.iand, 1) := dk_126 (dk_at dksX3_put_0 5 rfl rfl)
theorem dX3_put_6 : decode cX3_put 6 = .ok (.invokevirtual 25, 3) := dk_182 0 25 (dk_at dksX3_put_0 6 rfl rfl)
theorem dX3_put_9 : decode cX3_put 9 = .ok (.ireturn, 1) := dk_172 (dk_at dksX3_put_0 9 rfl rfl)
abbrev cX3_lay : ByteArray := prog_5_method_3_code
def yX3_lay : MethodName := ⟨RX3, "lay", "(II)Z"⟩
def dkwX3_lay_2 : List UInt8 := [27, 6, 126, 96, 79, 42, 42, 180, 0, 19, 4, 96, 181, 0, 19, 4, 172]
abbrev dktX3_lay_2 : List UInt8 := dkwX3_lay_2 ++ []
def dkwX3_lay_1 : List UInt8 := [161, 0, 5, 3, 172, 42, 180, 0, 7, 42, 180, 0, 19, 28, 79, 42, 180, 0, 13, 42, 180, 0, 19, 4]
abbrev dktX3_lay_1 : List UInt8 := dkwX3_lay_1 ++ dktX3_lay_2
def dkwX3_lay_0 : List UInt8 := [42, 180, 0, 19, 16, 64, 159, 0, 21, 28, 42, 180, 0, 16, 27, 6, 126, 46, 161, 0, 9, 28, 18, 23]
abbrev dktX3_lay_0 : List UInt8 := dkwX3_lay_0 ++ dktX3_lay_1
theorem dksX3_lay_0 : cX3_lay.data.toList.drop 0 = dktX3_lay_0 := by decide +kernel
theorem dksX3_lay_1 : cX3_lay.data.toList.drop 24 = dktX3_lay_1 := dk_seg dksX3_lay_0 24 rfl rfl
theorem dksX3_lay_2 : cX3_lay.data.toList.drop 48 = dktX3_lay_2 := dk_seg dksX3_lay_1 24 rfl rfl
theorem dX3_lay_0 : decode cX3_lay 0 = .ok (.aload_n 0, 1) := dk_42 (dk_at dksX3_lay_0 0 rfl rfl)
theorem dX3_lay_1 : decode cX3_lay 1 = .ok (.getfield 19, 3) := dk_180 0 19 (dk_at dksX3_lay_0 1 rfl rfl)
theorem dX3_lay_4 : decode cX3_lay 4 = .ok (.bipush 64, 2) := dk_16 64 (dk_at dksX3_lay_0 4 rfl rfl)
theorem dX3_lay_6 : decode cX3_lay 6 = .ok (.if_icmp .eq 21, 3) := dk_159 0 21 (dk_at dksX3_lay_0 6 rfl rfl)
theorem dX3_lay_9 : decode cX3_lay 9 = .ok (.iload_n 2, 1) := dk_28 (dk_at dksX3_lay_0 9 rfl rfl)
theorem dX3_lay_10 : decode cX3_lay 10 = .ok (.aload_n 0, 1) := dk_42 (dk_at dksX3_lay_0 10 rfl rfl)
theorem dX3_lay_11 : decode cX3_lay 11 = .ok (.getfield 16, 3) := dk_180 0 16 (dk_at dksX3_lay_0 11 rfl rfl)
theorem dX3_lay_14 : decode cX3_lay 14 = .ok (.iload_n 1, 1) := dk_27 (dk_at dksX3_lay_0 14 rfl rfl)
theorem dX3_lay_15 : decode cX3_lay 15 = .ok (.iconst 3, 1) := dk_6 (dk_at dksX3_lay_0 15 rfl rfl)
theorem dX3_lay_16 : decode cX3_lay 16 = .ok (.iand, 1) := dk_126 (dk_at dksX3_lay_0 16 rfl rfl)
theorem dX3_lay_17 : decode cX3_lay 17 = .ok (.iaload, 1) := dk_46 (dk_at dksX3_lay_0 17 rfl rfl)
theorem dX3_lay_18 : decode cX3_lay 18 = .ok (.if_icmp .lt 9, 3) := dk_161 0 9 (dk_at dksX3_lay_0 18 rfl rfl)
theorem dX3_lay_21 : decode cX3_lay 21 = .ok (.iload_n 2, 1) := dk_28 (dk_at dksX3_lay_0 21 rfl rfl)
theorem dX3_lay_22 : decode cX3_lay 22 = .ok (.ldc 23, 2) := dk_18 23 (dk_at dksX3_lay_0 22 rfl rfl)
theorem dX3_lay_24 : decode cX3_lay 24 = .ok (.if_icmp .lt 5, 3) := dk_161 0 5 (dk_at dksX3_lay_1 0 rfl rfl)
theorem dX3_lay_27 : decode cX3_lay 27 = .ok (.iconst 0, 1) := dk_3 (dk_at dksX3_lay_1 3 rfl rfl)
theorem dX3_lay_28 : decode cX3_lay 28 = .ok (.ireturn, 1) := dk_172 (dk_at dksX3_lay_1 4 rfl rfl)
theorem dX3_lay_29 : decode cX3_lay 29 = .ok (.aload_n 0, 1) := dk_42 (dk_at dksX3_lay_1 5 rfl rfl)
theorem dX3_lay_30 : decode cX3_lay 30 = .ok (.getfield 7, 3) := dk_180 0 7 (dk_at dksX3_lay_1 6 rfl rfl)
theorem dX3_lay_33 : decode cX3_lay 33 = .ok (.aload_n 0, 1) := dk_42 (dk_at dksX3_lay_1 9 rfl rfl)
theorem dX3_lay_34 : decode cX3_lay 34 = .ok (.getfield 19, 3) := dk_180 0 19 (dk_at dksX3_lay_1 10 rfl rfl)
theorem dX3_lay_37 : decode cX3_lay 37 = .ok (.iload_n 2, 1) := dk_28 (dk_at dksX3_lay_1 13 rfl rfl)
theorem dX3_lay_38 : decode cX3_lay 38 = .ok (.iastore, 1) := dk_79 (dk_at dksX3_lay_1 14 rfl rfl)
theorem dX3_lay_39 : decode cX3_lay 39 = .ok (.aload_n 0, 1) := dk_42 (dk_at dksX3_lay_1 15 rfl rfl)
theorem dX3_lay_40 : decode cX3_lay 40 = .ok (.getfield 13, 3) := dk_180 0 13 (dk_at dksX3_lay_1 16 rfl rfl)
theorem dX3_lay_43 : decode cX3_lay 43 = .ok (.aload_n 0, 1) := dk_42 (dk_at dksX3_lay_1 19 rfl rfl)
theorem dX3_lay_44 : decode cX3_lay 44 = .ok (.getfield 19, 3) := dk_180 0 19 (dk_at dksX3_lay_1 20 rfl rfl)
theorem dX3_lay_47 : decode cX3_lay 47 = .ok (.iconst 1, 1) := dk_4 (dk_at dksX3_lay_1 23 rfl rfl)
theorem dX3_lay_48 : decode cX3_lay 48 = .ok (.iload_n 1, 1) := dk_27 (dk_at dksX3_lay_2 0 rfl rfl)
theorem dX3_lay_49 : decode cX3_lay 49 = .ok (.iconst 3, 1) := dk_6 (dk_at dksX3_lay_2 1 rfl rfl)
theorem dX3_lay_50 : decode cX3_lay 50 = .ok (.iand, 1) := dk_126 (dk_at dksX3_lay_2 2 rfl rfl)
theorem dX3_lay_51 : decode cX3_lay 51 = .ok (.iadd, 1) := dk_96 (dk_at dksX3_lay_2 3 rfl rfl)
theorem dX3_lay_52 : decode cX3_lay 52 = .ok (.iastore, 1) := dk_79 (dk_at dksX3_lay_2 4 rfl rfl)
theorem dX3_lay_53 : decode cX3_lay 53 = .ok (.aload_n 0, 1) := dk_42 (dk_at dksX3_lay_2 5 rfl rfl)
theorem dX3_lay_54 : decode cX3_lay 54 = .ok (.aload_n 0, 1) := dk_42 (dk_at dksX3_lay_2 6 rfl rfl)
theorem dX3_lay_55 : decode cX3_lay 55 = .ok (.getfield 19, 3) := dk_180 0 19 (dk_at dksX3_lay_2 7 rfl rfl)
theorem dX3_lay_58 : decode cX3_lay 58 = .ok (.iconst 1, 1) := dk_4 (dk_at dksX3_lay_2 10 rfl rfl)
theorem dX3_lay_59 : decode cX3_lay 59 = .ok (.iadd, 1) := dk_96 (dk_at dksX3_lay_2 11 rfl rfl)
theorem dX3_lay_60 : decode cX3_lay 60 = .ok (.putfield 19, 3) := dk_181 0 19 (dk_at dksX3_lay_2 12 rfl rfl)
theorem dX3_lay_63 : decode cX3_lay 63 = .ok (.iconst 1, 1) := dk_4 (dk_at dksX3_lay_2 15 rfl rfl)
theorem dX3_lay_64 : decode cX3_lay 64 = .ok (.ireturn, 1) := dk_172 (dk_at dksX3_lay_2 16 rfl rfl)
abbrev cX3_above : ByteArray := prog_5_method_5_code
def yX3_above : MethodName := ⟨RX3, "above", "(II)Z"⟩
def dkwX3_above_0 : List UInt8 := [42, 27, 42, 180, 0, 16, 27, 6, 126, 46, 28, 17, 3, 255, 126, 96, 182, 0, 25, 172]
abbrev dktX3_above_0 : List UInt8 := dkwX3_above_0 ++ []
theorem dksX3_above_0 : cX3_above.data.toList.drop 0 = dktX3_above_0 := by decide +kernel
theorem dX3_above_0 : decode cX3_above 0 = .ok (.aload_n 0, 1) := dk_42 (dk_at dksX3_above_0 0 rfl rfl)
theorem dX3_above_1 : decode cX3_above 1 = .ok (.iload_n 1, 1) := dk_27 (dk_at dksX3_above_0 1 rfl rfl)
theorem dX3_above_2 : decode cX3_above 2 = .ok (.aload_n 0, 1) := dk_42 (dk_at dksX3_above_0 2 rfl rfl)
theorem dX3_above_3 : decode cX3_above 3 = .ok (.getfield 16, 3) := dk_180 0 16 (dk_at dksX3_above_0 3 rfl rfl)
theorem dX3_above_6 : decode cX3_above 6 = .ok (.iload_n 1, 1) := dk_27 (dk_at dksX3_above_0 6 rfl rfl)
theorem dX3_above_7 : decode cX3_above 7 = .ok (.iconst 3, 1) := dk_6 (dk_at dksX3_above_0 7 rfl rfl)
theorem dX3_above_8 : decode cX3_above 8 = .ok (.iand, 1) := dk_126 (dk_at dksX3_above_0 8 rfl rfl)
theorem dX3_above_9 : decode cX3_above 9 = .ok (.iaload, 1) := dk_46 (dk_at dksX3_above_0 9 rfl rfl)
theorem dX3_above_10 : decode cX3_above 10 = .ok (.iload_n 2, 1) := dk_28 (dk_at dksX3_above_0 10 rfl rfl)
theorem dX3_above_11 : decode cX3_above 11 = .ok (.sipush 1023, 3) := dk_17 3 255 (dk_at dksX3_above_0 11 rfl rfl)
theorem dX3_above_14 : decode cX3_above 14 = .ok (.iand, 1) := dk_126 (dk_at dksX3_above_0 14 rfl rfl)
theorem dX3_above_15 : decode cX3_above 15 = .ok (.iadd, 1) := dk_96 (dk_at dksX3_above_0 15 rfl rfl)
theorem dX3_above_16 : decode cX3_above 16 = .ok (.invokevirtual 25, 3) := dk_182 0 25 (dk_at dksX3_above_0 16 rfl rfl)
theorem dX3_above_19 : decode cX3_above 19 = .ok (.ireturn, 1) := dk_172 (dk_at dksX3_above_0 19 rfl rfl)
abbrev cX3_least : ByteArray := prog_5_method_6_code
def yX3_least : MethodName := ⟨RX3, "least", "(I)I"⟩
def dkwX3_least_0 : List UInt8 := [42, 27, 182, 0, 29, 61, 28, 156, 0, 7, 2, 167, 0, 9, 42, 180, 0, 7, 28, 46, 172]
abbrev dktX3_least_0 : List UInt8 := dkwX3_least_0 ++ []
theorem dksX3_least_0 : cX3_least.data.toList.drop 0 = dktX3_least_0 := by decide +kernel
theorem dX3_least_0 : decode cX3_least 0 = .ok (.aload_n 0, 1) := dk_42 (dk_at dksX3_least_0 0 rfl rfl)
theorem dX3_least_1 : decode cX3_least 1 = .ok (.iload_n 1, 1) := dk_27 (dk_at dksX3_least_0 1 rfl rfl)
theorem dX3_least_2 : decode cX3_least 2 = .ok (.invokevirtual 29, 3) := dk_182 0 29 (dk_at dksX3_least_0 2 rfl rfl)
theorem dX3_least_5 : decode cX3_least 5 = .ok (.istore_n 2, 1) := dk_61 (dk_at dksX3_least_0 5 rfl rfl)
theorem dX3_least_6 : decode cX3_least 6 = .ok (.iload_n 2, 1) := dk_28 (dk_at dksX3_least_0 6 rfl rfl)
theorem dX3_least_7 : decode cX3_least 7 = .ok (.ifCond .ge 7, 3) := dk_156 0 7 (dk_at dksX3_least_0 7 rfl rfl)
theorem dX3_least_10 : decode cX3_least 10 = .ok (.iconst (-1), 1) := dk_2 (dk_at dksX3_least_0 10 rfl rfl)
theorem dX3_least_11 : decode cX3_least 11 = .ok (.goto 9, 3) := dk_167 0 9 (dk_at dksX3_least_0 11 rfl rfl)
theorem dX3_least_14 : decode cX3_least 14 = .ok (.aload_n 0, 1) := dk_42 (dk_at dksX3_least_0 14 rfl rfl)
theorem dX3_least_15 : decode cX3_least 15 = .ok (.getfield 7, 3) := dk_180 0 7 (dk_at dksX3_least_0 15 rfl rfl)
theorem dX3_least_18 : decode cX3_least 18 = .ok (.iload_n 2, 1) := dk_28 (dk_at dksX3_least_0 18 rfl rfl)
theorem dX3_least_19 : decode cX3_least 19 = .ok (.iaload, 1) := dk_46 (dk_at dksX3_least_0 19 rfl rfl)
theorem dX3_least_20 : decode cX3_least 20 = .ok (.ireturn, 1) := dk_172 (dk_at dksX3_least_0 20 rfl rfl)
abbrev cX3_first : ByteArray := prog_5_method_2_code
def yX3_first : MethodName := ⟨RX3, "first", "(I)I"⟩
def dkwX3_first_2 : List UInt8 := [132, 3, 1, 167, 255, 210, 28, 172]
abbrev dktX3_first_2 : List UInt8 := dkwX3_first_2 ++ []
def dkwX3_first_1 : List UInt8 := [160, 0, 24, 28, 155, 0, 18, 42, 180, 0, 7, 29, 46, 42, 180, 0, 7, 28, 46, 162, 0, 5, 29, 61]
abbrev dktX3_first_1 : List UInt8 := dkwX3_first_1 ++ dktX3_first_2
def dkwX3_first_0 : List UInt8 := [2, 61, 3, 62, 29, 42, 180, 0, 19, 162, 0, 44, 42, 180, 0, 13, 29, 46, 4, 27, 6, 126, 96]
abbrev dktX3_first_0 : List UInt8 := dkwX3_first_0 ++ dktX3_first_1
theorem dksX3_first_0 : cX3_first.data.toList.drop 0 = dktX3_first_0 := by decide +kernel
theorem dksX3_first_1 : cX3_first.data.toList.drop 23 = dktX3_first_1 := dk_seg dksX3_first_0 23 rfl rfl
theorem dksX3_first_2 : cX3_first.data.toList.drop 47 = dktX3_first_2 := dk_seg dksX3_first_1 24 rfl rfl
theorem dX3_first_0 : decode cX3_first 0 = .ok (.iconst (-1), 1) := dk_2 (dk_at dksX3_first_0 0 rfl rfl)
theorem dX3_first_1 : decode cX3_first 1 = .ok (.istore_n 2, 1) := dk_61 (dk_at dksX3_first_0 1 rfl rfl)
theorem dX3_first_2 : decode cX3_first 2 = .ok (.iconst 0, 1) := dk_3 (dk_at dksX3_first_0 2 rfl rfl)
theorem dX3_first_3 : decode cX3_first 3 = .ok (.istore_n 3, 1) := dk_62 (dk_at dksX3_first_0 3 rfl rfl)
theorem dX3_first_4 : decode cX3_first 4 = .ok (.iload_n 3, 1) := dk_29 (dk_at dksX3_first_0 4 rfl rfl)
theorem dX3_first_5 : decode cX3_first 5 = .ok (.aload_n 0, 1) := dk_42 (dk_at dksX3_first_0 5 rfl rfl)
theorem dX3_first_6 : decode cX3_first 6 = .ok (.getfield 19, 3) := dk_180 0 19 (dk_at dksX3_first_0 6 rfl rfl)
theorem dX3_first_9 : decode cX3_first 9 = .ok (.if_icmp .ge 44, 3) := dk_162 0 44 (dk_at dksX3_first_0 9 rfl rfl)
theorem dX3_first_12 : decode cX3_first 12 = .ok (.aload_n 0, 1) := dk_42 (dk_at dksX3_first_0 12 rfl rfl)
theorem dX3_first_13 : decode cX3_first 13 = .ok (.getfield 13, 3) := dk_180 0 13 (dk_at dksX3_first_0 13 rfl rfl)
theorem dX3_first_16 : decode cX3_first 16 = .ok (.iload_n 3, 1) := dk_29 (dk_at dksX3_first_0 16 rfl rfl)
theorem dX3_first_17 : decode cX3_first 17 = .ok (.iaload, 1) := dk_46 (dk_at dksX3_first_0 17 rfl rfl)
theorem dX3_first_18 : decode cX3_first 18 = .ok (.iconst 1, 1) := dk_4 (dk_at dksX3_first_0 18 rfl rfl)
theorem dX3_first_19 : decode cX3_first 19 = .ok (.iload_n 1, 1) := dk_27 (dk_at dksX3_first_0 19 rfl rfl)
theorem dX3_first_20 : decode cX3_first 20 = .ok (.iconst 3, 1) := dk_6 (dk_at dksX3_first_0 20 rfl rfl)
theorem dX3_first_21 : decode cX3_first 21 = .ok (.iand, 1) := dk_126 (dk_at dksX3_first_0 21 rfl rfl)
theorem dX3_first_22 : decode cX3_first 22 = .ok (.iadd, 1) := dk_96 (dk_at dksX3_first_0 22 rfl rfl)
theorem dX3_first_23 : decode cX3_first 23 = .ok (.if_icmp .ne 24, 3) := dk_160 0 24 (dk_at dksX3_first_1 0 rfl rfl)
theorem dX3_first_26 : decode cX3_first 26 = .ok (.iload_n 2, 1) := dk_28 (dk_at dksX3_first_1 3 rfl rfl)
theorem dX3_first_27 : decode cX3_first 27 = .ok (.ifCond .lt 18, 3) := dk_155 0 18 (dk_at dksX3_first_1 4 rfl rfl)
theorem dX3_first_30 : decode cX3_first 30 = .ok (.aload_n 0, 1) := dk_42 (dk_at dksX3_first_1 7 rfl rfl)
theorem dX3_first_31 : decode cX3_first 31 = .ok (.getfield 7, 3) := dk_180 0 7 (dk_at dksX3_first_1 8 rfl rfl)
theorem dX3_first_34 : decode cX3_first 34 = .ok (.iload_n 3, 1) := dk_29 (dk_at dksX3_first_1 11 rfl rfl)
theorem dX3_first_35 : decode cX3_first 35 = .ok (.iaload, 1) := dk_46 (dk_at dksX3_first_1 12 rfl rfl)
theorem dX3_first_36 : decode cX3_first 36 = .ok (.aload_n 0, 1) := dk_42 (dk_at dksX3_first_1 13 rfl rfl)
theorem dX3_first_37 : decode cX3_first 37 = .ok (.getfield 7, 3) := dk_180 0 7 (dk_at dksX3_first_1 14 rfl rfl)
theorem dX3_first_40 : decode cX3_first 40 = .ok (.iload_n 2, 1) := dk_28 (dk_at dksX3_first_1 17 rfl rfl)
theorem dX3_first_41 : decode cX3_first 41 = .ok (.iaload, 1) := dk_46 (dk_at dksX3_first_1 18 rfl rfl)
theorem dX3_first_42 : decode cX3_first 42 = .ok (.if_icmp .ge 5, 3) := dk_162 0 5 (dk_at dksX3_first_1 19 rfl rfl)
theorem dX3_first_45 : decode cX3_first 45 = .ok (.iload_n 3, 1) := dk_29 (dk_at dksX3_first_1 22 rfl rfl)
theorem dX3_first_46 : decode cX3_first 46 = .ok (.istore_n 2, 1) := dk_61 (dk_at dksX3_first_1 23 rfl rfl)
theorem dX3_first_47 : decode cX3_first 47 = .ok (.iinc 3 1, 3) := dk_132 3 1 (dk_at dksX3_first_2 0 rfl rfl)
theorem dX3_first_50 : decode cX3_first 50 = .ok (.goto (-46), 3) := dk_167 255 210 (dk_at dksX3_first_2 3 rfl rfl)
theorem dX3_first_53 : decode cX3_first 53 = .ok (.iload_n 2, 1) := dk_28 (dk_at dksX3_first_2 6 rfl rfl)
theorem dX3_first_54 : decode cX3_first 54 = .ok (.ireturn, 1) := dk_172 (dk_at dksX3_first_2 7 rfl rfl)
abbrev cX3_takeLeast : ByteArray := prog_5_method_7_code
def yX3_takeLeast : MethodName := ⟨RX3, "takeLeast", "(I)I"⟩
def dkwX3_takeLeast_1 : List UInt8 := [6, 126, 42, 180, 0, 7, 28, 46, 79, 42, 180, 0, 7, 28, 46, 172]
abbrev dktX3_takeLeast_1 : List UInt8 := dkwX3_takeLeast_1 ++ []
def dkwX3_takeLeast_0 : List UInt8 := [42, 27, 182, 0, 29, 61, 28, 156, 0, 5, 2, 172, 42, 180, 0, 13, 28, 3, 79, 42, 180, 0, 16, 27]
abbrev dktX3_takeLeast_0 : List UInt8 := dkwX3_takeLeast_0 ++ dktX3_takeLeast_1
theorem dksX3_takeLeast_0 : cX3_takeLeast.data.toList.drop 0 = dktX3_takeLeast_0 := by decide +kernel
theorem dksX3_takeLeast_1 : cX3_takeLeast.data.toList.drop 24 = dktX3_takeLeast_1 := dk_seg dksX3_takeLeast_0 24 rfl rfl
theorem dX3_takeLeast_0 : decode cX3_takeLeast 0 = .ok (.aload_n 0, 1) := dk_42 (dk_at dksX3_takeLeast_0 0 rfl rfl)
theorem dX3_takeLeast_1 : decode cX3_takeLeast 1 = .ok (.iload_n 1, 1) := dk_27 (dk_at dksX3_takeLeast_0 1 rfl rfl)
theorem dX3_takeLeast_2 : decode cX3_takeLeast 2 = .ok (.invokevirtual 29, 3) := dk_182 0 29 (dk_at dksX3_takeLeast_0 2 rfl rfl)
theorem dX3_takeLeast_5 : decode cX3_takeLeast 5 = .ok (.istore_n 2, 1) := dk_61 (dk_at dksX3_takeLeast_0 5 rfl rfl)
theorem dX3_takeLeast_6 : decode cX3_takeLeast 6 = .ok (.iload_n 2, 1) := dk_28 (dk_at dksX3_takeLeast_0 6 rfl rfl)
theorem dX3_takeLeast_7 : decode cX3_takeLeast 7 = .ok (.ifCond .ge 5, 3) := dk_156 0 5 (dk_at dksX3_takeLeast_0 7 rfl rfl)
theorem dX3_takeLeast_10 : decode cX3_takeLeast 10 = .ok (.iconst (-1), 1) := dk_2 (dk_at dksX3_takeLeast_0 10 rfl rfl)
theorem dX3_takeLeast_11 : decode cX3_takeLeast 11 = .ok (.ireturn, 1) := dk_172 (dk_at dksX3_takeLeast_0 11 rfl rfl)
theorem dX3_takeLeast_12 : decode cX3_takeLeast 12 = .ok (.aload_n 0, 1) := dk_42 (dk_at dksX3_takeLeast_0 12 rfl rfl)
theorem dX3_takeLeast_13 : decode cX3_takeLeast 13 = .ok (.getfield 13, 3) := dk_180 0 13 (dk_at dksX3_takeLeast_0 13 rfl rfl)
theorem dX3_takeLeast_16 : decode cX3_takeLeast 16 = .ok (.iload_n 2, 1) := dk_28 (dk_at dksX3_takeLeast_0 16 rfl rfl)
theorem dX3_takeLeast_17 : decode cX3_takeLeast 17 = .ok (.iconst 0, 1) := dk_3 (dk_at dksX3_takeLeast_0 17 rfl rfl)
theorem dX3_takeLeast_18 : decode cX3_takeLeast 18 = .ok (.iastore, 1) := dk_79 (dk_at dksX3_takeLeast_0 18 rfl rfl)
theorem dX3_takeLeast_19 : decode cX3_takeLeast 19 = .ok (.aload_n 0, 1) := dk_42 (dk_at dksX3_takeLeast_0 19 rfl rfl)
theorem dX3_takeLeast_20 : decode cX3_takeLeast 20 = .ok (.getfield 16, 3) := dk_180 0 16 (dk_at dksX3_takeLeast_0 20 rfl rfl)
theorem dX3_takeLeast_23 : decode cX3_takeLeast 23 = .ok (.iload_n 1, 1) := dk_27 (dk_at dksX3_takeLeast_0 23 rfl rfl)
theorem dX3_takeLeast_24 : decode cX3_takeLeast 24 = .ok (.iconst 3, 1) := dk_6 (dk_at dksX3_takeLeast_1 0 rfl rfl)
theorem dX3_takeLeast_25 : decode cX3_takeLeast 25 = .ok (.iand, 1) := dk_126 (dk_at dksX3_takeLeast_1 1 rfl rfl)
theorem dX3_takeLeast_26 : decode cX3_takeLeast 26 = .ok (.aload_n 0, 1) := dk_42 (dk_at dksX3_takeLeast_1 2 rfl rfl)
theorem dX3_takeLeast_27 : decode cX3_takeLeast 27 = .ok (.getfield 7, 3) := dk_180 0 7 (dk_at dksX3_takeLeast_1 3 rfl rfl)
theorem dX3_takeLeast_30 : decode cX3_takeLeast 30 = .ok (.iload_n 2, 1) := dk_28 (dk_at dksX3_takeLeast_1 6 rfl rfl)
theorem dX3_takeLeast_31 : decode cX3_takeLeast 31 = .ok (.iaload, 1) := dk_46 (dk_at dksX3_takeLeast_1 7 rfl rfl)
theorem dX3_takeLeast_32 : decode cX3_takeLeast 32 = .ok (.iastore, 1) := dk_79 (dk_at dksX3_takeLeast_1 8 rfl rfl)
theorem dX3_takeLeast_33 : decode cX3_takeLeast 33 = .ok (.aload_n 0, 1) := dk_42 (dk_at dksX3_takeLeast_1 9 rfl rfl)
theorem dX3_takeLeast_34 : decode cX3_takeLeast 34 = .ok (.getfield 7, 3) := dk_180 0 7 (dk_at dksX3_takeLeast_1 10 rfl rfl)
theorem dX3_takeLeast_37 : decode cX3_takeLeast 37 = .ok (.iload_n 2, 1) := dk_28 (dk_at dksX3_takeLeast_1 13 rfl rfl)
theorem dX3_takeLeast_38 : decode cX3_takeLeast 38 = .ok (.iaload, 1) := dk_46 (dk_at dksX3_takeLeast_1 14 rfl rfl)
theorem dX3_takeLeast_39 : decode cX3_takeLeast 39 = .ok (.ireturn, 1) := dk_172 (dk_at dksX3_takeLeast_1 15 rfl rfl)
abbrev cX3_size : ByteArray := prog_5_method_8_code
def yX3_size : MethodName := ⟨RX3, "size", "(I)I"⟩
def dkwX3_size_1 : List UInt8 := [160, 0, 7, 4, 167, 0, 4, 3, 96, 61, 132, 3, 1, 167, 255, 223, 28, 172]
abbrev dktX3_size_1 : List UInt8 := dkwX3_size_1 ++ []
def dkwX3_size_0 : List UInt8 := [3, 61, 3, 62, 29, 42, 180, 0, 19, 162, 0, 31, 28, 42, 180, 0, 13, 29, 46, 4, 27, 6, 126, 96]
abbrev dktX3_size_0 : List UInt8 := dkwX3_size_0 ++ dktX3_size_1
theorem dksX3_size_0 : cX3_size.data.toList.drop 0 = dktX3_size_0 := by decide +kernel
theorem dksX3_size_1 : cX3_size.data.toList.drop 24 = dktX3_size_1 := dk_seg dksX3_size_0 24 rfl rfl
theorem dX3_size_0 : decode cX3_size 0 = .ok (.iconst 0, 1) := dk_3 (dk_at dksX3_size_0 0 rfl rfl)
theorem dX3_size_1 : decode cX3_size 1 = .ok (.istore_n 2, 1) := dk_61 (dk_at dksX3_size_0 1 rfl rfl)
theorem dX3_size_2 : decode cX3_size 2 = .ok (.iconst 0, 1) := dk_3 (dk_at dksX3_size_0 2 rfl rfl)
theorem dX3_size_3 : decode cX3_size 3 = .ok (.istore_n 3, 1) := dk_62 (dk_at dksX3_size_0 3 rfl rfl)
theorem dX3_size_4 : decode cX3_size 4 = .ok (.iload_n 3, 1) := dk_29 (dk_at dksX3_size_0 4 rfl rfl)
theorem dX3_size_5 : decode cX3_size 5 = .ok (.aload_n 0, 1) := dk_42 (dk_at dksX3_size_0 5 rfl rfl)
theorem dX3_size_6 : decode cX3_size 6 = .ok (.getfield 19, 3) := dk_180 0 19 (dk_at dksX3_size_0 6 rfl rfl)
theorem dX3_size_9 : decode cX3_size 9 = .ok (.if_icmp .ge 31, 3) := dk_162 0 31 (dk_at dksX3_size_0 9 rfl rfl)
theorem dX3_size_12 : decode cX3_size 12 = .ok (.iload_n 2, 1) := dk_28 (dk_at dksX3_size_0 12 rfl rfl)
theorem dX3_size_13 : decode cX3_size 13 = .ok (.aload_n 0, 1) := dk_42 (dk_at dksX3_size_0 13 rfl rfl)
theorem dX3_size_14 : decode cX3_size 14 = .ok (.getfield 13, 3) := dk_180 0 13 (dk_at dksX3_size_0 14 rfl rfl)
theorem dX3_size_17 : decode cX3_size 17 = .ok (.iload_n 3, 1) := dk_29 (dk_at dksX3_size_0 17 rfl rfl)
theorem dX3_size_18 : decode cX3_size 18 = .ok (.iaload, 1) := dk_46 (dk_at dksX3_size_0 18 rfl rfl)
theorem dX3_size_19 : decode cX3_size 19 = .ok (.iconst 1, 1) := dk_4 (dk_at dksX3_size_0 19 rfl rfl)
theorem dX3_size_20 : decode cX3_size 20 = .ok (.iload_n 1, 1) := dk_27 (dk_at dksX3_size_0 20 rfl rfl)
theorem dX3_size_21 : decode cX3_size 21 = .ok (.iconst 3, 1) := dk_6 (dk_at dksX3_size_0 21 rfl rfl)
theorem dX3_size_22 : decode cX3_size 22 = .ok (.iand, 1) := dk_126 (dk_at dksX3_size_0 22 rfl rfl)
theorem dX3_size_23 : decode cX3_size 23 = .ok (.iadd, 1) := dk_96 (dk_at dksX3_size_0 23 rfl rfl)
theorem dX3_size_24 : decode cX3_size 24 = .ok (.if_icmp .ne 7, 3) := dk_160 0 7 (dk_at dksX3_size_1 0 rfl rfl)
theorem dX3_size_27 : decode cX3_size 27 = .ok (.iconst 1, 1) := dk_4 (dk_at dksX3_size_1 3 rfl rfl)
theorem dX3_size_28 : decode cX3_size 28 = .ok (.goto 4, 3) := dk_167 0 4 (dk_at dksX3_size_1 4 rfl rfl)
theorem dX3_size_31 : decode cX3_size 31 = .ok (.iconst 0, 1) := dk_3 (dk_at dksX3_size_1 7 rfl rfl)
theorem dX3_size_32 : decode cX3_size 32 = .ok (.iadd, 1) := dk_96 (dk_at dksX3_size_1 8 rfl rfl)
theorem dX3_size_33 : decode cX3_size 33 = .ok (.istore_n 2, 1) := dk_61 (dk_at dksX3_size_1 9 rfl rfl)
theorem dX3_size_34 : decode cX3_size 34 = .ok (.iinc 3 1, 3) := dk_132 3 1 (dk_at dksX3_size_1 10 rfl rfl)
theorem dX3_size_37 : decode cX3_size 37 = .ok (.goto (-33), 3) := dk_167 255 223 (dk_at dksX3_size_1 13 rfl rfl)
theorem dX3_size_40 : decode cX3_size 40 = .ok (.iload_n 2, 1) := dk_28 (dk_at dksX3_size_1 16 rfl rfl)
theorem dX3_size_41 : decode cX3_size 41 = .ok (.ireturn, 1) := dk_172 (dk_at dksX3_size_1 17 rfl rfl)
abbrev cX3_isEmpty : ByteArray := prog_5_method_9_code
def yX3_isEmpty : MethodName := ⟨RX3, "isEmpty", "(I)Z"⟩
def dkwX3_isEmpty_0 : List UInt8 := [42, 27, 182, 0, 29, 156, 0, 7, 4, 167, 0, 4, 3, 172]
abbrev dktX3_isEmpty_0 : List UInt8 := dkwX3_isEmpty_0 ++ []
theorem dksX3_isEmpty_0 : cX3_isEmpty.data.toList.drop 0 = dktX3_isEmpty_0 := by decide +kernel
theorem dX3_isEmpty_0 : decode cX3_isEmpty 0 = .ok (.aload_n 0, 1) := dk_42 (dk_at dksX3_isEmpty_0 0 rfl rfl)
theorem dX3_isEmpty_1 : decode cX3_isEmpty 1 = .ok (.iload_n 1, 1) := dk_27 (dk_at dksX3_isEmpty_0 1 rfl rfl)
theorem dX3_isEmpty_2 : decode cX3_isEmpty 2 = .ok (.invokevirtual 29, 3) := dk_182 0 29 (dk_at dksX3_isEmpty_0 2 rfl rfl)
theorem dX3_isEmpty_5 : decode cX3_isEmpty 5 = .ok (.ifCond .ge 7, 3) := dk_156 0 7 (dk_at dksX3_isEmpty_0 5 rfl rfl)
theorem dX3_isEmpty_8 : decode cX3_isEmpty 8 = .ok (.iconst 1, 1) := dk_4 (dk_at dksX3_isEmpty_0 8 rfl rfl)
theorem dX3_isEmpty_9 : decode cX3_isEmpty 9 = .ok (.goto 4, 3) := dk_167 0 4 (dk_at dksX3_isEmpty_0 9 rfl rfl)
theorem dX3_isEmpty_12 : decode cX3_isEmpty 12 = .ok (.iconst 0, 1) := dk_3 (dk_at dksX3_isEmpty_0 12 rfl rfl)
theorem dX3_isEmpty_13 : decode cX3_isEmpty 13 = .ok (.ireturn, 1) := dk_172 (dk_at dksX3_isEmpty_0 13 rfl rfl)
abbrev cX3_renew : ByteArray := prog_5_method_10_code
def yX3_renew : MethodName := ⟨RX3, "renew", "(I)V"⟩
def dkwX3_renew_1 : List UInt8 := [42, 180, 0, 13, 28, 3, 79, 132, 2, 1, 167, 255, 224, 42, 180, 0, 16, 27, 6, 126, 3, 79, 177]
abbrev dktX3_renew_1 : List UInt8 := dkwX3_renew_1 ++ []
def dkwX3_renew_0 : List UInt8 := [3, 61, 28, 42, 180, 0, 19, 162, 0, 30, 42, 180, 0, 13, 28, 46, 4, 27, 6, 126, 96, 160, 0, 10]
abbrev dktX3_renew_0 : List UInt8 := dkwX3_renew_0 ++ dktX3_renew_1
theorem dksX3_renew_0 : cX3_renew.data.toList.drop 0 = dktX3_renew_0 := by decide +kernel
theorem dksX3_renew_1 : cX3_renew.data.toList.drop 24 = dktX3_renew_1 := dk_seg dksX3_renew_0 24 rfl rfl
theorem dX3_renew_0 : decode cX3_renew 0 = .ok (.iconst 0, 1) := dk_3 (dk_at dksX3_renew_0 0 rfl rfl)
theorem dX3_renew_1 : decode cX3_renew 1 = .ok (.istore_n 2, 1) := dk_61 (dk_at dksX3_renew_0 1 rfl rfl)
theorem dX3_renew_2 : decode cX3_renew 2 = .ok (.iload_n 2, 1) := dk_28 (dk_at dksX3_renew_0 2 rfl rfl)
theorem dX3_renew_3 : decode cX3_renew 3 = .ok (.aload_n 0, 1) := dk_42 (dk_at dksX3_renew_0 3 rfl rfl)
theorem dX3_renew_4 : decode cX3_renew 4 = .ok (.getfield 19, 3) := dk_180 0 19 (dk_at dksX3_renew_0 4 rfl rfl)
theorem dX3_renew_7 : decode cX3_renew 7 = .ok (.if_icmp .ge 30, 3) := dk_162 0 30 (dk_at dksX3_renew_0 7 rfl rfl)
theorem dX3_renew_10 : decode cX3_renew 10 = .ok (.aload_n 0, 1) := dk_42 (dk_at dksX3_renew_0 10 rfl rfl)
theorem dX3_renew_11 : decode cX3_renew 11 = .ok (.getfield 13, 3) := dk_180 0 13 (dk_at dksX3_renew_0 11 rfl rfl)
theorem dX3_renew_14 : decode cX3_renew 14 = .ok (.iload_n 2, 1) := dk_28 (dk_at dksX3_renew_0 14 rfl rfl)
theorem dX3_renew_15 : decode cX3_renew 15 = .ok (.iaload, 1) := dk_46 (dk_at dksX3_renew_0 15 rfl rfl)
theorem dX3_renew_16 : decode cX3_renew 16 = .ok (.iconst 1, 1) := dk_4 (dk_at dksX3_renew_0 16 rfl rfl)
theorem dX3_renew_17 : decode cX3_renew 17 = .ok (.iload_n 1, 1) := dk_27 (dk_at dksX3_renew_0 17 rfl rfl)
theorem dX3_renew_18 : decode cX3_renew 18 = .ok (.iconst 3, 1) := dk_6 (dk_at dksX3_renew_0 18 rfl rfl)
theorem dX3_renew_19 : decode cX3_renew 19 = .ok (.iand, 1) := dk_126 (dk_at dksX3_renew_0 19 rfl rfl)
theorem dX3_renew_20 : decode cX3_renew 20 = .ok (.iadd, 1) := dk_96 (dk_at dksX3_renew_0 20 rfl rfl)
theorem dX3_renew_21 : decode cX3_renew 21 = .ok (.if_icmp .ne 10, 3) := dk_160 0 10 (dk_at dksX3_renew_0 21 rfl rfl)
theorem dX3_renew_24 : decode cX3_renew 24 = .ok (.aload_n 0, 1) := dk_42 (dk_at dksX3_renew_1 0 rfl rfl)
theorem dX3_renew_25 : decode cX3_renew 25 = .ok (.getfield 13, 3) := dk_180 0 13 (dk_at dksX3_renew_1 1 rfl rfl)
theorem dX3_renew_28 : decode cX3_renew 28 = .ok (.iload_n 2, 1) := dk_28 (dk_at dksX3_renew_1 4 rfl rfl)
theorem dX3_renew_29 : decode cX3_renew 29 = .ok (.iconst 0, 1) := dk_3 (dk_at dksX3_renew_1 5 rfl rfl)
theorem dX3_renew_30 : decode cX3_renew 30 = .ok (.iastore, 1) := dk_79 (dk_at dksX3_renew_1 6 rfl rfl)
theorem dX3_renew_31 : decode cX3_renew 31 = .ok (.iinc 2 1, 3) := dk_132 2 1 (dk_at dksX3_renew_1 7 rfl rfl)
theorem dX3_renew_34 : decode cX3_renew 34 = .ok (.goto (-32), 3) := dk_167 255 224 (dk_at dksX3_renew_1 10 rfl rfl)
theorem dX3_renew_37 : decode cX3_renew 37 = .ok (.aload_n 0, 1) := dk_42 (dk_at dksX3_renew_1 13 rfl rfl)
theorem dX3_renew_38 : decode cX3_renew 38 = .ok (.getfield 16, 3) := dk_180 0 16 (dk_at dksX3_renew_1 14 rfl rfl)
theorem dX3_renew_41 : decode cX3_renew 41 = .ok (.iload_n 1, 1) := dk_27 (dk_at dksX3_renew_1 17 rfl rfl)
theorem dX3_renew_42 : decode cX3_renew 42 = .ok (.iconst 3, 1) := dk_6 (dk_at dksX3_renew_1 18 rfl rfl)
theorem dX3_renew_43 : decode cX3_renew 43 = .ok (.iand, 1) := dk_126 (dk_at dksX3_renew_1 19 rfl rfl)
theorem dX3_renew_44 : decode cX3_renew 44 = .ok (.iconst 0, 1) := dk_3 (dk_at dksX3_renew_1 20 rfl rfl)
theorem dX3_renew_45 : decode cX3_renew 45 = .ok (.iastore, 1) := dk_79 (dk_at dksX3_renew_1 21 rfl rfl)
theorem dX3_renew_46 : decode cX3_renew 46 = .ok (.return_, 1) := dk_177 (dk_at dksX3_renew_1 22 rfl rfl)
theorem q21 : (Jvm.Cond.initialized "IntegerRadixHeapDeskModel") ∈ lw_all := lw_g (lw_at lw_m1 14 rfl) rfl
theorem q330 : (Jvm.Cond.selects "IntegerRadixHeapDeskModel" ({ cls := "java/lang/Object", name := "getClass", desc := "()Ljava/lang/Class;" } : Jvm.MethodName) ({ cls := "java/lang/Object", name := "getClass", desc := "()Ljava/lang/Class;" } : Jvm.MethodName)) ∈ lw_all := lw_g (lw_at lw_m2 83 rfl) rfl
theorem q523 : (Jvm.Cond.instantiable "IntegerRadixHeapDeskModel" (4 : Nat)) ∈ lw_all := lw_g (lw_at lw_m3 36 rfl) rfl
theorem q525 : (Jvm.Cond.instanceMethod ({ cls := "IntegerRadixHeapDeskModel", name := "<init>", desc := "()V" } : Jvm.MethodName)) ∈ lw_all := lw_g (lw_at lw_m3 38 rfl) rfl
theorem q526 : (Jvm.Cond.code ({ cls := "IntegerRadixHeapDeskModel", name := "<init>", desc := "()V" } : Jvm.MethodName) prog_5_method_1_code (1 : Nat) (Option.none : Option Jvm.ClassFile.FieldType)) ∈ lw_all := lw_g (lw_at lw_m3 39 rfl) rfl
theorem q527 : (Jvm.Cond.methodLink "IntegerRadixHeapDeskModel" (1 : Nat) ({ cls := "java/lang/Object", name := "<init>", desc := "()V" } : Jvm.MethodName)) ∈ lw_all := lw_g (lw_at lw_m3 40 rfl) rfl
theorem q528 : (Jvm.Cond.fieldLink "IntegerRadixHeapDeskModel" (7 : Nat) "IntegerRadixHeapDeskModel" "keys" "[I") ∈ lw_all := lw_g (lw_at lw_m3 41 rfl) rfl
theorem q529 : (Jvm.Cond.fieldLink "IntegerRadixHeapDeskModel" (13 : Nat) "IntegerRadixHeapDeskModel" "home" "[I") ∈ lw_all := lw_g (lw_at lw_m3 42 rfl) rfl
theorem q530 : (Jvm.Cond.fieldLink "IntegerRadixHeapDeskModel" (16 : Nat) "IntegerRadixHeapDeskModel" "taken" "[I") ∈ lw_all := lw_g (lw_at lw_m3 43 rfl) rfl
theorem q531 : (Jvm.Cond.fieldLink "IntegerRadixHeapDeskModel" (19 : Nat) "IntegerRadixHeapDeskModel" "puts" "I") ∈ lw_all := lw_g (lw_at lw_m3 44 rfl) rfl
theorem q532 : (Jvm.Cond.laysFinal "IntegerRadixHeapDeskModel" "IntegerRadixHeapDeskModel" "keys" "[I") ∈ lw_all := lw_g (lw_at lw_m3 45 rfl) rfl
theorem q533 : (Jvm.Cond.soleField "IntegerRadixHeapDeskModel" "keys") ∈ lw_all := lw_g (lw_at lw_m3 46 rfl) rfl
theorem q534 : (Jvm.Cond.laysFinal "IntegerRadixHeapDeskModel" "IntegerRadixHeapDeskModel" "home" "[I") ∈ lw_all := lw_g (lw_at lw_m3 47 rfl) rfl
theorem q535 : (Jvm.Cond.soleField "IntegerRadixHeapDeskModel" "home") ∈ lw_all := lw_g (lw_at lw_m3 48 rfl) rfl
theorem q536 : (Jvm.Cond.laysFinal "IntegerRadixHeapDeskModel" "IntegerRadixHeapDeskModel" "taken" "[I") ∈ lw_all := lw_g (lw_at lw_m3 49 rfl) rfl
theorem q537 : (Jvm.Cond.soleField "IntegerRadixHeapDeskModel" "taken") ∈ lw_all := lw_g (lw_at lw_m3 50 rfl) rfl
theorem q538 : (Jvm.Cond.lays "IntegerRadixHeapDeskModel" "IntegerRadixHeapDeskModel" "puts" "I") ∈ lw_all := lw_g (lw_at lw_m3 51 rfl) rfl
theorem q539 : (Jvm.Cond.soleField "IntegerRadixHeapDeskModel" "puts") ∈ lw_all := lw_g (lw_at lw_m3 52 rfl) rfl
theorem q540 : (Jvm.Cond.superclass "IntegerRadixHeapDeskModel" "java/lang/Object") ∈ lw_all := lw_g (lw_at lw_m3 53 rfl) rfl
theorem q542 : (Jvm.Cond.instanceMethod ({ cls := "IntegerRadixHeapDeskModel", name := "put", desc := "(II)Z" } : Jvm.MethodName)) ∈ lw_all := lw_g (lw_at lw_m3 55 rfl) rfl
theorem q543 : (Jvm.Cond.selects "IntegerRadixHeapDeskModel" ({ cls := "IntegerRadixHeapDeskModel", name := "put", desc := "(II)Z" } : Jvm.MethodName) ({ cls := "IntegerRadixHeapDeskModel", name := "put", desc := "(II)Z" } : Jvm.MethodName)) ∈ lw_all := lw_g (lw_at lw_m3 56 rfl) rfl
theorem q544 : (Jvm.Cond.code ({ cls := "IntegerRadixHeapDeskModel", name := "put", desc := "(II)Z" } : Jvm.MethodName) prog_5_method_4_code (3 : Nat) (Option.some Jvm.ClassFile.FieldType.boolean)) ∈ lw_all := lw_g (lw_at lw_m3 57 rfl) rfl
theorem q545 : (Jvm.Cond.constant "IntegerRadixHeapDeskModel" (24 : Nat) (1048575 : Int32)) ∈ lw_all := lw_g (lw_at lw_m3 58 rfl) rfl
theorem q546 : (Jvm.Cond.methodLink "IntegerRadixHeapDeskModel" (25 : Nat) ({ cls := "IntegerRadixHeapDeskModel", name := "lay", desc := "(II)Z" } : Jvm.MethodName)) ∈ lw_all := lw_g (lw_at lw_m3 59 rfl) rfl
theorem q547 : (Jvm.Cond.privateMethod ({ cls := "IntegerRadixHeapDeskModel", name := "lay", desc := "(II)Z" } : Jvm.MethodName)) ∈ lw_tbl := lw_at lw_m3 60 rfl
theorem q548 : (Jvm.Cond.instanceMethod ({ cls := "IntegerRadixHeapDeskModel", name := "lay", desc := "(II)Z" } : Jvm.MethodName)) ∈ lw_all := lw_g (lw_at lw_m3 61 rfl) rfl
theorem q549 : (Jvm.Cond.code ({ cls := "IntegerRadixHeapDeskModel", name := "lay", desc := "(II)Z" } : Jvm.MethodName) prog_5_method_3_code (3 : Nat) (Option.some Jvm.ClassFile.FieldType.boolean)) ∈ lw_all := lw_g (lw_at lw_m3 62 rfl) rfl
theorem q550 : (Jvm.Cond.constant "IntegerRadixHeapDeskModel" (23 : Nat) (1048576 : Int32)) ∈ lw_all := lw_g (lw_at lw_m3 63 rfl) rfl
theorem q552 : (Jvm.Cond.instanceMethod ({ cls := "IntegerRadixHeapDeskModel", name := "above", desc := "(II)Z" } : Jvm.MethodName)) ∈ lw_all := lw_g (lw_at lw_m3 65 rfl) rfl
theorem q553 : (Jvm.Cond.selects "IntegerRadixHeapDeskModel" ({ cls := "IntegerRadixHeapDeskModel", name := "above", desc := "(II)Z" } : Jvm.MethodName) ({ cls := "IntegerRadixHeapDeskModel", name := "above", desc := "(II)Z" } : Jvm.MethodName)) ∈ lw_all := lw_g (lw_at lw_m3 66 rfl) rfl
theorem q554 : (Jvm.Cond.code ({ cls := "IntegerRadixHeapDeskModel", name := "above", desc := "(II)Z" } : Jvm.MethodName) prog_5_method_5_code (3 : Nat) (Option.some Jvm.ClassFile.FieldType.boolean)) ∈ lw_all := lw_g (lw_at lw_m3 67 rfl) rfl
theorem q556 : (Jvm.Cond.instanceMethod ({ cls := "IntegerRadixHeapDeskModel", name := "least", desc := "(I)I" } : Jvm.MethodName)) ∈ lw_all := lw_g (lw_at lw_m3 69 rfl) rfl
theorem q557 : (Jvm.Cond.selects "IntegerRadixHeapDeskModel" ({ cls := "IntegerRadixHeapDeskModel", name := "least", desc := "(I)I" } : Jvm.MethodName) ({ cls := "IntegerRadixHeapDeskModel", name := "least", desc := "(I)I" } : Jvm.MethodName)) ∈ lw_all := lw_g (lw_at lw_m3 70 rfl) rfl
theorem q558 : (Jvm.Cond.code ({ cls := "IntegerRadixHeapDeskModel", name := "least", desc := "(I)I" } : Jvm.MethodName) prog_5_method_6_code (3 : Nat) (Option.some Jvm.ClassFile.FieldType.int)) ∈ lw_all := lw_g (lw_at lw_m3 71 rfl) rfl
theorem q559 : (Jvm.Cond.methodLink "IntegerRadixHeapDeskModel" (29 : Nat) ({ cls := "IntegerRadixHeapDeskModel", name := "first", desc := "(I)I" } : Jvm.MethodName)) ∈ lw_all := lw_g (lw_at lw_m3 72 rfl) rfl
theorem q560 : (Jvm.Cond.privateMethod ({ cls := "IntegerRadixHeapDeskModel", name := "first", desc := "(I)I" } : Jvm.MethodName)) ∈ lw_tbl := lw_at lw_m3 73 rfl
theorem q561 : (Jvm.Cond.instanceMethod ({ cls := "IntegerRadixHeapDeskModel", name := "first", desc := "(I)I" } : Jvm.MethodName)) ∈ lw_all := lw_g (lw_at lw_m3 74 rfl) rfl
theorem q562 : (Jvm.Cond.code ({ cls := "IntegerRadixHeapDeskModel", name := "first", desc := "(I)I" } : Jvm.MethodName) prog_5_method_2_code (4 : Nat) (Option.some Jvm.ClassFile.FieldType.int)) ∈ lw_all := lw_g (lw_at lw_m3 75 rfl) rfl
theorem q564 : (Jvm.Cond.instanceMethod ({ cls := "IntegerRadixHeapDeskModel", name := "takeLeast", desc := "(I)I" } : Jvm.MethodName)) ∈ lw_all := lw_g (lw_at lw_m3 77 rfl) rfl
theorem q565 : (Jvm.Cond.selects "IntegerRadixHeapDeskModel" ({ cls := "IntegerRadixHeapDeskModel", name := "takeLeast", desc := "(I)I" } : Jvm.MethodName) ({ cls := "IntegerRadixHeapDeskModel", name := "takeLeast", desc := "(I)I" } : Jvm.MethodName)) ∈ lw_all := lw_g (lw_at lw_m3 78 rfl) rfl
theorem q566 : (Jvm.Cond.code ({ cls := "IntegerRadixHeapDeskModel", name := "takeLeast", desc := "(I)I" } : Jvm.MethodName) prog_5_method_7_code (3 : Nat) (Option.some Jvm.ClassFile.FieldType.int)) ∈ lw_all := lw_g (lw_at lw_m3 79 rfl) rfl
theorem q568 : (Jvm.Cond.instanceMethod ({ cls := "IntegerRadixHeapDeskModel", name := "size", desc := "(I)I" } : Jvm.MethodName)) ∈ lw_all := lw_g (lw_at lw_m3 81 rfl) rfl
theorem q569 : (Jvm.Cond.selects "IntegerRadixHeapDeskModel" ({ cls := "IntegerRadixHeapDeskModel", name := "size", desc := "(I)I" } : Jvm.MethodName) ({ cls := "IntegerRadixHeapDeskModel", name := "size", desc := "(I)I" } : Jvm.MethodName)) ∈ lw_all := lw_g (lw_at lw_m3 82 rfl) rfl
theorem q570 : (Jvm.Cond.code ({ cls := "IntegerRadixHeapDeskModel", name := "size", desc := "(I)I" } : Jvm.MethodName) prog_5_method_8_code (4 : Nat) (Option.some Jvm.ClassFile.FieldType.int)) ∈ lw_all := lw_g (lw_at lw_m3 83 rfl) rfl
theorem q572 : (Jvm.Cond.instanceMethod ({ cls := "IntegerRadixHeapDeskModel", name := "isEmpty", desc := "(I)Z" } : Jvm.MethodName)) ∈ lw_all := lw_g (lw_at lw_m3 85 rfl) rfl
theorem q573 : (Jvm.Cond.selects "IntegerRadixHeapDeskModel" ({ cls := "IntegerRadixHeapDeskModel", name := "isEmpty", desc := "(I)Z" } : Jvm.MethodName) ({ cls := "IntegerRadixHeapDeskModel", name := "isEmpty", desc := "(I)Z" } : Jvm.MethodName)) ∈ lw_all := lw_g (lw_at lw_m3 86 rfl) rfl
theorem q574 : (Jvm.Cond.code ({ cls := "IntegerRadixHeapDeskModel", name := "isEmpty", desc := "(I)Z" } : Jvm.MethodName) prog_5_method_9_code (2 : Nat) (Option.some Jvm.ClassFile.FieldType.boolean)) ∈ lw_all := lw_g (lw_at lw_m3 87 rfl) rfl
theorem q576 : (Jvm.Cond.instanceMethod ({ cls := "IntegerRadixHeapDeskModel", name := "renew", desc := "(I)V" } : Jvm.MethodName)) ∈ lw_all := lw_g (lw_at lw_m3 89 rfl) rfl
theorem q577 : (Jvm.Cond.selects "IntegerRadixHeapDeskModel" ({ cls := "IntegerRadixHeapDeskModel", name := "renew", desc := "(I)V" } : Jvm.MethodName) ({ cls := "IntegerRadixHeapDeskModel", name := "renew", desc := "(I)V" } : Jvm.MethodName)) ∈ lw_all := lw_g (lw_at lw_m3 90 rfl) rfl
theorem q578 : (Jvm.Cond.code ({ cls := "IntegerRadixHeapDeskModel", name := "renew", desc := "(I)V" } : Jvm.MethodName) prog_5_method_10_code (3 : Nat) (Option.none : Option Jvm.ClassFile.FieldType)) ∈ lw_all := lw_g (lw_at lw_m3 91 rfl) rfl
theorem q588 : (Jvm.Cond.castable "IntegerRadixHeapDeskModel" "java/lang/Object") ∈ lw_tbl := lw_at lw_m3 101 rfl
theorem in_X3 : ∀ w ∈ wsX30, w ∈ lw_all := lw_in wsX30 [532, 534, 536, 538] (by decide +kernel) (by decide +kernel)
/-! the law's own entry -/
set_option maxRecDepth 100000
abbrev cL_law : ByteArray := code
def dkwL_law_10 : List UInt8 := [182, 0, 40, 44, 42, 29, 4, 96, 46, 182, 0, 44, 167, 0, 3, 132, 3, 6, 167, 255, 16, 4, 172]
abbrev dktL_law_10 : List UInt8 := dkwL_law_10 ++ []
def dkwL_law_9 : List UInt8 := [182, 0, 35, 44, 42, 29, 4, 96, 46, 182, 0, 39, 159, 0, 26, 3, 172, 43, 42, 29, 4, 96, 46]
abbrev dktL_law_9 : List UInt8 := dkwL_law_9 ++ dktL_law_10
def dkwL_law_8 : List UInt8 := [182, 0, 31, 44, 42, 29, 4, 96, 46, 182, 0, 34, 159, 0, 49, 3, 172, 43, 42, 29, 4, 96, 46]
abbrev dktL_law_8 : List UInt8 := dkwL_law_8 ++ dktL_law_9
def dkwL_law_7 : List UInt8 := [182, 0, 27, 44, 42, 29, 4, 96, 46, 182, 0, 30, 159, 0, 72, 3, 172, 43, 42, 29, 4, 96, 46]
abbrev dktL_law_7 : List UInt8 := dkwL_law_7 ++ dktL_law_8
def dkwL_law_6 : List UInt8 := [182, 0, 22, 44, 42, 29, 4, 96, 46, 182, 0, 26, 159, 0, 95, 3, 172, 43, 42, 29, 4, 96, 46]
abbrev dktL_law_6 : List UInt8 := dkwL_law_6 ++ dktL_law_7
def dkwL_law_5 : List UInt8 := [42, 29, 4, 96, 46, 42, 29, 5, 96, 46, 182, 0, 21, 159, 0, 118, 3, 172, 43, 42, 29, 4, 96, 46]
abbrev dktL_law_5 : List UInt8 := dkwL_law_5 ++ dktL_law_6
def dkwL_law_4 : List UInt8 := [46, 182, 0, 17, 159, 0, 151, 3, 172, 43, 42, 29, 4, 96, 46, 42, 29, 5, 96, 46, 182, 0, 18, 44]
abbrev dktL_law_4 : List UInt8 := dkwL_law_4 ++ dktL_law_5
def dkwL_law_3 : List UInt8 := [43, 42, 29, 4, 96, 46, 42, 29, 5, 96, 46, 182, 0, 13, 44, 42, 29, 4, 96, 46, 42, 29, 5, 96]
abbrev dktL_law_3 : List UInt8 := dkwL_law_3 ++ dktL_law_4
def dkwL_law_2 : List UInt8 := [170, 0, 0, 0, 0, 0, 222, 0, 0, 0, 0, 0, 0, 0, 6, 0, 0, 0, 43, 0, 0, 0, 76, 0, 0, 0, 109, 0, 0, 0, 132, 0, 0, 0, 155, 0, 0, 0, 178, 0, 0, 0, 201]
abbrev dktL_law_2 : List UInt8 := dkwL_law_2 ++ dktL_law_3
def dkwL_law_1 : List UInt8 := [163, 0, 237, 42, 29, 46, 16, 15, 126]
abbrev dktL_law_1 : List UInt8 := dkwL_law_1 ++ dktL_law_2
def dkwL_law_0 : List UInt8 := [187, 0, 7, 89, 183, 0, 9, 76, 187, 0, 10, 89, 183, 0, 12, 77, 3, 62, 29, 42, 190, 16, 6, 100]
abbrev dktL_law_0 : List UInt8 := dkwL_law_0 ++ dktL_law_1
theorem dksL_law_0 : cL_law.data.toList.drop 0 = dktL_law_0 := by decide +kernel
theorem dksL_law_1 : cL_law.data.toList.drop 24 = dktL_law_1 := dk_seg dksL_law_0 24 rfl rfl
theorem dksL_law_2 : cL_law.data.toList.drop 33 = dktL_law_2 := dk_seg dksL_law_1 9 rfl rfl
theorem dksL_law_3 : cL_law.data.toList.drop 76 = dktL_law_3 := dk_seg dksL_law_2 43 rfl rfl
theorem dksL_law_4 : cL_law.data.toList.drop 100 = dktL_law_4 := dk_seg dksL_law_3 24 rfl rfl
theorem dksL_law_5 : cL_law.data.toList.drop 124 = dktL_law_5 := dk_seg dksL_law_4 24 rfl rfl
theorem dksL_law_6 : cL_law.data.toList.drop 148 = dktL_law_6 := dk_seg dksL_law_5 24 rfl rfl
theorem dksL_law_7 : cL_law.data.toList.drop 171 = dktL_law_7 := dk_seg dksL_law_6 23 rfl rfl
theorem dksL_law_8 : cL_law.data.toList.drop 194 = dktL_law_8 := dk_seg dksL_law_7 23 rfl rfl
theorem dksL_law_9 : cL_law.data.toList.drop 217 = dktL_law_9 := dk_seg dksL_law_8 23 rfl rfl
theorem dksL_law_10 : cL_law.data.toList.drop 240 = dktL_law_10 := dk_seg dksL_law_9 23 rfl rfl
theorem dL_law_0 : decode cL_law 0 = .ok (.new 7, 3) := dk_187 0 7 (dk_at dksL_law_0 0 rfl rfl)
theorem dL_law_3 : decode cL_law 3 = .ok (.dup, 1) := dk_89 (dk_at dksL_law_0 3 rfl rfl)
theorem dL_law_4 : decode cL_law 4 = .ok (.invokespecial 9, 3) := dk_183 0 9 (dk_at dksL_law_0 4 rfl rfl)
theorem dL_law_7 : decode cL_law 7 = .ok (.astore_n 1, 1) := dk_76 (dk_at dksL_law_0 7 rfl rfl)
theorem dL_law_8 : decode cL_law 8 = .ok (.new 10, 3) := dk_187 0 10 (dk_at dksL_law_0 8 rfl rfl)
theorem dL_law_11 : decode cL_law 11 = .ok (.dup, 1) := dk_89 (dk_at dksL_law_0 11 rfl rfl)
theorem dL_law_12 : decode cL_law 12 = .ok (.invokespecial 12, 3) := dk_183 0 12 (dk_at dksL_law_0 12 rfl rfl)
theorem dL_law_15 : decode cL_law 15 = .ok (.astore_n 2, 1) := dk_77 (dk_at dksL_law_0 15 rfl rfl)
theorem dL_law_16 : decode cL_law 16 = .ok (.iconst 0, 1) := dk_3 (dk_at dksL_law_0 16 rfl rfl)
theorem dL_law_17 : decode cL_law 17 = .ok (.istore_n 3, 1) := dk_62 (dk_at dksL_law_0 17 rfl rfl)
theorem dL_law_18 : decode cL_law 18 = .ok (.iload_n 3, 1) := dk_29 (dk_at dksL_law_0 18 rfl rfl)
theorem dL_law_19 : decode cL_law 19 = .ok (.aload_n 0, 1) := dk_42 (dk_at dksL_law_0 19 rfl rfl)
theorem dL_law_20 : decode cL_law 20 = .ok (.arraylength, 1) := dk_190 (dk_at dksL_law_0 20 rfl rfl)
theorem dL_law_21 : decode cL_law 21 = .ok (.bipush 6, 2) := dk_16 6 (dk_at dksL_law_0 21 rfl rfl)
theorem dL_law_23 : decode cL_law 23 = .ok (.isub, 1) := dk_100 (dk_at dksL_law_0 23 rfl rfl)
theorem dL_law_24 : decode cL_law 24 = .ok (.if_icmp .gt 237, 3) := dk_163 0 237 (dk_at dksL_law_1 0 rfl rfl)
theorem dL_law_27 : decode cL_law 27 = .ok (.aload_n 0, 1) := dk_42 (dk_at dksL_law_1 3 rfl rfl)
theorem dL_law_28 : decode cL_law 28 = .ok (.iload_n 3, 1) := dk_29 (dk_at dksL_law_1 4 rfl rfl)
theorem dL_law_29 : decode cL_law 29 = .ok (.iaload, 1) := dk_46 (dk_at dksL_law_1 5 rfl rfl)
theorem dL_law_30 : decode cL_law 30 = .ok (.bipush 15, 2) := dk_16 15 (dk_at dksL_law_1 6 rfl rfl)
theorem dL_law_32 : decode cL_law 32 = .ok (.iand, 1) := dk_126 (dk_at dksL_law_1 8 rfl rfl)
theorem dL_law_33 : decode cL_law 33 = .ok (.tableswitch 222 0 6 #[43, 76, 109, 132, 155, 178, 201], 43) := by decide +kernel
theorem dL_law_76 : decode cL_law 76 = .ok (.aload_n 1, 1) := dk_43 (dk_at dksL_law_3 0 rfl rfl)
theorem dL_law_77 : decode cL_law 77 = .ok (.aload_n 0, 1) := dk_42 (dk_at dksL_law_3 1 rfl rfl)
theorem dL_law_78 : decode cL_law 78 = .ok (.iload_n 3, 1) := dk_29 (dk_at dksL_law_3 2 rfl rfl)
theorem dL_law_79 : decode cL_law 79 = .ok (.iconst 1, 1) := dk_4 (dk_at dksL_law_3 3 rfl rfl)
theorem dL_law_80 : decode cL_law 80 = .ok (.iadd, 1) := dk_96 (dk_at dksL_law_3 4 rfl rfl)
theorem dL_law_81 : decode cL_law 81 = .ok (.iaload, 1) := dk_46 (dk_at dksL_law_3 5 rfl rfl)
theorem dL_law_82 : decode cL_law 82 = .ok (.aload_n 0, 1) := dk_42 (dk_at dksL_law_3 6 rfl rfl)
theorem dL_law_83 : decode cL_law 83 = .ok (.iload_n 3, 1) := dk_29 (dk_at dksL_law_3 7 rfl rfl)
theorem dL_law_84 : decode cL_law 84 = .ok (.iconst 2, 1) := dk_5 (dk_at dksL_law_3 8 rfl rfl)
theorem dL_law_85 : decode cL_law 85 = .ok (.iadd, 1) := dk_96 (dk_at dksL_law_3 9 rfl rfl)
theorem dL_law_86 : decode cL_law 86 = .ok (.iaload, 1) := dk_46 (dk_at dksL_law_3 10 rfl rfl)
theorem dL_law_87 : decode cL_law 87 = .ok (.invokevirtual 13, 3) := dk_182 0 13 (dk_at dksL_law_3 11 rfl rfl)
theorem dL_law_90 : decode cL_law 90 = .ok (.aload_n 2, 1) := dk_44 (dk_at dksL_law_3 14 rfl rfl)
theorem dL_law_91 : decode cL_law 91 = .ok (.aload_n 0, 1) := dk_42 (dk_at dksL_law_3 15 rfl rfl)
theorem dL_law_92 : decode cL_law 92 = .ok (.iload_n 3, 1) := dk_29 (dk_at dksL_law_3 16 rfl rfl)
theorem dL_law_93 : decode cL_law 93 = .ok (.iconst 1, 1) := dk_4 (dk_at dksL_law_3 17 rfl rfl)
theorem dL_law_94 : decode cL_law 94 = .ok (.iadd, 1) := dk_96 (dk_at dksL_law_3 18 rfl rfl)
theorem dL_law_95 : decode cL_law 95 = .ok (.iaload, 1) := dk_46 (dk_at dksL_law_3 19 rfl rfl)
theorem dL_law_96 : decode cL_law 96 = .ok (.aload_n 0, 1) := dk_42 (dk_at dksL_law_3 20 rfl rfl)
theorem dL_law_97 : decode cL_law 97 = .ok (.iload_n 3, 1) := dk_29 (dk_at dksL_law_3 21 rfl rfl)
theorem dL_law_98 : decode cL_law 98 = .ok (.iconst 2, 1) := dk_5 (dk_at dksL_law_3 22 rfl rfl)
theorem dL_law_99 : decode cL_law 99 = .ok (.iadd, 1) := dk_96 (dk_at dksL_law_3 23 rfl rfl)
theorem dL_law_100 : decode cL_law 100 = .ok (.iaload, 1) := dk_46 (dk_at dksL_law_4 0 rfl rfl)
theorem dL_law_101 : decode cL_law 101 = .ok (.invokevirtual 17, 3) := dk_182 0 17 (dk_at dksL_law_4 1 rfl rfl)
theorem dL_law_104 : decode cL_law 104 = .ok (.if_icmp .eq 151, 3) := dk_159 0 151 (dk_at dksL_law_4 4 rfl rfl)
theorem dL_law_107 : decode cL_law 107 = .ok (.iconst 0, 1) := dk_3 (dk_at dksL_law_4 7 rfl rfl)
theorem dL_law_108 : decode cL_law 108 = .ok (.ireturn, 1) := dk_172 (dk_at dksL_law_4 8 rfl rfl)
theorem dL_law_109 : decode cL_law 109 = .ok (.aload_n 1, 1) := dk_43 (dk_at dksL_law_4 9 rfl rfl)
theorem dL_law_110 : decode cL_law 110 = .ok (.aload_n 0, 1) := dk_42 (dk_at dksL_law_4 10 rfl rfl)
theorem dL_law_111 : decode cL_law 111 = .ok (.iload_n 3, 1) := dk_29 (dk_at dksL_law_4 11 rfl rfl)
theorem dL_law_112 : decode cL_law 112 = .ok (.iconst 1, 1) := dk_4 (dk_at dksL_law_4 12 rfl rfl)
theorem dL_law_113 : decode cL_law 113 = .ok (.iadd, 1) := dk_96 (dk_at dksL_law_4 13 rfl rfl)
theorem dL_law_114 : decode cL_law 114 = .ok (.iaload, 1) := dk_46 (dk_at dksL_law_4 14 rfl rfl)
theorem dL_law_115 : decode cL_law 115 = .ok (.aload_n 0, 1) := dk_42 (dk_at dksL_law_4 15 rfl rfl)
theorem dL_law_116 : decode cL_law 116 = .ok (.iload_n 3, 1) := dk_29 (dk_at dksL_law_4 16 rfl rfl)
theorem dL_law_117 : decode cL_law 117 = .ok (.iconst 2, 1) := dk_5 (dk_at dksL_law_4 17 rfl rfl)
theorem dL_law_118 : decode cL_law 118 = .ok (.iadd, 1) := dk_96 (dk_at dksL_law_4 18 rfl rfl)
theorem dL_law_119 : decode cL_law 119 = .ok (.iaload, 1) := dk_46 (dk_at dksL_law_4 19 rfl rfl)
theorem dL_law_120 : decode cL_law 120 = .ok (.invokevirtual 18, 3) := dk_182 0 18 (dk_at dksL_law_4 20 rfl rfl)
theorem dL_law_123 : decode cL_law 123 = .ok (.aload_n 2, 1) := dk_44 (dk_at dksL_law_4 23 rfl rfl)
theorem dL_law_124 : decode cL_law 124 = .ok (.aload_n 0, 1) := dk_42 (dk_at dksL_law_5 0 rfl rfl)
theorem dL_law_125 : decode cL_law 125 = .ok (.iload_n 3, 1) := dk_29 (dk_at dksL_law_5 1 rfl rfl)
theorem dL_law_126 : decode cL_law 126 = .ok (.iconst 1, 1) := dk_4 (dk_at dksL_law_5 2 rfl rfl)
theorem dL_law_127 : decode cL_law 127 = .ok (.iadd, 1) := dk_96 (dk_at dksL_law_5 3 rfl rfl)
theorem dL_law_128 : decode cL_law 128 = .ok (.iaload, 1) := dk_46 (dk_at dksL_law_5 4 rfl rfl)
theorem dL_law_129 : decode cL_law 129 = .ok (.aload_n 0, 1) := dk_42 (dk_at dksL_law_5 5 rfl rfl)
theorem dL_law_130 : decode cL_law 130 = .ok (.iload_n 3, 1) := dk_29 (dk_at dksL_law_5 6 rfl rfl)
theorem dL_law_131 : decode cL_law 131 = .ok (.iconst 2, 1) := dk_5 (dk_at dksL_law_5 7 rfl rfl)
theorem dL_law_132 : decode cL_law 132 = .ok (.iadd, 1) := dk_96 (dk_at dksL_law_5 8 rfl rfl)
theorem dL_law_133 : decode cL_law 133 = .ok (.iaload, 1) := dk_46 (dk_at dksL_law_5 9 rfl rfl)
theorem dL_law_134 : decode cL_law 134 = .ok (.invokevirtual 21, 3) := dk_182 0 21 (dk_at dksL_law_5 10 rfl rfl)
theorem dL_law_137 : decode cL_law 137 = .ok (.if_icmp .eq 118, 3) := dk_159 0 118 (dk_at dksL_law_5 13 rfl rfl)
theorem dL_law_140 : decode cL_law 140 = .ok (.iconst 0, 1) := dk_3 (dk_at dksL_law_5 16 rfl rfl)
theorem dL_law_141 : decode cL_law 141 = .ok (.ireturn, 1) := dk_172 (dk_at dksL_law_5 17 rfl rfl)
theorem dL_law_142 : decode cL_law 142 = .ok (.aload_n 1, 1) := dk_43 (dk_at dksL_law_5 18 rfl rfl)
theorem dL_law_143 : decode cL_law 143 = .ok (.aload_n 0, 1) := dk_42 (dk_at dksL_law_5 19 rfl rfl)
theorem dL_law_144 : decode cL_law 144 = .ok (.iload_n 3, 1) := dk_29 (dk_at dksL_law_5 20 rfl rfl)
theorem dL_law_145 : decode cL_law 145 = .ok (.iconst 1, 1) := dk_4 (dk_at dksL_law_5 21 rfl rfl)
theorem dL_law_146 : decode cL_law 146 = .ok (.iadd, 1) := dk_96 (dk_at dksL_law_5 22 rfl rfl)
theorem dL_law_147 : decode cL_law 147 = .ok (.iaload, 1) := dk_46 (dk_at dksL_law_5 23 rfl rfl)
theorem dL_law_148 : decode cL_law 148 = .ok (.invokevirtual 22, 3) := dk_182 0 22 (dk_at dksL_law_6 0 rfl rfl)
theorem dL_law_151 : decode cL_law 151 = .ok (.aload_n 2, 1) := dk_44 (dk_at dksL_law_6 3 rfl rfl)
theorem dL_law_152 : decode cL_law 152 = .ok (.aload_n 0, 1) := dk_42 (dk_at dksL_law_6 4 rfl rfl)
theorem dL_law_153 : decode cL_law 153 = .ok (.iload_n 3, 1) := dk_29 (dk_at dksL_law_6 5 rfl rfl)
theorem dL_law_154 : decode cL_law 154 = .ok (.iconst 1, 1) := dk_4 (dk_at dksL_law_6 6 rfl rfl)
theorem dL_law_155 : decode cL_law 155 = .ok (.iadd, 1) := dk_96 (dk_at dksL_law_6 7 rfl rfl)
theorem dL_law_156 : decode cL_law 156 = .ok (.iaload, 1) := dk_46 (dk_at dksL_law_6 8 rfl rfl)
theorem dL_law_157 : decode cL_law 157 = .ok (.invokevirtual 26, 3) := dk_182 0 26 (dk_at dksL_law_6 9 rfl rfl)
theorem dL_law_160 : decode cL_law 160 = .ok (.if_icmp .eq 95, 3) := dk_159 0 95 (dk_at dksL_law_6 12 rfl rfl)
theorem dL_law_163 : decode cL_law 163 = .ok (.iconst 0, 1) := dk_3 (dk_at dksL_law_6 15 rfl rfl)
theorem dL_law_164 : decode cL_law 164 = .ok (.ireturn, 1) := dk_172 (dk_at dksL_law_6 16 rfl rfl)
theorem dL_law_165 : decode cL_law 165 = .ok (.aload_n 1, 1) := dk_43 (dk_at dksL_law_6 17 rfl rfl)
theorem dL_law_166 : decode cL_law 166 = .ok (.aload_n 0, 1) := dk_42 (dk_at dksL_law_6 18 rfl rfl)
theorem dL_law_167 : decode cL_law 167 = .ok (.iload_n 3, 1) := dk_29 (dk_at dksL_law_6 19 rfl rfl)
theorem dL_law_168 : decode cL_law 168 = .ok (.iconst 1, 1) := dk_4 (dk_at dksL_law_6 20 rfl rfl)
theorem dL_law_169 : decode cL_law 169 = .ok (.iadd, 1) := dk_96 (dk_at dksL_law_6 21 rfl rfl)
theorem dL_law_170 : decode cL_law 170 = .ok (.iaload, 1) := dk_46 (dk_at dksL_law_6 22 rfl rfl)
theorem dL_law_171 : decode cL_law 171 = .ok (.invokevirtual 27, 3) := dk_182 0 27 (dk_at dksL_law_7 0 rfl rfl)
theorem dL_law_174 : decode cL_law 174 = .ok (.aload_n 2, 1) := dk_44 (dk_at dksL_law_7 3 rfl rfl)
theorem dL_law_175 : decode cL_law 175 = .ok (.aload_n 0, 1) := dk_42 (dk_at dksL_law_7 4 rfl rfl)
theorem dL_law_176 : decode cL_law 176 = .ok (.iload_n 3, 1) := dk_29 (dk_at dksL_law_7 5 rfl rfl)
theorem dL_law_177 : decode cL_law 177 = .ok (.iconst 1, 1) := dk_4 (dk_at dksL_law_7 6 rfl rfl)
theorem dL_law_178 : decode cL_law 178 = .ok (.iadd, 1) := dk_96 (dk_at dksL_law_7 7 rfl rfl)
theorem dL_law_179 : decode cL_law 179 = .ok (.iaload, 1) := dk_46 (dk_at dksL_law_7 8 rfl rfl)
theorem dL_law_180 : decode cL_law 180 = .ok (.invokevirtual 30, 3) := dk_182 0 30 (dk_at dksL_law_7 9 rfl rfl)
theorem dL_law_183 : decode cL_law 183 = .ok (.if_icmp .eq 72, 3) := dk_159 0 72 (dk_at dksL_law_7 12 rfl rfl)
theorem dL_law_186 : decode cL_law 186 = .ok (.iconst 0, 1) := dk_3 (dk_at dksL_law_7 15 rfl rfl)
theorem dL_law_187 : decode cL_law 187 = .ok (.ireturn, 1) := dk_172 (dk_at dksL_law_7 16 rfl rfl)
theorem dL_law_188 : decode cL_law 188 = .ok (.aload_n 1, 1) := dk_43 (dk_at dksL_law_7 17 rfl rfl)
theorem dL_law_189 : decode cL_law 189 = .ok (.aload_n 0, 1) := dk_42 (dk_at dksL_law_7 18 rfl rfl)
theorem dL_law_190 : decode cL_law 190 = .ok (.iload_n 3, 1) := dk_29 (dk_at dksL_law_7 19 rfl rfl)
theorem dL_law_191 : decode cL_law 191 = .ok (.iconst 1, 1) := dk_4 (dk_at dksL_law_7 20 rfl rfl)
theorem dL_law_192 : decode cL_law 192 = .ok (.iadd, 1) := dk_96 (dk_at dksL_law_7 21 rfl rfl)
theorem dL_law_193 : decode cL_law 193 = .ok (.iaload, 1) := dk_46 (dk_at dksL_law_7 22 rfl rfl)
theorem dL_law_194 : decode cL_law 194 = .ok (.invokevirtual 31, 3) := dk_182 0 31 (dk_at dksL_law_8 0 rfl rfl)
theorem dL_law_197 : decode cL_law 197 = .ok (.aload_n 2, 1) := dk_44 (dk_at dksL_law_8 3 rfl rfl)
theorem dL_law_198 : decode cL_law 198 = .ok (.aload_n 0, 1) := dk_42 (dk_at dksL_law_8 4 rfl rfl)
theorem dL_law_199 : decode cL_law 199 = .ok (.iload_n 3, 1) := dk_29 (dk_at dksL_law_8 5 rfl rfl)
theorem dL_law_200 : decode cL_law 200 = .ok (.iconst 1, 1) := dk_4 (dk_at dksL_law_8 6 rfl rfl)
theorem dL_law_201 : decode cL_law 201 = .ok (.iadd, 1) := dk_96 (dk_at dksL_law_8 7 rfl rfl)
theorem dL_law_202 : decode cL_law 202 = .ok (.iaload, 1) := dk_46 (dk_at dksL_law_8 8 rfl rfl)
theorem dL_law_203 : decode cL_law 203 = .ok (.invokevirtual 34, 3) := dk_182 0 34 (dk_at dksL_law_8 9 rfl rfl)
theorem dL_law_206 : decode cL_law 206 = .ok (.if_icmp .eq 49, 3) := dk_159 0 49 (dk_at dksL_law_8 12 rfl rfl)
theorem dL_law_209 : decode cL_law 209 = .ok (.iconst 0, 1) := dk_3 (dk_at dksL_law_8 15 rfl rfl)
theorem dL_law_210 : decode cL_law 210 = .ok (.ireturn, 1) := dk_172 (dk_at dksL_law_8 16 rfl rfl)
theorem dL_law_211 : decode cL_law 211 = .ok (.aload_n 1, 1) := dk_43 (dk_at dksL_law_8 17 rfl rfl)
theorem dL_law_212 : decode cL_law 212 = .ok (.aload_n 0, 1) := dk_42 (dk_at dksL_law_8 18 rfl rfl)
theorem dL_law_213 : decode cL_law 213 = .ok (.iload_n 3, 1) := dk_29 (dk_at dksL_law_8 19 rfl rfl)
theorem dL_law_214 : decode cL_law 214 = .ok (.iconst 1, 1) := dk_4 (dk_at dksL_law_8 20 rfl rfl)
theorem dL_law_215 : decode cL_law 215 = .ok (.iadd, 1) := dk_96 (dk_at dksL_law_8 21 rfl rfl)
theorem dL_law_216 : decode cL_law 216 = .ok (.iaload, 1) := dk_46 (dk_at dksL_law_8 22 rfl rfl)
theorem dL_law_217 : decode cL_law 217 = .ok (.invokevirtual 35, 3) := dk_182 0 35 (dk_at dksL_law_9 0 rfl rfl)
theorem dL_law_220 : decode cL_law 220 = .ok (.aload_n 2, 1) := dk_44 (dk_at dksL_law_9 3 rfl rfl)
theorem dL_law_221 : decode cL_law 221 = .ok (.aload_n 0, 1) := dk_42 (dk_at dksL_law_9 4 rfl rfl)
theorem dL_law_222 : decode cL_law 222 = .ok (.iload_n 3, 1) := dk_29 (dk_at dksL_law_9 5 rfl rfl)
theorem dL_law_223 : decode cL_law 223 = .ok (.iconst 1, 1) := dk_4 (dk_at dksL_law_9 6 rfl rfl)
theorem dL_law_224 : decode cL_law 224 = .ok (.iadd, 1) := dk_96 (dk_at dksL_law_9 7 rfl rfl)
theorem dL_law_225 : decode cL_law 225 = .ok (.iaload, 1) := dk_46 (dk_at dksL_law_9 8 rfl rfl)
theorem dL_law_226 : decode cL_law 226 = .ok (.invokevirtual 39, 3) := dk_182 0 39 (dk_at dksL_law_9 9 rfl rfl)
theorem dL_law_229 : decode cL_law 229 = .ok (.if_icmp .eq 26, 3) := dk_159 0 26 (dk_at dksL_law_9 12 rfl rfl)
theorem dL_law_232 : decode cL_law 232 = .ok (.iconst 0, 1) := dk_3 (dk_at dksL_law_9 15 rfl rfl)
theorem dL_law_233 : decode cL_law 233 = .ok (.ireturn, 1) := dk_172 (dk_at dksL_law_9 16 rfl rfl)
theorem dL_law_234 : decode cL_law 234 = .ok (.aload_n 1, 1) := dk_43 (dk_at dksL_law_9 17 rfl rfl)
theorem dL_law_235 : decode cL_law 235 = .ok (.aload_n 0, 1) := dk_42 (dk_at dksL_law_9 18 rfl rfl)
theorem dL_law_236 : decode cL_law 236 = .ok (.iload_n 3, 1) := dk_29 (dk_at dksL_law_9 19 rfl rfl)
theorem dL_law_237 : decode cL_law 237 = .ok (.iconst 1, 1) := dk_4 (dk_at dksL_law_9 20 rfl rfl)
theorem dL_law_238 : decode cL_law 238 = .ok (.iadd, 1) := dk_96 (dk_at dksL_law_9 21 rfl rfl)
theorem dL_law_239 : decode cL_law 239 = .ok (.iaload, 1) := dk_46 (dk_at dksL_law_9 22 rfl rfl)
theorem dL_law_240 : decode cL_law 240 = .ok (.invokevirtual 40, 3) := dk_182 0 40 (dk_at dksL_law_10 0 rfl rfl)
theorem dL_law_243 : decode cL_law 243 = .ok (.aload_n 2, 1) := dk_44 (dk_at dksL_law_10 3 rfl rfl)
theorem dL_law_244 : decode cL_law 244 = .ok (.aload_n 0, 1) := dk_42 (dk_at dksL_law_10 4 rfl rfl)
theorem dL_law_245 : decode cL_law 245 = .ok (.iload_n 3, 1) := dk_29 (dk_at dksL_law_10 5 rfl rfl)
theorem dL_law_246 : decode cL_law 246 = .ok (.iconst 1, 1) := dk_4 (dk_at dksL_law_10 6 rfl rfl)
theorem dL_law_247 : decode cL_law 247 = .ok (.iadd, 1) := dk_96 (dk_at dksL_law_10 7 rfl rfl)
theorem dL_law_248 : decode cL_law 248 = .ok (.iaload, 1) := dk_46 (dk_at dksL_law_10 8 rfl rfl)
theorem dL_law_249 : decode cL_law 249 = .ok (.invokevirtual 44, 3) := dk_182 0 44 (dk_at dksL_law_10 9 rfl rfl)
theorem dL_law_252 : decode cL_law 252 = .ok (.goto 3, 3) := dk_167 0 3 (dk_at dksL_law_10 12 rfl rfl)
theorem dL_law_255 : decode cL_law 255 = .ok (.iinc 3 6, 3) := dk_132 3 6 (dk_at dksL_law_10 15 rfl rfl)
theorem dL_law_258 : decode cL_law 258 = .ok (.goto (-240), 3) := dk_167 255 16 (dk_at dksL_law_10 18 rfl rfl)
theorem dL_law_261 : decode cL_law 261 = .ok (.iconst 1, 1) := dk_4 (dk_at dksL_law_10 21 rfl rfl)
theorem dL_law_262 : decode cL_law 262 = .ok (.ireturn, 1) := dk_172 (dk_at dksL_law_10 22 rfl rfl)
end
section
/-! THE GHOST HEAP: what is known of the cells, as one function of the address. Every rule keeps it whole, so no frame is cut and joined: a contract says what the new function is. -/
set_option maxRecDepth 100000
abbrev gh_G : Type := Nat → Option va_E
def gh_up (G : gh_G) (a : Nat) (e : va_E) : gh_G := fun b => if b = a then some e else G b
theorem gh_up_s (G : gh_G) (a : Nat) (e : va_E) : gh_up G a e a = some e := if_pos rfl
theorem gh_up_n (G : gh_G) {a b : Nat} (e : va_E) (h : b ≠ a) : gh_up G a e b = G b := if_neg h
theorem gh_up_up (G : gh_G) (a : Nat) (e e' : va_E) : gh_up (gh_up G a e) a e' = gh_up G a e' := by
  funext b
  unfold gh_up
  by_cases h : b = a
  · simp [h]
  · simp [h]
/-- the class numbers, the bound between old and new cells, the cells of the JDK's statics -/
abbrev gh_P : Type := va_G × (Nat → Nat) × (Nat → Nat)
abbrev gh_N (P : gh_P) : Nat := P.2.1 0
abbrev gh_cI (P : gh_P) : Nat := P.2.1 1
abbrev gh_cO (P : gh_P) : Nat := P.2.1 2
abbrev gh_cL (P : gh_P) : Nat := P.2.1 3
abbrev gh_cH (P : gh_P) : Nat := P.2.1 4
abbrev gh_aE (P : gh_P) : Nat := P.2.1 5
abbrev gh_aT (P : gh_P) : Nat := P.2.1 6
abbrev gh_mi (P : gh_P) : Nat := P.2.1 7
abbrev gh_cl : List vw_C := [(RX0, TX0, 3), (RX2, TX2, 8), (RX3, TX3, 4), (RJ8, TJ8, 3), (RJ15, TJ15, 4), (RJ5, TJ5, 1)]
abbrev gh_tys (P : gh_P) : List (ClassId × FieldType) := [(gh_cI P, .int), (gh_cO P, .object "java/lang/Object"), (gh_cL P, .object "java/util/List"), (gh_cH P, .object "IntegerRadixHeap")]
def gh_A (P : gh_P) : Nat → Prop := fun q => gh_N P ≤ q
abbrev gh_o (ci : Nat) (fs : List Value) : va_E := .inr (ci, fs)
abbrev gh_i (c : Nat) (n : Nat) (f : Nat → Int32) : va_E := .inl (c, n, .inl f)
abbrev gh_q (c : Nat) (n : Nat) (f : Nat → Option Nat) : va_E := .inl (c, n, .inr (.inr (.inr (.inr f))))
def gh_B (P : gh_P) (G : gh_G) : Prop := (∀ k, k < 256 → P.2.2 k < gh_N P ∧ G (P.2.2 k) = some (gh_o 5 [.int (vb_c k)])) ∧ gh_aE P < gh_N P ∧ G (gh_aE P) = some (gh_q (gh_cO P) 0 (fun _ => none))
def gh_H (P : gh_P) (G : gh_G) (H : Heap) : Prop := gh_B P G ∧ ∀ (a : Nat) (e : va_E), G a = some e → va_at P.1 gh_cl (a, e) H
theorem gh_B_up {P : gh_P} {G : gh_G} {a : Nat} {e : va_E} (h : gh_B P G) (ha : gh_N P ≤ a) : gh_B P (gh_up G a e) := by
  obtain ⟨h1, h2, h3⟩ := h
  refine ⟨fun k hk => ⟨(h1 k hk).1, ?_⟩, h2, ?_⟩
  · have := (h1 k hk).1
    rw [gh_up_n _ _ (by omega)]
    exact (h1 k hk).2
  · rw [gh_up_n _ _ (by omega)]
    exact h3
theorem gh_one {P : gh_P} {G : gh_G} {H : Heap} {a : Nat} {e : va_E} (hG : gh_H P G H) (ha : G a = some e) : va_P P.1 gh_cl [(a, e)] H := by
  intro k q hk
  have hz : k < 1 := (List.getElem?_eq_some_iff.mp hk).1
  rw [show k = 0 by omega] at hk
  cases hk
  exact hG.2 a e ha
theorem gh_lt {P : gh_P} {G : gh_G} {H : Heap} {a : Nat} {e : va_E} (hG : gh_H P G H) (ha : G a = some e) : a < H.size := (hG.2 a e ha).lt
theorem gh_list {P : gh_P} {G : gh_G} {H : Heap} (hG : gh_H P G H) : ∃ ws : va_W, va_P P.1 gh_cl ws H ∧ va_D (gh_A P) ws ∧ ∀ (b : Nat) (x : va_E), gh_N P ≤ b → G b = some x → ∃ k : Nat, ws[k]? = some (b, x) := by
  obtain ⟨f, hfd⟩ : ∃ f : Nat → Option (Nat × va_E), f = fun a => if gh_N P ≤ a then (G a).map (fun e => (a, e)) else none := ⟨_, rfl⟩
  have hf : ∀ (a : Nat) (q : Nat × va_E), f a = some q → q.1 = a ∧ gh_N P ≤ a ∧ G a = some q.2 := by
    intro a q h
    rw [hfd] at h
    by_cases hN : gh_N P ≤ a
    · simp only [hN, if_true] at h
      obtain ⟨e, he, rfl⟩ := Option.map_eq_some_iff.mp h
      exact ⟨rfl, hN, he⟩
    · simp only [hN, if_false] at h
      cases h
  have hpw : ((List.range H.size).filterMap f).Pairwise (fun x y => x.1 < y.1) := by
    rw [List.pairwise_filterMap]
    refine List.pairwise_lt_range.imp ?_
    intro a b hab x hx y hy
    rw [(hf a x hx).1, (hf b y hy).1]
    exact hab
  rw [List.pairwise_iff_getElem] at hpw
  refine ⟨(List.range H.size).filterMap f, fun k q hk => ?_, ⟨fun i j p q hi hj hpq => ?_, fun k q hk => ?_⟩, fun b x hN hb => ?_⟩
  · obtain ⟨a, -, ha⟩ := List.mem_filterMap.mp (List.mem_of_getElem? hk)
    obtain ⟨h1, h2, h3⟩ := hf a q ha
    have e : q = (a, q.2) := by rw [← h1]
    rw [e]
    exact hG.2 a q.2 h3
  · obtain ⟨hi1, hi2⟩ := List.getElem?_eq_some_iff.mp hi
    obtain ⟨hj1, hj2⟩ := List.getElem?_eq_some_iff.mp hj
    rcases Nat.lt_trichotomy i j with h | h | h
    · have := hpw i j hi1 hj1 h
      rw [hi2, hj2] at this
      omega
    · exact h
    · have := hpw j i hj1 hi1 h
      rw [hi2, hj2] at this
      omega
  · obtain ⟨a, -, ha⟩ := List.mem_filterMap.mp (List.mem_of_getElem? hk)
    obtain ⟨h1, h2, h3⟩ := hf a q ha
    show gh_N P ≤ q.1
    rw [h1]
    exact h2
  · apply List.getElem?_of_mem
    refine List.mem_filterMap.mpr ⟨b, List.mem_range.mpr (gh_lt hG hb), ?_⟩
    rw [hfd]
    simp only [hN, if_true, hb, Option.map_some]
theorem gh_back {P : gh_P} {G : gh_G} {H H0 H1 : Heap} {ws : va_W} {k a : Nat} {e e0 : va_E} {locs locs1 : List Loc} (hG : gh_H P G H) (hc : ∀ (b : Nat) (x : va_E), gh_N P ≤ b → G b = some x → ∃ k : Nat, ws[k]? = some (b, x)) (hk : ws[k]? = some (a, e0)) (hP1 : va_P P.1 gh_cl (ws.set k (a, e)) H1) (hS : va_S (gh_A P) H0 H locs) (hS1 : va_S (gh_A P) H0 H1 locs1) (hN : gh_N P ≤ H0.size) (ha : gh_N P ≤ a) : gh_H P (gh_up G a e) H1 := by
  refine ⟨gh_B_up hG.1 ha, fun b x hb => ?_⟩
  by_cases hba : b = a
  · subst hba
    rw [gh_up_s] at hb
    cases hb
    exact hP1 k (b, e) (by rw [List.getElem?_set_self (List.getElem?_eq_some_iff.mp hk).1])
  · rw [gh_up_n _ _ hba] at hb
    by_cases hbN : gh_N P ≤ b
    · obtain ⟨j, hj⟩ := hc b x hbN hb
      have hjk : j ≠ k := fun q => by
        subst q
        rw [hk] at hj
        cases hj
        exact hba rfl
      exact hP1 j (b, x) (by rw [List.getElem?_set_ne (Ne.symm hjk)]; exact hj)
    · have hlt : b < H0.size := by omega
      refine (hG.2 b x hb).kept ?_
      show H1[b]? = H[b]?
      rw [hS1.2.1 b hlt hbN, hS.2.1 b hlt hbN]
/-- behind a new cell -/
theorem gh_more {P : gh_P} {G : gh_G} {H H0 H1 : Heap} {ws : va_W} {a : Nat} {e : va_E} {locs locs1 : List Loc} (hG : gh_H P G H) (hc : ∀ (b : Nat) (x : va_E), gh_N P ≤ b → G b = some x → ∃ k : Nat, ws[k]? = some (b, x)) (hP1 : va_P P.1 gh_cl (ws ++ [(a, e)]) H1) (hD1 : va_D (gh_A P) (ws ++ [(a, e)])) (hS : va_S (gh_A P) H0 H locs) (hS1 : va_S (gh_A P) H0 H1 locs1) (hN : gh_N P ≤ H0.size) : gh_N P ≤ a ∧ G a = none ∧ gh_H P (gh_up G a e) H1 := by
  have hlast : (ws ++ [(a, e)])[ws.length]? = some (a, e) := by rw [List.getElem?_append_right (Nat.le_refl _), Nat.sub_self]; rfl
  have ha : gh_N P ≤ a := hD1.2 _ _ hlast
  refine ⟨ha, ?_, gh_B_up hG.1 ha, fun b x hb => ?_⟩
  · cases hx : G a with
    | none => rfl
    | some x =>
      obtain ⟨j, hj⟩ := hc a x ha hx
      have hl := (List.getElem?_eq_some_iff.mp hj).1
      have h1 : (ws ++ [(a, e)])[j]? = some (a, x) := by rw [List.getElem?_append_left hl]; exact hj
      have := hD1.1 _ _ _ _ h1 hlast rfl
      omega
  · by_cases hba : b = a
    · subst hba
      rw [gh_up_s] at hb
      cases hb
      exact hP1 _ _ hlast
    · rw [gh_up_n _ _ hba] at hb
      by_cases hbN : gh_N P ≤ b
      · obtain ⟨j, hj⟩ := hc b x hbN hb
        exact hP1 j (b, x) (by rw [List.getElem?_append_left (List.getElem?_eq_some_iff.mp hj).1]; exact hj)
      · have hlt : b < H0.size := by omega
        refine (hG.2 b x hb).kept ?_
        show H1[b]? = H[b]?
        rw [hS1.2.1 b hlt hbN, hS.2.1 b hlt hbN]
/-- the words of the tables that don't ride in the lists -/
def gh_ws : List Cond := [.castable "java/util/ArrayList" "java/util/List", .castable "java/lang/Integer" "java/lang/Object", .declares ⟨"AbstractRadixHeap", "compare", "(Ljava/lang/Object;Ljava/lang/Object;)I"⟩, .declares ⟨"AbstractRadixHeap", "msd", "(Ljava/lang/Object;Ljava/lang/Object;)I"⟩, .fieldLinkNest "java/util/ArrayList$Itr" 28 "java/util/ArrayList" "size" "I" "java/util/ArrayList", .selects "IntegerRadixHeap" ⟨"AbstractRadixHeap", "findAndCacheMinimum", "(I)V"⟩ ⟨"AbstractRadixHeap", "findAndCacheMinimum", "(I)V"⟩]
def gh_fw : List (String × MethodName × MethodName) := [
  ("java/util/ArrayList", ⟨"java/util/List", "add", "(Ljava/lang/Object;)Z"⟩, ⟨"java/util/ArrayList", "add", "(Ljava/lang/Object;)Z"⟩),
  ("java/util/ArrayList", ⟨"java/util/List", "size", "()I"⟩, ⟨"java/util/ArrayList", "size", "()I"⟩),
  ("java/util/ArrayList", ⟨"java/util/List", "remove", "(I)Ljava/lang/Object;"⟩, ⟨"java/util/ArrayList", "remove", "(I)Ljava/lang/Object;"⟩),
  ("java/util/ArrayList", ⟨"java/util/List", "isEmpty", "()Z"⟩, ⟨"java/util/ArrayList", "isEmpty", "()Z"⟩),
  ("java/util/ArrayList", ⟨"java/util/List", "iterator", "()Ljava/util/Iterator;"⟩, ⟨"java/util/ArrayList", "iterator", "()Ljava/util/Iterator;"⟩),
  ("java/util/ArrayList", ⟨"java/util/List", "clear", "()V"⟩, ⟨"java/util/ArrayList", "clear", "()V"⟩),
  ("java/util/ArrayList$Itr", ⟨"java/util/Iterator", "hasNext", "()Z"⟩, ⟨"java/util/ArrayList$Itr", "hasNext", "()Z"⟩),
  ("java/util/ArrayList$Itr", ⟨"java/util/Iterator", "next", "()Ljava/lang/Object;"⟩, ⟨"java/util/ArrayList$Itr", "next", "()Ljava/lang/Object;"⟩)]
/-- what the statics hold -/
def gh_Z (P : gh_P) (U : State) : Prop := va_Z "java/lang/Integer$IntegerCache" "high" "I" (.int 127) (gh_A P) U U.heap ∧ va_Z "java/lang/Integer$IntegerCache" "cache" "[Ljava/lang/Integer;" (.ref (gh_aT P)) (gh_A P) U U.heap ∧ va_T (.object "java/lang/Integer") (gh_aT P) 256 (fun k => .ref (P.2.2 k)) (gh_A P) U U.heap ∧ va_Z "java/util/ArrayList" "DEFAULTCAPACITY_EMPTY_ELEMENTDATA" "[Ljava/lang/Object;" (.ref (gh_aE P)) (gh_A P) U U.heap
def gh_M (P : gh_P) (U : State) : Prop := va_Mi "[Ljava/lang/Object;" (gh_mi P) U ∧ va_Dc U ∧ va_AO "java/util/List" U ∧ va_AO "IntegerRadixHeap" U ∧ va_AO "java/lang/Object" U
/-- what holds at every method's start -/
def gh_E (P : gh_P) (U : State) : Prop := gh_N P ≤ U.heap.size ∧ va_K P.1 gh_cl (gh_tys P) U ∧ gh_Z P U ∧ gh_M P U ∧ (∀ w ∈ gh_ws, va_Nw w U) ∧ ∀ q ∈ gh_fw, va_Fw q.1 q.2.1 q.2.2 U
theorem gh_E.N {P : gh_P} {U : State} (h : gh_E P U) : gh_N P ≤ U.heap.size := h.1
theorem gh_E.K {P : gh_P} {U : State} (h : gh_E P U) : va_K P.1 gh_cl (gh_tys P) U := h.2.1
theorem gh_E.Z {P : gh_P} {U : State} (h : gh_E P U) : gh_Z P U := h.2.2.1
theorem gh_E.M {P : gh_P} {U : State} (h : gh_E P U) : gh_M P U := h.2.2.2.1
theorem gh_E.w {P : gh_P} {U : State} (h : gh_E P U) (k : Nat) {w : Cond} (hk : gh_ws[k]? = some w) : va_Nw w U := h.2.2.2.2.1 w (List.mem_of_getElem? hk)
theorem gh_E.f {P : gh_P} {U : State} (h : gh_E P U) (k : Nat) {q : String × MethodName × MethodName} (hk : gh_fw[k]? = some q) : va_Fw q.1 q.2.1 q.2.2 U := h.2.2.2.2.2 q (List.mem_of_getElem? hk)
theorem gh_fw_ok : ∀ q ∈ gh_fw, q.2.1.cls ≠ "java/lang/invoke/MethodHandle" ∧ q.2.1.cls ≠ "java/lang/invoke/VarHandle" := by decide +kernel
theorem gh_E.next {P : gh_P} {s U : State} {H : Heap} {locs : List Loc} (h : gh_E P s) (hS : va_S (gh_A P) s.heap H locs) (hU : U.heap = H) (hW : s.WarmedH U.vm) : gh_E P U := by
  obtain ⟨h1, h2, ⟨z1, z2, z3, z4⟩, ⟨m1, m2, m3, m4, m5⟩, h5, h6⟩ := h
  have hal := hW.alike
  refine ⟨by rw [hU]; exact Nat.le_trans h1 hS.1, va_K.moved hal h2, ?_, ⟨va_Mi.moved hal m1, va_Dc.moved hal m2, va_AO.moved hal m3, va_AO.moved hal m4, va_AO.moved hal m5⟩, fun w hw => ?_, fun q hq => va_Fw.moved (gh_fw_ok q hq) hal (h6 q hq)⟩
  · unfold gh_Z
    rw [hU]
    exact ⟨va_Z.moved hal (z1.kept hS.2.1), va_Z.moved hal (z2.kept hS.2.1), va_T.moved hal (z3.kept hS.2.1), va_Z.moved hal (z4.kept hS.2.1)⟩
  · have hz := h5 w hw
    simp only [gh_ws, List.mem_cons, List.not_mem_nil, or_false] at hw
    rcases hw with rfl | rfl | rfl | rfl | rfl | rfl
    · exact va_Nw.warmC hW hz
    · exact va_Nw.warmC hW hz
    · exact va_Nw.warmD hW hz
    · exact va_Nw.warmD hW hz
    · exact va_Nw.warmF hW hz
    · exact word_at hW (Or.inl rfl) hz
theorem gh_ws_tab : ∀ w ∈ gh_ws, w.onTables = true := by
  intro w hw
  simp only [gh_ws, List.mem_cons, List.not_mem_nil, or_false] at hw
  rcases hw with rfl | rfl | rfl | rfl | rfl | rfl <;> rfl
theorem gh_E.same {P : gh_P} {u U : State} (h : gh_E P u) (hvm : u.vm = U.vm) (hh : u.heap = U.heap) : gh_E P U := by
  obtain ⟨h1, h2, ⟨z1, z2, z3, z4⟩, ⟨m1, m2, m3, m4, m5⟩, h5, h6⟩ := h
  have hal : u.vm.Alike U.vm := by rw [hvm]; exact Vm.Alike.refl _
  refine ⟨by rw [← hh]; exact h1, va_K.moved hal h2, ?_, ⟨va_Mi.moved hal m1, va_Dc.moved hal m2, va_AO.moved hal m3, va_AO.moved hal m4, va_AO.moved hal m5⟩, fun w hw => (h5 w hw).same (gh_ws_tab w hw) hvm, fun q hq => va_Fw.moved (gh_fw_ok q hq) hal (h6 q hq)⟩
  unfold gh_Z
  rw [← hh]
  exact ⟨va_Z.moved hal z1, va_Z.moved hal z2, va_T.moved hal z3, va_Z.moved hal z4⟩
theorem gh_recv {P : gh_P} {G : gh_G} {s : State} {H : Heap} {a ci : Nat} {q : vw_C} {fs : List Value} (hE : gh_E P s) (hG : gh_H P G H) (ha : G a = some (gh_o ci fs)) (hc : gh_cl[ci]? = some q) : ∃ cell : Cell, H[a]? = some cell ∧ cell.vm.isStatics = false ∧ s.vm.findClass q.1 = some cell.cls := va_recv (q0 := 0) hE.K (gh_one hG ha) hc rfl
theorem gh_any {P : gh_P} {G : gh_G} {s : State} {H : Heap} {a ci : Nat} {q : vw_C} {fs : List Value} {E : String} (hE : gh_E P s) (hG : gh_H P G H) (ha : G a = some (gh_o ci fs)) (hc : gh_cl[ci]? = some q) (hasg : ∀ comp c0 : ClassId, s.vm.findClass E = some comp → s.vm.findClass q.1 = some c0 → s.vm.assignable c0 comp = true) : va_Any E s H a := va_rAny (q0 := 0) hE.K (gh_one hG ha) rfl hc hasg
theorem gh_at {P : gh_P} {s : State} (hE : gh_E P s) {ci : Nat} {q : vw_C} (hc : gh_cl[ci]? = some q) : ClassAt s q.1 (P.1.1 ci) := (hE.K.1 ci q hc).2
/-- contracts over the ghost heap -/
abbrev gh_Pc (P : gh_P) (G : gh_G) (av : List Value) : Array Value → State → Prop := va_Pc av (fun U => gh_E P U ∧ gh_H P G U.heap)
abbrev gh_Qi (P : gh_P) (post : Int32 → gh_G → Prop) : Array Value → State → Outcome → State → Prop := va_Qi post (fun G t => gh_H P G t.heap) (gh_A P)
abbrev gh_Ql (P : gh_P) (post : Int64 → gh_G → Prop) : Array Value → State → Outcome → State → Prop := va_Ql post (fun G t => gh_H P G t.heap) (gh_A P)
abbrev gh_Qd (P : gh_P) (post : UInt64 → gh_G → Prop) : Array Value → State → Outcome → State → Prop := va_Qd post (fun G t => gh_H P G t.heap) (gh_A P)
abbrev gh_Qv (P : gh_P) (post : gh_G → Prop) : Array Value → State → Outcome → State → Prop := va_Qv post (fun G t => gh_H P G t.heap) (gh_A P)
abbrev gh_Qr (P : gh_P) (post : Nat → gh_G → Prop) : Array Value → State → Outcome → State → Prop := va_Qr (fun _ : gh_G => True) (fun G a t => gh_H P G t.heap ∧ post a G) (gh_A P)
theorem gh_met {l : Launch} {P : gh_P} {G : gh_G} {y : MethodName} {cc : ByteArray} {maxL : Nat} {ret : Option FieldType} {rm : Room} {av : List Value} {Qc : Array Value → State → Outcome → State → Prop} {mc ms : Nat} (hy : plainFor y = true) (hlen : (lg_sl av).length ≤ maxL)
    (body : ∀ (p : Program) (e : Env) (s : State) (m : MethodId) (below : List Frame) (meth : Method) (c : Code), p.tables.exec = Jvm.exec → c.code = cc → meth.sig.returnType = ret → meth.locks = false → c.maxLocals = maxL → s.vm.findClass y.cls = some m.cls → meth.name = y.name → (∀ w ∈ lw_all, w.before av.toArray s = true) → gh_E P s → gh_H P G s.heap → ∀ ls : Array Slot, lv_has ls maxL (lv_args 0 av) →
      W p l e rm s m av.toArray below meth c s.heap [] 0 0 (MQ below Qc av.toArray s mc ms (gh_A P)) (F0 m 0 ls [])) : Met l y (ws_ y cc maxL ret) rm (gh_Pc P G av) Qc mc ms (gh_A P) := by
  refine va_MetF (cc := cc) (maxL := maxL) (ret := ret) hy rfl ?_
  intro p e s m args below meth c s₁ B hml hv
  obtain ⟨rfl, hE, hG⟩ := hv
  have hts := atoms_spec (ws := ws_ y cc maxL ret) B.pre
  have hts : ∀ w ∈ lw_all, w.before _ s = true := fun w h => hts w (List.mem_cons_of_mem _ h)
  have hl := lv_entry av hlen
  rw [lg_entry_eq]
  exact body p e s m below meth c B.exec B.bytes B.returns B.notSynchronized hml (findClass_of_methodNamed B.named) (name_of_methodNamed B.named B.method).1 hts hE hG _ hl
theorem gh_preV {P : gh_P} {G : gh_G} {s : State} {H : Heap} {locs : List Loc} {C : String} {b : Nat} {As : List Value} (hE : gh_E P s) (hG : gh_H P G H) (hS : va_S (gh_A P) s.heap H locs) (hr : ∃ cell : Cell, H[b]? = some cell ∧ cell.vm.isStatics = false ∧ s.vm.findClass C = some cell.cls) : PreV s H C b (gh_Pc P G (.ref b :: As)) As :=
  ⟨fun _ _ _ _ q => ⟨q.1, q.2.1.same rfl rfl, q.2.2⟩, hr, fun U hU hW => ⟨rfl, hE.next hS hU hW, by rw [hU]; exact hG⟩⟩
theorem gh_preS {P : gh_P} {G : gh_G} {s : State} {H : Heap} {locs : List Loc} {As : List Value} (hE : gh_E P s) (hG : gh_H P G H) (hS : va_S (gh_A P) s.heap H locs) : PreS s H (gh_Pc P G As) As :=
  ⟨fun _ _ _ _ q => ⟨q.1, q.2.1.same rfl rfl, q.2.2⟩, fun U hU hW => ⟨rfl, hE.next hS hU hW, by rw [hU]; exact hG⟩⟩
end
section
/-! THE GHOST HEAP: a row an instruction, a row a call's end, a row a method's end -/
set_option maxRecDepth 100000
section GHR
variable {p : Program} {l : Launch} {e : Env} {R : Room} {s : State} {m : MethodId} {args : Array Value} {below : List Frame} {meth : Method} {c : Code} {H : Heap} {locs : List Loc} {cells slots : Nat} {Q : State → Prop}
variable {cc : ByteArray} {pc : Nat} {ls : Array Slot} {rest : List Value} {P : gh_P} {G : gh_G} {a : Nat}
theorem gh_get (hexec : p.tables.exec = Jvm.exec) (hb : c.code = cc) {own ref C : String} {T : u_T} {N ci index : Nat} (hts : ∀ w ∈ lw_all, w.before args s = true) (hin : ∀ w ∈ u_ws C T N, w ∈ lw_all) (hown : s.vm.findClass own = some m.cls) (hE : gh_E P s) (hG : gh_H P G H) {fs : List Value} (ha : G a = some (gh_o ci fs)) (hc : gh_cl[ci]? = some (C, T, N)) (k : Nat) (hk : k < N) (hlink : (Cond.fieldLink own index ref (T k).2.1 (T k).2.2.1) ∈ lw_all) (hsame : ∀ x, s.fieldFound? (T k).1 (T k).2.1 (T k).2.2.1 = some x → s.fieldFound? ref (T k).2.1 (T k).2.2.1 = some x) {v : Value} (hv : fs[k]? = some v) (hdg : decode cc pc = .ok (.getfield index, 3))
    (kk : W p l e R s m args below meth c H locs cells slots Q (F0 m (pc + 3) ls (v :: rest))) : W p l e R s m args below meth c H locs cells slots Q (F0 m pc ls (.ref a :: rest)) :=
  va_get hexec hb hts hin hown hE.K (gh_one hG ha) 0 rfl hc k hk (hts _ hlink) hsame hv hdg kk
theorem gh_getN (hexec : p.tables.exec = Jvm.exec) (hb : c.code = cc) {own ref C host : String} {T : u_T} {N ci index : Nat} (hts : ∀ w ∈ lw_all, w.before args s = true) (hin : ∀ w ∈ u_ws C T N, w ∈ lw_all) (hown : s.vm.findClass own = some m.cls) (hE : gh_E P s) (hG : gh_H P G H) {fs : List Value} (ha : G a = some (gh_o ci fs)) (hc : gh_cl[ci]? = some (C, T, N)) (k : Nat) (hk : k < N) (hlink : va_Nw (.fieldLinkNest own index ref (T k).2.1 (T k).2.2.1 host) s) (hsame : ∀ x, s.fieldFound? (T k).1 (T k).2.1 (T k).2.2.1 = some x → s.fieldFound? ref (T k).2.1 (T k).2.2.1 = some x) {v : Value} (hv : fs[k]? = some v) (hdg : decode cc pc = .ok (.getfield index, 3))
    (kk : W p l e R s m args below meth c H locs cells slots Q (F0 m (pc + 3) ls (v :: rest))) : W p l e R s m args below meth c H locs cells slots Q (F0 m pc ls (.ref a :: rest)) :=
  va_getN hexec hb hts hin hown hE.K (gh_one hG ha) 0 rfl hc k hk (hlink.use rfl) hsame hv hdg kk
theorem gh_put (hexec : p.tables.exec = Jvm.exec) (hb : c.code = cc) {own ref C : String} {T : u_T} {N ci index : Nat} (hts : ∀ w ∈ lw_all, w.before args s = true) (hin : ∀ w ∈ u_ws C T N, w ∈ lw_all) (ty0 : Nat → FieldType) (hty : ∀ k, k < N → parseFieldDescriptor (T k).2.2.1 = some (ty0 k)) (hnm : ∀ a, a < N → ∀ b, b < N → a ≠ b → (T a).2.1 ≠ (T b).2.1) (hown : s.vm.findClass own = some m.cls) (hE : gh_E P s) (hG : gh_H P G H) (hS : va_S (gh_A P) s.heap H locs) (hN : gh_N P ≤ a) {fs : List Value} (ha : G a = some (gh_o ci fs)) (hc : gh_cl[ci]? = some (C, T, N)) (k : Nat) (hk : k < N) (hlink : (Cond.fieldLink own index ref (T k).2.1 (T k).2.2.1) ∈ lw_all) (hsame : ∀ x, s.fieldFound? (T k).1 (T k).2.1 (T k).2.2.1 = some x → s.fieldFound? ref (T k).2.1 (T k).2.2.1 = some x) (hfin : (T k).2.2.2 = false) {v : Value} (hn : narrow (ty0 k) v = v) (hfit : fits (ty0 k) v = true) (hl : k < fs.length) (hdg : decode cc pc = .ok (.putfield index, 3))
    (kk : ∀ (H1 : Heap) (locs1 : List Loc), gh_H P (gh_up G a (gh_o ci (fs.set k v))) H1 → va_S (gh_A P) s.heap H1 locs1 → W p l e R s m args below meth c H1 locs1 cells slots Q (F0 m (pc + 3) ls rest)) : W p l e R s m args below meth c H locs cells slots Q (F0 m pc ls (v :: .ref a :: rest)) := by
  obtain ⟨ws, hP, hD, hcv⟩ := gh_list hG
  obtain ⟨k0, hk0⟩ := hcv a _ hN ha
  exact va_put hexec hb hts hin ty0 hty hnm hown hE.K hP hD hS k0 hk0 hc k hk (hts _ hlink) hsame hfin (hty k hk) hn hfit hl hdg (fun H1 locs1 hP1 _ hS1 => kk H1 locs1 (gh_back hG hcv hk0 hP1 hS hS1 hE.N hN) hS1)
theorem gh_putF (hexec : p.tables.exec = Jvm.exec) (hb : c.code = cc) {own ref C : String} {T : u_T} {N ci index : Nat} (hts : ∀ w ∈ lw_all, w.before args s = true) (hin : ∀ w ∈ u_ws C T N, w ∈ lw_all) (ty0 : Nat → FieldType) (hty : ∀ k, k < N → parseFieldDescriptor (T k).2.2.1 = some (ty0 k)) (hnm : ∀ a, a < N → ∀ b, b < N → a ≠ b → (T a).2.1 ≠ (T b).2.1) (hown : s.vm.findClass own = some m.cls) (hE : gh_E P s) (hG : gh_H P G H) (hS : va_S (gh_A P) s.heap H locs) (hN : gh_N P ≤ a) {fs : List Value} (ha : G a = some (gh_o ci fs)) (hc : gh_cl[ci]? = some (C, T, N)) (k : Nat) (hk : k < N) (hlink : (Cond.fieldLink own index ref (T k).2.1 (T k).2.2.1) ∈ lw_all) (hsame : ∀ x, s.fieldFound? (T k).1 (T k).2.1 (T k).2.2.1 = some x → s.fieldFound? ref (T k).2.1 (T k).2.2.1 = some x) (hfin : (T k).2.2.2 = true) (hin2 : meth.name = "<init>") (hdecl : (T k).1 = own) {v : Value} (hn : narrow (ty0 k) v = v) (hfit : fits (ty0 k) v = true) (hl : k < fs.length) (hdg : decode cc pc = .ok (.putfield index, 3))
    (kk : ∀ (H1 : Heap) (locs1 : List Loc), gh_H P (gh_up G a (gh_o ci (fs.set k v))) H1 → va_S (gh_A P) s.heap H1 locs1 → W p l e R s m args below meth c H1 locs1 cells slots Q (F0 m (pc + 3) ls rest)) : W p l e R s m args below meth c H locs cells slots Q (F0 m pc ls (v :: .ref a :: rest)) := by
  obtain ⟨ws, hP, hD, hcv⟩ := gh_list hG
  obtain ⟨k0, hk0⟩ := hcv a _ hN ha
  exact va_putF hexec hb hts hin ty0 hty hnm hown hE.K hP hD hS k0 hk0 hc k hk (hts _ hlink) hsame hfin hin2 hdecl (hty k hk) hn hfit hl hdg (fun H1 locs1 hP1 _ hS1 => kk H1 locs1 (gh_back hG hcv hk0 hP1 hS hS1 hE.N hN) hS1)
theorem gh_iald (hexec : p.tables.exec = Jvm.exec) (hb : c.code = cc) (hE : gh_E P s) (hG : gh_H P G H) {n : Nat} {f : Nat → Int32} (ha : G a = some (gh_i (gh_cI P) n f)) {i : Int32} (hin : vp_in i n) (hdg : decode cc pc = .ok (.iaload, 1))
    (kk : W p l e R s m args below meth c H locs cells slots Q (F0 m (pc + 1) ls (.int (f i.toNatClampNeg) :: rest))) : W p l e R s m args below meth c H locs cells slots Q (F0 m pc ls (.int i :: .ref a :: rest)) :=
  va_iald hexec hb hE.K (gh_one hG ha) 0 0 rfl rfl hin hdg kk
theorem gh_iast (hexec : p.tables.exec = Jvm.exec) (hb : c.code = cc) (hE : gh_E P s) (hG : gh_H P G H) (hS : va_S (gh_A P) s.heap H locs) (hN : gh_N P ≤ a) {n : Nat} {f : Nat → Int32} (ha : G a = some (gh_i (gh_cI P) n f)) {i x : Int32} (hin : vp_in i n) (hdg : decode cc pc = .ok (.iastore, 1))
    (kk : ∀ (H1 : Heap) (locs1 : List Loc), gh_H P (gh_up G a (gh_i (gh_cI P) n (upd f i.toNatClampNeg x))) H1 → va_S (gh_A P) s.heap H1 locs1 → W p l e R s m args below meth c H1 locs1 cells slots Q (F0 m (pc + 1) ls rest)) : W p l e R s m args below meth c H locs cells slots Q (F0 m pc ls (.int x :: .int i :: .ref a :: rest)) := by
  obtain ⟨ws, hP, hD, hcv⟩ := gh_list hG
  obtain ⟨k0, hk0⟩ := hcv a _ hN ha
  exact va_iast hexec hb hE.K hP hD hS k0 0 hk0 rfl hin hdg (fun H1 locs1 hP1 _ hS1 => kk H1 locs1 (gh_back hG hcv hk0 hP1 hS hS1 hE.N hN) hS1)
theorem gh_ilen (hexec : p.tables.exec = Jvm.exec) (hb : c.code = cc) (hE : gh_E P s) (hG : gh_H P G H) {n : Nat} {f : Nat → Int32} (ha : G a = some (gh_i (gh_cI P) n f)) (hdg : decode cc pc = .ok (.arraylength, 1))
    (kk : W p l e R s m args below meth c H locs cells slots Q (F0 m (pc + 1) ls (.int (nI n) :: rest))) : W p l e R s m args below meth c H locs cells slots Q (F0 m pc ls (.ref a :: rest)) :=
  va_alen (v := nI n) hexec hb hE.K (gh_one hG ha) 0 0 rfl rfl rfl hdg kk
/-- t0: which class of arrays of references: 1 Object[], 2 List[], 3 IntegerRadixHeap[] -/
theorem gh_qlen (t0 : Nat) {cA : Nat} {E : String} (ht : (gh_tys P)[t0]? = some (cA, .object E)) (hexec : p.tables.exec = Jvm.exec) (hb : c.code = cc) (hE : gh_E P s) (hG : gh_H P G H) {n : Nat} {f : Nat → Option Nat} (ha : G a = some (gh_q cA n f)) (hdg : decode cc pc = .ok (.arraylength, 1))
    (kk : W p l e R s m args below meth c H locs cells slots Q (F0 m (pc + 1) ls (.int (nI n) :: rest))) : W p l e R s m args below meth c H locs cells slots Q (F0 m pc ls (.ref a :: rest)) :=
  va_alen (v := nI n) hexec hb hE.K (gh_one hG ha) 0 t0 rfl ht rfl hdg kk
theorem gh_aald (t0 : Nat) {cA : Nat} {E : String} (ht : (gh_tys P)[t0]? = some (cA, .object E)) (hexec : p.tables.exec = Jvm.exec) (hb : c.code = cc) (hE : gh_E P s) (hG : gh_H P G H) {n : Nat} {f : Nat → Option Nat} (ha : G a = some (gh_q cA n f)) {i : Int32} (hin : vp_in i n) {x : Nat} (hf : f i.toNatClampNeg = some x) (hdg : decode cc pc = .ok (.aaload, 1))
    (kk : W p l e R s m args below meth c H locs cells slots Q (F0 m (pc + 1) ls (.ref x :: rest))) : W p l e R s m args below meth c H locs cells slots Q (F0 m pc ls (.int i :: .ref a :: rest)) := by
  refine va_aldq hexec hb hE.K (gh_one hG ha) 0 t0 rfl ht hin hdg ?_
  rw [hf]
  exact kk
theorem gh_aast (t0 : Nat) {cA : Nat} {E : String} (ht : (gh_tys P)[t0]? = some (cA, .object E)) (hexec : p.tables.exec = Jvm.exec) (hb : c.code = cc) (hE : gh_E P s) (hG : gh_H P G H) (hS : va_S (gh_A P) s.heap H locs) (hN : gh_N P ≤ a) {n v : Nat} {f : Nat → Option Nat} (ha : G a = some (gh_q cA n f)) (hr : va_Any E s H v) {i : Int32} (hin : vp_in i n) (hdg : decode cc pc = .ok (.aastore, 1))
    (kk : ∀ (H1 : Heap) (locs1 : List Loc), gh_H P (gh_up G a (gh_q cA n (va_up f i.toNatClampNeg (some v)))) H1 → va_S (gh_A P) s.heap H1 locs1 → W p l e R s m args below meth c H1 locs1 cells slots Q (F0 m (pc + 1) ls rest)) : W p l e R s m args below meth c H locs cells slots Q (F0 m pc ls (.ref v :: .int i :: .ref a :: rest)) := by
  obtain ⟨ws, hP, hD, hcv⟩ := gh_list hG
  obtain ⟨k0, hk0⟩ := hcv a _ hN ha
  exact va_astqM hexec hb hE.K hP hD hS k0 t0 hk0 ht hr hin hdg (fun H1 locs1 hP1 _ hS1 => kk H1 locs1 (gh_back hG hcv hk0 hP1 hS hS1 hE.N hN) hS1)
theorem gh_aastN (t0 : Nat) {cA : Nat} {E : String} (ht : (gh_tys P)[t0]? = some (cA, .object E)) (hexec : p.tables.exec = Jvm.exec) (hb : c.code = cc) (hE : gh_E P s) (hG : gh_H P G H) (hS : va_S (gh_A P) s.heap H locs) (hN : gh_N P ≤ a) {n : Nat} {f : Nat → Option Nat} (ha : G a = some (gh_q cA n f)) {i : Int32} (hin : vp_in i n) (hdg : decode cc pc = .ok (.aastore, 1))
    (kk : ∀ (H1 : Heap) (locs1 : List Loc), gh_H P (gh_up G a (gh_q cA n (va_up f i.toNatClampNeg none))) H1 → va_S (gh_A P) s.heap H1 locs1 → W p l e R s m args below meth c H1 locs1 cells slots Q (F0 m (pc + 1) ls rest)) : W p l e R s m args below meth c H locs cells slots Q (F0 m pc ls (.null :: .int i :: .ref a :: rest)) := by
  obtain ⟨ws, hP, hD, hcv⟩ := gh_list hG
  obtain ⟨k0, hk0⟩ := hcv a _ hN ha
  exact va_astqN hexec hb hE.K hP hD hS k0 t0 hk0 ht hin hdg (fun H1 locs1 hP1 _ hS1 => kk H1 locs1 (gh_back hG hcv hk0 hP1 hS hS1 hE.N hN) hS1)
theorem gh_A_new (hE : gh_E P s) : ∀ q, s.heap.size ≤ q → gh_A P q := fun _ h => Nat.le_trans hE.N h
theorem gh_new (hexec : p.tables.exec = Jvm.exec) (hb : c.code = cc) {own C : String} {T : u_T} {N ci index : Nat} (hts : ∀ w ∈ lw_all, w.before args s = true) (hin : ∀ w ∈ u_ws C T N, w ∈ lw_all) (ty : Nat → FieldType) (hty : ∀ k, k < N → parseFieldDescriptor (T k).2.2.1 = some (ty k)) (hown : s.vm.findClass own = some m.cls) (hcl : (Cond.classLink own index C) ∈ lw_all) (hinst : (Cond.instantiable C N) ∈ lw_all) (hini : (Cond.initialized C) ∈ lw_all)
    (hE : gh_E P s) (hG : gh_H P G H) (hS : va_S (gh_A P) s.heap H locs) (hc : gh_cl[ci]? = some (C, T, N)) {fs : List Value} (hfs : ∀ j, j < N → defaultValue (ty j) = vp_V fs j) (hcells : cells + 1 ≤ R.cells) (hslots : slots + N ≤ R.slots) (hdg : decode cc pc = .ok (.new index, 3))
    (kk : ∀ (q : Nat) (H1 : Heap), gh_N P ≤ q → G q = none → gh_H P (gh_up G q (gh_o ci fs)) H1 → va_S (gh_A P) s.heap H1 locs → W p l e R s m args below meth c H1 locs (cells + 1) (slots + N) Q (F0 m (pc + 3) ls (.ref q :: rest))) : W p l e R s m args below meth c H locs cells slots Q (F0 m pc ls rest) := by
  obtain ⟨ws, hP, hD, hcv⟩ := gh_list hG
  refine va_new hexec hb hts hin ty hty hown (hts _ hcl) (hts _ hinst) (hts _ hini) hE.K hP hD hS (gh_A_new hE) hc hfs hcells hslots hdg (fun q H1 hP1 hD1 hS1 => ?_)
  obtain ⟨h1, h2, h3⟩ := gh_more hG hcv hP1 hD1 hS hS1 hE.N
  exact kk q H1 h1 h2 h3 hS1
theorem gh_newi (hexec : p.tables.exec = Jvm.exec) (hb : c.code = cc) (hts : ∀ w ∈ lw_all, w.before args s = true) (hE : gh_E P s) (hG : gh_H P G H) (hS : va_S (gh_A P) s.heap H locs) {n : Int32} {N' : Nat} (hn : ¬ n < 0) (hN : n.toNatClampNeg = N') (hbytes : N' * 4 ≤ 536870912) (hcells : cells + 1 ≤ R.cells) (hslots : slots + N' ≤ R.slots) (hdg : decode cc pc = .ok (.newarray .int, 2))
    (kk : ∀ (q : Nat) (H1 : Heap), gh_N P ≤ q → G q = none → gh_H P (gh_up G q (gh_i (gh_cI P) N' (fun _ => 0))) H1 → va_S (gh_A P) s.heap H1 locs → W p l e R s m args below meth c H1 locs (cells + 1) (slots + N') Q (F0 m (pc + 2) ls (.ref q :: rest))) : W p l e R s m args below meth c H locs cells slots Q (F0 m pc ls (.int n :: rest)) := by
  obtain ⟨ws, hP, hD, hcv⟩ := gh_list hG
  refine va_newa (atype := .int) (ty := .int) (a0 := (N', .inl (fun _ => 0))) hexec hb (hts _ q230) rfl hE.K hP hD hS (gh_A_new hE) (fun _ => rfl) hn hN hbytes hcells hslots hdg (fun q cA H1 hK1 hP1 hD1 hS1 => ?_)
  have hcA : cA = gh_cI P := by
    have e1 := (hK1.2 4 (cA, .int) rfl).2
    have e2 := (hE.K.2 0 (gh_cI P, .int) rfl).2
    exact Option.some.inj (e1.symm.trans e2)
  subst hcA
  obtain ⟨h1, h2, h3⟩ := gh_more hG hcv hP1 hD1 hS hS1 hE.N
  exact kk q H1 h1 h2 h3 hS1
theorem gh_newq (t0 : Nat) {cT : Nat} {E : String} (ht : (gh_tys P)[t0]? = some (cT, .object E)) (hexec : p.tables.exec = Jvm.exec) (hb : c.code = cc) (hts : ∀ w ∈ lw_all, w.before args s = true) {own : String} {index : Nat} (hown : s.vm.findClass own = some m.cls) (hcl : (Cond.classLink own index E) ∈ lw_all) (hao : va_AO E s) (hE : gh_E P s) (hG : gh_H P G H) (hS : va_S (gh_A P) s.heap H locs) {n : Int32} {N' : Nat} (hn : ¬ n < 0) (hN : n.toNatClampNeg = N') (hbytes : N' * 4 ≤ 536870912) (hcells : cells + 1 ≤ R.cells) (hslots : slots + N' ≤ R.slots) (hdg : decode cc pc = .ok (.anewarray index, 3))
    (kk : ∀ (q : Nat) (H1 : Heap), gh_N P ≤ q → G q = none → gh_H P (gh_up G q (gh_q cT N' (fun _ => none))) H1 → va_S (gh_A P) s.heap H1 locs → W p l e R s m args below meth c H1 locs (cells + 1) (slots + N') Q (F0 m (pc + 3) ls (.ref q :: rest))) : W p l e R s m args below meth c H locs cells slots Q (F0 m pc ls (.int n :: rest)) := by
  obtain ⟨ws, hP, hD, hcv⟩ := gh_list hG
  refine va_newq hexec hb hown (hts _ hcl) hao hE.K hP hD hS (gh_A_new hE) hn hN hbytes hcells hslots hdg (fun q cA H1 hK1 hP1 hD1 hS1 => ?_)
  have hcA : cA = cT := by
    obtain ⟨_, _, _, _, _, e1⟩ := (hK1.2 4 (cA, .object E) rfl).2
    obtain ⟨_, _, _, _, _, e2⟩ := (hE.K.2 t0 (cT, .object E) ht).2
    exact Option.some.inj (e1.symm.trans e2)
  subst hcA
  obtain ⟨h1, h2, h3⟩ := gh_more hG hcv hP1 hD1 hS hS1 hE.N
  exact kk q H1 h1 h2 h3 hS1
/-- System.arraycopy within Object[] arrays of ours -/
theorem gh_copy (hexec : p.tables.exec = Jvm.exec) (hb : c.code = cc) (hml : c.maxLocals = ls.size) (hts : ∀ w ∈ lw_all, w.before args s = true) {own : String} {index : Nat} (hown : s.vm.findClass own = some m.cls) (hlink : (Cond.methodLink own index arraycopyName) ∈ lw_all) (hE : gh_E P s) (hG : gh_H P G H) (hS : va_S (gh_A P) s.heap H locs) {a0 n0 n1 : Nat} {f g : Nat → Option Nat} (hN0 : gh_N P ≤ a0) (hN : gh_N P ≤ a) (ha0 : G a0 = some (gh_q (gh_cO P) n0 f)) (ha1 : G a = some (gh_q (gh_cO P) n1 g))
    {sp dp n : Int32} (h1 : ¬ sp < 0) (h2 : ¬ dp < 0) (h3 : ¬ n < 0) (h4 : sp.toNatClampNeg + n.toNatClampNeg ≤ n0) (h5 : dp.toNatClampNeg + n.toNatClampNeg ≤ n1) (hel : ∀ i : Nat, i < n.toNatClampNeg → ∀ y : Nat, f (sp.toNatClampNeg + i) = some y → va_Any "java/lang/Object" s H y)
    (hframes : 1 ≤ R.frames) (hlocals : (rest.map fun v => v.category).sum + (nativeFrameWords "java/lang/System" "arraycopy" 5 + 11) ≤ R.locals) (hdg : decode cc pc = .ok (.invokestatic index, 3))
    (kk : ∀ (H1 : Heap) (locs1 : List Loc), gh_H P (gh_up G a (gh_q (gh_cO P) n1 (va_cpy f g sp.toNatClampNeg dp.toNatClampNeg n.toNatClampNeg))) H1 → va_S (gh_A P) s.heap H1 locs1 → W p l e R s m args below meth c H1 locs1 cells slots Q (F0 m (pc + 3) ls rest)) : W p l e R s m args below meth c H locs cells slots Q (F0 m pc ls (.int n :: .int dp :: .ref a :: .int sp :: .ref a0 :: rest)) := by
  obtain ⟨ws, hP, hD, hcv⟩ := gh_list hG
  obtain ⟨k0, hk0⟩ := hcv a0 _ hN0 ha0
  obtain ⟨k1, hk1⟩ := hcv a _ hN ha1
  exact va_copyM hexec hb hml hown (hts _ hlink) (hts _ q346) (hts _ q345) (hts _ q27) hE.K hP hD hS k0 k1 1 1 hk0 hk1 rfl rfl h1 h2 h3 h4 h5 hel hframes hlocals hdg (fun H1 locs1 hP1 _ hS1 => kk H1 locs1 (gh_back hG hcv hk1 hP1 hS hS1 hE.N hN) hS1)
variable {st0 : List Value} {av : Array Value} {H0 : Heap} {mc ms : Nat}
theorem gh_calli {post : Int32 → gh_G → Prop} (hr : va_Run p l e R s m args below meth c H locs cells slots mc ms (F0 m pc ls st0) rest (gh_Qi P post av) (gh_A P)) (hS : va_S (gh_A P) H0 H locs)
    (kk : ∀ (r : Int32) (G1 : gh_G) (H1 : Heap) (locs1 : List Loc), post r G1 → gh_H P G1 H1 → va_S (gh_A P) H0 H1 locs1 → W p l e R s m args below meth c H1 locs1 (cells + mc) (slots + ms) Q (F0 m (pc + 3) ls (.int r :: rest))) : W p l e R s m args below meth c H locs cells slots Q (F0 m pc ls st0) :=
  va_calli hr hS (fun _ _ h => h) (fun _ h => h) (fun r u t H1 locs1 ht _ hw hB _ _ hS1 => kk r u H1 locs1 hw (by rw [← ht]; exact hB) hS1)
theorem gh_calll {post : Int64 → gh_G → Prop} (hr : va_Run p l e R s m args below meth c H locs cells slots mc ms (F0 m pc ls st0) rest (gh_Ql P post av) (gh_A P)) (hS : va_S (gh_A P) H0 H locs)
    (kk : ∀ (r : Int64) (G1 : gh_G) (H1 : Heap) (locs1 : List Loc), post r G1 → gh_H P G1 H1 → va_S (gh_A P) H0 H1 locs1 → W p l e R s m args below meth c H1 locs1 (cells + mc) (slots + ms) Q (F0 m (pc + 3) ls (.long r :: rest))) : W p l e R s m args below meth c H locs cells slots Q (F0 m pc ls st0) :=
  va_calll hr hS (fun _ _ h => h) (fun _ h => h) (fun r u t H1 locs1 ht _ hw hB _ _ hS1 => kk r u H1 locs1 hw (by rw [← ht]; exact hB) hS1)
theorem gh_calld {post : UInt64 → gh_G → Prop} (hr : va_Run p l e R s m args below meth c H locs cells slots mc ms (F0 m pc ls st0) rest (gh_Qd P post av) (gh_A P)) (hS : va_S (gh_A P) H0 H locs)
    (kk : ∀ (r : UInt64) (G1 : gh_G) (H1 : Heap) (locs1 : List Loc), post r G1 → gh_H P G1 H1 → va_S (gh_A P) H0 H1 locs1 → W p l e R s m args below meth c H1 locs1 (cells + mc) (slots + ms) Q (F0 m (pc + 3) ls (.double r :: rest))) : W p l e R s m args below meth c H locs cells slots Q (F0 m pc ls st0) :=
  va_calld hr hS (fun _ _ h => h) (fun _ h => h) (fun r u t H1 locs1 ht _ hw hB _ _ hS1 => kk r u H1 locs1 hw (by rw [← ht]; exact hB) hS1)
theorem gh_callv {post : gh_G → Prop} (hr : va_Run p l e R s m args below meth c H locs cells slots mc ms (F0 m pc ls st0) rest (gh_Qv P post av) (gh_A P)) (hS : va_S (gh_A P) H0 H locs)
    (kk : ∀ (G1 : gh_G) (H1 : Heap) (locs1 : List Loc), post G1 → gh_H P G1 H1 → va_S (gh_A P) H0 H1 locs1 → W p l e R s m args below meth c H1 locs1 (cells + mc) (slots + ms) Q (F0 m (pc + 3) ls rest)) : W p l e R s m args below meth c H locs cells slots Q (F0 m pc ls st0) :=
  va_callv hr hS (fun _ _ h => h) (fun _ h => h) (fun u t H1 locs1 ht _ hw hB _ _ hS1 => kk u H1 locs1 hw (by rw [← ht]; exact hB) hS1)
theorem gh_callr {post : Nat → gh_G → Prop} (hr : va_Run p l e R s m args below meth c H locs cells slots mc ms (F0 m pc ls st0) rest (gh_Qr P post av) (gh_A P)) (hS : va_S (gh_A P) H0 H locs)
    (kk : ∀ (ra : Nat) (G1 : gh_G) (H1 : Heap) (locs1 : List Loc), post ra G1 → gh_H P G1 H1 → va_S (gh_A P) H0 H1 locs1 → W p l e R s m args below meth c H1 locs1 (cells + mc) (slots + ms) Q (F0 m (pc + 3) ls (.ref ra :: rest))) : W p l e R s m args below meth c H locs cells slots Q (F0 m pc ls st0) :=
  va_callr hr hS (fun _ _ h => h) (fun _ h => h) (fun u ra t H1 locs1 ht _ _ hB _ _ hS1 => kk ra u H1 locs1 hB.2 (by rw [← ht]; exact hB.1) hS1)
theorem gh_callFi {post : Int32 → gh_G → Prop} (hr : va_Run5 p l e R s m args below meth c H locs cells slots mc ms (F0 m pc ls st0) rest (gh_Qi P post av) (gh_A P)) (hS : va_S (gh_A P) H0 H locs)
    (kk : ∀ (r : Int32) (G1 : gh_G) (H1 : Heap) (locs1 : List Loc), post r G1 → gh_H P G1 H1 → va_S (gh_A P) H0 H1 locs1 → W p l e R s m args below meth c H1 locs1 (cells + mc) (slots + ms) Q (F0 m (pc + 5) ls (.int r :: rest))) : W p l e R s m args below meth c H locs cells slots Q (F0 m pc ls st0) :=
  va_callFi hr hS (fun _ _ h => h) (fun _ h => h) (fun r u t H1 locs1 ht _ hw hB _ _ hS1 => kk r u H1 locs1 hw (by rw [← ht]; exact hB) hS1)
theorem gh_callFv {post : gh_G → Prop} (hr : va_Run5 p l e R s m args below meth c H locs cells slots mc ms (F0 m pc ls st0) rest (gh_Qv P post av) (gh_A P)) (hS : va_S (gh_A P) H0 H locs)
    (kk : ∀ (G1 : gh_G) (H1 : Heap) (locs1 : List Loc), post G1 → gh_H P G1 H1 → va_S (gh_A P) H0 H1 locs1 → W p l e R s m args below meth c H1 locs1 (cells + mc) (slots + ms) Q (F0 m (pc + 5) ls rest)) : W p l e R s m args below meth c H locs cells slots Q (F0 m pc ls st0) :=
  va_callFv hr hS (fun _ _ h => h) (fun _ h => h) (fun u t H1 locs1 ht _ hw hB _ _ hS1 => kk u H1 locs1 hw (by rw [← ht]; exact hB) hS1)
theorem gh_callFr {post : Nat → gh_G → Prop} (hr : va_Run5 p l e R s m args below meth c H locs cells slots mc ms (F0 m pc ls st0) rest (gh_Qr P post av) (gh_A P)) (hS : va_S (gh_A P) H0 H locs)
    (kk : ∀ (ra : Nat) (G1 : gh_G) (H1 : Heap) (locs1 : List Loc), post ra G1 → gh_H P G1 H1 → va_S (gh_A P) H0 H1 locs1 → W p l e R s m args below meth c H1 locs1 (cells + mc) (slots + ms) Q (F0 m (pc + 5) ls (.ref ra :: rest))) : W p l e R s m args below meth c H locs cells slots Q (F0 m pc ls st0) :=
  va_callFr hr hS (fun _ _ h => h) (fun _ h => h) (fun u ra t H1 locs1 ht _ _ hB _ _ hS1 => kk ra u H1 locs1 hB.2 (by rw [← ht]; exact hB.1) hS1)
theorem gh_iret {post : Int32 → gh_G → Prop} {v : Int32} {ty : FieldType} (hexec : p.tables.exec = Jvm.exec) (hb : c.code = cc) (hr : meth.sig.returnType = some ty) (hlocks : meth.locks = false) (hn : narrow ty (.int v) = .int v) (hG : gh_H P G H) (hS : va_S (gh_A P) s.heap H locs) (hp : post v G) (hc : cells ≤ mc) (hs : slots ≤ ms) (hdg : decode cc pc = .ok (.ireturn, 1)) : W p l e R s m args below meth c H locs cells slots (MQ below (gh_Qi P post) args s mc ms (gh_A P)) (F0 m pc ls [.int v]) := by
  refine W.widen hc hs ?_
  exact W.zret hexec hb hr hn (fun t ht _ => ⟨⟨v, G, rfl, hp, by subst ht; exact hG⟩, hS.F ht⟩) hS.2.2 hdg hlocks
theorem gh_lret {post : Int64 → gh_G → Prop} {v : Int64} (hexec : p.tables.exec = Jvm.exec) (hb : c.code = cc) (hr : meth.sig.returnType = some .long) (hlocks : meth.locks = false) (hG : gh_H P G H) (hS : va_S (gh_A P) s.heap H locs) (hp : post v G) (hc : cells ≤ mc) (hs : slots ≤ ms) (hdg : decode cc pc = .ok (.lreturn, 1)) : W p l e R s m args below meth c H locs cells slots (MQ below (gh_Ql P post) args s mc ms (gh_A P)) (F0 m pc ls [.long v]) := by
  refine W.widen hc hs ?_
  exact W.lret hexec hb hr (fun t ht _ => ⟨⟨v, G, rfl, hp, by subst ht; exact hG⟩, hS.F ht⟩) hS.2.2 hdg hlocks
theorem gh_dret {post : UInt64 → gh_G → Prop} {v : UInt64} (hexec : p.tables.exec = Jvm.exec) (hb : c.code = cc) (hr : meth.sig.returnType = some .double) (hlocks : meth.locks = false) (hG : gh_H P G H) (hS : va_S (gh_A P) s.heap H locs) (hp : post v G) (hc : cells ≤ mc) (hs : slots ≤ ms) (hdg : decode cc pc = .ok (.dreturn, 1)) : W p l e R s m args below meth c H locs cells slots (MQ below (gh_Qd P post) args s mc ms (gh_A P)) (F0 m pc ls [.double v]) := by
  refine W.widen hc hs ?_
  exact W.dret hexec hb hr (fun t ht _ => ⟨⟨v, G, rfl, hp, by subst ht; exact hG⟩, hS.F ht⟩) hS.2.2 hdg hlocks
theorem gh_vret {post : gh_G → Prop} (hexec : p.tables.exec = Jvm.exec) (hb : c.code = cc) (hr : meth.sig.returnType = none) (hlocks : meth.locks = false) (hG : gh_H P G H) (hS : va_S (gh_A P) s.heap H locs) (hp : post G) (hc : cells ≤ mc) (hs : slots ≤ ms) (hdg : decode cc pc = .ok (.return_, 1)) : W p l e R s m args below meth c H locs cells slots (MQ below (gh_Qv P post) args s mc ms (gh_A P)) (F0 m pc ls []) := by
  refine W.widen hc hs ?_
  exact W.vret hexec hb hr (fun t ht _ => ⟨⟨G, rfl, hp, by subst ht; exact hG⟩, hS.F ht⟩) hS.2.2 hdg hlocks
theorem gh_aret {post : Nat → gh_G → Prop} {v : Nat} {rt : FieldType} (hexec : p.tables.exec = Jvm.exec) (hb : c.code = cc) (hr : meth.sig.returnType = some rt) (hlocks : meth.locks = false) (hrt : (∃ n, rt = .object n) ∨ ∃ t, rt = .array t) (hG : gh_H P G H) (hS : va_S (gh_A P) s.heap H locs) (hp : post v G) (hc : cells ≤ mc) (hs : slots ≤ ms) (hdg : decode cc pc = .ok (.areturn, 1)) : W p l e R s m args below meth c H locs cells slots (MQ below (gh_Qr P post) args s mc ms (gh_A P)) (F0 m pc ls [.ref v]) := by
  refine W.widen hc hs ?_
  exact W.aret hexec hb hr hrt (Or.inr ⟨v, rfl⟩) (fun t ht _ => ⟨⟨G, v, rfl, trivial, by subst ht; exact hG, hp⟩, hS.F ht⟩) hS.2.2 hdg hlocks
end GHR
theorem lw_four {a b c d : Cond} (h1 : a ∈ lw_all) (h2 : b ∈ lw_all) (h3 : c ∈ lw_all) (h4 : d ∈ lw_all) : ∀ w ∈ ([a, b, c, d] : List Cond), w ∈ lw_all := by
  intro w hw
  simp only [List.mem_cons, List.not_mem_nil, or_false] at hw
  rcases hw with e | e | e | e
  · rw [e]; exact h1
  · rw [e]; exact h2
  · rw [e]; exact h3
  · rw [e]; exact h4
theorem lw_five {a b c d x : Cond} (h1 : a ∈ lw_all) (h2 : b ∈ lw_all) (h3 : c ∈ lw_all) (h4 : d ∈ lw_all) (h5 : x ∈ lw_all) : ∀ w ∈ ([a, b, c, d, x] : List Cond), w ∈ lw_all := by
  intro w hw
  simp only [List.mem_cons, List.not_mem_nil, or_false] at hw
  rcases hw with e | e | e | e | e
  · rw [e]; exact h1
  · rw [e]; exact h2
  · rw [e]; exact h3
  · rw [e]; exact h4
  · rw [e]; exact h5
end
section
/-! THE JDK's SMALL METHODS: Integer, the constructors' chains, newLength, checkIndex -/
set_option maxRecDepth 100000
abbrev gh_x (v : Int32) : va_E := gh_o 5 [.int v]
/-- what isn't in F stays -/
def gh_fr (F : Nat → Prop) (G G' : gh_G) : Prop := ∀ (a : Nat) (e : va_E), G a = some e → ¬ F a → G' a = some e
def gh_le (G G' : gh_G) : Prop := ∀ (a : Nat) (e : va_E), G a = some e → G' a = some e
theorem gh_le_rf (G : gh_G) : gh_le G G := fun _ _ h => h
theorem gh_le_tr {G G1 G2 : gh_G} (h : gh_le G G1) (h2 : gh_le G1 G2) : gh_le G G2 := fun a e q => h2 a e (h a e q)
theorem gh_le_new {G : gh_G} {q : Nat} (e : va_E) (h : G q = none) : gh_le G (gh_up G q e) := fun a x ha => by
  have hn : a ≠ q := fun z => by rw [z, h] at ha; cases ha
  rw [gh_up_n _ _ hn]
  exact ha
theorem gh_ne {G : gh_G} {a b : Nat} {e e' : va_E} (ha : G a = some e) (hb : G b = some e') (h : e ≠ e') : a ≠ b := fun z => by
  rw [z, hb] at ha
  exact h (Option.some.inj ha).symm
theorem gh_nf {G : gh_G} {a b : Nat} {e : va_E} (ha : G a = some e) (hb : G b = none) : a ≠ b := fun z => by
  rw [z, hb] at ha
  cases ha
set_option maxHeartbeats 4000000 in
/-- Number() -/
theorem c_num_init (l : Launch) (P : gh_P) (G : gh_G) (h : Nat) : Met l yJ4_init (ws_ yJ4_init cJ4_init 1 none) ({ frames := 1, cells := 0, slots := 0, locals := 12 }) (gh_Pc P G [.ref h]) (gh_Qv P (fun G1 => G1 = G)) 0 0 (gh_A P) := by
  refine gh_met (plainFor_of_name (by decide)) (Nat.le_of_ble_eq_true rfl) ?_
  intro p e s m below meth c hx hb hr hlocks hml hown hin hts hE hG ls hl
  have hS : va_S (gh_A P) s.heap s.heap [] := va_S.rf
  have hl : lv_has ls 1 [(0, .ref h)] := hl
  refine lv_aload_n hx hb dJ4_init_0 rfl (lv_at hl 0 rfl) ?_
  refine W.objInit hx hb hown (hts _ q139) (hts _ q38) (hts _ q39) rfl (by rw [hml]; exact hl.1) rfl dJ4_init_1 (Nat.le_of_ble_eq_true rfl) (Nat.le_of_ble_eq_true rfl) ?_
  refine W.eq (g2 := F0 m 4 ls []) rfl ?_
  exact gh_vret hx hb hr hlocks hG hS (rfl) (Nat.le_of_ble_eq_true rfl) (Nat.le_of_ble_eq_true rfl) dJ4_init_4
set_option maxHeartbeats 4000000 in
/-- Integer(v) -/
theorem c_int_init (l : Launch) (P : gh_P) (G : gh_G) (h : Nat) (v v0 : Int32) (hh : G h = some (gh_x v0)) (hN : gh_N P ≤ h) : Met l yJ5_init (ws_ yJ5_init cJ5_init 2 none) ({ frames := 2, cells := 0, slots := 0, locals := 32 }) (gh_Pc P G [.ref h, .int v]) (gh_Qv P (fun G1 => G1 = gh_up G h (gh_x v))) 0 0 (gh_A P) := by
  refine gh_met (plainFor_of_name (by decide)) (Nat.le_of_ble_eq_true rfl) ?_
  intro p e s m below meth c hx hb hr hlocks hml hown hin hts hE hG ls hl
  have hS : va_S (gh_A P) s.heap s.heap [] := va_S.rf
  have hl : lv_has ls 2 [(0, .ref h), (1, .int v)] := hl
  refine lv_aload_n hx hb dJ5_init_0 rfl (lv_at hl 0 rfl) ?_
  refine gh_callv (va_runI (As := []) (rest := []) ⟨hx, hb, hml, hown, hts⟩ (c_num_init l P G h) (cwI 0 hts (lw_meth q138) rfl rfl rfl (hts _ q15) (hts _ q136) (hts _ q137) rfl (by decide +kernel) ⟨Nat.le_of_ble_eq_true rfl, Nat.le_of_ble_eq_true rfl⟩) (gh_preS hE hG hS) rfl rfl hl.1 rfl (lv_room (Nat.le_of_ble_eq_true rfl)) dJ5_init_1 ⟨Nat.le_of_ble_eq_true rfl, Nat.le_of_ble_eq_true rfl⟩) hS (fun G1 H locs hw hG hS => ?_)
  rw [hw] at hG
  refine lv_aload_n hx hb dJ5_init_4 rfl (lv_at hl 0 rfl) ?_
  refine lv_iload_n hx hb dJ5_init_5 rfl (lv_at hl 1 rfl) ?_
  refine gh_putF (C := RJ5) (T := TJ5) (N := 1) (v := .int v) hx hb hts in_J5 tyJ5 tyJ5_ok nmJ5 hown hE hG hS hN hh rfl 0 (by decide) q140 (fun _ h9 => h9) rfl hin rfl rfl rfl (Nat.le_of_ble_eq_true rfl) dJ5_init_6 (fun H locs hG hS => ?_)
  have hG : gh_H P (gh_up _ h (gh_x v)) H := hG
  exact gh_vret hx hb hr hlocks hG hS (rfl) (Nat.le_of_ble_eq_true rfl) (Nat.le_of_ble_eq_true rfl) dJ5_init_9
set_option maxHeartbeats 4000000 in
/-- Integer.valueOf(v): a box that holds v; nothing that was there changes -/
theorem c_int_valueOf (l : Launch) (P : gh_P) (G : gh_G) (v : Int32) : Met l yJ5_valueOf (ws_ yJ5_valueOf cJ5_valueOf 1 (some (.object "java/lang/Integer"))) ({ frames := 3, cells := 1, slots := 1, locals := 53 }) (gh_Pc P G [.int v]) (gh_Qr P (fun b G1 => gh_le G G1 ∧ G1 b = some (gh_x v))) 1 1 (gh_A P) := by
  refine gh_met (plainFor_of_name (by decide)) (Nat.le_of_ble_eq_true rfl) ?_
  intro p e s m below meth c hx hb hr hlocks hml hown hin hts hE hG ls hl
  have hS : va_S (gh_A P) s.heap s.heap [] := va_S.rf
  have hl : lv_has ls 1 [(0, .int v)] := hl
  refine lv_iload_n hx hb dJ5_valueOf_0 rfl (lv_at hl 0 rfl) ?_
  refine lv_bipush (v := (-128)) hx hb dJ5_valueOf_1 (by decide) ?_
  refine lv_icmp_lt (tgt := 23) hx hb dJ5_valueOf_3 (by decide) (fun c_1 => ?_) (fun c_1 => ?_)
  · refine gh_new (ci := 5) (fs := [.int 0]) (C := RJ5) (T := TJ5) (N := 1) hx hb hts in_J5 tyJ5 tyJ5_ok hown q131 q132 q16 hE hG hS rfl (fun j hj => by rcases (show j = 0 by omega) with rfl <;> rfl) (Nat.le_of_ble_eq_true rfl) (Nat.le_of_ble_eq_true rfl) dJ5_valueOf_23 (fun q H hN_q hf_q hG hS => ?_)
    refine lv_dup hx hb dJ5_valueOf_26 rfl ?_
    refine lv_iload_n hx hb dJ5_valueOf_27 rfl (lv_at hl 0 rfl) ?_
    refine gh_callv (va_runI (As := [.int v]) (rest := [.ref q]) ⟨hx, hb, hml, hown, hts⟩ (c_int_init l P _ q v 0 (gh_up_s _ _ _) hN_q) (cwI 1 hts (lw_meth q135) rfl rfl rfl (hts _ q16) (hts _ q133) (hts _ q134) rfl (by decide +kernel) ⟨Nat.le_of_ble_eq_true rfl, Nat.le_of_ble_eq_true rfl⟩) (gh_preS hE hG hS) rfl rfl hl.1 rfl (lv_room (Nat.le_of_ble_eq_true rfl)) dJ5_valueOf_28 ⟨Nat.le_of_ble_eq_true rfl, Nat.le_of_ble_eq_true rfl⟩) hS (fun G1 H locs hw hG hS => ?_)
    rw [hw, gh_up_up] at hG
    exact gh_aret hx hb hr hlocks (Or.inl ⟨_, rfl⟩) hG hS (⟨gh_le_new _ hf_q, gh_up_s _ _ _⟩) (Nat.le_of_ble_eq_true rfl) (Nat.le_of_ble_eq_true rfl) dJ5_valueOf_31
  · refine lv_iload_n hx hb dJ5_valueOf_6 rfl (lv_at hl 0 rfl) ?_
    refine va_gets (v := .int 127) hx hb hE.Z.1 hS hown (hts _ q127) (fun _ h9 => h9) dJ5_valueOf_7 ?_
    refine lv_icmp_gt (tgt := 23) hx hb dJ5_valueOf_10 (by decide) (fun c_2 => ?_) (fun c_2 => ?_)
    · refine gh_new (ci := 5) (fs := [.int 0]) (C := RJ5) (T := TJ5) (N := 1) hx hb hts in_J5 tyJ5 tyJ5_ok hown q131 q132 q16 hE hG hS rfl (fun j hj => by rcases (show j = 0 by omega) with rfl <;> rfl) (Nat.le_of_ble_eq_true rfl) (Nat.le_of_ble_eq_true rfl) dJ5_valueOf_23 (fun q H hN_q hf_q hG hS => ?_)
      refine lv_dup hx hb dJ5_valueOf_26 rfl ?_
      refine lv_iload_n hx hb dJ5_valueOf_27 rfl (lv_at hl 0 rfl) ?_
      refine gh_callv (va_runI (As := [.int v]) (rest := [.ref q]) ⟨hx, hb, hml, hown, hts⟩ (c_int_init l P _ q v 0 (gh_up_s _ _ _) hN_q) (cwI 1 hts (lw_meth q135) rfl rfl rfl (hts _ q16) (hts _ q133) (hts _ q134) rfl (by decide +kernel) ⟨Nat.le_of_ble_eq_true rfl, Nat.le_of_ble_eq_true rfl⟩) (gh_preS hE hG hS) rfl rfl hl.1 rfl (lv_room (Nat.le_of_ble_eq_true rfl)) dJ5_valueOf_28 ⟨Nat.le_of_ble_eq_true rfl, Nat.le_of_ble_eq_true rfl⟩) hS (fun G1 H locs hw hG hS => ?_)
      rw [hw, gh_up_up] at hG
      exact gh_aret hx hb hr hlocks (Or.inl ⟨_, rfl⟩) hG hS (⟨gh_le_new _ hf_q, gh_up_s _ _ _⟩) (Nat.le_of_ble_eq_true rfl) (Nat.le_of_ble_eq_true rfl) dJ5_valueOf_31
    · obtain ⟨j, hj, ej, ev⟩ := bx_small c_1 c_2
      refine va_gets (v := .ref (gh_aT P)) hx hb hE.Z.2.1 hS hown (hts _ q129) (fun _ h9 => h9) dJ5_valueOf_13 ?_
      refine lv_iload_n hx hb dJ5_valueOf_16 rfl (lv_at hl 0 rfl) ?_
      refine lv_sipush (v := 128) hx hb dJ5_valueOf_17 (by decide) ?_
      refine lv_iadd hx hb dJ5_valueOf_20 ?_
      refine lv_topi (fun z ez => ?_)
      have ez2 : z = nI j := ez.trans ej
      subst ez2
      refine vb_tq (v := .ref (P.2.2 j)) hx hb hE.Z.2.2.1 hS (vp_in_nI hj (by omega)) (by rw [nI_clamp (by omega)]) dJ5_valueOf_21 ?_
      exact gh_aret hx hb hr hlocks (Or.inl ⟨_, rfl⟩) hG hS (⟨gh_le_rf _, by rw [ev]; exact (hG.1.1 j hj).2⟩) (Nat.le_of_ble_eq_true rfl) (Nat.le_of_ble_eq_true rfl) dJ5_valueOf_22
set_option maxHeartbeats 4000000 in
/-- Integer.intValue() -/
theorem c_int_intValue (l : Launch) (P : gh_P) (G : gh_G) (h : Nat) (v : Int32) (hh : G h = some (gh_x v)) : Met l yJ5_intValue (ws_ yJ5_intValue cJ5_intValue 1 (some .int)) ({ frames := 0, cells := 0, slots := 0, locals := 0 }) (gh_Pc P G [.ref h]) (gh_Qi P (fun r G1 => r = v ∧ G1 = G)) 0 0 (gh_A P) := by
  refine gh_met (plainFor_of_name (by decide)) (Nat.le_of_ble_eq_true rfl) ?_
  intro p e s m below meth c hx hb hr hlocks hml hown hin hts hE hG ls hl
  have hS : va_S (gh_A P) s.heap s.heap [] := va_S.rf
  have hl : lv_has ls 1 [(0, .ref h)] := hl
  refine lv_aload_n hx hb dJ5_intValue_0 rfl (lv_at hl 0 rfl) ?_
  refine gh_get (C := RJ5) (T := TJ5) (N := 1) (v := .int v) hx hb hts in_J5 hown hE hG hh rfl 0 (by decide) q140 (fun _ h9 => h9) rfl dJ5_intValue_1 ?_
  exact gh_iret hx hb hr hlocks rfl hG hS (⟨rfl, rfl⟩) (Nat.le_of_ble_eq_true rfl) (Nat.le_of_ble_eq_true rfl) dJ5_intValue_4
set_option maxHeartbeats 4000000 in
/-- AbstractCollection() -/
theorem c_ac_init (l : Launch) (P : gh_P) (G : gh_G) (h : Nat) : Met l yJ6_init (ws_ yJ6_init cJ6_init 1 none) ({ frames := 1, cells := 0, slots := 0, locals := 12 }) (gh_Pc P G [.ref h]) (gh_Qv P (fun G1 => G1 = G)) 0 0 (gh_A P) := by
  refine gh_met (plainFor_of_name (by decide)) (Nat.le_of_ble_eq_true rfl) ?_
  intro p e s m below meth c hx hb hr hlocks hml hown hin hts hE hG ls hl
  have hS : va_S (gh_A P) s.heap s.heap [] := va_S.rf
  have hl : lv_has ls 1 [(0, .ref h)] := hl
  refine lv_aload_n hx hb dJ6_init_0 rfl (lv_at hl 0 rfl) ?_
  refine W.objInit hx hb hown (hts _ q166) (hts _ q38) (hts _ q39) rfl (by rw [hml]; exact hl.1) rfl dJ6_init_1 (Nat.le_of_ble_eq_true rfl) (Nat.le_of_ble_eq_true rfl) ?_
  refine W.eq (g2 := F0 m 4 ls []) rfl ?_
  exact gh_vret hx hb hr hlocks hG hS (rfl) (Nat.le_of_ble_eq_true rfl) (Nat.le_of_ble_eq_true rfl) dJ6_init_4
set_option maxHeartbeats 4000000 in
/-- AbstractList() on a new ArrayList -/
theorem c_abl_init (l : Launch) (P : gh_P) (G : gh_G) (h : Nat) (hh : G h = some (gh_o 3 [.int 0, .null, .int 0])) (hN : gh_N P ≤ h) : Met l yJ7_init (ws_ yJ7_init cJ7_init 1 none) ({ frames := 2, cells := 0, slots := 0, locals := 32 }) (gh_Pc P G [.ref h]) (gh_Qv P (fun G1 => G1 = gh_up G h (gh_o 3 [.int 0, .null, .int 0]))) 0 0 (gh_A P) := by
  refine gh_met (plainFor_of_name (by decide)) (Nat.le_of_ble_eq_true rfl) ?_
  intro p e s m below meth c hx hb hr hlocks hml hown hin hts hE hG ls hl
  have hS : va_S (gh_A P) s.heap s.heap [] := va_S.rf
  have hl : lv_has ls 1 [(0, .ref h)] := hl
  refine lv_aload_n hx hb dJ7_init_0 rfl (lv_at hl 0 rfl) ?_
  refine gh_callv (va_runI (As := []) (rest := []) ⟨hx, hb, hml, hown, hts⟩ (c_ac_init l P G h) (cwI 0 hts (lw_meth q165) rfl rfl rfl (hts _ q18) (hts _ q163) (hts _ q164) rfl (by decide +kernel) ⟨Nat.le_of_ble_eq_true rfl, Nat.le_of_ble_eq_true rfl⟩) (gh_preS hE hG hS) rfl rfl hl.1 rfl (lv_room (Nat.le_of_ble_eq_true rfl)) dJ7_init_1 ⟨Nat.le_of_ble_eq_true rfl, Nat.le_of_ble_eq_true rfl⟩) hS (fun G1 H locs hw hG hS => ?_)
  rw [hw] at hG
  refine lv_aload_n hx hb dJ7_init_4 rfl (lv_at hl 0 rfl) ?_
  refine lv_iconst (v := 0) hx hb dJ7_init_5 (by decide) ?_
  refine gh_put (C := RJ8) (T := TJ8) (N := 3) (v := .int 0) hx hb hts in_J8 tyJ8 tyJ8_ok nmJ8 hown hE hG hS hN hh rfl 0 (by decide) q173 (fun _ h9 => h9) rfl rfl rfl (Nat.le_of_ble_eq_true rfl) dJ7_init_6 (fun H locs hG hS => ?_)
  have hG : gh_H P (gh_up _ h (gh_o 3 [.int 0, .null, .int 0])) H := hG
  exact gh_vret hx hb hr hlocks hG hS (rfl) (Nat.le_of_ble_eq_true rfl) (Nat.le_of_ble_eq_true rfl) dJ7_init_9
set_option maxHeartbeats 4000000 in
/-- ArrayList() -/
theorem c_al_init (l : Launch) (P : gh_P) (G : gh_G) (h : Nat) (hh : G h = some (gh_o 3 [.int 0, .null, .int 0])) (hN : gh_N P ≤ h) : Met l yJ8_init (ws_ yJ8_init cJ8_init 1 none) ({ frames := 3, cells := 0, slots := 0, locals := 52 }) (gh_Pc P G [.ref h]) (gh_Qv P (fun G1 => G1 = gh_up G h (gh_o 3 [.int 0, .ref (gh_aE P), .int 0]))) 0 0 (gh_A P) := by
  refine gh_met (plainFor_of_name (by decide)) (Nat.le_of_ble_eq_true rfl) ?_
  intro p e s m below meth c hx hb hr hlocks hml hown hin hts hE hG ls hl
  have hS : va_S (gh_A P) s.heap s.heap [] := va_S.rf
  have hl : lv_has ls 1 [(0, .ref h)] := hl
  refine lv_aload_n hx hb dJ8_init_0 rfl (lv_at hl 0 rfl) ?_
  refine gh_callv (va_runI (As := []) (rest := []) ⟨hx, hb, hml, hown, hts⟩ (c_abl_init l P G h hh hN) (cwI 0 hts (lw_meth q162) rfl rfl rfl (hts _ q19) (hts _ q160) (hts _ q161) rfl (by decide +kernel) ⟨Nat.le_of_ble_eq_true rfl, Nat.le_of_ble_eq_true rfl⟩) (gh_preS hE hG hS) rfl rfl hl.1 rfl (lv_room (Nat.le_of_ble_eq_true rfl)) dJ8_init_1 ⟨Nat.le_of_ble_eq_true rfl, Nat.le_of_ble_eq_true rfl⟩) hS (fun G1 H locs hw hG hS => ?_)
  rw [hw] at hG
  refine lv_aload_n hx hb dJ8_init_4 rfl (lv_at hl 0 rfl) ?_
  refine va_gets (v := .ref (gh_aE P)) hx hb hE.Z.2.2.2 hS hown (hts _ q167) (fun _ h9 => h9) dJ8_init_5 ?_
  refine gh_put (C := RJ8) (T := TJ8) (N := 3) (v := .ref (gh_aE P)) hx hb hts in_J8 tyJ8 tyJ8_ok nmJ8 hown hE hG hS hN (gh_up_s _ _ _) rfl 1 (by decide) q169 (fun _ h9 => h9) rfl rfl rfl (Nat.le_of_ble_eq_true rfl) dJ8_init_8 (fun H locs hG hS => ?_)
  rw [gh_up_up] at hG
  exact gh_vret hx hb hr hlocks hG hS (rfl) (Nat.le_of_ble_eq_true rfl) (Nat.le_of_ble_eq_true rfl) dJ8_init_11
set_option maxHeartbeats 4000000 in
/-- ArraysSupport.newLength of small lengths -/
theorem c_newLength (l : Launch) (P : gh_P) (G : gh_G) (a b c2 n : Nat) (ha : a < 1000) (hb0 : 0 < b) (hb1 : b < 1000) (hc : c2 < 1000) (hn : n = a + if b < c2 then c2 else b) : Met l yJ10_newLength (ws_ yJ10_newLength cJ10_newLength 4 (some .int)) ({ frames := 1, cells := 0, slots := 0, locals := 14 }) (gh_Pc P G [.int (nI a), .int (nI b), .int (nI c2)]) (gh_Qi P (fun r G1 => r = nI n ∧ G1 = G)) 0 0 (gh_A P) := by
  refine gh_met (plainFor_of_name (by decide)) (Nat.le_of_ble_eq_true rfl) ?_
  intro p e s m below meth c hx hb hr hlocks hml hown hin hts hE hG ls hl
  have hS : va_S (gh_A P) s.heap s.heap [] := va_S.rf
  have hl : lv_has ls 4 [(0, .int (nI a)), (1, .int (nI b)), (2, .int (nI c2))] := hl
  refine lv_iload_n hx hb dJ10_newLength_0 rfl (lv_at hl 0 rfl) ?_
  refine lv_iload_n hx hb dJ10_newLength_1 rfl (lv_at hl 1 rfl) ?_
  refine lv_iload_n hx hb dJ10_newLength_2 rfl (lv_at hl 2 rfl) ?_
  have hn2 : n < 2000 ∧ 0 < n := by rw [hn]; split <;> omega
  refine va_mmax hx hb (by rw [hml]; exact hl.1.symm) hown (hts _ q315) (hts _ q316) (hts _ q22) (hts _ q317) (Nat.le_of_ble_eq_true rfl) (Nat.le_of_ble_eq_true rfl) (Nat.le_of_ble_eq_true rfl) (Nat.le_of_ble_eq_true rfl) dJ10_newLength_3 ?_
  refine lv_iadd hx hb dJ10_newLength_6 ?_
  refine lv_topi (fun z_0 ez_0 => ?_)
  obtain rfl : z_0 = nI n := ez_0.trans (by rw [hn, ← nI_add]; congr 1; by_cases q : b < c2 <;> simp [q, nI_ltI (show b < 2 ^ 31 by omega) (show c2 < 2 ^ 31 by omega)])
  refine lv_istore_n (lv' := [(3, .int (nI n)), (0, .int (nI a)), (1, .int (nI b)), (2, .int (nI c2))]) hx hb dJ10_newLength_7 rfl hl (by decide) rfl (fun ls hl => ?_)
  refine lv_iconst (v := 0) hx hb dJ10_newLength_8 (by decide) ?_
  refine lv_iload_n hx hb dJ10_newLength_9 rfl (lv_at hl 0 rfl) ?_
  refine lv_icmp_ge (tgt := 21) hx hb dJ10_newLength_10 (by decide) (fun c_1 => ?_) (fun c_1 => ?_)
  · exact absurd c_1 (nI_nle hn2.2 (by omega))
  · refine lv_iload_n hx hb dJ10_newLength_13 rfl (lv_at hl 0 rfl) ?_
    refine lv_ldc (v := 2147483639) hx hb hown (hts _ q318) dJ10_newLength_14 ?_
    refine lv_icmp_gt (tgt := 21) hx hb dJ10_newLength_16 (by decide) (fun c_2 => ?_) (fun c_2 => ?_)
    · exact absurd c_2 (by
        have e1 : (2147483639 : Int32) = nI 2147483639 := by decide
        rw [e1, nI_ltI (by omega) (by omega)]
        omega)
    · refine lv_iload_n hx hb dJ10_newLength_19 rfl (lv_at hl 0 rfl) ?_
      exact gh_iret hx hb hr hlocks rfl hG hS (⟨rfl, rfl⟩) (Nat.le_of_ble_eq_true rfl) (Nat.le_of_ble_eq_true rfl) dJ10_newLength_20
set_option maxHeartbeats 4000000 in
/-- Preconditions.checkIndex within -/
theorem c_precheck (l : Launch) (P : gh_P) (G : gh_G) (i n : Nat) (hi : i < n) (hn : n < 2 ^ 31) : Met l yJ14_checkIndex (ws_ yJ14_checkIndex cJ14_checkIndex 3 (some .int)) ({ frames := 0, cells := 0, slots := 0, locals := 0 }) (gh_Pc P G [.int (nI i), .int (nI n), .null]) (gh_Qi P (fun r G1 => G1 = G)) 0 0 (gh_A P) := by
  refine gh_met (plainFor_of_name (by decide)) (Nat.le_of_ble_eq_true rfl) ?_
  intro p e s m below meth c hx hb hr hlocks hml hown hin hts hE hG ls hl
  have hS : va_S (gh_A P) s.heap s.heap [] := va_S.rf
  have hl : lv_has ls 3 [(0, .int (nI i)), (1, .int (nI n)), (2, .null)] := hl
  refine lv_iload_n hx hb dJ14_checkIndex_0 rfl (lv_at hl 0 rfl) ?_
  refine lv_if_lt (tgt := 9) hx hb dJ14_checkIndex_1 (by decide) (fun c_1 => ?_) (fun c_1 => ?_)
  · exact absurd c_1 (nI_pos (by omega))
  · refine lv_iload_n hx hb dJ14_checkIndex_4 rfl (lv_at hl 0 rfl) ?_
    refine lv_iload_n hx hb dJ14_checkIndex_5 rfl (lv_at hl 1 rfl) ?_
    refine lv_icmp_lt (tgt := 16) hx hb dJ14_checkIndex_6 (by decide) (fun c_2 => ?_) (fun c_2 => ?_)
    · refine lv_iload_n hx hb dJ14_checkIndex_16 rfl (lv_at hl 0 rfl) ?_
      exact gh_iret hx hb hr hlocks rfl hG hS (rfl) (Nat.le_of_ble_eq_true rfl) (Nat.le_of_ble_eq_true rfl) dJ14_checkIndex_17
    · exact absurd (nI_lt hi hn) c_2
set_option maxHeartbeats 4000000 in
/-- Objects.checkIndex within -/
theorem c_check (l : Launch) (P : gh_P) (G : gh_G) (i n : Nat) (hi : i < n) (hn : n < 2 ^ 31) : Met l yJ13_checkIndex (ws_ yJ13_checkIndex cJ13_checkIndex 2 (some .int)) ({ frames := 1, cells := 0, slots := 0, locals := 22 }) (gh_Pc P G [.int (nI i), .int (nI n)]) (gh_Qi P (fun r G1 => G1 = G)) 0 0 (gh_A P) := by
  refine gh_met (plainFor_of_name (by decide)) (Nat.le_of_ble_eq_true rfl) ?_
  intro p e s m below meth c hx hb hr hlocks hml hown hin hts hE hG ls hl
  have hS : va_S (gh_A P) s.heap s.heap [] := va_S.rf
  have hl : lv_has ls 2 [(0, .int (nI i)), (1, .int (nI n))] := hl
  refine lv_iload_n hx hb dJ13_checkIndex_0 rfl (lv_at hl 0 rfl) ?_
  refine lv_iload_n hx hb dJ13_checkIndex_1 rfl (lv_at hl 1 rfl) ?_
  refine lv_null hx hb dJ13_checkIndex_2 ?_
  refine gh_calli (va_runS (As := [.int (nI i), .int (nI n), .null]) (rest := []) ⟨hx, hb, hml, hown, hts⟩ (c_precheck l P G i n hi hn) (va_cwS 3 hts (lw_S q423 q424 q30 q425) rfl rfl rfl (by decide +kernel) ⟨Nat.le_of_ble_eq_true rfl, Nat.le_of_ble_eq_true rfl⟩) (gh_preS hE hG hS) rfl rfl hl.1 rfl (lv_room (Nat.le_of_ble_eq_true rfl)) dJ13_checkIndex_3 ⟨Nat.le_of_ble_eq_true rfl, Nat.le_of_ble_eq_true rfl⟩) hS (fun r G1 H locs hw hG hS => ?_)
  rw [hw] at hG
  exact gh_iret hx hb hr hlocks rfl hG hS (rfl) (Nat.le_of_ble_eq_true rfl) (Nat.le_of_ble_eq_true rfl) dJ13_checkIndex_6
end
section
/-! ArrayList and its iterator -/
set_option maxRecDepth 100000
/-- the list at l holds the references es, in the array d -/
def al_ (P : gh_P) (G : gh_G) (l d : Nat) (mc : Int32) (es : List Nat) : Prop := ∃ (cap : Nat) (f : Nat → Option Nat), G l = some (gh_o 3 [.int mc, .ref d, .int (nI es.length)]) ∧ G d = some (gh_q (gh_cO P) cap f) ∧ es.length ≤ cap ∧ cap ≤ 1000 ∧ (∀ (i b : Nat), es[i]? = some b → f i = some b) ∧ gh_N P ≤ l ∧ (cap = 0 ∧ d = gh_aE P ∨ 0 < cap ∧ gh_N P ≤ d)
/-- every reference is a box -/
def al_x (G : gh_G) (es : List Nat) : Prop := ∀ b ∈ es, ∃ v : Int32, G b = some (gh_x v)
def al_F (P : gh_P) (l d : Nat) : Nat → Prop := fun a => a = l ∨ a = d ∧ gh_N P ≤ a
theorem al_ld {P : gh_P} {G : gh_G} {l d : Nat} {mc : Int32} {es : List Nat} (h : al_ P G l d mc es) : l ≠ d := by
  obtain ⟨cap, f, h1, h2, -⟩ := h
  exact gh_ne h1 h2 (by simp)
theorem gh_arr {P : gh_P} {G : gh_G} {s : State} {H : Heap} {d n : Nat} {f : Nat → Option Nat} (hE : gh_E P s) (hG : gh_H P G H) (hd : G d = some (gh_q (gh_cO P) n f)) : ∃ cell : Cell, H[d]? = some cell ∧ cell.vm.isStatics = false ∧ s.vm.findClass "[Ljava/lang/Object;" = some cell.cls :=
  ⟨_, hG.2 d _ hd, rfl, va_nmO (hE.K.2 1 _ rfl).2 (by decide +kernel)⟩
theorem gh_anyx {P : gh_P} {G : gh_G} {s : State} {H : Heap} {b : Nat} {v : Int32} (hE : gh_E P s) (hG : gh_H P G H) (h : G b = some (gh_x v)) : va_Any "java/lang/Object" s H b := gh_any hE hG h rfl (vb_asgC (hE.w 1 rfl))
theorem al_mc {P : gh_P} {G : gh_G} {l d : Nat} {mc : Int32} {es : List Nat} (mc' : Int32) (h : al_ P G l d mc es) : al_ P (gh_up G l (gh_o 3 [.int mc', .ref d, .int (nI es.length)])) l d mc' es := by
  have hn := al_ld h
  obtain ⟨cap, f, h1, h2, h3⟩ := h
  exact ⟨cap, f, gh_up_s _ _ _, by rw [gh_up_n _ _ (Ne.symm hn)]; exact h2, h3⟩
theorem al_fr_up {P : gh_P} {G : gh_G} {l d : Nat} {e : va_E} : gh_fr (al_F P l d) G (gh_up G l e) := fun a x ha hF => by
  rw [gh_up_n _ _ (fun q => hF (Or.inl q))]
  exact ha
theorem gh_fr_tr {F : Nat → Prop} {G G1 G2 : gh_G} (h : gh_fr F G G1) (h2 : gh_fr F G1 G2) : gh_fr F G G2 := fun a e q hF => h2 a e (h a e q hF) hF
theorem gh_up_none {G : gh_G} {a b : Nat} {e : va_E} (h : gh_up G a e b = none) : G b = none := by
  by_cases z : b = a
  · rw [z, gh_up_s] at h
    cases h
  · rw [gh_up_n _ _ z] at h
    exact h
theorem al_kept {P : gh_P} {G G' : gh_G} {l d : Nat} {mc : Int32} {es : List Nat} {F : Nat → Prop} (h : al_ P G l d mc es) (hf : gh_fr F G G') (h1 : ¬ F l) (h2 : ¬ F d) : al_ P G' l d mc es := by
  obtain ⟨cap, f, q1, q2, q3⟩ := h
  exact ⟨cap, f, hf _ _ q1 h1, hf _ _ q2 h2, q3⟩
set_option maxHeartbeats 4000000 in
/-- Arrays.copyOf of an Object[] -/
theorem c_copyOf3 (l : Launch) (P : gh_P) (G : gh_G) (d n n2 : Nat) (f : Nat → Option Nat) (hd : G d = some (gh_q (gh_cO P) n f)) (hN : gh_N P ≤ d) (hn : n ≤ n2) (hn2 : n2 ≤ 200) (hel : ∀ (i y : Nat), i < n → f i = some y → ∃ v : Int32, G y = some (gh_x v)) : Met l yJ11_copyOf_2 (ws_ yJ11_copyOf_2 cJ11_copyOf_2 4 (some (.array (.object "java/lang/Object")))) ({ frames := 1, cells := 1, slots := 200, locals := 40 }) (gh_Pc P G [.ref d, .int (nI n2), .ref (gh_mi P)]) (gh_Qr P (fun q G1 => gh_N P ≤ q ∧ G q = none ∧ G1 = gh_up G q (gh_q (gh_cO P) n2 (va_cpy f (fun _ => none) 0 0 n)))) 1 200 (gh_A P) := by
  refine gh_met (plainFor_of_name (by decide)) (Nat.le_of_ble_eq_true rfl) ?_
  intro p e s m below meth c hx hb hr hlocks hml hown hin hts hE hG ls hl
  have hS : va_S (gh_A P) s.heap s.heap [] := va_S.rf
  have hl : lv_has ls 4 [(0, .ref d), (1, .int (nI n2)), (2, .ref (gh_mi P))] := hl
  refine lv_aload_n hx hb dJ11_copyOf_2_0 rfl (lv_at hl 2 rfl) ?_
  refine va_ldcM hx hb hown (hts _ q340) hE.M.1 dJ11_copyOf_2_1 ?_
  refine lv_acmp_ne (rx := some (gh_mi P)) (ry := some (gh_mi P)) (tgt := 13) hx hb dJ11_copyOf_2_3 (by decide) (fun c_1 => absurd rfl c_1) (fun _ => ?_)
  refine lv_iload_n hx hb dJ11_copyOf_2_6 rfl (lv_at hl 1 rfl) ?_
  refine gh_newq 1 rfl hx hb hts hown q342 hE.M.2.2.2.2 hE hG hS (nI_pos (by omega)) (nI_clamp (by omega)) (by omega) (Nat.le_of_ble_eq_true rfl) (by show 0 + n2 ≤ 200; omega) dJ11_copyOf_2_7 (fun q H hN_q hf_q hG hS => ?_)
  have hdq : d ≠ q := gh_nf hd hf_q
  have hd1 : gh_up G q (gh_q (gh_cO P) n2 (fun _ => none)) d = some (gh_q (gh_cO P) n f) := by rw [gh_up_n _ _ hdq]; exact hd
  refine lv_goto (tgt := 24) hx hb dJ11_copyOf_2_10 (by decide) ?_
  refine lv_astore_n (lv' := [(3, .ref q), (0, .ref d), (1, .int (nI n2)), (2, .ref (gh_mi P))]) hx hb dJ11_copyOf_2_24 rfl hl (by decide) rfl (fun ls hl => ?_)
  refine lv_aload_n hx hb dJ11_copyOf_2_25 rfl (lv_at hl 1 rfl) ?_
  refine lv_iconst (v := 0) hx hb dJ11_copyOf_2_26 (by decide) ?_
  refine lv_aload_n hx hb dJ11_copyOf_2_27 rfl (lv_at hl 0 rfl) ?_
  refine lv_iconst (v := 0) hx hb dJ11_copyOf_2_28 (by decide) ?_
  refine lv_aload_n hx hb dJ11_copyOf_2_29 rfl (lv_at hl 1 rfl) ?_
  refine gh_qlen 1 rfl hx hb hE hG hd1 dJ11_copyOf_2_30 ?_
  refine lv_iload_n hx hb dJ11_copyOf_2_31 rfl (lv_at hl 2 rfl) ?_
  refine va_mmin hx hb (by rw [hml]; exact hl.1.symm) hown (hts _ q343) (hts _ q288) (hts _ q22) (hts _ q289) (Nat.le_of_ble_eq_true rfl) (Nat.le_of_ble_eq_true rfl) (Nat.le_of_ble_eq_true rfl) (by show 0 + n2 ≤ 200; omega) dJ11_copyOf_2_32 ?_
  refine lv_topi (fun z_0 ez_0 => ?_)
  obtain rfl : z_0 = nI n := ez_0.trans (by rw [if_neg (nI_nlt hn (by omega))])
  refine gh_copy hx hb (by rw [hml]; exact hl.1.symm) hts hown q344 hE hG hS hN hN_q hd1 (gh_up_s _ _ _) (by decide) (by decide) (nI_pos (by omega)) (by rw [sb_cl0, nI_clamp (by omega)]; omega) (by rw [sb_cl0, nI_clamp (by omega)]; omega) (fun i hi y hy => ?_) (Nat.le_of_ble_eq_true rfl) (Nat.le_of_ble_eq_true rfl) dJ11_copyOf_2_35 (fun H locs hG hS => ?_)
  · rw [nI_clamp (by omega)] at hi
    rw [sb_cl0, Nat.zero_add] at hy
    obtain ⟨v, hv⟩ := hel i y hi hy
    exact gh_anyx hE hG (v := v) (by rw [gh_up_n _ _ (gh_nf hv hf_q)]; exact hv)
  · rw [sb_cl0, nI_clamp (by omega), gh_up_up] at hG
    refine lv_aload_n hx hb dJ11_copyOf_2_38 rfl (lv_at hl 0 rfl) ?_
    exact gh_aret hx hb hr hlocks (Or.inr ⟨_, rfl⟩) hG hS (⟨hN_q, hf_q, rfl⟩) (Nat.le_of_ble_eq_true rfl) (by omega) dJ11_copyOf_2_39
set_option maxHeartbeats 4000000 in
/-- Arrays.copyOf -/
theorem c_copyOf (l : Launch) (P : gh_P) (G : gh_G) (d n n2 : Nat) (f : Nat → Option Nat) (hd : G d = some (gh_q (gh_cO P) n f)) (hN : gh_N P ≤ d) (hn : n ≤ n2) (hn2 : n2 ≤ 200) (hel : ∀ (i y : Nat), i < n → f i = some y → ∃ v : Int32, G y = some (gh_x v)) : Met l yJ11_copyOf (ws_ yJ11_copyOf cJ11_copyOf 2 (some (.array (.object "java/lang/Object")))) ({ frames := 2, cells := 1, slots := 200, locals := 65 }) (gh_Pc P G [.ref d, .int (nI n2)]) (gh_Qr P (fun q G1 => gh_N P ≤ q ∧ G q = none ∧ G1 = gh_up G q (gh_q (gh_cO P) n2 (va_cpy f (fun _ => none) 0 0 n)))) 1 200 (gh_A P) := by
  refine gh_met (plainFor_of_name (by decide)) (Nat.le_of_ble_eq_true rfl) ?_
  intro p e s m below meth c hx hb hr hlocks hml hown hin hts hE hG ls hl
  have hS : va_S (gh_A P) s.heap s.heap [] := va_S.rf
  have hl : lv_has ls 2 [(0, .ref d), (1, .int (nI n2))] := hl
  refine lv_aload_n hx hb dJ11_copyOf_0 rfl (lv_at hl 0 rfl) ?_
  refine lv_iload_n hx hb dJ11_copyOf_1 rfl (lv_at hl 1 rfl) ?_
  refine lv_aload_n hx hb dJ11_copyOf_2 rfl (lv_at hl 0 rfl) ?_
  refine va_getC (C := "[Ljava/lang/Object;") hx hb (by rw [hml]; exact hl.1.symm) hown (hts _ q325) (va_Dc.use hE.M.2.1) (hts _ q594) (hts _ q326) (hts _ q336) hE.M.1 (gh_arr hE hG hd) (Nat.le_of_ble_eq_true rfl) (Nat.le_of_ble_eq_true rfl) dJ11_copyOf_3 ?_
  refine gh_callr (va_runS (As := [.ref d, .int (nI n2), .ref (gh_mi P)]) (rest := []) ⟨hx, hb, hml, hown, hts⟩ (c_copyOf3 l P G d n n2 f hd hN hn hn2 hel) (va_cwS 3 hts (lw_S q337 q338 q25 q339) rfl rfl rfl (by decide +kernel) ⟨Nat.le_of_ble_eq_true rfl, Nat.le_of_ble_eq_true rfl⟩) (gh_preS hE hG hS) rfl rfl hl.1 rfl (lv_room (Nat.le_of_ble_eq_true rfl)) dJ11_copyOf_6 ⟨Nat.le_of_ble_eq_true rfl, Nat.le_of_ble_eq_true rfl⟩) hS (fun q G1 H locs hw hG hS => ?_)
  exact gh_aret hx hb hr hlocks (Or.inr ⟨_, rfl⟩) hG hS (hw) (Nat.le_of_ble_eq_true rfl) (Nat.le_of_ble_eq_true rfl) dJ11_copyOf_9
set_option maxHeartbeats 4000000 in
/-- ArrayList.grow(int), from a full list -/
theorem c_grow2 (l : Launch) (P : gh_P) (G : gh_G) (h d cap : Nat) (mc : Int32) (f : Nat → Option Nat) (hh : G h = some (gh_o 3 [.int mc, .ref d, .int (nI cap)])) (hd : G d = some (gh_q (gh_cO P) cap f)) (hN : gh_N P ≤ h) (hcd : cap = 0 ∧ d = gh_aE P ∨ 0 < cap ∧ gh_N P ≤ d) (hcap : cap ≤ 64) (hel : ∀ (i y : Nat), i < cap → f i = some y → ∃ v : Int32, G y = some (gh_x v)) : Met l yJ8_grow_2 (ws_ yJ8_grow_2 cJ8_grow_2 4 (some (.array (.object "java/lang/Object")))) ({ frames := 3, cells := 1, slots := 200, locals := 90 }) (gh_Pc P G [.ref h, .int (nI (cap + 1))]) (gh_Qr P (fun q G1 => gh_N P ≤ q ∧ G q = none ∧ ∃ (cap' : Nat) (f' : Nat → Option Nat), cap < cap' ∧ cap' ≤ 200 ∧ (∀ i, i < cap → f' i = f i) ∧ G1 = gh_up (gh_up G q (gh_q (gh_cO P) cap' f')) h (gh_o 3 [.int mc, .ref q, .int (nI cap)]))) 1 200 (gh_A P) := by
  refine gh_met (plainFor_of_name (by decide)) (Nat.le_of_ble_eq_true rfl) ?_
  intro p e s m below meth c hx hb hr hlocks hml hown hin hts hE hG ls hl
  have hS : va_S (gh_A P) s.heap s.heap [] := va_S.rf
  have hl : lv_has ls 4 [(0, .ref h), (1, .int (nI (cap + 1)))] := hl
  refine lv_aload_n hx hb dJ8_grow_2_0 rfl (lv_at hl 0 rfl) ?_
  refine gh_get (C := RJ8) (T := TJ8) (N := 3) (v := .ref d) hx hb hts in_J8 hown hE hG hh rfl 1 (by decide) q169 (fun _ h9 => h9) rfl dJ8_grow_2_1 ?_
  refine gh_qlen 1 rfl hx hb hE hG hd dJ8_grow_2_4 ?_
  refine lv_istore_n (lv' := [(2, .int (nI cap)), (0, .ref h), (1, .int (nI (cap + 1)))]) hx hb dJ8_grow_2_5 rfl hl (by decide) rfl (fun ls hl => ?_)
  refine lv_iload_n hx hb dJ8_grow_2_6 rfl (lv_at hl 0 rfl) ?_
  refine lv_if_gt (tgt := 20) hx hb dJ8_grow_2_7 (by decide) (fun c_1 => ?_) (fun c_1 => ?_)
  · have hc0 : 0 < cap := by
      rcases Nat.eq_zero_or_pos cap with q | q
      · subst q
        exact absurd c_1 (by decide)
      · exact q
    have hNd : gh_N P ≤ d := hcd.elim (fun q => absurd q.1 (by omega)) (fun q => q.2)
    refine lv_iload_n hx hb dJ8_grow_2_20 rfl (lv_at hl 0 rfl) ?_
    refine lv_iload_n hx hb dJ8_grow_2_21 rfl (lv_at hl 2 rfl) ?_
    refine lv_iload_n hx hb dJ8_grow_2_22 rfl (lv_at hl 0 rfl) ?_
    refine lv_isub hx hb dJ8_grow_2_23 ?_
    refine lv_iload_n hx hb dJ8_grow_2_24 rfl (lv_at hl 0 rfl) ?_
    refine lv_iconst (v := 1) hx hb dJ8_grow_2_25 (by decide) ?_
    refine lv_ishr hx hb dJ8_grow_2_26 ?_
    have e1 : nI (cap + 1) - nI cap = nI 1 := by rw [pk_sub (by omega)]; congr 1; omega
    have e2 : nI cap >>> ((1 : Int32) &&& 31) = nI (cap / 2) := pk_shrN (by omega) _ 1 (by decide)
    rw [e1, e2]
    obtain ⟨n, hn⟩ : ∃ n : Nat, n = cap + if 1 < cap / 2 then cap / 2 else 1 := ⟨_, rfl⟩
    have hn2 : cap < n ∧ n ≤ 200 := by rw [hn]; split <;> omega
    refine gh_calli (va_runS (As := [.int (nI cap), .int (nI 1), .int (nI (cap / 2))]) (rest := []) ⟨hx, hb, hml, hown, hts⟩ (c_newLength l P G cap 1 (cap / 2) n (by omega) (by omega) (by omega) (by omega) hn) (va_cwS 3 hts (lw_S q312 q313 q24 q314) rfl rfl rfl (by decide +kernel) ⟨Nat.le_of_ble_eq_true rfl, Nat.le_of_ble_eq_true rfl⟩) (gh_preS hE hG hS) rfl rfl hl.1 rfl (lv_room (Nat.le_of_ble_eq_true rfl)) dJ8_grow_2_27 ⟨Nat.le_of_ble_eq_true rfl, Nat.le_of_ble_eq_true rfl⟩) hS (fun r G1 H locs hw hG hS => ?_)
    obtain ⟨rfl, hw⟩ := hw
    rw [hw] at hG
    refine lv_istore_n (lv' := [(3, .int (nI n)), (2, .int (nI cap)), (0, .ref h), (1, .int (nI (cap + 1)))]) hx hb dJ8_grow_2_30 rfl hl (by decide) rfl (fun ls hl => ?_)
    refine lv_aload_n hx hb dJ8_grow_2_31 rfl (lv_at hl 2 rfl) ?_
    refine lv_aload_n hx hb dJ8_grow_2_32 rfl (lv_at hl 2 rfl) ?_
    refine gh_get (C := RJ8) (T := TJ8) (N := 3) (v := .ref d) hx hb hts in_J8 hown hE hG hh rfl 1 (by decide) q169 (fun _ h9 => h9) rfl dJ8_grow_2_33 ?_
    refine lv_iload_n hx hb dJ8_grow_2_36 rfl (lv_at hl 0 rfl) ?_
    refine gh_callr (va_runS (As := [.ref d, .int (nI n)]) (rest := [.ref h]) ⟨hx, hb, hml, hown, hts⟩ (c_copyOf l P G d cap n f hd hNd (by omega) hn2.2 hel) (va_cwS 2 hts (lw_S q322 q323 q25 q324) rfl rfl rfl (by decide +kernel) ⟨Nat.le_of_ble_eq_true rfl, Nat.le_of_ble_eq_true rfl⟩) (gh_preS hE hG hS) rfl rfl hl.1 rfl (lv_room (Nat.le_of_ble_eq_true rfl)) dJ8_grow_2_37 ⟨Nat.le_of_ble_eq_true rfl, Nat.le_of_ble_eq_true rfl⟩) hS (fun q G1 H locs hw hG hS => ?_)
    obtain ⟨hN_q, hf_q, hw⟩ := hw
    rw [hw] at hG
    refine lv_dup_x1 hx hb dJ8_grow_2_40 rfl rfl ?_
    refine gh_put (C := RJ8) (T := TJ8) (N := 3) (v := .ref q) hx hb hts in_J8 tyJ8 tyJ8_ok nmJ8 hown hE hG hS hN (show gh_up G q _ h = _ by rw [gh_up_n _ _ (gh_nf hh hf_q)]; exact hh) rfl 1 (by decide) q169 (fun _ h9 => h9) rfl rfl rfl (Nat.le_of_ble_eq_true rfl) dJ8_grow_2_41 (fun H locs hG hS => ?_)
    exact gh_aret hx hb hr hlocks (Or.inr ⟨_, rfl⟩) hG hS (⟨hN_q, hf_q, n, _, hn2.1, hn2.2, fun i hi => by rw [pk_cpy_in (Nat.zero_le _) (by omega)]; congr 1; omega, rfl⟩) (Nat.le_of_ble_eq_true rfl) (Nat.le_of_ble_eq_true rfl) dJ8_grow_2_44
  · have hc0 : cap = 0 ∧ d = gh_aE P := by
      rcases hcd with q | ⟨q, -⟩
      · exact q
      · exact absurd (by rw [← nI_0]; exact nI_lt q (by omega)) c_1
    obtain ⟨rfl, rfl⟩ := hc0
    refine lv_aload_n hx hb dJ8_grow_2_10 rfl (lv_at hl 1 rfl) ?_
    refine gh_get (C := RJ8) (T := TJ8) (N := 3) (v := .ref (gh_aE P)) hx hb hts in_J8 hown hE hG hh rfl 1 (by decide) q169 (fun _ h9 => h9) rfl dJ8_grow_2_11 ?_
    refine va_gets (v := .ref (gh_aE P)) hx hb hE.Z.2.2.2 hS hown (hts _ q167) (fun _ h9 => h9) dJ8_grow_2_14 ?_
    refine lv_acmp_eq (rx := some (gh_aE P)) (ry := some (gh_aE P)) (tgt := 45) hx hb dJ8_grow_2_17 (by decide) (fun _ => ?_) (fun c_2 => absurd rfl c_2)
    refine lv_aload_n hx hb dJ8_grow_2_45 rfl (lv_at hl 1 rfl) ?_
    refine lv_bipush (v := 10) hx hb dJ8_grow_2_46 (by decide) ?_
    refine lv_iload_n hx hb dJ8_grow_2_48 rfl (lv_at hl 2 rfl) ?_
    refine va_mmax hx hb (by rw [hml]; exact hl.1.symm) hown (hts _ q347) (hts _ q316) (hts _ q22) (hts _ q317) (Nat.le_of_ble_eq_true rfl) (Nat.le_of_ble_eq_true rfl) (Nat.le_of_ble_eq_true rfl) (Nat.le_of_ble_eq_true rfl) dJ8_grow_2_49 ?_
    refine lv_topi (fun z_0 ez_0 => ?_)
    obtain rfl : z_0 = nI 10 := ez_0.trans (by decide)
    refine gh_newq 1 rfl hx hb hts hown q348 hE.M.2.2.2.2 hE hG hS (nI_pos (by omega)) (nI_clamp (by omega)) (by omega) (Nat.le_of_ble_eq_true rfl) (Nat.le_of_ble_eq_true rfl) dJ8_grow_2_52 (fun q H hN_q hf_q hG hS => ?_)
    refine lv_dup_x1 hx hb dJ8_grow_2_55 rfl rfl ?_
    refine gh_put (C := RJ8) (T := TJ8) (N := 3) (v := .ref q) hx hb hts in_J8 tyJ8 tyJ8_ok nmJ8 hown hE hG hS hN (show gh_up G q _ h = _ by rw [gh_up_n _ _ (gh_nf hh hf_q)]; exact hh) rfl 1 (by decide) q169 (fun _ h9 => h9) rfl rfl rfl (Nat.le_of_ble_eq_true rfl) dJ8_grow_2_56 (fun H locs hG hS => ?_)
    exact gh_aret hx hb hr hlocks (Or.inr ⟨_, rfl⟩) hG hS (⟨hN_q, hf_q, 10, _, by omega, by omega, fun i hi => absurd hi (by omega), rfl⟩) (Nat.le_of_ble_eq_true rfl) (Nat.le_of_ble_eq_true rfl) dJ8_grow_2_59
set_option maxHeartbeats 4000000 in
/-- ArrayList.grow() -/
theorem c_grow (l : Launch) (P : gh_P) (G : gh_G) (h d cap : Nat) (mc : Int32) (f : Nat → Option Nat) (hh : G h = some (gh_o 3 [.int mc, .ref d, .int (nI cap)])) (hd : G d = some (gh_q (gh_cO P) cap f)) (hN : gh_N P ≤ h) (hcd : cap = 0 ∧ d = gh_aE P ∨ 0 < cap ∧ gh_N P ≤ d) (hcap : cap ≤ 64) (hel : ∀ (i y : Nat), i < cap → f i = some y → ∃ v : Int32, G y = some (gh_x v)) : Met l yJ8_grow (ws_ yJ8_grow cJ8_grow 1 (some (.array (.object "java/lang/Object")))) ({ frames := 4, cells := 1, slots := 200, locals := 115 }) (gh_Pc P G [.ref h]) (gh_Qr P (fun q G1 => gh_N P ≤ q ∧ G q = none ∧ ∃ (cap' : Nat) (f' : Nat → Option Nat), cap < cap' ∧ cap' ≤ 200 ∧ (∀ i, i < cap → f' i = f i) ∧ G1 = gh_up (gh_up G q (gh_q (gh_cO P) cap' f')) h (gh_o 3 [.int mc, .ref q, .int (nI cap)]))) 1 200 (gh_A P) := by
  refine gh_met (plainFor_of_name (by decide)) (Nat.le_of_ble_eq_true rfl) ?_
  intro p e s m below meth c hx hb hr hlocks hml hown hin hts hE hG ls hl
  have hS : va_S (gh_A P) s.heap s.heap [] := va_S.rf
  have hl : lv_has ls 1 [(0, .ref h)] := hl
  refine lv_aload_n hx hb dJ8_grow_0 rfl (lv_at hl 0 rfl) ?_
  refine lv_aload_n hx hb dJ8_grow_1 rfl (lv_at hl 0 rfl) ?_
  refine gh_get (C := RJ8) (T := TJ8) (N := 3) (v := .int (nI cap)) hx hb hts in_J8 hown hE hG hh rfl 2 (by decide) q172 (fun _ h9 => h9) rfl dJ8_grow_2 ?_
  refine lv_iconst (v := 1) hx hb dJ8_grow_5 (by decide) ?_
  refine lv_iadd hx hb dJ8_grow_6 ?_
  refine lv_topi (fun z_0 ez_0 => ?_)
  obtain rfl : z_0 = nI (cap + 1) := ez_0.trans (nI_1 cap)
  refine gh_callr (va_runV (As := [.int (nI (cap + 1))]) (rest := []) ⟨hx, hb, hml, hown, hts⟩ (c_grow2 l P G h d cap mc f hh hd hN hcd hcap hel) (cwV 1 hts (lw_V q308 q310 qs3 q20 q311) rfl rfl rfl (by decide +kernel) ⟨Nat.le_of_ble_eq_true rfl, Nat.le_of_ble_eq_true rfl⟩) (gh_preV hE hG hS (gh_recv hE hG hh rfl)) rfl rfl hl.1 rfl (lv_room (Nat.le_of_ble_eq_true rfl)) dJ8_grow_7 ⟨Nat.le_of_ble_eq_true rfl, Nat.le_of_ble_eq_true rfl⟩) hS (fun q G1 H locs hw hG hS => ?_)
  exact gh_aret hx hb hr hlocks (Or.inr ⟨_, rfl⟩) hG hS (hw) (Nat.le_of_ble_eq_true rfl) (Nat.le_of_ble_eq_true rfl) dJ8_grow_10
theorem al_snoc {P : gh_P} {G : gh_G} {h d n cap : Nat} {b : Nat} {mc : Int32} {es : List Nat} {f f' : Nat → Option Nat} (hn : n = es.length) (h1 : G h = some (gh_o 3 [.int mc, .ref d, .int (nI (n + 1))])) (h2 : G d = some (gh_q (gh_cO P) cap (va_up f' n (some b)))) (hf : ∀ i, i < n → f' i = f i) (hes : ∀ (i b : Nat), es[i]? = some b → f i = some b) (hc : n < cap) (hc2 : cap ≤ 1000) (hN : gh_N P ≤ h) (hNd : gh_N P ≤ d) : al_ P G h d mc (es ++ [b]) := by
  subst hn
  refine ⟨cap, _, by rw [List.length_append]; exact h1, h2, by rw [List.length_append]; exact hc, hc2, fun i y hi => ?_, hN, Or.inr ⟨by omega, hNd⟩⟩
  by_cases hil : i < es.length
  · rw [List.getElem?_append_left hil] at hi
    rw [va_up_ne _ _ (Nat.ne_of_lt hil), hf i hil]
    exact hes i y hi
  · rw [List.getElem?_append_right (by omega)] at hi
    have hz : i - es.length < 1 := (List.getElem?_eq_some_iff.mp hi).1
    have hie : i = es.length := by omega
    subst hie
    rw [Nat.sub_self] at hi
    cases hi
    exact va_up_self _ _ _
set_option maxHeartbeats 4000000 in
/-- ArrayList.add(e, elementData, size) -/
theorem c_add2 (l : Launch) (P : gh_P) (G : gh_G) (h d b n : Nat) (mc v : Int32) (es : List Nat) (hal : al_ P G h d mc es) (hn : n = es.length) (hlt : es.length < 64) (hbx : G b = some (gh_x v)) (hel : al_x G es) : Met l yJ8_add_2 (ws_ yJ8_add_2 cJ8_add_2 4 none) ({ frames := 5, cells := 1, slots := 200, locals := 142 }) (gh_Pc P G [.ref h, .ref b, .ref d, .int (nI n)]) (gh_Qv P (fun G1 => ∃ d' : Nat, al_ P G1 h d' mc (es ++ [b]) ∧ (d' = d ∨ G d' = none) ∧ gh_fr (al_F P h d) G G1)) 1 200 (gh_A P) := by
  refine gh_met (plainFor_of_name (by decide)) (Nat.le_of_ble_eq_true rfl) ?_
  intro p e s m below meth c hx hb hr hlocks hml hown hin hts hE hG ls hl
  have hS : va_S (gh_A P) s.heap s.heap [] := va_S.rf
  have hl : lv_has ls 4 [(0, .ref h), (1, .ref b), (2, .ref d), (3, .int (nI n))] := hl
  have hld := al_ld hal
  obtain ⟨cap, f, hh, hd, hle, hc1000, hes, hN, hcd⟩ := hal
  rw [← hn] at hh hlt hle
  refine lv_iload_n hx hb dJ8_add_2_0 rfl (lv_at hl 3 rfl) ?_
  refine lv_aload_n hx hb dJ8_add_2_1 rfl (lv_at hl 2 rfl) ?_
  refine gh_qlen 1 rfl hx hb hE hG hd dJ8_add_2_2 ?_
  refine lv_icmp_ne (tgt := 11) hx hb dJ8_add_2_3 (by decide) (fun c_1 => ?_) (fun c_1 => ?_)
  · have hlc : n < cap := Nat.lt_of_le_of_ne hle (fun q => c_1 (by rw [q]))
    have hNd : gh_N P ≤ d := hcd.elim (fun q => absurd q.1 (by omega)) (fun q => q.2)
    refine lv_aload_n hx hb dJ8_add_2_11 rfl (lv_at hl 2 rfl) ?_
    refine lv_iload_n hx hb dJ8_add_2_12 rfl (lv_at hl 3 rfl) ?_
    refine lv_aload_n hx hb dJ8_add_2_13 rfl (lv_at hl 1 rfl) ?_
    refine gh_aast 1 rfl hx hb hE hG hS hNd hd (gh_anyx hE hG hbx) (vp_in_nI hlc (by omega)) dJ8_add_2_14 (fun H locs hG hS => ?_)
    rw [nI_clamp (by omega)] at hG
    refine lv_aload_n hx hb dJ8_add_2_15 rfl (lv_at hl 0 rfl) ?_
    refine lv_iload_n hx hb dJ8_add_2_16 rfl (lv_at hl 3 rfl) ?_
    refine lv_iconst (v := 1) hx hb dJ8_add_2_17 (by decide) ?_
    refine lv_iadd hx hb dJ8_add_2_18 ?_
    refine lv_topi (fun z_0 ez_0 => ?_)
    obtain rfl : z_0 = nI (n + 1) := ez_0.trans (nI_1 n)
    refine gh_put (C := RJ8) (T := TJ8) (N := 3) (v := .int (nI (n + 1))) hx hb hts in_J8 tyJ8 tyJ8_ok nmJ8 hown hE hG hS hN (show gh_up G d _ h = _ by rw [gh_up_n _ _ hld]; exact hh) rfl 2 (by decide) q172 (fun _ h9 => h9) rfl rfl rfl (Nat.le_of_ble_eq_true rfl) dJ8_add_2_19 (fun H locs hG hS => ?_)
    exact gh_vret hx hb hr hlocks hG hS (⟨d, al_snoc hn (gh_up_s _ _ _) (by rw [gh_up_n _ _ (Ne.symm hld), gh_up_s]) (fun _ _ => rfl) hes hlc hc1000 hN hNd, Or.inl rfl, fun a x ha hF => by rw [gh_up_n _ _ (fun q => hF (Or.inl q)), gh_up_n _ _ (fun q => hF (Or.inr ⟨q, by rw [q]; exact hNd⟩))]; exact ha⟩) (by omega) (by omega) dJ8_add_2_22
  · have hlc : n = cap := (nI_eq (by omega) (by omega)).mp c_1
    subst hlc
    have hel2 : ∀ (i y : Nat), i < n → f i = some y → ∃ v : Int32, G y = some (gh_x v) := fun i y hi hy => by
      have hi2 : i < es.length := by omega
      have h3 := hes i es[i] (List.getElem?_eq_getElem hi2)
      rw [h3] at hy
      cases hy
      exact hel _ (List.getElem_mem hi2)
    refine lv_aload_n hx hb dJ8_add_2_6 rfl (lv_at hl 0 rfl) ?_
    refine gh_callr (va_runV (As := []) (rest := []) ⟨hx, hb, hml, hown, hts⟩ (c_grow l P G h d n mc f hh hd hN hcd (by omega) hel2) (cwV 0 hts (lw_V q304 q306 qs2 q20 q307) rfl rfl rfl (by decide +kernel) ⟨Nat.le_of_ble_eq_true rfl, Nat.le_of_ble_eq_true rfl⟩) (gh_preV hE hG hS (gh_recv hE hG hh rfl)) rfl rfl hl.1 rfl (lv_room (Nat.le_of_ble_eq_true rfl)) dJ8_add_2_7 ⟨Nat.le_of_ble_eq_true rfl, Nat.le_of_ble_eq_true rfl⟩) hS (fun q G1 H locs hw hG hS => ?_)
    obtain ⟨hN_q, hf_q, cap', f', hcc, hc200, hff, rfl⟩ := hw
    have hhq : h ≠ q := gh_nf hh hf_q
    refine lv_astore_n (lv' := [(2, .ref q), (0, .ref h), (1, .ref b), (3, .int (nI n))]) hx hb dJ8_add_2_10 rfl hl (by decide) rfl (fun ls hl => ?_)
    refine lv_aload_n hx hb dJ8_add_2_11 rfl (lv_at hl 0 rfl) ?_
    refine lv_iload_n hx hb dJ8_add_2_12 rfl (lv_at hl 3 rfl) ?_
    refine lv_aload_n hx hb dJ8_add_2_13 rfl (lv_at hl 2 rfl) ?_
    refine gh_aast 1 rfl hx hb hE hG hS hN_q (by rw [gh_up_n _ _ (Ne.symm hhq), gh_up_s]) (gh_anyx (v := v) hE hG (by rw [gh_up_n _ _ (gh_ne hbx hh (by simp)), gh_up_n _ _ (gh_nf hbx hf_q)]; exact hbx)) (vp_in_nI hcc (by omega)) dJ8_add_2_14 (fun H locs hG hS => ?_)
    rw [nI_clamp (by omega)] at hG
    refine lv_aload_n hx hb dJ8_add_2_15 rfl (lv_at hl 1 rfl) ?_
    refine lv_iload_n hx hb dJ8_add_2_16 rfl (lv_at hl 3 rfl) ?_
    refine lv_iconst (v := 1) hx hb dJ8_add_2_17 (by decide) ?_
    refine lv_iadd hx hb dJ8_add_2_18 ?_
    refine lv_topi (fun z_1 ez_1 => ?_)
    obtain rfl : z_1 = nI (n + 1) := ez_1.trans (nI_1 n)
    refine gh_put (C := RJ8) (T := TJ8) (N := 3) (v := .int (nI (n + 1))) hx hb hts in_J8 tyJ8 tyJ8_ok nmJ8 hown hE hG hS hN (show gh_up _ q _ h = _ by rw [gh_up_n _ _ hhq, gh_up_s]) rfl 2 (by decide) q172 (fun _ h9 => h9) rfl rfl rfl (Nat.le_of_ble_eq_true rfl) dJ8_add_2_19 (fun H locs hG hS => ?_)
    exact gh_vret hx hb hr hlocks hG hS (⟨q, al_snoc hn (gh_up_s _ _ _) (by rw [gh_up_n _ _ (Ne.symm hhq), gh_up_s]) hff hes hcc (by omega) hN hN_q, Or.inr hf_q, fun a x ha hF => by rw [gh_up_n _ _ (fun z => hF (Or.inl z)), gh_up_n _ _ (gh_nf ha hf_q), gh_up_n _ _ (fun z => hF (Or.inl z)), gh_up_n _ _ (gh_nf ha hf_q)]; exact ha⟩) (Nat.le_of_ble_eq_true rfl) (Nat.le_of_ble_eq_true rfl) dJ8_add_2_22
set_option maxHeartbeats 4000000 in
/-- ArrayList.add(e) -/
theorem c_add (l : Launch) (P : gh_P) (G : gh_G) (h d b : Nat) (mc v : Int32) (es : List Nat) (hal : al_ P G h d mc es) (hlt : es.length < 64) (hbx : G b = some (gh_x v)) (hel : al_x G es) : Met l yJ8_add (ws_ yJ8_add cJ8_add 2 (some .boolean)) ({ frames := 6, cells := 1, slots := 200, locals := 170 }) (gh_Pc P G [.ref h, .ref b]) (gh_Qi P (fun r G1 => r = 1 ∧ ∃ d' : Nat, al_ P G1 h d' (mc + 1) (es ++ [b]) ∧ (d' = d ∨ G d' = none) ∧ gh_fr (al_F P h d) G G1)) 1 200 (gh_A P) := by
  refine gh_met (plainFor_of_name (by decide)) (Nat.le_of_ble_eq_true rfl) ?_
  intro p e s m below meth c hx hb hr hlocks hml hown hin hts hE hG ls hl
  have hS : va_S (gh_A P) s.heap s.heap [] := va_S.rf
  have hl : lv_has ls 2 [(0, .ref h), (1, .ref b)] := hl
  obtain ⟨hh, hN⟩ : G h = some (gh_o 3 [.int mc, .ref d, .int (nI es.length)]) ∧ gh_N P ≤ h := by obtain ⟨_, _, q1, _, _, _, _, q2, _⟩ := hal; exact ⟨q1, q2⟩
  refine lv_aload_n hx hb dJ8_add_0 rfl (lv_at hl 0 rfl) ?_
  refine lv_dup hx hb dJ8_add_1 rfl ?_
  refine gh_get (C := RJ8) (T := TJ8) (N := 3) (v := .int mc) hx hb hts in_J8 hown hE hG hh rfl 0 (by decide) q176 (u_same (hts _ q175)) rfl dJ8_add_2 ?_
  refine lv_iconst (v := 1) hx hb dJ8_add_5 (by decide) ?_
  refine lv_iadd hx hb dJ8_add_6 ?_
  refine gh_put (C := RJ8) (T := TJ8) (N := 3) (v := .int (mc + 1)) hx hb hts in_J8 tyJ8 tyJ8_ok nmJ8 hown hE hG hS hN hh rfl 0 (by decide) q176 (u_same (hts _ q175)) rfl rfl rfl (Nat.le_of_ble_eq_true rfl) dJ8_add_7 (fun H locs hG hS => ?_)
  have hG : gh_H P (gh_up _ h (gh_o 3 [.int (mc + 1), .ref d, .int (nI es.length)])) H := hG
  have hal1 := al_mc (mc + 1) hal
  refine lv_aload_n hx hb dJ8_add_10 rfl (lv_at hl 0 rfl) ?_
  refine lv_aload_n hx hb dJ8_add_11 rfl (lv_at hl 1 rfl) ?_
  refine lv_aload_n hx hb dJ8_add_12 rfl (lv_at hl 0 rfl) ?_
  refine gh_get (C := RJ8) (T := TJ8) (N := 3) (v := .ref d) hx hb hts in_J8 hown hE hG (gh_up_s _ _ _) rfl 1 (by decide) q169 (fun _ h9 => h9) rfl dJ8_add_13 ?_
  refine lv_aload_n hx hb dJ8_add_16 rfl (lv_at hl 0 rfl) ?_
  refine gh_get (C := RJ8) (T := TJ8) (N := 3) (v := .int (nI es.length)) hx hb hts in_J8 hown hE hG (gh_up_s _ _ _) rfl 2 (by decide) q172 (fun _ h9 => h9) rfl dJ8_add_17 ?_
  have hxb : ∀ (y : Nat) (w : Int32), G y = some (gh_x w) → gh_up G h (gh_o 3 [.int (mc + 1), .ref d, .int (nI es.length)]) y = some (gh_x w) := fun y w q => by rw [gh_up_n _ _ (gh_ne q hh (by simp))]; exact q
  refine gh_callv (va_runV (As := [.ref b, .ref d, .int (nI es.length)]) (rest := []) ⟨hx, hb, hml, hown, hts⟩ (c_add2 l P _ h d b es.length (mc + 1) v es hal1 rfl hlt (hxb b v hbx) (fun y hy => by obtain ⟨w, q⟩ := hel y hy; exact ⟨w, hxb y w q⟩)) (cwV 3 hts (lw_V q300 q302 qs1 q20 q303) rfl rfl rfl (by decide +kernel) ⟨Nat.le_of_ble_eq_true rfl, Nat.le_of_ble_eq_true rfl⟩) (gh_preV hE hG hS (gh_recv hE hG (gh_up_s _ _ _) rfl)) rfl rfl hl.1 rfl (lv_room (Nat.le_of_ble_eq_true rfl)) dJ8_add_20 ⟨Nat.le_of_ble_eq_true rfl, Nat.le_of_ble_eq_true rfl⟩) hS (fun G1 H locs hw hG hS => ?_)
  obtain ⟨d', hw1, hw2, hw3⟩ := hw
  refine lv_iconst (v := 1) hx hb dJ8_add_23 (by decide) ?_
  exact gh_iret hx hb hr hlocks rfl hG hS (⟨rfl, d', hw1, hw2.elim Or.inl (fun q => Or.inr (gh_up_none q)), gh_fr_tr al_fr_up hw3⟩) (Nat.le_of_ble_eq_true rfl) (Nat.le_of_ble_eq_true rfl) dJ8_add_24
set_option maxHeartbeats 4000000 in
/-- ArrayList.size() -/
theorem c_lsize (l : Launch) (P : gh_P) (G : gh_G) (h d : Nat) (mc : Int32) (es : List Nat) (hal : al_ P G h d mc es) : Met l yJ8_size (ws_ yJ8_size cJ8_size 1 (some .int)) ({ frames := 0, cells := 0, slots := 0, locals := 0 }) (gh_Pc P G [.ref h]) (gh_Qi P (fun r G1 => r = nI es.length ∧ G1 = G)) 0 0 (gh_A P) := by
  refine gh_met (plainFor_of_name (by decide)) (Nat.le_of_ble_eq_true rfl) ?_
  intro p e s m below meth c hx hb hr hlocks hml hown hin hts hE hG ls hl
  have hS : va_S (gh_A P) s.heap s.heap [] := va_S.rf
  have hl : lv_has ls 1 [(0, .ref h)] := hl
  obtain ⟨hh, hN⟩ : G h = some (gh_o 3 [.int mc, .ref d, .int (nI es.length)]) ∧ gh_N P ≤ h := by obtain ⟨_, _, q1, _, _, _, _, q2, _⟩ := hal; exact ⟨q1, q2⟩
  refine lv_aload_n hx hb dJ8_size_0 rfl (lv_at hl 0 rfl) ?_
  refine gh_get (C := RJ8) (T := TJ8) (N := 3) (v := .int (nI es.length)) hx hb hts in_J8 hown hE hG hh rfl 2 (by decide) q172 (fun _ h9 => h9) rfl dJ8_size_1 ?_
  exact gh_iret hx hb hr hlocks rfl hG hS (⟨rfl, rfl⟩) (Nat.le_of_ble_eq_true rfl) (Nat.le_of_ble_eq_true rfl) dJ8_size_4
set_option maxHeartbeats 4000000 in
/-- ArrayList.isEmpty() -/
theorem c_lempty (l : Launch) (P : gh_P) (G : gh_G) (h d : Nat) (mc : Int32) (es : List Nat) (hal : al_ P G h d mc es) (hlt : es.length < 1000) : Met l yJ8_isEmpty (ws_ yJ8_isEmpty cJ8_isEmpty 1 (some .boolean)) ({ frames := 0, cells := 0, slots := 0, locals := 0 }) (gh_Pc P G [.ref h]) (gh_Qi P (fun r G1 => r = (if es = [] then 1 else 0) ∧ G1 = G)) 0 0 (gh_A P) := by
  refine gh_met (plainFor_of_name (by decide)) (Nat.le_of_ble_eq_true rfl) ?_
  intro p e s m below meth c hx hb hr hlocks hml hown hin hts hE hG ls hl
  have hS : va_S (gh_A P) s.heap s.heap [] := va_S.rf
  have hl : lv_has ls 1 [(0, .ref h)] := hl
  obtain ⟨hh, hN⟩ : G h = some (gh_o 3 [.int mc, .ref d, .int (nI es.length)]) ∧ gh_N P ≤ h := by obtain ⟨_, _, q1, _, _, _, _, q2, _⟩ := hal; exact ⟨q1, q2⟩
  refine lv_aload_n hx hb dJ8_isEmpty_0 rfl (lv_at hl 0 rfl) ?_
  refine gh_get (C := RJ8) (T := TJ8) (N := 3) (v := .int (nI es.length)) hx hb hts in_J8 hown hE hG hh rfl 2 (by decide) q172 (fun _ h9 => h9) rfl dJ8_isEmpty_1 ?_
  refine lv_if_ne (tgt := 11) hx hb dJ8_isEmpty_4 (by decide) (fun c_1 => ?_) (fun c_1 => ?_)
  · refine lv_iconst (v := 0) hx hb dJ8_isEmpty_11 (by decide) ?_
    exact gh_iret hx hb hr hlocks rfl hG hS (⟨by rw [if_neg (fun q => c_1 (by rw [q]; rfl))], rfl⟩) (Nat.le_of_ble_eq_true rfl) (Nat.le_of_ble_eq_true rfl) dJ8_isEmpty_12
  · refine lv_iconst (v := 1) hx hb dJ8_isEmpty_7 (by decide) ?_
    refine lv_goto (tgt := 12) hx hb dJ8_isEmpty_8 (by decide) ?_
    exact gh_iret hx hb hr hlocks rfl hG hS (⟨by rw [if_pos (List.length_eq_zero_iff.mp ((Nat.eq_zero_or_pos es.length).elim id (fun q => absurd c_1 (nI_ne0 q (by omega)))))], rfl⟩) (Nat.le_of_ble_eq_true rfl) (Nat.le_of_ble_eq_true rfl) dJ8_isEmpty_12
end
section
/-! ArrayList: remove, clear, iterator; its iterator's methods -/
set_option maxRecDepth 100000
theorem al_head {P : gh_P} {G : gh_G} {h d : Nat} {mc : Int32} {es : List Nat} (hal : al_ P G h d mc es) : G h = some (gh_o 3 [.int mc, .ref d, .int (nI es.length)]) ∧ gh_N P ≤ h := by
  obtain ⟨_, _, q1, _, _, _, _, q2, _⟩ := hal
  exact ⟨q1, q2⟩
theorem al_erase {P : gh_P} {G : gh_G} {h d n i cap : Nat} {mc : Int32} {es : List Nat} {f f' : Nat → Option Nat} (hn : es.length = n + 1) (hi : i < n + 1) (h1 : G h = some (gh_o 3 [.int mc, .ref d, .int (nI n)])) (h2 : G d = some (gh_q (gh_cO P) cap f')) (hf : ∀ j, j < n → f' j = if j < i then f j else f (j + 1)) (hes : ∀ (i b : Nat), es[i]? = some b → f i = some b) (hc : n + 1 ≤ cap) (hc2 : cap ≤ 1000) (hN : gh_N P ≤ h) (hNd : gh_N P ≤ d) : al_ P G h d mc (es.eraseIdx i) := by
  have hl : (es.eraseIdx i).length = n := by rw [List.length_eraseIdx_of_lt (by omega)]; omega
  refine ⟨cap, f', by rw [hl]; exact h1, h2, by omega, hc2, fun j y hj => ?_, hN, Or.inr ⟨by omega, hNd⟩⟩
  have hjl : j < n := by
    have := (List.getElem?_eq_some_iff.mp hj).1
    omega
  rw [hf j hjl]
  rw [List.getElem?_eraseIdx] at hj
  by_cases q : j < i
  · rw [if_pos q] at hj ⊢
    exact hes j y hj
  · rw [if_neg q] at hj ⊢
    exact hes (j + 1) y hj
set_option maxHeartbeats 4000000 in
/-- ArrayList.fastRemove(es, i) -/
theorem c_fastRemove (l : Launch) (P : gh_P) (G : gh_G) (h d i n : Nat) (mc : Int32) (es : List Nat) (hal : al_ P G h d mc es) (hn : es.length = n + 1) (hi : i < n + 1) (hel : al_x G es) : Met l yJ8_fastRemove (ws_ yJ8_fastRemove cJ8_fastRemove 4 none) ({ frames := 1, cells := 0, slots := 0, locals := 40 }) (gh_Pc P G [.ref h, .ref d, .int (nI i)]) (gh_Qv P (fun G1 => al_ P G1 h d (mc + 1) (es.eraseIdx i) ∧ gh_fr (al_F P h d) G G1)) 0 0 (gh_A P) := by
  refine gh_met (plainFor_of_name (by decide)) (Nat.le_of_ble_eq_true rfl) ?_
  intro p e s m below meth c hx hb hr hlocks hml hown hin hts hE hG ls hl
  have hS : va_S (gh_A P) s.heap s.heap [] := va_S.rf
  have hl : lv_has ls 4 [(0, .ref h), (1, .ref d), (2, .int (nI i))] := hl
  have hld := al_ld hal
  obtain ⟨cap, f, hh, hd, hle, hc1000, hes, hN, hcd⟩ := hal
  rw [hn] at hh hle
  have hNd : gh_N P ≤ d := hcd.elim (fun q => absurd q.1 (by omega)) (fun q => q.2)
  refine lv_aload_n hx hb dJ8_fastRemove_0 rfl (lv_at hl 0 rfl) ?_
  refine lv_dup hx hb dJ8_fastRemove_1 rfl ?_
  refine gh_get (C := RJ8) (T := TJ8) (N := 3) (v := .int mc) hx hb hts in_J8 hown hE hG hh rfl 0 (by decide) q176 (u_same (hts _ q175)) rfl dJ8_fastRemove_2 ?_
  refine lv_iconst (v := 1) hx hb dJ8_fastRemove_5 (by decide) ?_
  refine lv_iadd hx hb dJ8_fastRemove_6 ?_
  refine gh_put (C := RJ8) (T := TJ8) (N := 3) (v := .int (mc + 1)) hx hb hts in_J8 tyJ8 tyJ8_ok nmJ8 hown hE hG hS hN hh rfl 0 (by decide) q176 (u_same (hts _ q175)) rfl rfl rfl (Nat.le_of_ble_eq_true rfl) dJ8_fastRemove_7 (fun H locs hG hS => ?_)
  have hG : gh_H P (gh_up _ h (gh_o 3 [.int (mc + 1), .ref d, .int (nI (n + 1))])) H := hG
  obtain ⟨G2, hG2⟩ : ∃ g, g = gh_up G h (gh_o 3 [.int (mc + 1), .ref d, .int (nI (n + 1))]) := ⟨_, rfl⟩
  rw [← hG2] at hG
  have hh2 : G2 h = some (gh_o 3 [.int (mc + 1), .ref d, .int (nI (n + 1))]) := by rw [hG2, gh_up_s]
  have hd2 : G2 d = some (gh_q (gh_cO P) cap f) := by rw [hG2, gh_up_n _ _ (Ne.symm hld)]; exact hd
  have hfr2 : gh_fr (al_F P h d) G G2 := by rw [hG2]; exact al_fr_up
  refine lv_aload_n hx hb dJ8_fastRemove_10 rfl (lv_at hl 0 rfl) ?_
  refine gh_get (C := RJ8) (T := TJ8) (N := 3) (v := .int (nI (n + 1))) hx hb hts in_J8 hown hE hG hh2 rfl 2 (by decide) q172 (fun _ h9 => h9) rfl dJ8_fastRemove_11 ?_
  refine lv_iconst (v := 1) hx hb dJ8_fastRemove_14 (by decide) ?_
  refine lv_isub hx hb dJ8_fastRemove_15 ?_
  refine lv_topi (fun z_0 ez_0 => ?_)
  obtain rfl : z_0 = nI n := ez_0.trans (nI_pred n)
  refine lv_dup hx hb dJ8_fastRemove_16 rfl ?_
  refine lv_istore_n (lv' := [(3, .int (nI n)), (0, .ref h), (1, .ref d), (2, .int (nI i))]) hx hb dJ8_fastRemove_17 rfl hl (by decide) rfl (fun ls hl => ?_)
  refine lv_iload_n hx hb dJ8_fastRemove_18 rfl (lv_at hl 3 rfl) ?_
  refine lv_icmp_le (tgt := 34) hx hb dJ8_fastRemove_19 (by decide) (fun c_1 => ?_) (fun c_1 => ?_)
  · have hin2 : i = n := by rw [nI_leI (by omega) (by omega)] at c_1; omega
    have hff : ∀ j, j < n → f j = if j < i then f j else f (j + 1) := fun j hj => by rw [if_pos (by omega)]
    refine lv_aload_n hx hb dJ8_fastRemove_34 rfl (lv_at hl 2 rfl) ?_
    refine lv_aload_n hx hb dJ8_fastRemove_35 rfl (lv_at hl 1 rfl) ?_
    refine lv_iload_n hx hb dJ8_fastRemove_36 rfl (lv_at hl 0 rfl) ?_
    refine lv_dup_x1 hx hb dJ8_fastRemove_37 rfl rfl ?_
    refine gh_put (C := RJ8) (T := TJ8) (N := 3) (v := .int (nI n)) hx hb hts in_J8 tyJ8 tyJ8_ok nmJ8 hown hE hG hS hN hh2 rfl 2 (by decide) q172 (fun _ h9 => h9) rfl rfl rfl (Nat.le_of_ble_eq_true rfl) dJ8_fastRemove_38 (fun H locs hG hS => ?_)
    have hG : gh_H P (gh_up _ h (gh_o 3 [.int (mc + 1), .ref d, .int (nI n)])) H := hG
    refine lv_null hx hb dJ8_fastRemove_41 ?_
    refine gh_aastN 1 rfl hx hb hE hG hS hNd (show gh_up G2 h _ d = _ by rw [gh_up_n _ _ (Ne.symm hld)]; exact hd2) (vp_in_nI (by omega) (by omega)) dJ8_fastRemove_42 (fun H locs hG hS => ?_)
    rw [nI_clamp (by omega)] at hG
    exact gh_vret hx hb hr hlocks hG hS (⟨al_erase (f := f) hn hi (by rw [gh_up_n _ _ hld, gh_up_s]) (gh_up_s _ _ _) (fun j hj => by rw [va_up_ne _ _ (Nat.ne_of_lt hj)]; exact hff j hj) hes hle hc1000 hN hNd, gh_fr_tr hfr2 (fun a x ha hF => by rw [gh_up_n _ _ (fun q => hF (Or.inr ⟨q, by rw [q]; exact hNd⟩)), gh_up_n _ _ (fun q => hF (Or.inl q))]; exact ha)⟩) (Nat.le_of_ble_eq_true rfl) (Nat.le_of_ble_eq_true rfl) dJ8_fastRemove_43
  · have hin2 : i < n := by rw [nI_leI (by omega) (by omega)] at c_1; omega
    refine lv_aload_n hx hb dJ8_fastRemove_22 rfl (lv_at hl 2 rfl) ?_
    refine lv_iload_n hx hb dJ8_fastRemove_23 rfl (lv_at hl 3 rfl) ?_
    refine lv_iconst (v := 1) hx hb dJ8_fastRemove_24 (by decide) ?_
    refine lv_iadd hx hb dJ8_fastRemove_25 ?_
    refine lv_aload_n hx hb dJ8_fastRemove_26 rfl (lv_at hl 2 rfl) ?_
    refine lv_iload_n hx hb dJ8_fastRemove_27 rfl (lv_at hl 3 rfl) ?_
    refine lv_iload_n hx hb dJ8_fastRemove_28 rfl (lv_at hl 0 rfl) ?_
    refine lv_iload_n hx hb dJ8_fastRemove_29 rfl (lv_at hl 3 rfl) ?_
    refine lv_isub hx hb dJ8_fastRemove_30 ?_
    have e1 : nI i + 1 = nI (i + 1) := nI_1 i
    have e2 : nI n - nI i = nI (n - i) := pk_sub (by omega)
    rw [e1, e2]
    refine gh_copy hx hb (by rw [hml]; exact hl.1.symm) hts hown q430 hE hG hS hNd hNd hd2 hd2 (nI_pos (by omega)) (nI_pos (by omega)) (nI_pos (by omega)) (by rw [nI_clamp (by omega), nI_clamp (by omega)]; omega) (by rw [nI_clamp (by omega), nI_clamp (by omega)]; omega) (fun j hj y hy => ?_) (Nat.le_of_ble_eq_true rfl) (Nat.le_of_ble_eq_true rfl) dJ8_fastRemove_31 (fun H locs hG hS => ?_)
    · rw [nI_clamp (by omega)] at hj hy
      have hj2 : i + 1 + j < es.length := by omega
      have h3 := hes (i + 1 + j) es[i + 1 + j] (List.getElem?_eq_getElem hj2)
      rw [h3] at hy
      cases hy
      obtain ⟨v, hv⟩ := hel _ (List.getElem_mem hj2)
      exact gh_anyx hE hG (v := v) (by rw [hG2, gh_up_n _ _ (gh_ne hv hh (by simp))]; exact hv)
    · rw [nI_clamp (by omega), nI_clamp (by omega), nI_clamp (by omega)] at hG
      obtain ⟨G3, hG3⟩ : ∃ g, g = gh_up G2 d (gh_q (gh_cO P) cap (va_cpy f f (i + 1) i (n - i))) := ⟨_, rfl⟩
      rw [← hG3] at hG
      have hh3 : G3 h = some (gh_o 3 [.int (mc + 1), .ref d, .int (nI (n + 1))]) := by rw [hG3, gh_up_n _ _ hld]; exact hh2
      have hd3 : G3 d = some (gh_q (gh_cO P) cap (va_cpy f f (i + 1) i (n - i))) := by rw [hG3, gh_up_s]
      have hfr3 : gh_fr (al_F P h d) G G3 := gh_fr_tr hfr2 (fun a x ha hF => by rw [hG3, gh_up_n _ _ (fun q => hF (Or.inr ⟨q, by rw [q]; exact hNd⟩))]; exact ha)
      have hff : ∀ j, j < n → va_cpy f f (i + 1) i (n - i) j = if j < i then f j else f (j + 1) := fun j hj => by
        by_cases q : j < i
        · rw [if_pos q, pk_cpy_out (Or.inl q)]
        · rw [if_neg q, pk_cpy_in (by omega) (by omega)]
          congr 1
          omega
      refine lv_aload_n hx hb dJ8_fastRemove_34 rfl (lv_at hl 2 rfl) ?_
      refine lv_aload_n hx hb dJ8_fastRemove_35 rfl (lv_at hl 1 rfl) ?_
      refine lv_iload_n hx hb dJ8_fastRemove_36 rfl (lv_at hl 0 rfl) ?_
      refine lv_dup_x1 hx hb dJ8_fastRemove_37 rfl rfl ?_
      refine gh_put (C := RJ8) (T := TJ8) (N := 3) (v := .int (nI n)) hx hb hts in_J8 tyJ8 tyJ8_ok nmJ8 hown hE hG hS hN hh3 rfl 2 (by decide) q172 (fun _ h9 => h9) rfl rfl rfl (Nat.le_of_ble_eq_true rfl) dJ8_fastRemove_38 (fun H locs hG hS => ?_)
      have hG : gh_H P (gh_up _ h (gh_o 3 [.int (mc + 1), .ref d, .int (nI n)])) H := hG
      refine lv_null hx hb dJ8_fastRemove_41 ?_
      refine gh_aastN 1 rfl hx hb hE hG hS hNd (show gh_up G3 h _ d = _ by rw [gh_up_n _ _ (Ne.symm hld)]; exact hd3) (vp_in_nI (by omega) (by omega)) dJ8_fastRemove_42 (fun H locs hG hS => ?_)
      rw [nI_clamp (by omega)] at hG
      exact gh_vret hx hb hr hlocks hG hS (⟨al_erase (f := f) hn hi (by rw [gh_up_n _ _ hld, gh_up_s]) (gh_up_s _ _ _) (fun j hj => by rw [va_up_ne _ _ (Nat.ne_of_lt hj)]; exact hff j hj) hes hle hc1000 hN hNd, gh_fr_tr hfr3 (fun a x ha hF => by rw [gh_up_n _ _ (fun q => hF (Or.inr ⟨q, by rw [q]; exact hNd⟩)), gh_up_n _ _ (fun q => hF (Or.inl q))]; exact ha)⟩) (Nat.le_of_ble_eq_true rfl) (Nat.le_of_ble_eq_true rfl) dJ8_fastRemove_43
set_option maxHeartbeats 4000000 in
/-- ArrayList.remove(i) -/
theorem c_lremove (l : Launch) (P : gh_P) (G : gh_G) (h d i n : Nat) (mc : Int32) (es : List Nat) (hal : al_ P G h d mc es) (hn : es.length = n + 1) (hn2 : n < 1000) (hi : i < n + 1) (hel : al_x G es) : Met l yJ8_remove (ws_ yJ8_remove cJ8_remove 4 (some (.object "java/lang/Object"))) ({ frames := 2, cells := 0, slots := 0, locals := 65 }) (gh_Pc P G [.ref h, .int (nI i)]) (gh_Qr P (fun b G1 => es[i]? = some b ∧ al_ P G1 h d (mc + 1) (es.eraseIdx i) ∧ gh_fr (al_F P h d) G G1)) 0 0 (gh_A P) := by
  refine gh_met (plainFor_of_name (by decide)) (Nat.le_of_ble_eq_true rfl) ?_
  intro p e s m below meth c hx hb hr hlocks hml hown hin hts hE hG ls hl
  have hS : va_S (gh_A P) s.heap s.heap [] := va_S.rf
  have hl : lv_has ls 4 [(0, .ref h), (1, .int (nI i))] := hl
  obtain ⟨cap, f, hh, hd, hle, hc1000, hes, hN, hcd⟩ := id hal
  rw [hn] at hh hle
  refine lv_iload_n hx hb dJ8_remove_0 rfl (lv_at hl 1 rfl) ?_
  refine lv_aload_n hx hb dJ8_remove_1 rfl (lv_at hl 0 rfl) ?_
  refine gh_get (C := RJ8) (T := TJ8) (N := 3) (v := .int (nI (n + 1))) hx hb hts in_J8 hown hE hG hh rfl 2 (by decide) q172 (fun _ h9 => h9) rfl dJ8_remove_2 ?_
  refine gh_calli (va_runS (As := [.int (nI i), .int (nI (n + 1))]) (rest := []) ⟨hx, hb, hml, hown, hts⟩ (c_check l P G i (n + 1) hi (by omega)) (va_cwS 2 hts (lw_S q420 q421 q29 q422) rfl rfl rfl (by decide +kernel) ⟨Nat.le_of_ble_eq_true rfl, Nat.le_of_ble_eq_true rfl⟩) (gh_preS hE hG hS) rfl rfl hl.1 rfl (lv_room (Nat.le_of_ble_eq_true rfl)) dJ8_remove_5 ⟨Nat.le_of_ble_eq_true rfl, Nat.le_of_ble_eq_true rfl⟩) hS (fun r G1 H locs hw hG hS => ?_)
  rw [hw] at hG
  refine lv_pop hx hb dJ8_remove_8 rfl ?_
  refine lv_aload_n hx hb dJ8_remove_9 rfl (lv_at hl 0 rfl) ?_
  refine gh_get (C := RJ8) (T := TJ8) (N := 3) (v := .ref d) hx hb hts in_J8 hown hE hG hh rfl 1 (by decide) q169 (fun _ h9 => h9) rfl dJ8_remove_10 ?_
  refine lv_astore_n (lv' := [(2, .ref d), (0, .ref h), (1, .int (nI i))]) hx hb dJ8_remove_13 rfl hl (by decide) rfl (fun ls hl => ?_)
  refine lv_aload_n hx hb dJ8_remove_14 rfl (lv_at hl 0 rfl) ?_
  refine lv_iload_n hx hb dJ8_remove_15 rfl (lv_at hl 2 rfl) ?_
  have hil : i < es.length := by omega
  refine gh_aald 1 rfl hx hb hE hG hd (vp_in_nI (by omega) (by omega)) (x := es[i]) (by rw [nI_clamp (by omega)]; exact hes i _ (List.getElem?_eq_getElem hil)) dJ8_remove_16 ?_
  refine lv_astore_n (lv' := [(3, .ref es[i]), (2, .ref d), (0, .ref h), (1, .int (nI i))]) hx hb dJ8_remove_17 rfl hl (by decide) rfl (fun ls hl => ?_)
  refine lv_aload_n hx hb dJ8_remove_18 rfl (lv_at hl 2 rfl) ?_
  refine lv_aload_n hx hb dJ8_remove_19 rfl (lv_at hl 1 rfl) ?_
  refine lv_iload_n hx hb dJ8_remove_20 rfl (lv_at hl 3 rfl) ?_
  refine gh_callv (va_runV (As := [.ref d, .int (nI i)]) (rest := []) ⟨hx, hb, hml, hown, hts⟩ (c_fastRemove l P G h d i n mc es hal hn hi hel) (cwV 2 hts (lw_V q426 q428 qs4 q20 q429) rfl rfl rfl (by decide +kernel) ⟨Nat.le_of_ble_eq_true rfl, Nat.le_of_ble_eq_true rfl⟩) (gh_preV hE hG hS (gh_recv hE hG hh rfl)) rfl rfl hl.1 rfl (lv_room (Nat.le_of_ble_eq_true rfl)) dJ8_remove_21 ⟨Nat.le_of_ble_eq_true rfl, Nat.le_of_ble_eq_true rfl⟩) hS (fun G1 H locs hw hG hS => ?_)
  refine lv_aload_n hx hb dJ8_remove_24 rfl (lv_at hl 0 rfl) ?_
  exact gh_aret hx hb hr hlocks (Or.inl ⟨_, rfl⟩) hG hS (⟨List.getElem?_eq_getElem hil, hw⟩) (Nat.le_of_ble_eq_true rfl) (Nat.le_of_ble_eq_true rfl) dJ8_remove_25
set_option maxHeartbeats 4000000 in
/-- clear()'s loop: the array's first places get null -/
theorem c_clear_loop {p : Program} {l : Launch} {e : Env} {s : State} {m : MethodId} {args : Array Value} {below : List Frame} {meth : Method} {c : Code} {R : Room} {Q : State → Prop} {P : gh_P} {h d cap n : Nat} {G0 : gh_G} (hx : p.tables.exec = Jvm.exec) (hb : c.code = cJ8_clear) (hE : gh_E P s) (hNd : 0 < n → gh_N P ≤ d) (hc : n ≤ cap) (hc2 : cap ≤ 1000)
    (kk : ∀ (G : gh_G) (f : Nat → Option Nat) (H : Heap) (locs : List Loc) (ls : Array Slot), G d = some (gh_q (gh_cO P) cap f) → gh_H P G H → va_S (gh_A P) s.heap H locs → (∀ a, (a = d → n = 0) → G a = G0 a) → lv_has ls 4 [(3, .int (nI n)), (2, .int (nI n)), (1, .ref d), (0, .ref h)] → W p l e R s m args below meth c H locs 0 0 Q (F0 m 42 ls [])) :
    ∀ (k i : Nat) (G : gh_G) (f : Nat → Option Nat) (H : Heap) (locs : List Loc) (ls : Array Slot), i ≤ n → n < i + k → G d = some (gh_q (gh_cO P) cap f) → gh_H P G H → va_S (gh_A P) s.heap H locs → (∀ a, (a = d → n = 0) → G a = G0 a) → lv_has ls 4 [(3, .int (nI i)), (2, .int (nI n)), (1, .ref d), (0, .ref h)] → W p l e R s m args below meth c H locs 0 0 Q (F0 m 27 ls []) := by
  intro k
  induction k with
  | zero =>
    intro i G f H locs ls h1 h2
    exact absurd h2 (by omega)
  | succ k ih =>
    intro i G f H locs ls hi hk hd hG hS hfr hl
    refine lv_iload_n hx hb dJ8_clear_27 rfl (lv_at hl 0 rfl) ?_
    refine lv_iload_n hx hb dJ8_clear_28 rfl (lv_at hl 1 rfl) ?_
    refine lv_icmp_ge (tgt := 42) hx hb dJ8_clear_29 (by decide) (fun c_1 => ?_) (fun c_1 => ?_)
    · have hin : i = n := by rw [nI_leI (by omega) (by omega)] at c_1; omega
      subst hin
      exact kk G f H locs ls hd hG hS hfr hl
    · have hin : i < n := by rw [nI_leI (by omega) (by omega)] at c_1; omega
      refine lv_aload_n hx hb dJ8_clear_32 rfl (lv_at hl 2 rfl) ?_
      refine lv_iload_n hx hb dJ8_clear_33 rfl (lv_at hl 0 rfl) ?_
      refine lv_null hx hb dJ8_clear_34 ?_
      refine gh_aastN 1 rfl hx hb hE hG hS (hNd (by omega)) hd (vp_in_nI (by omega) (by omega)) dJ8_clear_35 (fun H locs hG hS => ?_)
      refine lv_iinc (v := nI (i + 1)) (lv' := [(3, .int (nI (i + 1))), (2, .int (nI n)), (1, .ref d), (0, .ref h)]) hx hb dJ8_clear_36 hl (k := 0) rfl (nI_1 i) (by decide) rfl (fun ls hl => ?_)
      refine lv_goto (tgt := 27) hx hb dJ8_clear_39 (by decide) ?_
      exact ih (i + 1) _ _ H locs ls hin (by omega) (gh_up_s _ _ _) hG hS (fun a ha => by rw [gh_up_n _ _ (fun q => by have := ha q; omega)]; exact hfr a ha) hl
set_option maxHeartbeats 4000000 in
/-- ArrayList.clear() -/
theorem c_lclear (l : Launch) (P : gh_P) (G : gh_G) (h d : Nat) (mc : Int32) (es : List Nat) (hal : al_ P G h d mc es) : Met l yJ8_clear (ws_ yJ8_clear cJ8_clear 4 none) ({ frames := 0, cells := 0, slots := 0, locals := 0 }) (gh_Pc P G [.ref h]) (gh_Qv P (fun G1 => al_ P G1 h d (mc + 1) [] ∧ gh_fr (al_F P h d) G G1)) 0 0 (gh_A P) := by
  refine gh_met (plainFor_of_name (by decide)) (Nat.le_of_ble_eq_true rfl) ?_
  intro p e s m below meth c hx hb hr hlocks hml hown hin hts hE hG ls hl
  have hS : va_S (gh_A P) s.heap s.heap [] := va_S.rf
  have hl : lv_has ls 4 [(0, .ref h)] := hl
  have hld := al_ld hal
  obtain ⟨cap, f, hh, hd, hle, hc1000, hes, hN, hcd⟩ := id hal
  obtain ⟨n, hn⟩ : ∃ n : Nat, n = es.length := ⟨_, rfl⟩
  rw [← hn] at hh hle
  refine lv_aload_n hx hb dJ8_clear_0 rfl (lv_at hl 0 rfl) ?_
  refine lv_dup hx hb dJ8_clear_1 rfl ?_
  refine gh_get (C := RJ8) (T := TJ8) (N := 3) (v := .int mc) hx hb hts in_J8 hown hE hG hh rfl 0 (by decide) q176 (u_same (hts _ q175)) rfl dJ8_clear_2 ?_
  refine lv_iconst (v := 1) hx hb dJ8_clear_5 (by decide) ?_
  refine lv_iadd hx hb dJ8_clear_6 ?_
  refine gh_put (C := RJ8) (T := TJ8) (N := 3) (v := .int (mc + 1)) hx hb hts in_J8 tyJ8 tyJ8_ok nmJ8 hown hE hG hS hN hh rfl 0 (by decide) q176 (u_same (hts _ q175)) rfl rfl rfl (Nat.le_of_ble_eq_true rfl) dJ8_clear_7 (fun H locs hG hS => ?_)
  refine lv_aload_n hx hb dJ8_clear_10 rfl (lv_at hl 0 rfl) ?_
  refine gh_get (C := RJ8) (T := TJ8) (N := 3) (v := .ref d) hx hb hts in_J8 hown hE hG (gh_up_s _ _ _) rfl 1 (by decide) q169 (fun _ h9 => h9) rfl dJ8_clear_11 ?_
  refine lv_astore_n (lv' := [(1, .ref d), (0, .ref h)]) hx hb dJ8_clear_14 rfl hl (by decide) rfl (fun ls hl => ?_)
  refine lv_aload_n hx hb dJ8_clear_15 rfl (lv_at hl 1 rfl) ?_
  refine gh_get (C := RJ8) (T := TJ8) (N := 3) (v := .int (nI n)) hx hb hts in_J8 hown hE hG (gh_up_s _ _ _) rfl 2 (by decide) q172 (fun _ h9 => h9) rfl dJ8_clear_16 ?_
  refine lv_istore_n (lv' := [(2, .int (nI n)), (1, .ref d), (0, .ref h)]) hx hb dJ8_clear_19 rfl hl (by decide) rfl (fun ls hl => ?_)
  refine lv_aload_n hx hb dJ8_clear_20 rfl (lv_at hl 2 rfl) ?_
  refine lv_iconst (v := 0) hx hb dJ8_clear_21 (by decide) ?_
  refine lv_dup_x1 hx hb dJ8_clear_22 rfl rfl ?_
  refine gh_put (C := RJ8) (T := TJ8) (N := 3) (v := .int 0) hx hb hts in_J8 tyJ8 tyJ8_ok nmJ8 hown hE hG hS hN (gh_up_s _ _ _) rfl 2 (by decide) q172 (fun _ h9 => h9) rfl rfl rfl (Nat.le_of_ble_eq_true rfl) dJ8_clear_23 (fun H locs hG hS => ?_)
  rw [gh_up_up] at hG
  refine lv_istore_n (lv' := [(3, .int 0), (2, .int (nI n)), (1, .ref d), (0, .ref h)]) hx hb dJ8_clear_26 rfl hl (by decide) rfl (fun ls hl => ?_)
  have hl : lv_has ls 4 [(3, .int (nI 0)), (2, .int (nI n)), (1, .ref d), (0, .ref h)] := hl
  refine c_clear_loop (G0 := gh_up G h (gh_o 3 [.int (mc + 1), .ref d, .int 0])) (cap := cap) hx hb hE (fun q => hcd.elim (fun z => absurd z.1 (by omega)) (fun z => z.2)) hle hc1000 (fun G1 f1 H locs ls hd1 hG hS hfr hl => ?_) (n + 1) 0 _ f H locs ls (Nat.zero_le _) (by omega) (by rw [gh_up_n _ _ (Ne.symm hld)]; exact hd) hG hS (fun _ _ => rfl) hl
  exact gh_vret hx hb hr hlocks hG hS (⟨⟨cap, f1, by rw [hfr h (fun q => absurd q hld), gh_up_s]; rfl, hd1, Nat.zero_le _, hc1000, fun i b q => by simp at q, hN, hcd⟩, fun a x ha hF => by rw [hfr a (fun q => hcd.elim (fun z => by have := z.1; omega) (fun z => absurd (Or.inr ⟨q, by rw [q]; exact z.2⟩) hF)), gh_up_n _ _ (fun q => hF (Or.inl q))]; exact ha⟩) (Nat.le_of_ble_eq_true rfl) (Nat.le_of_ble_eq_true rfl) dJ8_clear_42
set_option maxHeartbeats 4000000 in
/-- ArrayList.Itr(list) -/
theorem c_itr_init (l : Launch) (P : gh_P) (G : gh_G) (t h : Nat) (mc : Int32) (v1 v2 : Value) (ht : G t = some (gh_o 4 [.int 0, .int 0, .int 0, .null])) (hh : G h = some (gh_o 3 [.int mc, v1, v2])) (hN : gh_N P ≤ t) : Met l yJ15_init (ws_ yJ15_init cJ15_init 2 none) ({ frames := 1, cells := 0, slots := 0, locals := 12 }) (gh_Pc P G [.ref t, .ref h]) (gh_Qv P (fun G1 => G1 = gh_up G t (gh_o 4 [.int 0, .int (-1), .int mc, .ref h]))) 0 0 (gh_A P) := by
  refine gh_met (plainFor_of_name (by decide)) (Nat.le_of_ble_eq_true rfl) ?_
  intro p e s m below meth c hx hb hr hlocks hml hown hin hts hE hG ls hl
  have hS : va_S (gh_A P) s.heap s.heap [] := va_S.rf
  have hl : lv_has ls 2 [(0, .ref t), (1, .ref h)] := hl
  have hht : h ≠ t := gh_ne hh ht (by simp)
  refine lv_aload_n hx hb dJ15_init_0 rfl (lv_at hl 0 rfl) ?_
  refine lv_aload_n hx hb dJ15_init_1 rfl (lv_at hl 1 rfl) ?_
  refine gh_putF (C := RJ15) (T := TJ15) (N := 4) (v := .ref h) hx hb hts in_J15 tyJ15 tyJ15_ok nmJ15 hown hE hG hS hN ht rfl 3 (by decide) q462 (fun _ h9 => h9) rfl hin rfl rfl rfl (Nat.le_of_ble_eq_true rfl) dJ15_init_2 (fun H locs hG hS => ?_)
  refine lv_aload_n hx hb dJ15_init_5 rfl (lv_at hl 0 rfl) ?_
  refine W.objInit hx hb hown (hts _ q458) (hts _ q38) (hts _ q39) rfl (by rw [hml]; exact hl.1) rfl dJ15_init_6 (Nat.le_of_ble_eq_true rfl) (Nat.le_of_ble_eq_true rfl) ?_
  refine W.eq (g2 := F0 m 9 ls []) rfl ?_
  refine lv_aload_n hx hb dJ15_init_9 rfl (lv_at hl 0 rfl) ?_
  refine lv_iconst (v := (-1)) hx hb dJ15_init_10 (by decide) ?_
  refine gh_put (C := RJ15) (T := TJ15) (N := 4) (v := .int (-1)) hx hb hts in_J15 tyJ15 tyJ15_ok nmJ15 hown hE hG hS hN (gh_up_s _ _ _) rfl 1 (by decide) q460 (fun _ h9 => h9) rfl rfl rfl (Nat.le_of_ble_eq_true rfl) dJ15_init_11 (fun H locs hG hS => ?_)
  rw [gh_up_up] at hG
  refine lv_aload_n hx hb dJ15_init_14 rfl (lv_at hl 0 rfl) ?_
  refine lv_aload_n hx hb dJ15_init_15 rfl (lv_at hl 0 rfl) ?_
  refine gh_get (C := RJ15) (T := TJ15) (N := 4) (v := .ref h) hx hb hts in_J15 hown hE hG (gh_up_s _ _ _) rfl 3 (by decide) q462 (fun _ h9 => h9) rfl dJ15_init_16 ?_
  refine gh_get (C := RJ8) (T := TJ8) (N := 3) (v := .int mc) hx hb hts in_J8 hown hE hG (show gh_up G t _ h = _ by rw [gh_up_n _ _ hht]; exact hh) rfl 0 (by decide) q174 (u_same (hts _ q175)) rfl dJ15_init_19 ?_
  refine gh_put (C := RJ15) (T := TJ15) (N := 4) (v := .int mc) hx hb hts in_J15 tyJ15 tyJ15_ok nmJ15 hown hE hG hS hN (gh_up_s _ _ _) rfl 2 (by decide) q461 (fun _ h9 => h9) rfl rfl rfl (Nat.le_of_ble_eq_true rfl) dJ15_init_22 (fun H locs hG hS => ?_)
  rw [gh_up_up] at hG
  exact gh_vret hx hb hr hlocks hG hS (rfl) (Nat.le_of_ble_eq_true rfl) (Nat.le_of_ble_eq_true rfl) dJ15_init_25
set_option maxHeartbeats 4000000 in
/-- ArrayList.iterator() -/
theorem c_iterator (l : Launch) (P : gh_P) (G : gh_G) (h d : Nat) (mc : Int32) (es : List Nat) (hal : al_ P G h d mc es) : Met l yJ8_iterator (ws_ yJ8_iterator cJ8_iterator 1 (some (.object "java/util/Iterator"))) ({ frames := 2, cells := 1, slots := 4, locals := 40 }) (gh_Pc P G [.ref h]) (gh_Qr P (fun t G1 => gh_N P ≤ t ∧ G t = none ∧ G1 = gh_up G t (gh_o 4 [.int 0, .int (-1), .int mc, .ref h]))) 1 4 (gh_A P) := by
  refine gh_met (plainFor_of_name (by decide)) (Nat.le_of_ble_eq_true rfl) ?_
  intro p e s m below meth c hx hb hr hlocks hml hown hin hts hE hG ls hl
  have hS : va_S (gh_A P) s.heap s.heap [] := va_S.rf
  have hl : lv_has ls 1 [(0, .ref h)] := hl
  obtain ⟨hh, hN⟩ := al_head hal
  refine gh_new (ci := 4) (fs := [.int 0, .int 0, .int 0, .null]) (C := RJ15) (T := TJ15) (N := 4) hx hb hts in_J15 tyJ15 tyJ15_ok hown q453 q454 q31 hE hG hS rfl (fun j hj => by rcases (show j = 0 ∨ j = 1 ∨ j = 2 ∨ j = 3 by omega) with rfl | rfl | rfl | rfl <;> rfl) (Nat.le_of_ble_eq_true rfl) (Nat.le_of_ble_eq_true rfl) dJ8_iterator_0 (fun t H hN_t hf_t hG hS => ?_)
  refine lv_dup hx hb dJ8_iterator_3 rfl ?_
  refine lv_aload_n hx hb dJ8_iterator_4 rfl (lv_at hl 0 rfl) ?_
  refine gh_callv (va_runI (As := [.ref h]) (rest := [.ref t]) ⟨hx, hb, hml, hown, hts⟩ (c_itr_init l P _ t h mc (.ref d) (.int (nI es.length)) (gh_up_s _ _ _) (by rw [gh_up_n _ _ (gh_nf hh hf_t)]; exact hh) hN_t) (cwI 1 hts (lw_meth q457) rfl rfl rfl (hts _ q31) (hts _ q455) (hts _ q456) rfl (by decide +kernel) ⟨Nat.le_of_ble_eq_true rfl, Nat.le_of_ble_eq_true rfl⟩) (gh_preS hE hG hS) rfl rfl hl.1 rfl (lv_room (Nat.le_of_ble_eq_true rfl)) dJ8_iterator_5 ⟨Nat.le_of_ble_eq_true rfl, Nat.le_of_ble_eq_true rfl⟩) hS (fun G1 H locs hw hG hS => ?_)
  rw [hw, gh_up_up] at hG
  exact gh_aret hx hb hr hlocks (Or.inl ⟨_, rfl⟩) hG hS (⟨hN_t, hf_t, rfl⟩) (Nat.le_of_ble_eq_true rfl) (Nat.le_of_ble_eq_true rfl) dJ8_iterator_8
set_option maxHeartbeats 4000000 in
/-- Itr.hasNext() -/
theorem c_hasNext (l : Launch) (P : gh_P) (G : gh_G) (t h d i : Nat) (lr mc mc2 : Int32) (es : List Nat) (ht : G t = some (gh_o 4 [.int (nI i), .int lr, .int mc, .ref h])) (hal : al_ P G h d mc2 es) (hi : i ≤ es.length) (hn : es.length < 1000) : Met l yJ15_hasNext (ws_ yJ15_hasNext cJ15_hasNext 1 (some .boolean)) ({ frames := 0, cells := 0, slots := 0, locals := 0 }) (gh_Pc P G [.ref t]) (gh_Qi P (fun r G1 => r = (if i < es.length then 1 else 0) ∧ G1 = G)) 0 0 (gh_A P) := by
  refine gh_met (plainFor_of_name (by decide)) (Nat.le_of_ble_eq_true rfl) ?_
  intro p e s m below meth c hx hb hr hlocks hml hown hin hts hE hG ls hl
  have hS : va_S (gh_A P) s.heap s.heap [] := va_S.rf
  have hl : lv_has ls 1 [(0, .ref t)] := hl
  obtain ⟨hh, hN⟩ := al_head hal
  refine lv_aload_n hx hb dJ15_hasNext_0 rfl (lv_at hl 0 rfl) ?_
  refine gh_get (C := RJ15) (T := TJ15) (N := 4) (v := .int (nI i)) hx hb hts in_J15 hown hE hG ht rfl 0 (by decide) q459 (fun _ h9 => h9) rfl dJ15_hasNext_1 ?_
  refine lv_aload_n hx hb dJ15_hasNext_4 rfl (lv_at hl 0 rfl) ?_
  refine gh_get (C := RJ15) (T := TJ15) (N := 4) (v := .ref h) hx hb hts in_J15 hown hE hG ht rfl 3 (by decide) q462 (fun _ h9 => h9) rfl dJ15_hasNext_5 ?_
  refine gh_getN (C := RJ8) (T := TJ8) (N := 3) (v := .int (nI es.length)) hx hb hts in_J8 hown hE hG hh rfl 2 (by decide) (hE.w 4 rfl) (fun _ h9 => h9) rfl dJ15_hasNext_8 ?_
  refine lv_icmp_eq (tgt := 18) hx hb dJ15_hasNext_11 (by decide) (fun c_1 => ?_) (fun c_1 => ?_)
  · refine lv_iconst (v := 0) hx hb dJ15_hasNext_18 (by decide) ?_
    exact gh_iret hx hb hr hlocks rfl hG hS (⟨by rw [if_neg (by rw [nI_eq (by omega) (by omega)] at c_1; omega)], rfl⟩) (Nat.le_of_ble_eq_true rfl) (Nat.le_of_ble_eq_true rfl) dJ15_hasNext_19
  · refine lv_iconst (v := 1) hx hb dJ15_hasNext_14 (by decide) ?_
    refine lv_goto (tgt := 19) hx hb dJ15_hasNext_15 (by decide) ?_
    exact gh_iret hx hb hr hlocks rfl hG hS (⟨by rw [if_pos (by rw [nI_eq (by omega) (by omega)] at c_1; omega)], rfl⟩) (Nat.le_of_ble_eq_true rfl) (Nat.le_of_ble_eq_true rfl) dJ15_hasNext_19
set_option maxHeartbeats 4000000 in
/-- Itr.checkForComodification(), unmodified -/
theorem c_ccm (l : Launch) (P : gh_P) (G : gh_G) (t h d i : Nat) (lr mc : Int32) (es : List Nat) (ht : G t = some (gh_o 4 [.int (nI i), .int lr, .int mc, .ref h])) (hal : al_ P G h d mc es) : Met l yJ15_checkForComodification (ws_ yJ15_checkForComodification cJ15_checkForComodification 1 none) ({ frames := 0, cells := 0, slots := 0, locals := 0 }) (gh_Pc P G [.ref t]) (gh_Qv P (fun G1 => G1 = G)) 0 0 (gh_A P) := by
  refine gh_met (plainFor_of_name (by decide)) (Nat.le_of_ble_eq_true rfl) ?_
  intro p e s m below meth c hx hb hr hlocks hml hown hin hts hE hG ls hl
  have hS : va_S (gh_A P) s.heap s.heap [] := va_S.rf
  have hl : lv_has ls 1 [(0, .ref t)] := hl
  obtain ⟨hh, hN⟩ := al_head hal
  refine lv_aload_n hx hb dJ15_checkForComodification_0 rfl (lv_at hl 0 rfl) ?_
  refine gh_get (C := RJ15) (T := TJ15) (N := 4) (v := .ref h) hx hb hts in_J15 hown hE hG ht rfl 3 (by decide) q462 (fun _ h9 => h9) rfl dJ15_checkForComodification_1 ?_
  refine gh_get (C := RJ8) (T := TJ8) (N := 3) (v := .int mc) hx hb hts in_J8 hown hE hG hh rfl 0 (by decide) q174 (u_same (hts _ q175)) rfl dJ15_checkForComodification_4 ?_
  refine lv_aload_n hx hb dJ15_checkForComodification_7 rfl (lv_at hl 0 rfl) ?_
  refine gh_get (C := RJ15) (T := TJ15) (N := 4) (v := .int mc) hx hb hts in_J15 hown hE hG ht rfl 2 (by decide) q461 (fun _ h9 => h9) rfl dJ15_checkForComodification_8 ?_
  refine lv_icmp_eq (tgt := 22) hx hb dJ15_checkForComodification_11 (by decide) (fun c_1 => ?_) (fun c_1 => ?_)
  · exact gh_vret hx hb hr hlocks hG hS (rfl) (Nat.le_of_ble_eq_true rfl) (Nat.le_of_ble_eq_true rfl) dJ15_checkForComodification_22
  · exact absurd rfl c_1
set_option maxHeartbeats 4000000 in
/-- Itr.next() -/
theorem c_next (l : Launch) (P : gh_P) (G : gh_G) (t h d i : Nat) (lr mc : Int32) (es : List Nat) (ht : G t = some (gh_o 4 [.int (nI i), .int lr, .int mc, .ref h])) (hal : al_ P G h d mc es) (hN : gh_N P ≤ t) (b : Nat) (hi : es[i]? = some b) (hn : es.length < 1000) : Met l yJ15_next (ws_ yJ15_next cJ15_next 3 (some (.object "java/lang/Object"))) ({ frames := 1, cells := 0, slots := 0, locals := 25 }) (gh_Pc P G [.ref t]) (gh_Qr P (fun r G1 => r = b ∧ G1 = gh_up G t (gh_o 4 [.int (nI (i + 1)), .int (nI i), .int mc, .ref h]))) 0 0 (gh_A P) := by
  refine gh_met (plainFor_of_name (by decide)) (Nat.le_of_ble_eq_true rfl) ?_
  intro p e s m below meth c hx hb hr hlocks hml hown hin hts hE hG ls hl
  have hS : va_S (gh_A P) s.heap s.heap [] := va_S.rf
  have hl : lv_has ls 3 [(0, .ref t)] := hl
  obtain ⟨cap, f, hh, hd, hle, hc1000, hes, hNh, hcd⟩ := id hal
  have hil : i < es.length := (List.getElem?_eq_some_iff.mp hi).1
  refine lv_aload_n hx hb dJ15_next_0 rfl (lv_at hl 0 rfl) ?_
  refine gh_callv (va_runV (As := []) (rest := []) ⟨hx, hb, hml, hown, hts⟩ (c_ccm l P G t h d i lr mc es ht hal) (cwV 0 hts (lw_V q491 q492 q493 q31 q494) rfl rfl rfl (by decide +kernel) ⟨Nat.le_of_ble_eq_true rfl, Nat.le_of_ble_eq_true rfl⟩) (gh_preV hE hG hS (gh_recv hE hG ht rfl)) rfl rfl hl.1 rfl (lv_room (Nat.le_of_ble_eq_true rfl)) dJ15_next_1 ⟨Nat.le_of_ble_eq_true rfl, Nat.le_of_ble_eq_true rfl⟩) hS (fun G1 H locs hw hG hS => ?_)
  rw [hw] at hG
  refine lv_aload_n hx hb dJ15_next_4 rfl (lv_at hl 0 rfl) ?_
  refine gh_get (C := RJ15) (T := TJ15) (N := 4) (v := .int (nI i)) hx hb hts in_J15 hown hE hG ht rfl 0 (by decide) q459 (fun _ h9 => h9) rfl dJ15_next_5 ?_
  refine lv_istore_n (lv' := [(1, .int (nI i)), (0, .ref t)]) hx hb dJ15_next_8 rfl hl (by decide) rfl (fun ls hl => ?_)
  refine lv_iload_n hx hb dJ15_next_9 rfl (lv_at hl 0 rfl) ?_
  refine lv_aload_n hx hb dJ15_next_10 rfl (lv_at hl 1 rfl) ?_
  refine gh_get (C := RJ15) (T := TJ15) (N := 4) (v := .ref h) hx hb hts in_J15 hown hE hG ht rfl 3 (by decide) q462 (fun _ h9 => h9) rfl dJ15_next_11 ?_
  refine gh_getN (C := RJ8) (T := TJ8) (N := 3) (v := .int (nI es.length)) hx hb hts in_J8 hown hE hG hh rfl 2 (by decide) (hE.w 4 rfl) (fun _ h9 => h9) rfl dJ15_next_14 ?_
  refine lv_icmp_lt (tgt := 28) hx hb dJ15_next_17 (by decide) (fun c_1 => ?_) (fun c_1 => ?_)
  · refine lv_aload_n hx hb dJ15_next_28 rfl (lv_at hl 1 rfl) ?_
    refine gh_get (C := RJ15) (T := TJ15) (N := 4) (v := .ref h) hx hb hts in_J15 hown hE hG ht rfl 3 (by decide) q462 (fun _ h9 => h9) rfl dJ15_next_29 ?_
    refine gh_get (C := RJ8) (T := TJ8) (N := 3) (v := .ref d) hx hb hts in_J8 hown hE hG hh rfl 1 (by decide) q170 (fun _ h9 => h9) rfl dJ15_next_32 ?_
    refine lv_astore_n (lv' := [(2, .ref d), (1, .int (nI i)), (0, .ref t)]) hx hb dJ15_next_35 rfl hl (by decide) rfl (fun ls hl => ?_)
    refine lv_iload_n hx hb dJ15_next_36 rfl (lv_at hl 1 rfl) ?_
    refine lv_aload_n hx hb dJ15_next_37 rfl (lv_at hl 0 rfl) ?_
    refine gh_qlen 1 rfl hx hb hE hG hd dJ15_next_38 ?_
    refine lv_icmp_lt (tgt := 50) hx hb dJ15_next_39 (by decide) (fun c_2 => ?_) (fun c_2 => ?_)
    · refine lv_aload_n hx hb dJ15_next_50 rfl (lv_at hl 2 rfl) ?_
      refine lv_iload_n hx hb dJ15_next_51 rfl (lv_at hl 1 rfl) ?_
      refine lv_iconst (v := 1) hx hb dJ15_next_52 (by decide) ?_
      refine lv_iadd hx hb dJ15_next_53 ?_
      refine lv_topi (fun z_0 ez_0 => ?_)
      obtain rfl : z_0 = nI (i + 1) := ez_0.trans (nI_1 i)
      refine gh_put (C := RJ15) (T := TJ15) (N := 4) (v := .int (nI (i + 1))) hx hb hts in_J15 tyJ15 tyJ15_ok nmJ15 hown hE hG hS hN ht rfl 0 (by decide) q459 (fun _ h9 => h9) rfl rfl rfl (Nat.le_of_ble_eq_true rfl) dJ15_next_54 (fun H locs hG hS => ?_)
      refine lv_aload_n hx hb dJ15_next_57 rfl (lv_at hl 0 rfl) ?_
      refine lv_aload_n hx hb dJ15_next_58 rfl (lv_at hl 2 rfl) ?_
      refine lv_iload_n hx hb dJ15_next_59 rfl (lv_at hl 1 rfl) ?_
      refine lv_dup_x1 hx hb dJ15_next_60 rfl rfl ?_
      refine gh_put (C := RJ15) (T := TJ15) (N := 4) (v := .int (nI i)) hx hb hts in_J15 tyJ15 tyJ15_ok nmJ15 hown hE hG hS hN (gh_up_s _ _ _) rfl 1 (by decide) q460 (fun _ h9 => h9) rfl rfl rfl (Nat.le_of_ble_eq_true rfl) dJ15_next_61 (fun H locs hG hS => ?_)
      rw [gh_up_up] at hG
      refine gh_aald 1 rfl hx hb hE hG (show gh_up G t _ d = _ by rw [gh_up_n _ _ (gh_ne hd ht (by simp))]; exact hd) (vp_in_nI (by omega) (by omega)) (x := b) (by rw [nI_clamp (by omega)]; exact hes i b hi) dJ15_next_64 ?_
      exact gh_aret hx hb hr hlocks (Or.inl ⟨_, rfl⟩) hG hS (⟨rfl, rfl⟩) (Nat.le_of_ble_eq_true rfl) (Nat.le_of_ble_eq_true rfl) dJ15_next_65
    · exact absurd (nI_lt (by omega) (by omega)) c_2
  · exact absurd (nI_lt hil (by omega)) c_1
end
section
/-! PURE: the buckets of a radix heap -/
set_option maxRecDepth 100000
/-- k lies in bucket b of a heap whose last key is a: they agree from bit b on, and from no lower one -/
def bk_ (b k a : Nat) : Prop := k / 2 ^ b = a / 2 ^ b ∧ ∀ j, j < b → k / 2 ^ j ≠ a / 2 ^ j
def bkt (k a : Nat) : Nat := if k = a then 0 else 1 + (k ^^^ a).log2
theorem bk_xor (k a i : Nat) : k / 2 ^ i = a / 2 ^ i ↔ k ^^^ a < 2 ^ i := by
  rw [← Nat.div_eq_zero_iff_lt (Nat.two_pow_pos i), Nat.xor_div_two_pow]
  constructor
  · intro h
    rw [h, Nat.xor_self]
  · intro h
    have h2 : (k / 2 ^ i ^^^ a / 2 ^ i) ^^^ a / 2 ^ i = 0 ^^^ a / 2 ^ i := by rw [h]
    rw [Nat.xor_assoc, Nat.xor_self, Nat.xor_zero, Nat.zero_xor] at h2
    exact h2
theorem bk_bkt (k a : Nat) : bk_ (bkt k a) k a := by
  unfold bkt
  by_cases h : k = a
  · rw [if_pos h]
    exact ⟨by rw [h], fun j hj => absurd hj (Nat.not_lt_zero j)⟩
  · rw [if_neg h]
    have hx : k ^^^ a ≠ 0 := by
      intro q
      have := (bk_xor k a 0).mpr (by rw [q]; decide)
      simp at this
      exact h this
    refine ⟨(bk_xor k a _).mpr (by rw [Nat.add_comm]; exact Nat.lt_log2_self), fun j hj q => ?_⟩
    have h1 := (bk_xor k a j).mp q
    have h2 := Nat.log2_self_le hx
    have h3 : 2 ^ j ≤ 2 ^ (k ^^^ a).log2 := Nat.pow_le_pow_right (by decide) (by omega)
    omega
theorem bkt_le {k a : Nat} (hk : k < 1048576) (ha : a < 1048576) : bkt k a ≤ 20 := by
  unfold bkt
  by_cases h : k = a
  · rw [if_pos h]; omega
  · rw [if_neg h]
    have hx : k ^^^ a ≠ 0 := by
      intro q
      have := (bk_xor k a 0).mpr (by rw [q]; decide)
      simp at this
      exact h this
    have hl : k ^^^ a < 2 ^ 20 := Nat.xor_lt_two_pow (by omega) (by omega)
    have := (Nat.log2_lt hx).mpr hl
    omega
theorem bk_lt {b1 b2 k1 k2 a : Nat} (h1 : bk_ b1 k1 a) (h2 : bk_ b2 k2 a) (ha : a ≤ k2) (hb : b1 < b2) : k1 < k2 := by
  have e1 := h1.1
  have e2 := h2.2 b1 hb
  have e3 : a / 2 ^ b1 ≤ k2 / 2 ^ b1 := Nat.div_le_div_right ha
  apply Nat.lt_of_not_le
  intro q
  have e4 : k2 / 2 ^ b1 ≤ k1 / 2 ^ b1 := Nat.div_le_div_right q
  omega
theorem bk_up {k a i j : Nat} (h : k / 2 ^ i = a / 2 ^ i) (hij : i ≤ j) : k / 2 ^ j = a / 2 ^ j := by
  have e : 2 ^ j = 2 ^ i * 2 ^ (j - i) := by rw [← Nat.pow_add]; congr 1; omega
  rw [e, ← Nat.div_div_eq_div_mul, ← Nat.div_div_eq_div_mul, h]
theorem bk_uniq {b1 b2 k a : Nat} (h1 : bk_ b1 k a) (h2 : bk_ b2 k a) : b1 = b2 := by
  rcases Nat.lt_trichotomy b1 b2 with h | h | h
  · exact absurd h1.1 (h2.2 b1 h)
  · exact h
  · exact absurd h2.1 (h1.2 b2 h)
/-- two keys of one bucket that isn't the lowest: they lie in a lower one with regard to each other -/
theorem bk_same {b k m a : Nat} (hk : bk_ b k a) (hm : bk_ b m a) (hb : 0 < b) : bkt k m < b := by
  have h0 := bk_bkt k m
  apply Nat.lt_of_not_le
  intro q
  refine h0.2 (b - 1) (by omega) ?_
  have e : 2 ^ b = 2 ^ (b - 1) * 2 := by
    have : b = (b - 1) + 1 := by omega
    rw [this, Nat.pow_succ]
    simp
  have k1 := hk.1
  have m1 := hm.1
  have k2 := hk.2 (b - 1) (by omega)
  have m2 := hm.2 (b - 1) (by omega)
  rw [e, ← Nat.div_div_eq_div_mul, ← Nat.div_div_eq_div_mul] at k1 m1
  omega
/-- a key of a higher bucket stays in it when the last key becomes one of a lower bucket -/
theorem bk_high {b b2 k m a : Nat} (hk : bk_ b2 k a) (hm : bk_ b m a) (hb : b < b2) : bk_ b2 k m := by
  refine ⟨by rw [hk.1]; exact (bk_up hm.1 (by omega)).symm, fun j hj q => ?_⟩
  by_cases hjb : b ≤ j
  · rw [bk_up hm.1 hjb] at q
    exact hk.2 j hj q
  · have e := bk_up q (show j ≤ b by omega)
    rw [hm.1] at e
    exact hk.2 b hb e
/-- the contents of the first n buckets, in a row -/
def fl_ : Nat → (Nat → List Nat) → List Nat
  | 0, _ => []
  | n + 1, B => fl_ n B ++ B n
theorem fl_mem {n : Nat} {B : Nat → List Nat} {k : Nat} : k ∈ fl_ n B ↔ ∃ i, i < n ∧ k ∈ B i := by
  induction n with
  | zero => simp [fl_]
  | succ n ih =>
    rw [fl_, List.mem_append, ih]
    constructor
    · rintro (⟨i, h1, h2⟩ | h)
      · exact ⟨i, by omega, h2⟩
      · exact ⟨n, by omega, h⟩
    · rintro ⟨i, h1, h2⟩
      by_cases h : i < n
      · exact Or.inl ⟨i, h, h2⟩
      · have : i = n := by omega
        subst this
        exact Or.inr h2
theorem fl_congr {n : Nat} {B C : Nat → List Nat} (h : ∀ i, i < n → B i = C i) : fl_ n B = fl_ n C := by
  induction n with
  | zero => rfl
  | succ n ih => rw [fl_, fl_, ih (fun i hi => h i (by omega)), h n (by omega)]
theorem fl_set {n i : Nat} (hi : i < n) (B : Nat → List Nat) (X : List Nat) (k : Nat) : (fl_ n (va_up B i X)).count k + (B i).count k = (fl_ n B).count k + X.count k := by
  induction n with
  | zero => omega
  | succ n ih =>
    rw [fl_, fl_, List.count_append, List.count_append]
    by_cases h : i < n
    · have := ih h
      rw [va_up_ne _ _ (show n ≠ i by omega)]
      omega
    · have hin : i = n := by omega
      subst hin
      rw [fl_congr (C := B) (fun j hj => va_up_ne _ _ (by omega)), va_up_self]
      omega
theorem fl_len {n i : Nat} (hi : i < n) (B : Nat → List Nat) (X : List Nat) : (fl_ n (va_up B i X)).length + (B i).length = (fl_ n B).length + X.length := by
  induction n with
  | zero => omega
  | succ n ih =>
    rw [fl_, fl_, List.length_append, List.length_append]
    by_cases h : i < n
    · have := ih h
      rw [va_up_ne _ _ (show n ≠ i by omega)]
      omega
    · have hin : i = n := by omega
      subst hin
      rw [fl_congr (C := B) (fun j hj => va_up_ne _ _ (by omega)), va_up_self]
      omega
theorem fl_le {n i : Nat} (hi : i < n) (B : Nat → List Nat) : (B i).length ≤ (fl_ n B).length := by
  have := fl_len hi B []
  simp only [List.length_nil] at this
  omega
theorem fl_nil {n : Nat} {B : Nat → List Nat} (h : ∀ i, i < n → B i = []) : fl_ n B = [] := by
  induction n with
  | zero => rfl
  | succ n ih => rw [fl_, ih (fun i hi => h i (by omega)), h n (by omega)]; rfl
theorem fl_pos {n : Nat} {B : Nat → List Nat} (h : 0 < (fl_ n B).length) : ∃ i, i < n ∧ B i ≠ [] := by
  apply Classical.byContradiction
  intro q
  have : fl_ n B = [] := fl_nil (fun i hi => Classical.byContradiction (fun z => q ⟨i, hi, z⟩))
  rw [this] at h
  simp at h
theorem count_erase {l : List Nat} {p x : Nat} (h : l[p]? = some x) (k : Nat) : l.count k = (l.eraseIdx p).count k + [x].count k := by
  induction l generalizing p with
  | nil => simp at h
  | cons y l ih =>
    cases p with
    | zero =>
      simp at h
      subst h
      rw [List.eraseIdx_zero, List.tail_cons, List.count_cons, List.count_cons]
      simp
    | succ p =>
      rw [List.getElem?_cons_succ] at h
      rw [List.eraseIdx_cons_succ, List.count_cons, List.count_cons, ih h]
      omega
theorem perm_of_count {l r : List Nat} (h : ∀ k, l.count k = r.count k) : l.Perm r := List.perm_iff_count.mpr h
/-! the bits of a small int as a float: its exponent is its binary logarithm -/
theorem ex_fields {L x : Nat} (h1 : 2 ^ L ≤ x) (h2 : x < 2 ^ (L + 1)) (hL : L ≤ 19) : ∃ t, t < 8388608 ∧ Jvm.FP.Core.fromInt Jvm.FP.Core.b32 (x : Int) = (L + 127) * 8388608 + t := by
  have hx0 : x ≠ 0 := by
    have := Nat.two_pow_pos L
    omega
  have hlog : x.log2 = L := by
    have a1 := (Nat.le_log2 hx0).mpr h1
    have a2 := (Nat.log2_lt hx0).mpr h2
    omega
  have hP : 2 ^ L * 2 ^ (23 - L) = 8388608 := by
    rw [← Nat.pow_add, show L + (23 - L) = 23 by omega]
  have hP2 : 2 ^ (L + 1) * 2 ^ (23 - L) = 16777216 := by
    rw [← Nat.pow_add, show L + 1 + (23 - L) = 24 by omega]
  have hlo : 8388608 ≤ x * 2 ^ (23 - L) := by rw [← hP]; exact Nat.mul_le_mul_right _ h1
  have hhi : x * 2 ^ (23 - L) < 16777216 := by rw [← hP2]; exact Nat.mul_lt_mul_of_pos_right h2 (Nat.two_pow_pos _)
  refine ⟨x * 2 ^ (23 - L) - 8388608, by omega, ?_⟩
  have hlead : Jvm.FP.Core.leading x 1 = (L : Int) := by
    unfold Jvm.FP.Core.leading
    have e1 : (1 : Nat).log2 = 0 := by decide
    simp only [hlog, e1]
    have e2 : ((L : Int) - ((0 : Nat) : Int)).toNat = L := by omega
    have e3 : (-((L : Int) - ((0 : Nat) : Int))).toNat = 0 := by omega
    rw [e2, e3, if_pos (by simpa using h1)]
    omega
  have hq : Jvm.FP.Core.quantum Jvm.FP.Core.b32 x 1 0 = (L : Int) - 23 := by
    unfold Jvm.FP.Core.quantum
    rw [hlead]
    have e1 : Jvm.FP.Core.b32.qmin = -149 := by decide
    have e2 : (Jvm.FP.Core.b32.p : Int) = 24 := by decide
    rw [e1, e2]
    omega
  have hnear : Jvm.FP.Core.nearest (Jvm.FP.Core.unitsNum x 0 ((L : Int) - 23)) (Jvm.FP.Core.unitsDen 1 0 ((L : Int) - 23)) = x * 2 ^ (23 - L) := by
    unfold Jvm.FP.Core.unitsNum Jvm.FP.Core.unitsDen
    have e1 : ((0 : Int) - ((L : Int) - 23)).toNat = 23 - L := by omega
    have e2 : (((L : Int) - 23) - 0).toNat = 0 := by omega
    rw [e1, e2]
    unfold Jvm.FP.Core.nearest
    simp [Nat.mod_one]
  have hround : Jvm.FP.Core.round Jvm.FP.Core.b32 (Jvm.FP.Core.ofInt (x : Int)) = .fin false (x * 2 ^ (23 - L)) ((L : Int) - 23) := by
    unfold Jvm.FP.Core.ofInt Jvm.FP.Core.round
    have e0 : decide ((x : Int) < 0) = false := by simp
    rw [e0]
    show Jvm.FP.Core.roundRatio Jvm.FP.Core.b32 false (x : Int).natAbs 1 0 = _
    rw [Int.natAbs_natCast]
    unfold Jvm.FP.Core.roundRatio
    rw [if_neg hx0, hq]
    unfold Jvm.FP.Core.roundAt
    rw [hnear]
    unfold Jvm.FP.Core.settle
    have e1 : (2 : Nat) ^ Jvm.FP.Core.b32.p = 16777216 := by decide
    rw [if_pos (by rw [e1]; exact hhi)]
    unfold Jvm.FP.Core.bound
    have e2 : Jvm.FP.Core.b32.qmax = 104 := by decide
    rw [if_pos (by rw [e2]; omega)]
  unfold Jvm.FP.Core.fromInt
  rw [hround]
  unfold Jvm.FP.Core.encode
  have e1 : Jvm.FP.Core.b32.tails = 8388608 := by decide
  have e2 : Jvm.FP.Core.b32.qmin = -149 := by decide
  have e3 : Jvm.FP.Core.b32.exps = 256 := by decide
  simp only []
  rw [if_neg (by rw [e1]; omega)]
  unfold Jvm.FP.Core.assemble
  rw [e1, e2, e3]
  have e4 : (((L : Int) - 23) - (-149)).toNat + 1 = L + 127 := by omega
  rw [e4]
  simp
theorem nI_and (a b : Nat) : nI a &&& nI b = nI (a &&& b) := by
  apply Int32.toBitVec_inj.mp
  show BitVec.ofNat 32 a &&& BitVec.ofNat 32 b = BitVec.ofNat 32 (a &&& b)
  rw [BitVec.ofNat_and]
theorem nI_xor (a b : Nat) : nI a ^^^ nI b = nI (a ^^^ b) := by
  apply Int32.toBitVec_inj.mp
  show BitVec.ofNat 32 a ^^^ BitVec.ofNat 32 b = BitVec.ofNat 32 (a ^^^ b)
  rw [BitVec.ofNat_xor]
theorem ex_log {x : Nat} (h0 : x ≠ 0) (hx : x < 1048576) : (((FP.i2f (nI x)).toInt32 &&& 2139095040) >>> ((23 : Int32) &&& 31)) - 127 = nI x.log2 := by
  have hL : x.log2 ≤ 19 := by
    have := (Nat.log2_lt h0).mpr (show x < 2 ^ 20 by omega)
    omega
  obtain ⟨t, ht, e⟩ := ex_fields (Nat.log2_self_le h0) Nat.lt_log2_self hL
  generalize x.log2 = L at e hL ⊢
  have e1 : (FP.i2f (nI x)).toInt32 = nI ((L + 127) * 8388608 + t) := by
    show (UInt32.ofNat (Jvm.FP.Core.fromInt Jvm.FP.Core.b32 (nI x).toInt)).toInt32 = _
    rw [nI_toInt (by omega), e]
    rfl
  have e2 : (2139095040 : Int32) = nI 2139095040 := by decide
  rw [e1, e2, nI_and]
  have e3 : ((L + 127) * 8388608 + t) &&& 2139095040 < 2 ^ 31 := Nat.lt_of_le_of_lt Nat.and_le_right (by decide)
  rw [pk_shrN e3 _ 23 (by decide)]
  have e4 : (((L + 127) * 8388608 + t) &&& 2139095040) / 2 ^ 23 = L + 127 := by
    rw [Nat.and_div_two_pow]
    have a1 : ((L + 127) * 8388608 + t) / 2 ^ 23 = L + 127 := by omega
    have a2 : 2139095040 / 2 ^ 23 = 2 ^ 8 - 1 := by decide
    rw [a1, a2, Nat.and_two_pow_sub_one_eq_mod]
    omega
  rw [e4, show (127 : Int32) = nI 127 by decide, pk_sub (by omega)]
  congr 1
end
section
/-! IntegerRadixHeap and AbstractRadixHeap: the methods that write nothing; the logarithms of the constructor -/
set_option maxRecDepth 100000
/-- a heap's object -/
abbrev rh_o (ba : Nat) (sz : Int64) (ld : Nat) (cm : Value) (cb cp : Int32) (mn mx : Nat) : va_E := gh_o 1 [.ref ba, .long sz, .ref ld, cm, .int cb, .int cp, .ref mn, .ref mx]
def cp_ (x y : Int32) : Int32 := if x < y then -1 else if y < x then 1 else 0
theorem cp_le {a b : Nat} (ha : a < 2 ^ 31) (hb : b < 2 ^ 31) : cp_ (nI a) (nI b) ≤ 0 ↔ a ≤ b := by
  rcases Nat.lt_trichotomy a b with h | h | h
  · have e : cp_ (nI a) (nI b) = -1 := if_pos (nI_lt h hb)
    rw [e]
    exact ⟨fun _ => by omega, fun _ => by decide⟩
  · have e : cp_ (nI a) (nI b) = 0 := by unfold cp_; rw [if_neg (nI_nlt (by omega) ha), if_neg (nI_nlt (by omega) hb)]
    rw [e]
    exact ⟨fun _ => by omega, fun _ => by decide⟩
  · have e : cp_ (nI a) (nI b) = 1 := by unfold cp_; rw [if_neg (nI_nlt (by omega) ha), if_pos (nI_lt h ha)]
    rw [e]
    exact ⟨fun q => absurd q (by decide), fun q => by omega⟩
theorem cp_ge {a b : Nat} (ha : a < 2 ^ 31) (hb : b < 2 ^ 31) : 0 ≤ cp_ (nI a) (nI b) ↔ b ≤ a := by
  rcases Nat.lt_trichotomy a b with h | h | h
  · have e : cp_ (nI a) (nI b) = -1 := if_pos (nI_lt h hb)
    rw [e]
    exact ⟨fun q => absurd q (by decide), fun q => by omega⟩
  · have e : cp_ (nI a) (nI b) = 0 := by unfold cp_; rw [if_neg (nI_nlt (by omega) ha), if_neg (nI_nlt (by omega) hb)]
    rw [e]
    exact ⟨fun _ => by omega, fun _ => by decide⟩
  · have e : cp_ (nI a) (nI b) = 1 := by unfold cp_; rw [if_neg (nI_nlt (by omega) ha), if_pos (nI_lt h ha)]
    rw [e]
    exact ⟨fun _ => by omega, fun _ => by decide⟩
def msd_ (k j : Nat) : Int32 := if k = j then -1 else nI (k ^^^ j).log2
theorem msd_bkt {k j : Nat} (hk : k < 1048576) (hj : j < 1048576) : 1 + (if (20 : Int32) < msd_ k j then 20 else msd_ k j) = nI (bkt k j) := by
  have hle := bkt_le hk hj
  unfold msd_ bkt at *
  by_cases h : k = j
  · simp only [h, if_true]
    decide
  · simp only [h, if_false] at hle ⊢
    have e : (20 : Int32) = nI 20 := by decide
    rw [if_neg (by rw [e, nI_ltI (by omega) (by omega)]; omega), Int32.add_comm, nI_1, Nat.add_comm]
set_option maxHeartbeats 4000000 in
/-- Math.getExponent(f) -/
theorem c_getExp (l : Launch) (P : gh_P) (G : gh_G) (b : UInt32) : Met l yJ9_getExponent (ws_ yJ9_getExponent cJ9_getExponent 1 (some .int)) ({ frames := 1, cells := 0, slots := 0, locals := 15 }) (gh_Pc P G [.float b]) (gh_Qi P (fun r G1 => r = ((b.toInt32 &&& 2139095040) >>> ((23 : Int32) &&& 31)) - 127 ∧ G1 = G)) 0 0 (gh_A P) := by
  refine gh_met (by decide +kernel) (Nat.le_of_ble_eq_true rfl) ?_
  intro p e s m below meth c hx hb hr hlocks hml hown hin hts hE hG ls hl
  have hS : va_S (gh_A P) s.heap s.heap [] := va_S.rf
  have hl : lv_has ls 1 [(0, .float b)] := hl
  refine lv_fload_n hx hb dJ9_getExponent_0 rfl (lv_at hl 0 rfl) ?_
  refine vn_f2i hx hb (by rw [hml]; exact hl.1.symm) hown (hts _ q283) (hts _ q285) (hts _ q284) (hts _ q23) (Nat.le_of_ble_eq_true rfl) (Nat.le_of_ble_eq_true rfl) dJ9_getExponent_1 ?_
  refine lv_ldc (v := 2139095040) hx hb hown (hts _ q286) dJ9_getExponent_4 ?_
  refine lv_iand hx hb dJ9_getExponent_6 ?_
  refine lv_bipush (v := 23) hx hb dJ9_getExponent_7 (by decide) ?_
  refine lv_ishr hx hb dJ9_getExponent_9 ?_
  refine lv_bipush (v := 127) hx hb dJ9_getExponent_10 (by decide) ?_
  refine lv_isub hx hb dJ9_getExponent_12 ?_
  exact gh_iret hx hb hr hlocks rfl hG hS (⟨rfl, rfl⟩) (Nat.le_of_ble_eq_true rfl) (Nat.le_of_ble_eq_true rfl) dJ9_getExponent_13
set_option maxHeartbeats 4000000 in
/-- IntegerRadixHeap.compare(Integer, Integer) -/
theorem c_cmp2 (l : Launch) (P : gh_P) (G : gh_G) (h a b : Nat) (x y : Int32) (ha : G a = some (gh_x x)) (hb2 : G b = some (gh_x y)) : Met l yX2_compare_2 (ws_ yX2_compare_2 cX2_compare_2 3 (some .int)) ({ frames := 1, cells := 0, slots := 0, locals := 20 }) (gh_Pc P G [.ref h, .ref a, .ref b]) (gh_Qi P (fun r G1 => r = cp_ x y ∧ G1 = G)) 0 0 (gh_A P) := by
  refine gh_met (plainFor_of_name (by decide)) (Nat.le_of_ble_eq_true rfl) ?_
  intro p e s m below meth c hx hb hr hlocks hml hown hin hts hE hG ls hl
  have hS : va_S (gh_A P) s.heap s.heap [] := va_S.rf
  have hl : lv_has ls 3 [(0, .ref h), (1, .ref a), (2, .ref b)] := hl
  refine lv_aload_n hx hb dX2_compare_2_0 rfl (lv_at hl 1 rfl) ?_
  refine gh_calli (va_runV (As := []) (rest := []) ⟨hx, hb, hml, hown, hts⟩ (c_int_intValue l P G a x ha) (cwV 0 hts (lw_V q259 q260 q261 q16 q262) rfl rfl rfl (by decide +kernel) ⟨Nat.le_of_ble_eq_true rfl, Nat.le_of_ble_eq_true rfl⟩) (gh_preV hE hG hS (gh_recv hE hG ha rfl)) rfl rfl hl.1 rfl (lv_room (Nat.le_of_ble_eq_true rfl)) dX2_compare_2_1 ⟨Nat.le_of_ble_eq_true rfl, Nat.le_of_ble_eq_true rfl⟩) hS (fun r1 G1 H locs hw hG hS => ?_)
  rw [hw.1]
  replace hG := hw.2 ▸ hG
  refine lv_aload_n hx hb dX2_compare_2_4 rfl (lv_at hl 2 rfl) ?_
  refine gh_calli (va_runV (As := []) (rest := [.int x]) ⟨hx, hb, hml, hown, hts⟩ (c_int_intValue l P G b y hb2) (cwV 0 hts (lw_V q259 q260 q261 q16 q262) rfl rfl rfl (by decide +kernel) ⟨Nat.le_of_ble_eq_true rfl, Nat.le_of_ble_eq_true rfl⟩) (gh_preV hE hG hS (gh_recv hE hG hb2 rfl)) rfl rfl hl.1 rfl (lv_room (Nat.le_of_ble_eq_true rfl)) dX2_compare_2_5 ⟨Nat.le_of_ble_eq_true rfl, Nat.le_of_ble_eq_true rfl⟩) hS (fun r2 G1 H locs hw hG hS => ?_)
  rw [hw.1]
  replace hG := hw.2 ▸ hG
  refine lv_icmp_ge (tgt := 13) hx hb dX2_compare_2_8 (by decide) (fun c_1 => ?_) (fun c_1 => ?_)
  · refine lv_aload_n hx hb dX2_compare_2_13 rfl (lv_at hl 1 rfl) ?_
    refine gh_calli (va_runV (As := []) (rest := []) ⟨hx, hb, hml, hown, hts⟩ (c_int_intValue l P G a x ha) (cwV 0 hts (lw_V q259 q260 q261 q16 q262) rfl rfl rfl (by decide +kernel) ⟨Nat.le_of_ble_eq_true rfl, Nat.le_of_ble_eq_true rfl⟩) (gh_preV hE hG hS (gh_recv hE hG ha rfl)) rfl rfl hl.1 rfl (lv_room (Nat.le_of_ble_eq_true rfl)) dX2_compare_2_14 ⟨Nat.le_of_ble_eq_true rfl, Nat.le_of_ble_eq_true rfl⟩) hS (fun r3 G1 H locs hw hG hS => ?_)
    rw [hw.1]
    replace hG := hw.2 ▸ hG
    refine lv_aload_n hx hb dX2_compare_2_17 rfl (lv_at hl 2 rfl) ?_
    refine gh_calli (va_runV (As := []) (rest := [.int x]) ⟨hx, hb, hml, hown, hts⟩ (c_int_intValue l P G b y hb2) (cwV 0 hts (lw_V q259 q260 q261 q16 q262) rfl rfl rfl (by decide +kernel) ⟨Nat.le_of_ble_eq_true rfl, Nat.le_of_ble_eq_true rfl⟩) (gh_preV hE hG hS (gh_recv hE hG hb2 rfl)) rfl rfl hl.1 rfl (lv_room (Nat.le_of_ble_eq_true rfl)) dX2_compare_2_18 ⟨Nat.le_of_ble_eq_true rfl, Nat.le_of_ble_eq_true rfl⟩) hS (fun r4 G1 H locs hw hG hS => ?_)
    rw [hw.1]
    replace hG := hw.2 ▸ hG
    refine lv_icmp_le (tgt := 26) hx hb dX2_compare_2_21 (by decide) (fun c_2 => ?_) (fun c_2 => ?_)
    · refine lv_iconst (v := 0) hx hb dX2_compare_2_26 (by decide) ?_
      exact gh_iret hx hb hr hlocks rfl hG hS (⟨by unfold cp_; rw [if_neg (by rw [Int32.not_lt]; exact c_1), if_neg (by rw [Int32.not_lt]; exact c_2)], rfl⟩) (Nat.le_of_ble_eq_true rfl) (Nat.le_of_ble_eq_true rfl) dX2_compare_2_27
    · refine lv_iconst (v := 1) hx hb dX2_compare_2_24 (by decide) ?_
      exact gh_iret hx hb hr hlocks rfl hG hS (⟨by unfold cp_; rw [if_neg (by rw [Int32.not_lt]; exact c_1), if_pos (Int32.not_le.mp c_2)], rfl⟩) (Nat.le_of_ble_eq_true rfl) (Nat.le_of_ble_eq_true rfl) dX2_compare_2_25
  · refine lv_iconst (v := (-1)) hx hb dX2_compare_2_11 (by decide) ?_
    exact gh_iret hx hb hr hlocks rfl hG hS (⟨by unfold cp_; rw [if_pos (Int32.not_le.mp c_1)], rfl⟩) (Nat.le_of_ble_eq_true rfl) (Nat.le_of_ble_eq_true rfl) dX2_compare_2_12
set_option maxHeartbeats 4000000 in
/-- IntegerRadixHeap.compare(Object, Object) -/
theorem c_cmp (l : Launch) (P : gh_P) (G : gh_G) (h a b : Nat) (x y : Int32) (ha : G a = some (gh_x x)) (hb2 : G b = some (gh_x y)) (fs : List Value) (hh : G h = some (gh_o 1 fs)) : Met l yX2_compare (ws_ yX2_compare cX2_compare 3 (some .int)) ({ frames := 2, cells := 0, slots := 0, locals := 42 }) (gh_Pc P G [.ref h, .ref a, .ref b]) (gh_Qi P (fun r G1 => r = cp_ x y ∧ G1 = G)) 0 0 (gh_A P) := by
  refine gh_met (plainFor_of_name (by decide)) (Nat.le_of_ble_eq_true rfl) ?_
  intro p e s m below meth c hx hb hr hlocks hml hown hin hts hE hG ls hl
  have hS : va_S (gh_A P) s.heap s.heap [] := va_S.rf
  have hl : lv_has ls 3 [(0, .ref h), (1, .ref a), (2, .ref b)] := hl
  refine lv_aload_n hx hb dX2_compare_0 rfl (lv_at hl 0 rfl) ?_
  refine lv_aload_n hx hb dX2_compare_1 rfl (lv_at hl 1 rfl) ?_
  refine va_castS (nm := "java/lang/Integer") hx hb hown (hts _ q254) (gh_at (ci := 5) hE rfl) (gh_recv hE hG ha rfl) dX2_compare_2 ?_
  refine lv_aload_n hx hb dX2_compare_5 rfl (lv_at hl 2 rfl) ?_
  refine va_castS (nm := "java/lang/Integer") hx hb hown (hts _ q254) (gh_at (ci := 5) hE rfl) (gh_recv hE hG hb2 rfl) dX2_compare_6 ?_
  refine gh_calli (va_runV (As := [.ref a, .ref b]) (rest := []) ⟨hx, hb, hml, hown, hts⟩ (c_cmp2 l P G h a b x y ha hb2) (cwV 2 hts (lw_V q255 q256 q257 q10 q258) rfl rfl rfl (by decide +kernel) ⟨Nat.le_of_ble_eq_true rfl, Nat.le_of_ble_eq_true rfl⟩) (gh_preV hE hG hS (gh_recv hE hG hh rfl)) rfl rfl hl.1 rfl (lv_room (Nat.le_of_ble_eq_true rfl)) dX2_compare_9 ⟨Nat.le_of_ble_eq_true rfl, Nat.le_of_ble_eq_true rfl⟩) hS (fun r G1 H locs hw hG hS => ?_)
  replace hG := hw.2 ▸ hG
  exact gh_iret hx hb hr hlocks rfl hG hS (⟨hw.1, rfl⟩) (Nat.le_of_ble_eq_true rfl) (Nat.le_of_ble_eq_true rfl) dX2_compare_12
set_option maxHeartbeats 4000000 in
/-- IntegerRadixHeap.msd(Integer, Integer) -/
theorem c_msd2 (l : Launch) (P : gh_P) (G : gh_G) (h a b k j : Nat) (hk : k < 1048576) (hj : j < 1048576) (ha : G a = some (gh_x (nI k))) (hb2 : G b = some (gh_x (nI j))) : Met l yX2_msd_2 (ws_ yX2_msd_2 cX2_msd_2 4 (some .int)) ({ frames := 2, cells := 0, slots := 0, locals := 35 }) (gh_Pc P G [.ref h, .ref a, .ref b]) (gh_Qi P (fun r G1 => r = msd_ k j ∧ G1 = G)) 0 0 (gh_A P) := by
  refine gh_met (plainFor_of_name (by decide)) (Nat.le_of_ble_eq_true rfl) ?_
  intro p e s m below meth c hx hb hr hlocks hml hown hin hts hE hG ls hl
  have hS : va_S (gh_A P) s.heap s.heap [] := va_S.rf
  have hl : lv_has ls 4 [(0, .ref h), (1, .ref a), (2, .ref b)] := hl
  refine lv_aload_n hx hb dX2_msd_2_0 rfl (lv_at hl 1 rfl) ?_
  refine gh_calli (va_runV (As := []) (rest := []) ⟨hx, hb, hml, hown, hts⟩ (c_int_intValue l P G a (nI k) ha) (cwV 0 hts (lw_V q259 q260 q261 q16 q262) rfl rfl rfl (by decide +kernel) ⟨Nat.le_of_ble_eq_true rfl, Nat.le_of_ble_eq_true rfl⟩) (gh_preV hE hG hS (gh_recv hE hG ha rfl)) rfl rfl hl.1 rfl (lv_room (Nat.le_of_ble_eq_true rfl)) dX2_msd_2_1 ⟨Nat.le_of_ble_eq_true rfl, Nat.le_of_ble_eq_true rfl⟩) hS (fun r1 G1 H locs hw hG hS => ?_)
  rw [hw.1]
  replace hG := hw.2 ▸ hG
  refine lv_aload_n hx hb dX2_msd_2_4 rfl (lv_at hl 2 rfl) ?_
  refine gh_calli (va_runV (As := []) (rest := [.int (nI k)]) ⟨hx, hb, hml, hown, hts⟩ (c_int_intValue l P G b (nI j) hb2) (cwV 0 hts (lw_V q259 q260 q261 q16 q262) rfl rfl rfl (by decide +kernel) ⟨Nat.le_of_ble_eq_true rfl, Nat.le_of_ble_eq_true rfl⟩) (gh_preV hE hG hS (gh_recv hE hG hb2 rfl)) rfl rfl hl.1 rfl (lv_room (Nat.le_of_ble_eq_true rfl)) dX2_msd_2_5 ⟨Nat.le_of_ble_eq_true rfl, Nat.le_of_ble_eq_true rfl⟩) hS (fun r2 G1 H locs hw hG hS => ?_)
  rw [hw.1]
  replace hG := hw.2 ▸ hG
  refine lv_icmp_ne (tgt := 13) hx hb dX2_msd_2_8 (by decide) (fun c_1 => ?_) (fun c_1 => ?_)
  · have hne : ¬ k = j := fun q => c_1 (by rw [q])
    refine lv_aload_n hx hb dX2_msd_2_13 rfl (lv_at hl 1 rfl) ?_
    refine gh_calli (va_runV (As := []) (rest := []) ⟨hx, hb, hml, hown, hts⟩ (c_int_intValue l P G a (nI k) ha) (cwV 0 hts (lw_V q259 q260 q261 q16 q262) rfl rfl rfl (by decide +kernel) ⟨Nat.le_of_ble_eq_true rfl, Nat.le_of_ble_eq_true rfl⟩) (gh_preV hE hG hS (gh_recv hE hG ha rfl)) rfl rfl hl.1 rfl (lv_room (Nat.le_of_ble_eq_true rfl)) dX2_msd_2_14 ⟨Nat.le_of_ble_eq_true rfl, Nat.le_of_ble_eq_true rfl⟩) hS (fun r3 G1 H locs hw hG hS => ?_)
    rw [hw.1]
    replace hG := hw.2 ▸ hG
    refine lv_aload_n hx hb dX2_msd_2_17 rfl (lv_at hl 2 rfl) ?_
    refine gh_calli (va_runV (As := []) (rest := [.int (nI k)]) ⟨hx, hb, hml, hown, hts⟩ (c_int_intValue l P G b (nI j) hb2) (cwV 0 hts (lw_V q259 q260 q261 q16 q262) rfl rfl rfl (by decide +kernel) ⟨Nat.le_of_ble_eq_true rfl, Nat.le_of_ble_eq_true rfl⟩) (gh_preV hE hG hS (gh_recv hE hG hb2 rfl)) rfl rfl hl.1 rfl (lv_room (Nat.le_of_ble_eq_true rfl)) dX2_msd_2_18 ⟨Nat.le_of_ble_eq_true rfl, Nat.le_of_ble_eq_true rfl⟩) hS (fun r4 G1 H locs hw hG hS => ?_)
    rw [hw.1]
    replace hG := hw.2 ▸ hG
    refine lv_ixor hx hb dX2_msd_2_21 ?_
    refine lv_topi (fun z_0 ez_0 => ?_)
    obtain rfl : z_0 = nI (k ^^^ j) := ez_0.trans (nI_xor k j)
    refine lv_i2f hx hb dX2_msd_2_22 ?_
    refine lv_fstore_n (lv' := [(3, .float (FP.i2f (nI (k ^^^ j)))), (0, .ref h), (1, .ref a), (2, .ref b)]) hx hb dX2_msd_2_23 rfl hl (by decide) rfl (fun ls hl => ?_)
    refine lv_fload_n hx hb dX2_msd_2_24 rfl (lv_at hl 0 rfl) ?_
    refine gh_calli (va_runS (As := [.float (FP.i2f (nI (k ^^^ j)))]) (rest := []) ⟨hx, hb, hml, hown, hts⟩ (c_getExp l P G (FP.i2f (nI (k ^^^ j)))) (va_cwS 1 hts (lw_S q280 q281 q22 q282) rfl rfl rfl (by decide +kernel) ⟨Nat.le_of_ble_eq_true rfl, Nat.le_of_ble_eq_true rfl⟩) (gh_preS hE hG hS) rfl rfl hl.1 rfl (lv_room (Nat.le_of_ble_eq_true rfl)) dX2_msd_2_25 ⟨Nat.le_of_ble_eq_true rfl, Nat.le_of_ble_eq_true rfl⟩) hS (fun r G1 H locs hw hG hS => ?_)
    replace hG := hw.2 ▸ hG
    have hx0 : k ^^^ j ≠ 0 := fun q => hne (by have := (bk_xor k j 0).mpr (by rw [q]; decide); simpa using this)
    exact gh_iret hx hb hr hlocks rfl hG hS (⟨by rw [hw.1, ex_log hx0 (Nat.xor_lt_two_pow (n := 20) hk hj)]; unfold msd_; rw [if_neg hne], rfl⟩) (Nat.le_of_ble_eq_true rfl) (Nat.le_of_ble_eq_true rfl) dX2_msd_2_28
  · refine lv_iconst (v := (-1)) hx hb dX2_msd_2_11 (by decide) ?_
    exact gh_iret hx hb hr hlocks rfl hG hS (⟨by unfold msd_; rw [if_pos ((nI_eq (by omega) (by omega)).mp c_1)], rfl⟩) (Nat.le_of_ble_eq_true rfl) (Nat.le_of_ble_eq_true rfl) dX2_msd_2_12
set_option maxHeartbeats 4000000 in
/-- IntegerRadixHeap.msd(Object, Object) -/
theorem c_msd (l : Launch) (P : gh_P) (G : gh_G) (h a b k j : Nat) (hk : k < 1048576) (hj : j < 1048576) (ha : G a = some (gh_x (nI k))) (hb2 : G b = some (gh_x (nI j))) (fs : List Value) (hh : G h = some (gh_o 1 fs)) : Met l yX2_msd (ws_ yX2_msd cX2_msd 3 (some .int)) ({ frames := 3, cells := 0, slots := 0, locals := 58 }) (gh_Pc P G [.ref h, .ref a, .ref b]) (gh_Qi P (fun r G1 => r = msd_ k j ∧ G1 = G)) 0 0 (gh_A P) := by
  refine gh_met (plainFor_of_name (by decide)) (Nat.le_of_ble_eq_true rfl) ?_
  intro p e s m below meth c hx hb hr hlocks hml hown hin hts hE hG ls hl
  have hS : va_S (gh_A P) s.heap s.heap [] := va_S.rf
  have hl : lv_has ls 3 [(0, .ref h), (1, .ref a), (2, .ref b)] := hl
  refine lv_aload_n hx hb dX2_msd_0 rfl (lv_at hl 0 rfl) ?_
  refine lv_aload_n hx hb dX2_msd_1 rfl (lv_at hl 1 rfl) ?_
  refine va_castS (nm := "java/lang/Integer") hx hb hown (hts _ q254) (gh_at (ci := 5) hE rfl) (gh_recv hE hG ha rfl) dX2_msd_2 ?_
  refine lv_aload_n hx hb dX2_msd_5 rfl (lv_at hl 2 rfl) ?_
  refine va_castS (nm := "java/lang/Integer") hx hb hown (hts _ q254) (gh_at (ci := 5) hE rfl) (gh_recv hE hG hb2 rfl) dX2_msd_6 ?_
  refine gh_calli (va_runV (As := [.ref a, .ref b]) (rest := []) ⟨hx, hb, hml, hown, hts⟩ (c_msd2 l P G h a b k j hk hj ha hb2) (cwV 2 hts (lw_V q276 q277 q278 q10 q279) rfl rfl rfl (by decide +kernel) ⟨Nat.le_of_ble_eq_true rfl, Nat.le_of_ble_eq_true rfl⟩) (gh_preV hE hG hS (gh_recv hE hG hh rfl)) rfl rfl hl.1 rfl (lv_room (Nat.le_of_ble_eq_true rfl)) dX2_msd_9 ⟨Nat.le_of_ble_eq_true rfl, Nat.le_of_ble_eq_true rfl⟩) hS (fun r G1 H locs hw hG hS => ?_)
  replace hG := hw.2 ▸ hG
  exact gh_iret hx hb hr hlocks rfl hG hS (⟨hw.1, rfl⟩) (Nat.le_of_ble_eq_true rfl) (Nat.le_of_ble_eq_true rfl) dX2_msd_12
set_option maxHeartbeats 4000000 in
/-- AbstractRadixHeap.computeBucket -/
theorem c_bucket (l : Launch) (P : gh_P) (G : gh_G) (h a b k j : Nat) (hk : k < 1048576) (hj : j < 1048576) (ha : G a = some (gh_x (nI k))) (hb2 : G b = some (gh_x (nI j))) (ba ld mn mx : Nat) (sz : Int64) (cm : Value) (cb cp : Int32) (hh : G h = some (rh_o ba sz ld cm cb cp mn mx)) (f : Nat → Option Nat) (hba : G ba = some (gh_q (gh_cL P) 22 f)) : Met l yX1_computeBucket (ws_ yX1_computeBucket cX1_computeBucket 3 (some .int)) ({ frames := 4, cells := 0, slots := 0, locals := 80 }) (gh_Pc P G [.ref h, .ref a, .ref b]) (gh_Qi P (fun r G1 => r = nI (bkt k j) ∧ G1 = G)) 0 0 (gh_A P) := by
  refine gh_met (plainFor_of_name (by decide)) (Nat.le_of_ble_eq_true rfl) ?_
  intro p e s m below meth c hx hb hr hlocks hml hown hin hts hE hG ls hl
  have hS : va_S (gh_A P) s.heap s.heap [] := va_S.rf
  have hl : lv_has ls 3 [(0, .ref h), (1, .ref a), (2, .ref b)] := hl
  refine lv_iconst (v := 1) hx hb dX1_computeBucket_0 (by decide) ?_
  refine lv_aload_n hx hb dX1_computeBucket_1 rfl (lv_at hl 0 rfl) ?_
  refine lv_aload_n hx hb dX1_computeBucket_2 rfl (lv_at hl 1 rfl) ?_
  refine lv_aload_n hx hb dX1_computeBucket_3 rfl (lv_at hl 2 rfl) ?_
  refine gh_calli (va_runU (As := [.ref a, .ref b]) (rest := [.int 1]) ⟨hx, hb, hml, hown, hts⟩ (c_msd l P G h a b k j hk hj ha hb2 _ hh) (va_cwA (C := "IntegerRadixHeap") (owner := "AbstractRadixHeap") 2 hts (lw_app (lw_five q270 q272 q273 q274 q10) (lw_meth q275)) rfl rfl rfl (hE.w 3 rfl) (by decide +kernel) ⟨Nat.le_of_ble_eq_true rfl, Nat.le_of_ble_eq_true rfl⟩) (gh_preV hE hG hS (gh_recv hE hG hh rfl)) rfl rfl hl.1 rfl (lv_room (Nat.le_of_ble_eq_true rfl)) dX1_computeBucket_4 ⟨Nat.le_of_ble_eq_true rfl, Nat.le_of_ble_eq_true rfl⟩) hS (fun r G1 H locs hw hG hS => ?_)
  rw [hw.1]
  replace hG := hw.2 ▸ hG
  refine lv_aload_n hx hb dX1_computeBucket_7 rfl (lv_at hl 0 rfl) ?_
  refine gh_get (C := RX2) (T := TX2) (N := 8) (v := .ref ba) hx hb hts in_X2 hown hE hG hh rfl 0 (by decide) q186 (fun _ h9 => h9) rfl dX1_computeBucket_8 ?_
  refine gh_qlen 2 rfl hx hb hE hG hba dX1_computeBucket_11 ?_
  refine lv_iconst (v := 2) hx hb dX1_computeBucket_12 (by decide) ?_
  refine lv_isub hx hb dX1_computeBucket_13 ?_
  refine lv_topi (fun z_0 ez_0 => ?_)
  obtain rfl : z_0 = 20 := ez_0.trans (by decide)
  refine va_mmin hx hb (by rw [hml]; exact hl.1.symm) hown (hts _ q287) (hts _ q288) (hts _ q22) (hts _ q289) (Nat.le_of_ble_eq_true rfl) (Nat.le_of_ble_eq_true rfl) (Nat.le_of_ble_eq_true rfl) (Nat.le_of_ble_eq_true rfl) dX1_computeBucket_14 ?_
  refine lv_iadd hx hb dX1_computeBucket_17 ?_
  refine lv_topi (fun z_1 ez_1 => ?_)
  obtain rfl : z_1 = nI (bkt k j) := ez_1.trans (msd_bkt hk hj)
  exact gh_iret hx hb hr hlocks rfl hG hS (⟨rfl, rfl⟩) (Nat.le_of_ble_eq_true rfl) (Nat.le_of_ble_eq_true rfl) dX1_computeBucket_18
set_option maxHeartbeats 4000000 in
/-- AbstractRadixHeap() -/
theorem c_rinit (l : Launch) (P : gh_P) (G : gh_G) (h : Nat) : Met l yX1_init (ws_ yX1_init cX1_init 1 none) ({ frames := 1, cells := 0, slots := 0, locals := 12 }) (gh_Pc P G [.ref h]) (gh_Qv P (fun G1 => G1 = G)) 0 0 (gh_A P) := by
  refine gh_met (plainFor_of_name (by decide)) (Nat.le_of_ble_eq_true rfl) ?_
  intro p e s m below meth c hx hb hr hlocks hml hown hin hts hE hG ls hl
  have hS : va_S (gh_A P) s.heap s.heap [] := va_S.rf
  have hl : lv_has ls 1 [(0, .ref h)] := hl
  refine lv_aload_n hx hb dX1_init_0 rfl (lv_at hl 0 rfl) ?_
  refine W.objInit hx hb hown (hts _ q56) (hts _ q38) (hts _ q39) rfl (by rw [hml]; exact hl.1) rfl dX1_init_1 (Nat.le_of_ble_eq_true rfl) (Nat.le_of_ble_eq_true rfl) ?_
  refine W.eq (g2 := F0 m 4 ls []) rfl ?_
  exact gh_vret hx hb hr hlocks hG hS (rfl) (Nat.le_of_ble_eq_true rfl) (Nat.le_of_ble_eq_true rfl) dX1_init_4
set_option maxHeartbeats 4000000 in
/-- AbstractRadixHeap.isEmpty() -/
theorem c_rempty (l : Launch) (P : gh_P) (G : gh_G) (h : Nat) (ba ld mn mx : Nat) (n : Nat) (cm : Value) (cb cp : Int32) (hh : G h = some (rh_o ba (lN n) ld cm cb cp mn mx)) (hn : n < 1000) : Met l yX1_isEmpty (ws_ yX1_isEmpty cX1_isEmpty 1 (some .boolean)) ({ frames := 0, cells := 0, slots := 0, locals := 0 }) (gh_Pc P G [.ref h]) (gh_Qi P (fun r G1 => r = (if n = 0 then 1 else 0) ∧ G1 = G)) 0 0 (gh_A P) := by
  refine gh_met (plainFor_of_name (by decide)) (Nat.le_of_ble_eq_true rfl) ?_
  intro p e s m below meth c hx hb hr hlocks hml hown hin hts hE hG ls hl
  have hS : va_S (gh_A P) s.heap s.heap [] := va_S.rf
  have hl : lv_has ls 1 [(0, .ref h)] := hl
  refine lv_aload_n hx hb dX1_isEmpty_0 rfl (lv_at hl 0 rfl) ?_
  refine gh_get (C := RX2) (T := TX2) (N := 8) (v := .long (lN n)) hx hb hts in_X2 hown hE hG hh rfl 1 (by decide) q189 (fun _ h9 => h9) rfl dX1_isEmpty_1 ?_
  refine lv_lconst (v := 0) hx hb dX1_isEmpty_4 (by decide) ?_
  refine W.lcmp hx hb dX1_isEmpty_5 ?_
  refine lv_if_ne (tgt := 13) hx hb dX1_isEmpty_6 (by decide) (fun c_1 => ?_) (fun c_1 => ?_)
  · refine lv_iconst (v := 0) hx hb dX1_isEmpty_13 (by decide) ?_
    exact gh_iret hx hb hr hlocks rfl hG hS (⟨by rw [if_neg (fun q => c_1 ((lg_cmp_eq _ _).mpr (by rw [q]; rfl)))], rfl⟩) (Nat.le_of_ble_eq_true rfl) (Nat.le_of_ble_eq_true rfl) dX1_isEmpty_14
  · refine lv_iconst (v := 1) hx hb dX1_isEmpty_9 (by decide) ?_
    refine lv_goto (tgt := 14) hx hb dX1_isEmpty_10 (by decide) ?_
    exact gh_iret hx hb hr hlocks rfl hG hS (⟨by rw [if_pos ((lN_eq (b := 0) (show n < 2 ^ 31 by omega) (by omega)).mp ((lg_cmp_eq _ _).mp c_1))], rfl⟩) (Nat.le_of_ble_eq_true rfl) (Nat.le_of_ble_eq_true rfl) dX1_isEmpty_14
set_option maxHeartbeats 4000000 in
/-- AbstractRadixHeap.size() -/
theorem c_rsize (l : Launch) (P : gh_P) (G : gh_G) (h : Nat) (ba ld mn mx : Nat) (n : Nat) (cm : Value) (cb cp : Int32) (hh : G h = some (rh_o ba (lN n) ld cm cb cp mn mx)) : Met l yX1_size (ws_ yX1_size cX1_size 1 (some .long)) ({ frames := 0, cells := 0, slots := 0, locals := 0 }) (gh_Pc P G [.ref h]) (gh_Ql P (fun r G1 => r = lN n ∧ G1 = G)) 0 0 (gh_A P) := by
  refine gh_met (plainFor_of_name (by decide)) (Nat.le_of_ble_eq_true rfl) ?_
  intro p e s m below meth c hx hb hr hlocks hml hown hin hts hE hG ls hl
  have hS : va_S (gh_A P) s.heap s.heap [] := va_S.rf
  have hl : lv_has ls 1 [(0, .ref h)] := hl
  refine lv_aload_n hx hb dX1_size_0 rfl (lv_at hl 0 rfl) ?_
  refine gh_get (C := RX2) (T := TX2) (N := 8) (v := .long (lN n)) hx hb hts in_X2 hown hE hG hh rfl 1 (by decide) q189 (fun _ h9 => h9) rfl dX1_size_1 ?_
  exact gh_lret hx hb hr hlocks hG hS (⟨rfl, rfl⟩) (Nat.le_of_ble_eq_true rfl) (Nat.le_of_ble_eq_true rfl) dX1_size_4
set_option maxHeartbeats 4000000 in
/-- AbstractRadixHeap.findMin(), not empty -/
theorem c_findMin (l : Launch) (P : gh_P) (G : gh_G) (h : Nat) (ba ld mn mx : Nat) (n : Nat) (q : Nat) (cb cp : Int32) (hh : G h = some (rh_o ba (lN n) ld (.ref q) cb cp mn mx)) (hn : n < 1000) (hn0 : 0 < n) : Met l yX1_findMin (ws_ yX1_findMin cX1_findMin 1 (some (.object "java/lang/Object"))) ({ frames := 0, cells := 0, slots := 0, locals := 0 }) (gh_Pc P G [.ref h]) (gh_Qr P (fun r G1 => r = q ∧ G1 = G)) 0 0 (gh_A P) := by
  refine gh_met (plainFor_of_name (by decide)) (Nat.le_of_ble_eq_true rfl) ?_
  intro p e s m below meth c hx hb hr hlocks hml hown hin hts hE hG ls hl
  have hS : va_S (gh_A P) s.heap s.heap [] := va_S.rf
  have hl : lv_has ls 1 [(0, .ref h)] := hl
  refine lv_aload_n hx hb dX1_findMin_0 rfl (lv_at hl 0 rfl) ?_
  refine gh_get (C := RX2) (T := TX2) (N := 8) (v := .long (lN n)) hx hb hts in_X2 hown hE hG hh rfl 1 (by decide) q189 (fun _ h9 => h9) rfl dX1_findMin_1 ?_
  refine lv_lconst (v := 0) hx hb dX1_findMin_4 (by decide) ?_
  refine W.lcmp hx hb dX1_findMin_5 ?_
  refine lv_if_ne (tgt := 17) hx hb dX1_findMin_6 (by decide) (fun c_1 => ?_) (fun c_1 => ?_)
  · refine lv_aload_n hx hb dX1_findMin_17 rfl (lv_at hl 0 rfl) ?_
    refine gh_get (C := RX2) (T := TX2) (N := 8) (v := .ref q) hx hb hts in_X2 hown hE hG hh rfl 3 (by decide) q195 (fun _ h9 => h9) rfl dX1_findMin_18 ?_
    exact gh_aret hx hb hr hlocks (Or.inl ⟨_, rfl⟩) hG hS (⟨rfl, rfl⟩) (Nat.le_of_ble_eq_true rfl) (Nat.le_of_ble_eq_true rfl) dX1_findMin_21
  · exact absurd ((lN_eq (b := 0) (show n < 2 ^ 31 by omega) (by omega)).mp ((lg_cmp_eq _ _).mp c_1)) (by omega)
/-- log()'s loop: halvings while not below 2; none, where a value would be no number or the steps don't suffice -/
def lg_run : Nat → UInt64 → Nat → Option (UInt64 × Nat)
  | 0, _, _ => none
  | n + 1, y, k => if Op.cmpValue (FP.dcmp y 4611686018427387904) .l < 0 then some (y, k) else if (FP.ddiv y 4611686018427387904) &&& 0x7fffffffffffffff ≤ 0x7ff0000000000000 then lg_run n (FP.ddiv y 4611686018427387904) (k + 1) else none
set_option maxHeartbeats 4000000 in
/-- log()'s loop over the machine -/
theorem c_log_loop {p : Program} {l : Launch} {e : Env} {s : State} {m : MethodId} {args : Array Value} {below : List Frame} {meth : Method} {c : Code} {R : Room} {Q : State → Prop} {H : Heap} {locs : List Loc} {x : UInt64} (hx : p.tables.exec = Jvm.exec) (hb : c.code = cX0_log) (hts : ∀ w ∈ lw_all, w.before args s = true) (hown : s.vm.findClass "IntegerRadixHeapDesk" = some m.cls) :
    ∀ (n : Nat) (y : UInt64) (k : Nat) (y1 : UInt64) (k1 : Nat) (ls : Array Slot), lg_run n y k = some (y1, k1) → lv_has ls 5 [(4, .int (nI k)), (2, .double y), (0, .double x)] → (∀ ls : Array Slot, lv_has ls 5 [(4, .int (nI k1)), (2, .double y1), (0, .double x)] → W p l e R s m args below meth c H locs 0 0 Q (F0 m 25 ls [])) → W p l e R s m args below meth c H locs 0 0 Q (F0 m 5 ls []) := by
  intro n
  induction n with
  | zero =>
    intro y k y1 k1 ls h
    cases h
  | succ n ih =>
    intro y k y1 k1 ls h hl kk
    rw [lg_run] at h
    refine lv_dload_n hx hb dX0_log_5 rfl (lv_at hl 1 rfl) ?_
    refine lv_ldc2d (v := 4611686018427387904) hx hb hown (hts _ q148) dX0_log_6 ?_
    refine lv_dcmp hx hb dX0_log_9 ?_
    refine lv_if_lt (tgt := 25) hx hb dX0_log_10 (by decide) (fun c_1 => ?_) (fun c_1 => ?_)
    · rw [if_pos c_1] at h
      cases h
      exact kk ls hl
    · rw [if_neg c_1] at h
      by_cases c_2 : (FP.ddiv y 4611686018427387904) &&& 0x7fffffffffffffff ≤ 0x7ff0000000000000
      · rw [if_pos c_2] at h
        refine lv_dload_n hx hb dX0_log_13 rfl (lv_at hl 1 rfl) ?_
        refine lv_ldc2d (v := 4611686018427387904) hx hb hown (hts _ q148) dX0_log_14 ?_
        refine lv_ddiv hx hb dX0_log_17 c_2 ?_
        refine lv_dstore_n (lv' := [(2, .double (FP.ddiv y 4611686018427387904)), (4, .int (nI k)), (0, .double x)]) hx hb dX0_log_18 rfl hl (by decide) rfl (fun ls hl => ?_)
        refine lv_iinc (v := nI (k + 1)) (lv' := [(4, .int (nI (k + 1))), (2, .double (FP.ddiv y 4611686018427387904)), (0, .double x)]) hx hb dX0_log_19 hl (k := 1) rfl (nI_1 k) (by decide) rfl (fun ls hl => ?_)
        refine lv_goto (tgt := 5) hx hb dX0_log_22 (by decide) ?_
        exact ih _ (k + 1) y1 k1 ls h (lv_sub hl [0, 1, 2] rfl) kk
      · rw [if_neg c_2] at h
        cases h
set_option maxHeartbeats 4000000 in
/-- IntegerRadixHeapDesk.log(x) -/
theorem c_log (l : Launch) (P : gh_P) (G : gh_G) (x y1 r1 : UInt64) (k1 : Nat) (hrun : lg_run 100 x 0 = some (y1, k1)) (h1 : vf_n64 (FP.dsub y1 FP.dconst1)) (h2 : vf_n64 (FP.dadd (FP.i2d (nI k1)) (FP.dsub y1 FP.dconst1))) (h3 : FP.dadd (FP.i2d (nI k1)) (FP.dsub y1 FP.dconst1) = r1) : Met l yX0_log (ws_ yX0_log cX0_log 5 (some .double)) ({ frames := 0, cells := 0, slots := 0, locals := 0 }) (gh_Pc P G [.double x]) (gh_Qd P (fun r G1 => r = r1 ∧ G1 = G)) 0 0 (gh_A P) := by
  refine gh_met (plainFor_of_name (by decide)) (Nat.le_of_ble_eq_true rfl) ?_
  intro p e s m below meth c hx hb hr hlocks hml hown hin hts hE hG ls hl
  have hS : va_S (gh_A P) s.heap s.heap [] := va_S.rf
  have hl : lv_has ls 5 [(0, .double x)] := hl
  refine lv_dload_n hx hb dX0_log_0 rfl (lv_at hl 0 rfl) ?_
  refine lv_dstore_n (lv' := [(2, .double x), (0, .double x)]) hx hb dX0_log_1 rfl hl (by decide) rfl (fun ls hl => ?_)
  refine lv_iconst (v := 0) hx hb dX0_log_2 (by decide) ?_
  refine lv_istore (lv' := [(4, .int 0), (2, .double x), (0, .double x)]) hx hb dX0_log_3 hl (by decide) rfl (fun ls hl => ?_)
  refine c_log_loop (x := x) hx hb hts hown 100 x 0 y1 k1 ls hrun (lv_sub hl [0, 1, 2] rfl) (fun ls hl => ?_)
  refine lv_iload hx hb dX0_log_25 (lv_at hl 0 rfl) ?_
  refine lv_i2d hx hb dX0_log_27 ?_
  refine lv_dload_n hx hb dX0_log_28 rfl (lv_at hl 1 rfl) ?_
  refine lv_dconst1 hx hb dX0_log_29 ?_
  refine lv_dsub hx hb dX0_log_30 h1 ?_
  refine lv_dadd hx hb dX0_log_31 h2 ?_
  exact gh_dret hx hb hr hlocks hG hS (⟨h3, rfl⟩) (Nat.le_of_ble_eq_true rfl) (Nat.le_of_ble_eq_true rfl) dX0_log_32
set_option maxHeartbeats 4000000 in
/-- IntegerRadixHeapDesk.floor(x), where the truncation is not above -/
theorem c_floor (l : Launch) (P : gh_P) (G : gh_G) (x : UInt64) (h1 : Op.cmpValue (FP.dcmp (FP.l2d (FP.d2l x)) x) .l ≤ 0) : Met l yX0_floor (ws_ yX0_floor cX0_floor 4 (some .double)) ({ frames := 0, cells := 0, slots := 0, locals := 0 }) (gh_Pc P G [.double x]) (gh_Qd P (fun r G1 => r = FP.l2d (FP.d2l x) ∧ G1 = G)) 0 0 (gh_A P) := by
  refine gh_met (plainFor_of_name (by decide)) (Nat.le_of_ble_eq_true rfl) ?_
  intro p e s m below meth c hx hb hr hlocks hml hown hin hts hE hG ls hl
  have hS : va_S (gh_A P) s.heap s.heap [] := va_S.rf
  have hl : lv_has ls 4 [(0, .double x)] := hl
  refine lv_dload_n hx hb dX0_floor_0 rfl (lv_at hl 0 rfl) ?_
  refine lv_d2l hx hb dX0_floor_1 ?_
  refine lv_lstore_n (lv' := [(2, .long (FP.d2l x)), (0, .double x)]) hx hb dX0_floor_2 rfl hl (by decide) rfl (fun ls hl => ?_)
  refine lv_lload_n hx hb dX0_floor_3 rfl (lv_at hl 0 rfl) ?_
  refine lv_l2d hx hb dX0_floor_4 ?_
  refine lv_dload_n hx hb dX0_floor_5 rfl (lv_at hl 1 rfl) ?_
  refine lv_dcmp hx hb dX0_floor_6 ?_
  refine lv_if_le (tgt := 17) hx hb dX0_floor_7 (by decide) (fun c_1 => ?_) (fun c_1 => ?_)
  · refine lv_lload_n hx hb dX0_floor_17 rfl (lv_at hl 0 rfl) ?_
    refine lv_l2d hx hb dX0_floor_18 ?_
    exact gh_dret hx hb hr hlocks hG hS (⟨rfl, rfl⟩) (Nat.le_of_ble_eq_true rfl) (Nat.le_of_ble_eq_true rfl) dX0_floor_19
  · exact absurd h1 c_1
/-- log(1048575), log(2) and what the constructor makes of them -/
theorem lg_a : lg_run 100 (FP.dsub (FP.i2d 1048575) (FP.i2d 0)) 0 = some (4611686009837453312, 19) := by decide +kernel
theorem lg_b : lg_run 100 4611686018427387904 0 = some (4607182418800017408, 1) := by decide +kernel
end
section
/-! A radix heap's cells, and its constructor -/
set_option maxRecDepth 100000
/-- a heap's addresses and contents: object, array of buckets, lists, their arrays; a bucket's (box, key) in a row -/
abbrev rh_R : Type := Nat × Nat × (Nat → Nat) × (Nat → Nat) × (Nat → List (Nat × Nat))
abbrev rh_ba (R : rh_R) : Nat := R.2.1
abbrev rh_la (R : rh_R) : Nat → Nat := R.2.2.1
abbrev rh_da (R : rh_R) : Nat → Nat := R.2.2.2.1
abbrev rh_L (R : rh_R) : Nat → List (Nat × Nat) := R.2.2.2.2
/-- the lists -/
def rh_S (P : gh_P) (G : gh_G) (ba : Nat) (la da : Nat → Nat) (mc : Nat → Int32) (L : Nat → List (Nat × Nat)) : Prop :=
  (∃ f : Nat → Option Nat, G ba = some (gh_q (gh_cL P) 22 f) ∧ ∀ i, i < 22 → f i = some (la i)) ∧
  (∀ i, i < 22 → al_ P G (la i) (da i) (mc i) ((L i).map Prod.fst)) ∧
  (∀ i, i < 22 → ∀ q ∈ L i, G q.1 = some (gh_x (nI q.2))) ∧
  (∀ i j, i < 22 → j < 22 → la i = la j → i = j) ∧
  (∀ i j, i < 22 → j < 22 → da i = da j → gh_N P ≤ da i → i = j) ∧
  (∀ i, i < 22 → ba ≠ da i) ∧ gh_N P ≤ ba
/-- which keys lie where -/
def rh_I (L : Nat → List (Nat × Nat)) (last : Nat) : Prop := last < 1048576 ∧ ∀ i, i < 22 → ∀ q ∈ L i, bk_ i q.2 last ∧ last ≤ q.2 ∧ q.2 < 1048576
def rh_B (L : Nat → List (Nat × Nat)) : Nat → List Nat := fun i => (L i).map Prod.snd
def rh_ks (L : Nat → List (Nat × Nat)) : List Nat := fl_ 22 (rh_B L)
/-- the cached minimum -/
def rh_C (L : Nat → List (Nat × Nat)) (cm : Value) (cb cp : Int32) : Prop := ((rh_ks L).length = 0 ∧ cm = .null) ∨ ∃ (b p : Nat) (q : Nat × Nat), b < 22 ∧ (L b)[p]? = some q ∧ cm = .ref q.1 ∧ cb = nI b ∧ cp = nI p ∧ ∀ i, i < 22 → ∀ q' ∈ L i, q.2 ≤ q'.2
def rh_ (P : gh_P) (G : gh_G) (R : rh_R) (last : Nat) : Prop := ∃ (ld mn mx : Nat) (cm : Value) (cb cp : Int32) (mc : Nat → Int32), G R.1 = some (rh_o (rh_ba R) (lN (rh_ks (rh_L R)).length) ld cm cb cp mn mx) ∧ G ld = some (gh_x (nI last)) ∧ G mx = some (gh_x 1048575) ∧ rh_S P G (rh_ba R) (rh_la R) (rh_da R) mc (rh_L R) ∧ rh_I (rh_L R) last ∧ rh_C (rh_L R) cm cb cp ∧ (rh_ks (rh_L R)).length ≤ 64 ∧ gh_N P ≤ R.1
/-- the cells that a heap owns -/
def rh_F (P : gh_P) (R : rh_R) : Nat → Prop := fun a => a = R.1 ∨ a = rh_ba R ∨ ∃ i, i < 22 ∧ (a = rh_la R i ∨ a = rh_da R i ∧ gh_N P ≤ a)
/-- the constructor's loop: i lists made -/
def nb_ (P : gh_P) (G1 : gh_G) (ba i : Nat) (la : Nat → Nat) (f : Nat → Option Nat) (G : gh_G) : Prop := gh_fr (fun a => a = ba) G1 G ∧ G ba = some (gh_q (gh_cL P) 22 f) ∧ (∀ j, j < i → f j = some (la j) ∧ G (la j) = some (gh_o 3 [.int 0, .ref (gh_aE P), .int 0]) ∧ G1 (la j) = none ∧ gh_N P ≤ la j) ∧ ∀ j k, j < i → k < i → la j = la k → j = k
theorem gh_up_id {G : gh_G} {a : Nat} {e : va_E} (h : G a = some e) : gh_up G a e = G := by
  funext b
  by_cases z : b = a
  · rw [z, gh_up_s, h]
  · rw [gh_up_n _ _ z]
theorem nb_0 {P : gh_P} {G1 : gh_G} {ba : Nat} {f : Nat → Option Nat} (h : G1 ba = some (gh_q (gh_cL P) 22 f)) : nb_ P G1 ba 0 (fun _ => 0) f G1 := ⟨fun _ _ h _ => h, h, fun j hj => absurd hj (Nat.not_lt_zero j), fun j _ hj => absurd hj (Nat.not_lt_zero j)⟩
theorem nb_s {P : gh_P} {G1 G : gh_G} {ba i q : Nat} {la : Nat → Nat} {f : Nat → Option Nat} (h : nb_ P G1 ba i la f G) (hb : G1 ba ≠ none) (hq : G q = none) (hN : gh_N P ≤ q) : nb_ P G1 ba (i + 1) (va_up la i q) (va_up f i (some q)) (gh_up (gh_up G q (gh_o 3 [.int 0, .ref (gh_aE P), .int 0])) ba (gh_q (gh_cL P) 22 (va_up f i (some q)))) := by
  obtain ⟨h1, h2, h3, h4⟩ := h
  have hqb : q ≠ ba := fun z => by rw [z, h2] at hq; cases hq
  have hq1 : G1 q = none := by
    cases hx : G1 q with
    | none => rfl
    | some e =>
      have := h1 q e hx hqb
      rw [hq] at this
      cases this
  have hlq : ∀ j, j < i → la j ≠ q := fun j hj z => by
    have := (h3 j hj).2.1
    rw [z, hq] at this
    cases this
  refine ⟨fun a e ha hF => ?_, gh_up_s _ _ _, fun j hj => ?_, fun j k hj hk => ?_⟩
  · have := h1 a e ha hF
    rw [gh_up_n _ _ hF, gh_up_n _ _ (gh_nf this hq)]
    exact this
  · by_cases hji : j = i
    · subst hji
      rw [va_up_self, va_up_self]
      exact ⟨rfl, by rw [gh_up_n _ _ hqb, gh_up_s], hq1, hN⟩
    · have hj2 : j < i := by omega
      rw [va_up_ne _ _ hji, va_up_ne _ _ hji]
      obtain ⟨a1, a2, a3, a4⟩ := h3 j hj2
      have hlb : la j ≠ ba := fun z => hb (by rw [← z]; exact a3)
      exact ⟨a1, by rw [gh_up_n _ _ hlb, gh_up_n _ _ (hlq j hj2)]; exact a2, a3, a4⟩
  · by_cases hji : j = i <;> by_cases hki : k = i
    · intro _; omega
    · subst hji
      rw [va_up_self, va_up_ne _ _ hki]
      exact fun z => absurd z.symm (hlq k (by omega))
    · subst hki
      rw [va_up_self, va_up_ne _ _ hji]
      exact fun z => absurd z (hlq j (by omega))
    · rw [va_up_ne _ _ hki, va_up_ne _ _ hji]
      exact h4 j k (by omega) (by omega)
set_option maxHeartbeats 4000000 in
theorem c_heap_loop {p : Program} {l : Launch} {e : Env} {s : State} {m : MethodId} {args : Array Value} {below : List Frame} {meth : Method} {c : Code} {R : Room} {Q : State → Prop} {P : gh_P} {G1 : gh_G} {h ba : Nat} {v0 v1 v2 v3 v4 v5 v6 : Value} (hx : p.tables.exec = Jvm.exec) (hb : c.code = cX2_init) (hml : c.maxLocals = 5) (hts : ∀ w ∈ lw_all, w.before args s = true) (hown : s.vm.findClass "IntegerRadixHeap" = some m.cls) (hE : gh_E P s) (hR : 4 ≤ R.frames ∧ 26 ≤ R.cells ∧ 91 ≤ R.slots ∧ 73 ≤ R.locals) (hh1 : G1 h = some (gh_o 1 [.ref ba, v0, v1, v2, v3, v4, v5, v6])) (hb1 : G1 ba ≠ none) (hhb : h ≠ ba) (hNb : gh_N P ≤ ba)
    (kk : ∀ (la : Nat → Nat) (f : Nat → Option Nat) (G : gh_G) (H : Heap) (locs : List Loc) (ls : Array Slot), nb_ P G1 ba 22 la f G → gh_H P G H → va_S (gh_A P) s.heap H locs → lv_has ls 5 [(4, .int (nI 22)), (3, .int 22), (0, .ref h), (1, .int 0), (2, .int 1048575)] → W p l e R s m args below meth c H locs 26 91 Q (F0 m 130 ls [])) :
    ∀ (k i : Nat) (la : Nat → Nat) (f : Nat → Option Nat) (G : gh_G) (H : Heap) (locs : List Loc) (ls : Array Slot), i ≤ 22 → 22 < i + k → nb_ P G1 ba i la f G → gh_H P G H → va_S (gh_A P) s.heap H locs → lv_has ls 5 [(4, .int (nI i)), (3, .int 22), (0, .ref h), (1, .int 0), (2, .int 1048575)] → W p l e R s m args below meth c H locs (4 + i) (25 + 3 * i) Q (F0 m 100 ls []) := by
  intro k
  induction k with
  | zero =>
    intro i la f G H locs ls h1 h2
    exact absurd h2 (by omega)
  | succ k ih =>
    intro i la f G H locs ls hi hk hnb hG hS hl
    have hh : G h = some (gh_o 1 [.ref ba, v0, v1, v2, v3, v4, v5, v6]) := hnb.1 h _ hh1 hhb
    refine lv_iload hx hb dX2_init_100 (lv_at hl 0 rfl) ?_
    refine lv_aload_n hx hb dX2_init_102 rfl (lv_at hl 2 rfl) ?_
    refine gh_get (C := RX2) (T := TX2) (N := 8) (v := .ref ba) hx hb hts in_X2 hown hE hG hh rfl 0 (by decide) q184 (u_same (hts _ q185)) rfl dX2_init_103 ?_
    refine gh_qlen 2 rfl hx hb hE hG hnb.2.1 dX2_init_106 ?_
    refine lv_icmp_ge (tgt := 130) hx hb dX2_init_107 (by decide) (fun c_1 => ?_) (fun c_1 => ?_)
    · have hin : i = 22 := by rw [nI_leI (by omega) (by omega)] at c_1; omega
      subst hin
      exact kk la f G H locs ls hnb hG hS hl
    · have hin : i < 22 := by rw [nI_leI (by omega) (by omega)] at c_1; omega
      refine lv_aload_n hx hb dX2_init_110 rfl (lv_at hl 2 rfl) ?_
      refine gh_get (C := RX2) (T := TX2) (N := 8) (v := .ref ba) hx hb hts in_X2 hown hE hG hh rfl 0 (by decide) q184 (u_same (hts _ q185)) rfl dX2_init_111 ?_
      refine lv_iload hx hb dX2_init_114 (lv_at hl 0 rfl) ?_
      refine gh_new (ci := 3) (fs := [.int 0, .null, .int 0]) (C := RJ8) (T := TJ8) (N := 3) hx hb hts in_J8 tyJ8 tyJ8_ok hown q155 q156 q20 hE hG hS rfl (fun j hj => by rcases (show j = 0 ∨ j = 1 ∨ j = 2 by omega) with rfl | rfl | rfl <;> rfl) (by omega) (by omega) dX2_init_116 (fun q H hN_q hf_q hG hS => ?_)
      refine lv_dup hx hb dX2_init_119 rfl ?_
      refine gh_callv (va_runI (As := []) (rest := [.ref q, .int (nI i), .ref ba]) ⟨hx, hb, hml, hown, hts⟩ (c_al_init l P _ q (gh_up_s _ _ _) hN_q) (cwI 0 hts (lw_meth q159) rfl rfl rfl (hts _ q20) (hts _ q157) (hts _ q158) rfl (by decide +kernel) ⟨by show 3 + 1 ≤ R.frames; omega, by show 8 + (1 + 11) + 52 ≤ R.locals; omega⟩) (gh_preS hE hG hS) rfl rfl hl.1 rfl (lv_room (Nat.le_of_ble_eq_true rfl)) dX2_init_120 ⟨by omega, by omega⟩) hS (fun G1 H locs hw hG hS => ?_)
      rw [hw, gh_up_up] at hG
      refine gh_aast 2 rfl hx hb hE hG hS hNb (show gh_up G q _ ba = _ by rw [gh_up_n _ _ (gh_nf hnb.2.1 hf_q)]; exact hnb.2.1) (gh_any hE hG (gh_up_s _ _ _) rfl (vb_asgC (hE.w 0 rfl))) (vp_in_nI hin (by omega)) dX2_init_123 (fun H locs hG hS => ?_)
      rw [nI_clamp (by omega)] at hG
      refine lv_iinc (v := nI (i + 1)) (lv' := [(4, .int (nI (i + 1))), (3, .int 22), (0, .ref h), (1, .int 0), (2, .int 1048575)]) hx hb dX2_init_124 hl (k := 0) rfl (nI_1 i) (by decide) rfl (fun ls hl => ?_)
      refine lv_goto (tgt := 100) hx hb dX2_init_127 (by decide) ?_
      refine W.cs (cells' := 4 + (i + 1)) (slots' := 25 + 3 * (i + 1)) (by omega) (by omega) ?_
      exact ih (i + 1) _ _ _ H locs ls hin (by omega) (nb_s hnb hb1 hf_q hN_q) hG hS hl
theorem lg_1 : vf_n64 (FP.dsub 4611686009837453312 FP.dconst1) ∧ vf_n64 (FP.dadd (FP.i2d (nI 19)) (FP.dsub 4611686009837453312 FP.dconst1)) ∧ vf_n64 (FP.dsub 4607182418800017408 FP.dconst1) ∧ vf_n64 (FP.dadd (FP.i2d (nI 1)) (FP.dsub 4607182418800017408 FP.dconst1)) ∧ vf_n64 (FP.ddiv (FP.dadd (FP.i2d (nI 19)) (FP.dsub 4611686009837453312 FP.dconst1)) (FP.dadd (FP.i2d (nI 1)) (FP.dsub 4607182418800017408 FP.dconst1))) := by
  unfold vf_n64
  decide +kernel
theorem lg_2 : Op.cmpValue (FP.dcmp (FP.l2d (FP.d2l (FP.ddiv (FP.dadd (FP.i2d (nI 19)) (FP.dsub 4611686009837453312 FP.dconst1)) (FP.dadd (FP.i2d (nI 1)) (FP.dsub 4607182418800017408 FP.dconst1))))) (FP.ddiv (FP.dadd (FP.i2d (nI 19)) (FP.dsub 4611686009837453312 FP.dconst1)) (FP.dadd (FP.i2d (nI 1)) (FP.dsub 4607182418800017408 FP.dconst1)))) .l ≤ 0 := by decide +kernel
theorem lg_3 : (3 : Int32) + FP.d2i (FP.l2d (FP.d2l (FP.ddiv (FP.dadd (FP.i2d (nI 19)) (FP.dsub 4611686009837453312 FP.dconst1)) (FP.dadd (FP.i2d (nI 1)) (FP.dsub 4607182418800017408 FP.dconst1))))) = 22 := by decide +kernel
theorem lg_4 : vf_n64 (FP.dsub (FP.i2d 1048575) (FP.i2d 0)) := by
  unfold vf_n64
  decide +kernel
theorem rh_0 {P : gh_P} {G1 G : gh_G} {ba h ld mn mx : Nat} {la : Nat → Nat} {f : Nat → Option Nat} {cb cp : Int32} (hnb : nb_ P G1 ba 22 la f G) (hB : gh_B P G) (hh : G h = some (rh_o ba 0 ld .null cb cp mn mx)) (hld : G ld = some (gh_x 0)) (hmx : G mx = some (gh_x 1048575)) (hN : gh_N P ≤ h) (hNb : gh_N P ≤ ba) : rh_ P G (h, ba, la, fun _ => gh_aE P, fun _ => []) 0 := by
  have hlen : (rh_ks (fun _ => [])).length = 0 := by rw [rh_ks, fl_nil (B := rh_B fun _ => []) (fun _ _ => rfl)]; rfl
  obtain ⟨n1, n2, n3, n4⟩ := hnb
  obtain ⟨-, b1, b2⟩ := hB
  refine ⟨ld, mn, mx, .null, cb, cp, fun _ => 0, by rw [hlen]; exact hh, hld, hmx, ⟨⟨f, n2, fun i hi => (n3 i hi).1⟩, fun i hi => ?_, fun i hi q hq => absurd hq List.not_mem_nil, fun i j hi hj e => n4 i j hi hj e, fun i j _ _ _ e => absurd b1 (Nat.not_lt.mpr e), fun i hi z => ?_, hNb⟩, ⟨by omega, fun i hi q hq => absurd hq List.not_mem_nil⟩, Or.inl ⟨hlen, rfl⟩, by rw [hlen]; omega, hN⟩
  · exact ⟨0, _, (n3 i hi).2.1, b2, Nat.le_refl 0, by omega, fun i b q => by have q2 : ([] : List Nat)[i]? = some b := q; simp at q2, (n3 i hi).2.2.2, Or.inl ⟨rfl, rfl⟩⟩
  · have z2 : ba = gh_aE P := z
    omega
set_option maxHeartbeats 4000000 in
/-- IntegerRadixHeap(0, 1048575) -/
theorem c_heap_init (l : Launch) (P : gh_P) (G : gh_G) (h : Nat) (hh : G h = some (gh_o 1 [.null, .long 0, .null, .null, .int 0, .int 0, .null, .null])) (hN : gh_N P ≤ h) : Met l yX2_init (ws_ yX2_init cX2_init 5 none) ({ frames := 4, cells := 26, slots := 91, locals := 73 }) (gh_Pc P G [.ref h, .int 0, .int 1048575]) (gh_Qv P (fun G1 => ∃ R : rh_R, R.1 = h ∧ rh_ P G1 R 0 ∧ (∀ i, rh_L R i = []) ∧ gh_fr (fun a => a = h) G G1 ∧ ∀ a, rh_F P R a → a = h ∨ G a = none)) 26 91 (gh_A P) := by
  refine gh_met (plainFor_of_name (by decide)) (Nat.le_of_ble_eq_true rfl) ?_
  intro p e s m below meth c hx hb hr hlocks hml hown hin hts hE hG ls hl
  have hS : va_S (gh_A P) s.heap s.heap [] := va_S.rf
  have hl : lv_has ls 5 [(0, .ref h), (1, .int 0), (2, .int 1048575)] := hl
  refine lv_aload_n hx hb dX2_init_0 rfl (lv_at hl 0 rfl) ?_
  refine gh_callv (va_runI (As := []) (rest := []) ⟨hx, hb, hml, hown, hts⟩ (c_rinit l P G h) (cwI 0 hts (lw_meth q55) rfl rfl rfl (hts _ q9) (hts _ q53) (hts _ q54) rfl (by decide +kernel) ⟨Nat.le_of_ble_eq_true rfl, Nat.le_of_ble_eq_true rfl⟩) (gh_preS hE hG hS) rfl rfl hl.1 rfl (lv_room (Nat.le_of_ble_eq_true rfl)) dX2_init_1 ⟨Nat.le_of_ble_eq_true rfl, Nat.le_of_ble_eq_true rfl⟩) hS (fun G1 H locs hw hG hS => ?_)
  rw [hw] at hG
  refine lv_iload_n hx hb dX2_init_4 rfl (lv_at hl 1 rfl) ?_
  refine lv_if_ge (tgt := 18) hx hb dX2_init_5 (by decide) (fun _ => ?_) (fun c_9 => absurd (by decide) c_9)
  refine lv_aload_n hx hb dX2_init_18 rfl (lv_at hl 0 rfl) ?_
  refine lv_iload_n hx hb dX2_init_19 rfl (lv_at hl 1 rfl) ?_
  refine gh_callr (va_runS (As := [.int 0]) (rest := [.ref h]) ⟨hx, hb, hml, hown, hts⟩ (c_int_valueOf l P G 0) (va_cwS 1 hts (lw_S q124 q125 q16 q126) rfl rfl rfl (by decide +kernel) ⟨Nat.le_of_ble_eq_true rfl, Nat.le_of_ble_eq_true rfl⟩) (gh_preS hE hG hS) rfl rfl hl.1 rfl (lv_room (Nat.le_of_ble_eq_true rfl)) dX2_init_20 ⟨Nat.le_of_ble_eq_true rfl, Nat.le_of_ble_eq_true rfl⟩) hS (fun b1 G1 H locs hw hG hS => ?_)
  obtain ⟨hle1, hb1⟩ := hw
  have hh1 := hle1 _ _ hh
  refine gh_put (C := RX2) (T := TX2) (N := 8) (v := .ref b1) hx hb hts in_X2 tyX2 tyX2_ok nmX2 hown hE hG hS hN hh1 rfl 6 (by decide) q198 (u_same (hts _ q199)) rfl rfl rfl (Nat.le_of_ble_eq_true rfl) dX2_init_23 (fun H locs hG hS => ?_)
  have hG : gh_H P (gh_up G1 h (gh_o 1 [.null, .long 0, .null, .null, .int 0, .int 0, .ref b1, .null])) H := hG
  obtain ⟨G2, hG2⟩ : ∃ g, g = gh_up G1 h (gh_o 1 [.null, .long 0, .null, .null, .int 0, .int 0, .ref b1, .null]) := ⟨_, rfl⟩
  rw [← hG2] at hG
  have hh2 : G2 h = some (gh_o 1 [.null, .long 0, .null, .null, .int 0, .int 0, .ref b1, .null]) := by rw [hG2, gh_up_s]
  have hf2 : gh_fr (fun a => a = h) G G2 := fun a x ha hF => by rw [hG2, gh_up_n _ _ hF]; exact hle1 _ _ ha
  refine lv_aload_n hx hb dX2_init_26 rfl (lv_at hl 0 rfl) ?_
  refine lv_iload_n hx hb dX2_init_27 rfl (lv_at hl 1 rfl) ?_
  refine gh_callr (va_runS (As := [.int 0]) (rest := [.ref h]) ⟨hx, hb, hml, hown, hts⟩ (c_int_valueOf l P G2 0) (va_cwS 1 hts (lw_S q124 q125 q16 q126) rfl rfl rfl (by decide +kernel) ⟨Nat.le_of_ble_eq_true rfl, Nat.le_of_ble_eq_true rfl⟩) (gh_preS hE hG hS) rfl rfl hl.1 rfl (lv_room (Nat.le_of_ble_eq_true rfl)) dX2_init_28 ⟨Nat.le_of_ble_eq_true rfl, Nat.le_of_ble_eq_true rfl⟩) hS (fun b2 G3 H locs hw hG hS => ?_)
  obtain ⟨hle3, hb3⟩ := hw
  have hh3 := hle3 _ _ hh2
  refine gh_put (C := RX2) (T := TX2) (N := 8) (v := .ref b2) hx hb hts in_X2 tyX2 tyX2_ok nmX2 hown hE hG hS hN hh3 rfl 2 (by decide) q190 (u_same (hts _ q191)) rfl rfl rfl (Nat.le_of_ble_eq_true rfl) dX2_init_31 (fun H locs hG hS => ?_)
  have hG : gh_H P (gh_up G3 h (gh_o 1 [.null, .long 0, .ref b2, .null, .int 0, .int 0, .ref b1, .null])) H := hG
  obtain ⟨G4, hG4⟩ : ∃ g, g = gh_up G3 h (gh_o 1 [.null, .long 0, .ref b2, .null, .int 0, .int 0, .ref b1, .null]) := ⟨_, rfl⟩
  rw [← hG4] at hG
  have hh4 : G4 h = some (gh_o 1 [.null, .long 0, .ref b2, .null, .int 0, .int 0, .ref b1, .null]) := by rw [hG4, gh_up_s]
  have hb4 : G4 b2 = some (gh_x 0) := by rw [hG4, gh_up_n _ _ (gh_ne hb3 hh3 (by simp))]; exact hb3
  have hf4 : gh_fr (fun a => a = h) G G4 := gh_fr_tr hf2 (fun a x ha hF => by rw [hG4, gh_up_n _ _ hF]; exact hle3 _ _ ha)
  refine lv_iload_n hx hb dX2_init_34 rfl (lv_at hl 2 rfl) ?_
  refine lv_iload_n hx hb dX2_init_35 rfl (lv_at hl 1 rfl) ?_
  refine lv_icmp_ge (tgt := 49) hx hb dX2_init_36 (by decide) (fun _ => ?_) (fun c_9 => absurd (by decide) c_9)
  refine lv_aload_n hx hb dX2_init_49 rfl (lv_at hl 0 rfl) ?_
  refine lv_iload_n hx hb dX2_init_50 rfl (lv_at hl 2 rfl) ?_
  refine gh_callr (va_runS (As := [.int 1048575]) (rest := [.ref h]) ⟨hx, hb, hml, hown, hts⟩ (c_int_valueOf l P G4 1048575) (va_cwS 1 hts (lw_S q124 q125 q16 q126) rfl rfl rfl (by decide +kernel) ⟨Nat.le_of_ble_eq_true rfl, Nat.le_of_ble_eq_true rfl⟩) (gh_preS hE hG hS) rfl rfl hl.1 rfl (lv_room (Nat.le_of_ble_eq_true rfl)) dX2_init_51 ⟨Nat.le_of_ble_eq_true rfl, Nat.le_of_ble_eq_true rfl⟩) hS (fun b3 G5 H locs hw hG hS => ?_)
  obtain ⟨hle5, hb5⟩ := hw
  have hh5 := hle5 _ _ hh4
  refine gh_put (C := RX2) (T := TX2) (N := 8) (v := .ref b3) hx hb hts in_X2 tyX2 tyX2_ok nmX2 hown hE hG hS hN hh5 rfl 7 (by decide) q200 (u_same (hts _ q201)) rfl rfl rfl (Nat.le_of_ble_eq_true rfl) dX2_init_54 (fun H locs hG hS => ?_)
  have hG : gh_H P (gh_up G5 h (gh_o 1 [.null, .long 0, .ref b2, .null, .int 0, .int 0, .ref b1, .ref b3])) H := hG
  obtain ⟨G6, hG6⟩ : ∃ g, g = gh_up G5 h (gh_o 1 [.null, .long 0, .ref b2, .null, .int 0, .int 0, .ref b1, .ref b3]) := ⟨_, rfl⟩
  rw [← hG6] at hG
  have hh6 : G6 h = some (gh_o 1 [.null, .long 0, .ref b2, .null, .int 0, .int 0, .ref b1, .ref b3]) := by rw [hG6, gh_up_s]
  have hb6 : G6 b2 = some (gh_x 0) := by rw [hG6, gh_up_n _ _ (gh_ne (hle5 _ _ hb4) hh5 (by simp))]; exact hle5 _ _ hb4
  have hx6 : G6 b3 = some (gh_x 1048575) := by rw [hG6, gh_up_n _ _ (gh_ne hb5 hh5 (by simp))]; exact hb5
  have hf6 : gh_fr (fun a => a = h) G G6 := gh_fr_tr hf4 (fun a x ha hF => by rw [hG6, gh_up_n _ _ hF]; exact hle5 _ _ ha)
  refine lv_iload_n hx hb dX2_init_57 rfl (lv_at hl 2 rfl) ?_
  refine lv_iload_n hx hb dX2_init_58 rfl (lv_at hl 1 rfl) ?_
  refine lv_icmp_ne (tgt := 67) hx hb dX2_init_59 (by decide) (fun _ => ?_) (fun c_9 => absurd c_9 (by decide))
  refine lv_iconst (v := 3) hx hb dX2_init_67 (by decide) ?_
  refine lv_iload_n hx hb dX2_init_68 rfl (lv_at hl 2 rfl) ?_
  refine lv_i2d hx hb dX2_init_69 ?_
  refine lv_iload_n hx hb dX2_init_70 rfl (lv_at hl 1 rfl) ?_
  refine lv_i2d hx hb dX2_init_71 ?_
  refine lv_dsub hx hb dX2_init_72 lg_4 ?_
  refine gh_calld (va_runS (As := [.double (FP.dsub (FP.i2d 1048575) (FP.i2d 0))]) (rest := [.int 3]) ⟨hx, hb, hml, hown, hts⟩ (c_log l P G6 (FP.dsub (FP.i2d 1048575) (FP.i2d 0)) 4611686009837453312 (FP.dadd (FP.i2d (nI 19)) (FP.dsub 4611686009837453312 FP.dconst1)) 19 lg_a lg_1.1 lg_1.2.1 rfl) (va_cwS 1 hts (lw_S q145 q146 q8 q147) rfl rfl rfl (by decide +kernel) ⟨Nat.le_of_ble_eq_true rfl, Nat.le_of_ble_eq_true rfl⟩) (gh_preS hE hG hS) rfl rfl hl.1 rfl (lv_room (Nat.le_of_ble_eq_true rfl)) dX2_init_73 ⟨Nat.le_of_ble_eq_true rfl, Nat.le_of_ble_eq_true rfl⟩) hS (fun r G1 H locs hw hG hS => ?_)
  obtain ⟨rfl, hw⟩ := hw
  rw [hw] at hG
  refine lv_ldc2d (v := 4611686018427387904) hx hb hown (hts _ q149) dX2_init_76 ?_
  refine gh_calld (va_runS (As := [.double 4611686018427387904]) (rest := [.double (FP.dadd (FP.i2d (nI 19)) (FP.dsub 4611686009837453312 FP.dconst1)), .int 3]) ⟨hx, hb, hml, hown, hts⟩ (c_log l P G6 4611686018427387904 4607182418800017408 (FP.dadd (FP.i2d (nI 1)) (FP.dsub 4607182418800017408 FP.dconst1)) 1 lg_b lg_1.2.2.1 lg_1.2.2.2.1 rfl) (va_cwS 1 hts (lw_S q145 q146 q8 q147) rfl rfl rfl (by decide +kernel) ⟨Nat.le_of_ble_eq_true rfl, Nat.le_of_ble_eq_true rfl⟩) (gh_preS hE hG hS) rfl rfl hl.1 rfl (lv_room (Nat.le_of_ble_eq_true rfl)) dX2_init_79 ⟨Nat.le_of_ble_eq_true rfl, Nat.le_of_ble_eq_true rfl⟩) hS (fun r G1 H locs hw hG hS => ?_)
  obtain ⟨rfl, hw⟩ := hw
  rw [hw] at hG
  refine lv_ddiv hx hb dX2_init_82 lg_1.2.2.2.2 ?_
  refine gh_calld (va_runS (As := [.double (FP.ddiv (FP.dadd (FP.i2d (nI 19)) (FP.dsub 4611686009837453312 FP.dconst1)) (FP.dadd (FP.i2d (nI 1)) (FP.dsub 4607182418800017408 FP.dconst1)))]) (rest := [.int 3]) ⟨hx, hb, hml, hown, hts⟩ (c_floor l P G6 (FP.ddiv (FP.dadd (FP.i2d (nI 19)) (FP.dsub 4611686009837453312 FP.dconst1)) (FP.dadd (FP.i2d (nI 1)) (FP.dsub 4607182418800017408 FP.dconst1))) lg_2) (va_cwS 1 hts (lw_S q150 q151 q8 q152) rfl rfl rfl (by decide +kernel) ⟨Nat.le_of_ble_eq_true rfl, Nat.le_of_ble_eq_true rfl⟩) (gh_preS hE hG hS) rfl rfl hl.1 rfl (lv_room (Nat.le_of_ble_eq_true rfl)) dX2_init_83 ⟨Nat.le_of_ble_eq_true rfl, Nat.le_of_ble_eq_true rfl⟩) hS (fun r G1 H locs hw hG hS => ?_)
  obtain ⟨rfl, hw⟩ := hw
  rw [hw] at hG
  refine lv_d2i hx hb dX2_init_86 ?_
  refine lv_iadd hx hb dX2_init_87 ?_
  refine lv_topi (fun z_0 ez_0 => ?_)
  obtain rfl : z_0 = 22 := ez_0.trans lg_3
  refine lv_istore_n (lv' := [(3, .int 22), (0, .ref h), (1, .int 0), (2, .int 1048575)]) hx hb dX2_init_88 rfl hl (by decide) rfl (fun ls hl => ?_)
  refine lv_aload_n hx hb dX2_init_89 rfl (lv_at hl 1 rfl) ?_
  refine lv_iload_n hx hb dX2_init_90 rfl (lv_at hl 0 rfl) ?_
  refine gh_newq 2 rfl hx hb hts hown q153 hE.M.2.2.1 hE hG hS (by decide) (N' := 22) (by decide) (by decide) (Nat.le_of_ble_eq_true rfl) (Nat.le_of_ble_eq_true rfl) dX2_init_91 (fun ba H hN_q hf_q hG hS => ?_)
  have hhb : h ≠ ba := gh_nf hh6 hf_q
  refine gh_put (C := RX2) (T := TX2) (N := 8) (v := .ref ba) hx hb hts in_X2 tyX2 tyX2_ok nmX2 hown hE hG hS hN (show gh_up G6 ba _ h = _ by rw [gh_up_n _ _ hhb]; exact hh6) rfl 0 (by decide) q184 (u_same (hts _ q185)) rfl rfl rfl (Nat.le_of_ble_eq_true rfl) dX2_init_94 (fun H locs hG hS => ?_)
  obtain ⟨G7, hG7⟩ : ∃ g, g = gh_up (gh_up G6 ba (gh_q (gh_cL P) 22 (fun _ => none))) h (gh_o 1 [.ref ba, .long 0, .ref b2, .null, .int 0, .int 0, .ref b1, .ref b3]) := ⟨_, rfl⟩
  have hG : gh_H P G7 H := by rw [hG7]; exact hG
  have hh7 : G7 h = some (gh_o 1 [.ref ba, .long 0, .ref b2, .null, .int 0, .int 0, .ref b1, .ref b3]) := by rw [hG7, gh_up_s]
  have hq7 : G7 ba = some (gh_q (gh_cL P) 22 (fun _ => none)) := by rw [hG7, gh_up_n _ _ (Ne.symm hhb), gh_up_s]
  have hl7 : ∀ (a : Nat) (e : va_E), G6 a = some e → a ≠ h → G7 a = some e := fun a e ha hF => by rw [hG7, gh_up_n _ _ hF, gh_up_n _ _ (gh_nf ha hf_q)]; exact ha
  refine lv_iconst (v := 0) hx hb dX2_init_97 (by decide) ?_
  refine lv_istore (lv' := [(4, .int 0), (3, .int 22), (0, .ref h), (1, .int 0), (2, .int 1048575)]) hx hb dX2_init_98 hl (by decide) rfl (fun ls hl => ?_)
  have hl : lv_has ls 5 [(4, .int (nI 0)), (3, .int 22), (0, .ref h), (1, .int 0), (2, .int 1048575)] := hl
  refine W.cs (cells' := 4 + 0) (slots' := 25 + 3 * 0) rfl rfl ?_
  refine c_heap_loop (h := h) (ba := ba) (G1 := G7) hx hb hml hts hown hE ⟨Nat.le_of_ble_eq_true rfl, Nat.le_of_ble_eq_true rfl, Nat.le_of_ble_eq_true rfl, Nat.le_of_ble_eq_true rfl⟩ hh7 (by rw [hq7]; exact fun z => by cases z) hhb hN_q (fun la f G8 H locs ls hnb hG hS hl => ?_) 23 0 _ _ G7 H locs ls (by omega) (by omega) (nb_0 hq7) hG hS hl
  have hh8 := hnb.1 _ _ hh7 hhb
  refine lv_aload_n hx hb dX2_init_130 rfl (lv_at hl 2 rfl) ?_
  refine lv_lconst (v := 0) hx hb dX2_init_131 (by decide) ?_
  refine gh_put (C := RX2) (T := TX2) (N := 8) (v := .long 0) hx hb hts in_X2 tyX2 tyX2_ok nmX2 hown hE hG hS hN hh8 rfl 1 (by decide) q187 (u_same (hts _ q188)) rfl rfl rfl (Nat.le_of_ble_eq_true rfl) dX2_init_132 (fun H locs hG hS => ?_)
  have hG : gh_H P (gh_up _ h (gh_o 1 [.ref ba, .long 0, .ref b2, .null, .int 0, .int 0, .ref b1, .ref b3])) H := hG
  refine lv_aload_n hx hb dX2_init_135 rfl (lv_at hl 2 rfl) ?_
  refine lv_null hx hb dX2_init_136 ?_
  refine gh_put (C := RX2) (T := TX2) (N := 8) (v := .null) hx hb hts in_X2 tyX2 tyX2_ok nmX2 hown hE hG hS hN (gh_up_s _ _ _) rfl 3 (by decide) q193 (u_same (hts _ q194)) rfl rfl rfl (Nat.le_of_ble_eq_true rfl) dX2_init_137 (fun H locs hG hS => ?_)
  have hG : gh_H P (gh_up _ h (gh_o 1 [.ref ba, .long 0, .ref b2, .null, .int 0, .int 0, .ref b1, .ref b3])) H := hG
  rw [gh_up_up] at hG
  have e9 : gh_up G8 h (gh_o 1 [.ref ba, .long 0, .ref b2, .null, .int 0, .int 0, .ref b1, .ref b3]) = G8 := gh_up_id hh8
  have hG : gh_H P G8 H := by rw [← e9]; exact hG
  have hk8 : ∀ (a : Nat) (e : va_E), G6 a = some e → a ≠ h → a ≠ ba → G8 a = some e := fun a e ha h1 h2 => hnb.1 a e (hl7 a e ha h1) h2
  have hR : rh_ P G8 (h, ba, la, fun _ => gh_aE P, fun _ => []) 0 := rh_0 hnb hG.1 hh8 (hk8 _ _ hb6 (gh_ne hb6 hh6 (by simp)) (gh_nf hb6 hf_q)) (hk8 _ _ hx6 (gh_ne hx6 hh6 (by simp)) (gh_nf hx6 hf_q)) hN hN_q
  have hfr : gh_fr (fun a => a = h) G G8 := gh_fr_tr hf6 (fun a x ha hF => hk8 a x ha hF (gh_nf ha hf_q))
  have hnn : ∀ a, G6 a = none → a = h ∨ G a = none := fun a ha => by
    by_cases z : a = h
    · exact Or.inl z
    · cases hx9 : G a with
      | none => exact Or.inr rfl
      | some x =>
        have := hf6 a x hx9 z
        rw [ha] at this
        cases this
  have hnf : ∀ a, rh_F P (h, ba, la, fun _ => gh_aE P, fun _ => []) a → a = h ∨ G a = none := fun a ha => by
    rcases ha with z | z | ⟨i, hi, z | ⟨z, z2⟩⟩
    · exact Or.inl z
    · exact hnn a (by rw [show a = ba from z]; exact hf_q)
    · refine hnn a ?_
      have q7 := (hnb.2.2.1 i hi).2.2.1
      rw [show a = la i from z]
      cases hx9 : G6 (la i) with
      | none => rfl
      | some x =>
        have := hl7 (la i) x hx9 (fun w => by rw [w, hh7] at q7; cases q7)
        rw [q7] at this
        cases this
    · have z3 : a = gh_aE P := z
      have := hG.1.2.1
      omega
  exact gh_vret hx hb hr hlocks hG hS (⟨_, rfl, hR, fun _ => rfl, hfr, hnf⟩) (Nat.le_of_ble_eq_true rfl) (Nat.le_of_ble_eq_true rfl) dX2_init_140
set_option maxHeartbeats 4000000 in
/-- IntegerRadixHeapDesk.fresh() -/
theorem c_fresh (l : Launch) (P : gh_P) (G : gh_G)  : Met l yX0_fresh (ws_ yX0_fresh cX0_fresh 0 (some (.object "IntegerRadixHeap"))) ({ frames := 5, cells := 27, slots := 99, locals := 97 }) (gh_Pc P G []) (gh_Qr P (fun h G1 => ∃ R : rh_R, R.1 = h ∧ rh_ P G1 R 0 ∧ (∀ i, rh_L R i = []) ∧ gh_le G G1 ∧ ∀ a, rh_F P R a → G a = none)) 27 99 (gh_A P) := by
  refine gh_met (plainFor_of_name (by decide)) (Nat.le_of_ble_eq_true rfl) ?_
  intro p e s m below meth c hx hb hr hlocks hml hown hin hts hE hG ls hl
  have hS : va_S (gh_A P) s.heap s.heap [] := va_S.rf
  have hl : lv_has ls 0 [] := hl
  refine gh_new (ci := 1) (fs := [.null, .long 0, .null, .null, .int 0, .int 0, .null, .null]) (C := RX2) (T := TX2) (N := 8) hx hb hts in_X2 tyX2 tyX2_ok hown q43 q48 q10 hE hG hS rfl (fun j hj => by rcases (show j = 0 ∨ j = 1 ∨ j = 2 ∨ j = 3 ∨ j = 4 ∨ j = 5 ∨ j = 6 ∨ j = 7 by omega) with rfl | rfl | rfl | rfl | rfl | rfl | rfl | rfl <;> rfl) (Nat.le_of_ble_eq_true rfl) (Nat.le_of_ble_eq_true rfl) dX0_fresh_0 (fun h H hN_h hf_h hG hS => ?_)
  refine lv_dup hx hb dX0_fresh_3 rfl ?_
  refine lv_iconst (v := 0) hx hb dX0_fresh_4 (by decide) ?_
  refine lv_ldc (v := 1048575) hx hb hown (hts _ q49) dX0_fresh_5 ?_
  refine gh_callv (va_runI (As := [.int 0, .int 1048575]) (rest := [.ref h]) ⟨hx, hb, hml, hown, hts⟩ (c_heap_init l P _ h (gh_up_s _ _ _) hN_h) (cwI 2 hts (lw_meth q52) rfl rfl rfl (hts _ q10) (hts _ q50) (hts _ q51) rfl (by decide +kernel) ⟨Nat.le_of_ble_eq_true rfl, Nat.le_of_ble_eq_true rfl⟩) (gh_preS hE hG hS) rfl rfl hl.1 rfl (lv_room (Nat.le_of_ble_eq_true rfl)) dX0_fresh_7 ⟨Nat.le_of_ble_eq_true rfl, Nat.le_of_ble_eq_true rfl⟩) hS (fun G1 H locs hw hG hS => ?_)
  obtain ⟨R, r1, r2, r3, r4, r5⟩ := hw
  exact gh_aret hx hb hr hlocks (Or.inl ⟨_, rfl⟩) hG hS (⟨R, r1, r2, r3, fun a e ha => r4 a e (by rw [gh_up_n _ _ (gh_nf ha hf_h)]; exact ha) (gh_nf ha hf_h), fun a ha => by rcases r5 a ha with z | z <;> first | (rw [z]; exact hf_h) | exact gh_up_none z⟩) (Nat.le_of_ble_eq_true rfl) (Nat.le_of_ble_eq_true rfl) dX0_fresh_10
end
section
/-! A radix heap: what a change of one list, or of one other cell, does to it; insert -/
set_option maxRecDepth 100000
theorem rh_S_set {P : gh_P} {G G1 : gh_G} {ba b d' : Nat} {la da : Nat → Nat} {mc : Nat → Int32} {mc' : Int32} {L : Nat → List (Nat × Nat)} {X : List (Nat × Nat)} (h : rh_S P G ba la da mc L) (hb : b < 22) (hal : al_ P G1 (la b) d' mc' (X.map Prod.fst)) (hd : d' = da b ∨ G d' = none) (hf : gh_fr (al_F P (la b) (da b)) G G1) (hX : ∀ q ∈ X, G q.1 = some (gh_x (nI q.2))) : rh_S P G1 ba la (va_up da b d') (va_up mc b mc') (va_up L b X) := by
  obtain ⟨⟨f, s1, s2⟩, s3, s4, s5, s6, s7, s8⟩ := h
  have hbl := (al_head (s3 b hb)).1
  obtain ⟨cap0, f0, hbd⟩ : ∃ cap f, G (da b) = some (gh_q (gh_cO P) cap f) := by
    obtain ⟨cap, f, -, h2, -⟩ := s3 b hb
    exact ⟨cap, f, h2⟩
  have hbox : ∀ (y : Nat) (v : Int32), G y = some (gh_x v) → G1 y = some (gh_x v) := fun y v hy => hf _ _ hy (fun q => q.elim (gh_ne hy hbl (by simp)) (fun q => gh_ne hy hbd (by simp) q.1))
  refine ⟨⟨f, hf _ _ s1 (fun q => q.elim (gh_ne s1 hbl (by simp)) (fun q => s7 b hb q.1)), s2⟩, fun i hi => ?_, fun i hi q hq => ?_, s5, fun i j hi hj e hN => ?_, fun i hi => ?_, s8⟩
  · by_cases hib : i = b
    · subst hib
      rw [va_up_self, va_up_self, va_up_self]
      exact hal
    · rw [va_up_ne _ _ hib, va_up_ne _ _ hib, va_up_ne _ _ hib]
      have hil := (al_head (s3 i hi)).1
      obtain ⟨cap1, f1, hid⟩ : ∃ cap f, G (da i) = some (gh_q (gh_cO P) cap f) := by
        obtain ⟨cap, f, -, h2, -⟩ := s3 i hi
        exact ⟨cap, f, h2⟩
      exact al_kept (s3 i hi) hf (fun q => q.elim (fun q => hib (s5 i b hi hb q)) (fun q => gh_ne hil hbd (by simp) q.1)) (fun q => q.elim (gh_ne hid hbl (by simp)) (fun q => hib (s6 i b hi hb q.1 q.2)))
  · by_cases hib : i = b
    · subst hib
      rw [va_up_self] at hq
      exact hbox _ _ (hX q hq)
    · rw [va_up_ne _ _ hib] at hq
      exact hbox _ _ (s4 i hi q hq)
  · have hsome : ∀ i, i < 22 → G (da i) ≠ none := fun i hi z => by
      obtain ⟨cap, f, -, h2, -⟩ := s3 i hi
      rw [z] at h2
      cases h2
    by_cases hib : i = b <;> by_cases hjb : j = b
    · omega
    · subst hib
      rw [va_up_self] at e hN
      rw [va_up_ne _ _ hjb] at e
      rcases hd with q | q
      · exact s6 i j hi hj (q.symm.trans e) (by rw [← q]; exact hN)
      · exact absurd (by rw [← e]; exact q) (hsome j hj)
    · subst hjb
      rw [va_up_self, va_up_ne _ _ hib] at e
      rw [va_up_ne _ _ hib] at hN
      rcases hd with q | q
      · exact s6 i j hi hj (e.trans q) hN
      · exact absurd (by rw [e]; exact q) (hsome i hi)
    · rw [va_up_ne _ _ hib, va_up_ne _ _ hjb] at e
      rw [va_up_ne _ _ hib] at hN
      exact s6 i j hi hj e hN
  · by_cases hib : i = b
    · subst hib
      rw [va_up_self]
      rcases hd with q | q
      · rw [q]; exact s7 i hi
      · intro z
        rw [← z, s1] at q
        cases q
    · rw [va_up_ne _ _ hib]
      exact s7 i hi
/-- a cell that is none of the lists' changes -/
theorem rh_S_up {P : gh_P} {G : gh_G} {ba t : Nat} {la da : Nat → Nat} {mc : Nat → Int32} {L : Nat → List (Nat × Nat)} {e : va_E} (h : rh_S P G ba la da mc L) (ht : ∀ x, G t = some x → ∃ (k : Nat) (fs : List Value), x = gh_o k fs ∧ k ≠ 3 ∧ k ≠ 5) : rh_S P (gh_up G t e) ba la da mc L := by
  have key : ∀ (a : Nat) (x : va_E), G a = some x → (∀ (k : Nat) (fs : List Value), x = gh_o k fs → k = 3 ∨ k = 5) → gh_up G t e a = some x := fun a x ha hx => by
    rw [gh_up_n _ _ (fun z => by
      subst z
      obtain ⟨k, fs, h1, h2, h3⟩ := ht x ha
      rcases hx k fs h1 with q | q
      · exact h2 q
      · exact h3 q)]
    exact ha
  obtain ⟨⟨f, s1, s2⟩, s3, s4, s5, s6, s7, s8⟩ := h
  refine ⟨⟨f, key _ _ s1 (fun k fs q => by cases q), s2⟩, fun i hi => ?_, fun i hi q hq => key _ _ (s4 i hi q hq) (fun k fs q => by cases q; exact Or.inr rfl), s5, s6, s7, s8⟩
  obtain ⟨cap, f, h1, h2, h3⟩ := s3 i hi
  exact ⟨cap, f, key _ _ h1 (fun k fs q => by cases q; exact Or.inl rfl), key _ _ h2 (fun k fs q => by cases q), h3⟩
theorem rh_B_up (L : Nat → List (Nat × Nat)) (b : Nat) (X : List (Nat × Nat)) : rh_B (va_up L b X) = va_up (rh_B L) b (X.map Prod.snd) := by
  funext i
  unfold rh_B va_up
  by_cases h : i = b <;> simp [h]
theorem ks_count {b : Nat} (hb : b < 22) (L : Nat → List (Nat × Nat)) (X : List (Nat × Nat)) (x : Nat) : (rh_ks (va_up L b X)).count x + ((L b).map Prod.snd).count x = (rh_ks L).count x + (X.map Prod.snd).count x := by
  unfold rh_ks
  rw [rh_B_up]
  exact fl_set hb (rh_B L) _ x
theorem ks_len {b : Nat} (hb : b < 22) (L : Nat → List (Nat × Nat)) (X : List (Nat × Nat)) : (rh_ks (va_up L b X)).length + (L b).length = (rh_ks L).length + X.length := by
  unfold rh_ks
  rw [rh_B_up]
  have := fl_len hb (rh_B L) (X.map Prod.snd)
  rw [List.length_map] at this
  have e : (rh_B L b).length = (L b).length := List.length_map ..
  omega
theorem ks_le {b : Nat} (hb : b < 22) (L : Nat → List (Nat × Nat)) : (L b).length ≤ (rh_ks L).length := by
  have := ks_len hb L []
  simp only [List.length_nil] at this
  omega
theorem ks_mem {L : Nat → List (Nat × Nat)} {x : Nat} : x ∈ rh_ks L ↔ ∃ i, i < 22 ∧ ∃ q ∈ L i, q.2 = x := by
  unfold rh_ks
  rw [fl_mem]
  constructor
  · rintro ⟨i, h1, h2⟩
    obtain ⟨q, h3, h4⟩ := List.mem_map.mp h2
    exact ⟨i, h1, q, h3, h4⟩
  · rintro ⟨i, h1, q, h2, h3⟩
    exact ⟨i, h1, List.mem_map.mpr ⟨q, h2, h3⟩⟩
theorem rh_I_set {L : Nat → List (Nat × Nat)} {last b : Nat} {X : List (Nat × Nat)} (h : rh_I L last) (hX : ∀ q ∈ X, bk_ b q.2 last ∧ last ≤ q.2 ∧ q.2 < 1048576) : rh_I (va_up L b X) last := by
  refine ⟨h.1, fun i hi q hq => ?_⟩
  by_cases hib : i = b
  · subst hib
    rw [va_up_self] at hq
    exact hX q hq
  · rw [va_up_ne _ _ hib] at hq
    exact h.2 i hi q hq
theorem rh_F_fr {P : gh_P} {R : rh_R} {b : Nat} (hb : b < 22) : ∀ a, al_F P (rh_la R b) (rh_da R b) a → rh_F P R a := fun a h => h.elim (fun q => Or.inr (Or.inr ⟨b, hb, Or.inl q⟩)) (fun q => Or.inr (Or.inr ⟨b, hb, Or.inr q⟩))
theorem gh_fr_w {F F' : Nat → Prop} {G G1 : gh_G} (h : gh_fr F G G1) (hF : ∀ a, F a → F' a) : gh_fr F' G G1 := fun a e ha hn => h a e ha (fun q => hn (hF a q))
theorem gh_fr_up {F : Nat → Prop} {G : gh_G} {a : Nat} {e : va_E} (h : F a) : gh_fr F G (gh_up G a e) := fun x y hx hn => by
  rw [gh_up_n _ _ (fun z => hn (by rw [z]; exact h))]
  exact hx
theorem gh_fr_put {F : Nat → Prop} {G G1 G2 : gh_G} {a : Nat} {e : va_E} (h : gh_fr F G G1) (h2 : G2 = gh_up G1 a e) (ha : F a) : gh_fr F G G2 := by
  rw [h2]
  exact gh_fr_tr h (gh_fr_up ha)
theorem rh_F_up {P : gh_P} {h ba d' b : Nat} {la da : Nat → Nat} {L L' : Nat → List (Nat × Nat)} {G : gh_G} (hb : b < 22) (hd : d' = da b ∨ G d' = none) : ∀ a, rh_F P (h, ba, la, va_up da b d', L') a → rh_F P (h, ba, la, da, L) a ∨ G a = none := fun a ha => by
  rcases ha with z | z | ⟨i, hi, z | ⟨z, z2⟩⟩
  · exact Or.inl (Or.inl z)
  · exact Or.inl (Or.inr (Or.inl z))
  · exact Or.inl (Or.inr (Or.inr ⟨i, hi, Or.inl z⟩))
  · by_cases hib : i = b
    · subst hib
      have z3 : a = d' := z.trans (va_up_self _ _ _)
      rcases hd with q | q
      · exact Or.inl (Or.inr (Or.inr ⟨i, hi, Or.inr ⟨z3.trans q, z2⟩⟩))
      · exact Or.inr (by rw [z3]; exact q)
    · exact Or.inl (Or.inr (Or.inr ⟨i, hi, Or.inr ⟨z.trans (va_up_ne _ _ hib), z2⟩⟩))
theorem rh_key {L : Nat → List (Nat × Nat)} {i : Nat} {P : gh_P} {G : gh_G} {ba : Nat} {la da : Nat → Nat} {mc : Nat → Int32} (h : rh_S P G ba la da mc L) (hi : i < 22) : al_x G ((L i).map Prod.fst) := fun b hb => by
  obtain ⟨q, h1, rfl⟩ := List.mem_map.mp hb
  exact ⟨_, h.2.2.1 i hi q h1⟩
set_option maxHeartbeats 4000000 in
/-- AbstractRadixHeap.insert(key) -/
theorem c_insert (l : Launch) (P : gh_P) (G : gh_G) (R : rh_R) (last k a : Nat) (hR : rh_ P G R last) (ha : G a = some (gh_x (nI k))) (hk : k < 1048576) (hlk : last ≤ k) (hlen : (rh_ks (rh_L R)).length < 64) : Met l yX1_insert (ws_ yX1_insert cX1_insert 3 none) ({ frames := 7, cells := 1, slots := 200, locals := 191 }) (gh_Pc P G [.ref R.1, .ref a]) (gh_Qv P (fun G1 => ∃ R' : rh_R, R'.1 = R.1 ∧ rh_ P G1 R' last ∧ (∀ x, (rh_ks (rh_L R')).count x = (rh_ks (rh_L R)).count x + [k].count x) ∧ (rh_ks (rh_L R')).length = (rh_ks (rh_L R)).length + 1 ∧ gh_fr (rh_F P R) G G1 ∧ ∀ y, rh_F P R' y → rh_F P R y ∨ G y = none)) 1 200 (gh_A P) := by
  refine gh_met (plainFor_of_name (by decide)) (Nat.le_of_ble_eq_true rfl) ?_
  intro p e s m below meth c hx hb hr hlocks hml hown hin hts hE hG ls hl
  have hS : va_S (gh_A P) s.heap s.heap [] := va_S.rf
  have hl : lv_has ls 3 [(0, .ref R.1), (1, .ref a)] := hl
  obtain ⟨h, ba, la, da, L⟩ := R
  obtain ⟨ld, mn, mx, cm, cb, cp, mc, hh, hld, hmx, hs, hI, hC, h64, hN⟩ := hR
  dsimp only [rh_ba, rh_la, rh_da, rh_L] at hh hs hI hC h64 hN hl hlen
  obtain ⟨n, hn⟩ : ∃ n, n = (rh_ks L).length := ⟨_, rfl⟩
  rw [← hn] at hh h64 hlen
  obtain ⟨b, hbk⟩ : ∃ b, b = bkt k last := ⟨_, rfl⟩
  have hb20 : b ≤ 20 := by rw [hbk]; exact bkt_le hk hI.1
  have hb22 : b < 22 := by omega
  have hbb : bk_ b k last := by rw [hbk]; exact bk_bkt k last
  obtain ⟨⟨f, hba, hff⟩, -⟩ := id hs
  have hal := hs.2.1 b hb22
  refine lv_aload_n hx hb dX1_insert_0 rfl (lv_at hl 1 rfl) ?_
  refine lv_ifnonnull (tgt := 14) hx hb dX1_insert_1 (by decide) ?_
  refine lv_aload_n hx hb dX1_insert_14 rfl (lv_at hl 0 rfl) ?_
  refine lv_aload_n hx hb dX1_insert_15 rfl (lv_at hl 1 rfl) ?_
  refine lv_aload_n hx hb dX1_insert_16 rfl (lv_at hl 0 rfl) ?_
  refine gh_get (C := RX2) (T := TX2) (N := 8) (v := .ref mx) hx hb hts in_X2 hown hE hG hh rfl 7 (by decide) q202 (fun _ h9 => h9) rfl dX1_insert_17 ?_
  refine gh_calli (va_runU (As := [.ref a, .ref mx]) (rest := []) ⟨hx, hb, hml, hown, hts⟩ (c_cmp l P G h a mx (nI k) 1048575 ha hmx _ hh) (va_cwA (C := "IntegerRadixHeap") (owner := "AbstractRadixHeap") 2 hts (lw_app (lw_five q248 q250 q251 q252 q10) (lw_meth q253)) rfl rfl rfl (hE.w 2 rfl) (by decide +kernel) ⟨Nat.le_of_ble_eq_true rfl, Nat.le_of_ble_eq_true rfl⟩) (gh_preV hE hG hS (gh_recv hE hG hh rfl)) rfl rfl hl.1 rfl (lv_room (Nat.le_of_ble_eq_true rfl)) dX1_insert_20 ⟨Nat.le_of_ble_eq_true rfl, Nat.le_of_ble_eq_true rfl⟩) hS (fun r G_ H locs hw hG hS => ?_)
  rw [hw.1]
  replace hG := hw.2 ▸ hG
  refine lv_if_le (tgt := 36) hx hb dX1_insert_23 (by decide) (fun _ => ?_) (fun c_9 => absurd ((cp_le (a := k) (b := 1048575) (by omega) (by omega)).mpr (by omega)) c_9)
  refine lv_aload_n hx hb dX1_insert_36 rfl (lv_at hl 0 rfl) ?_
  refine lv_aload_n hx hb dX1_insert_37 rfl (lv_at hl 1 rfl) ?_
  refine lv_aload_n hx hb dX1_insert_38 rfl (lv_at hl 0 rfl) ?_
  refine gh_get (C := RX2) (T := TX2) (N := 8) (v := .ref ld) hx hb hts in_X2 hown hE hG hh rfl 2 (by decide) q192 (fun _ h9 => h9) rfl dX1_insert_39 ?_
  refine gh_calli (va_runU (As := [.ref a, .ref ld]) (rest := []) ⟨hx, hb, hml, hown, hts⟩ (c_cmp l P G h a ld (nI k) (nI last) ha hld _ hh) (va_cwA (C := "IntegerRadixHeap") (owner := "AbstractRadixHeap") 2 hts (lw_app (lw_five q248 q250 q251 q252 q10) (lw_meth q253)) rfl rfl rfl (hE.w 2 rfl) (by decide +kernel) ⟨Nat.le_of_ble_eq_true rfl, Nat.le_of_ble_eq_true rfl⟩) (gh_preV hE hG hS (gh_recv hE hG hh rfl)) rfl rfl hl.1 rfl (lv_room (Nat.le_of_ble_eq_true rfl)) dX1_insert_42 ⟨Nat.le_of_ble_eq_true rfl, Nat.le_of_ble_eq_true rfl⟩) hS (fun r G_ H locs hw hG hS => ?_)
  rw [hw.1]
  replace hG := hw.2 ▸ hG
  refine lv_if_ge (tgt := 58) hx hb dX1_insert_45 (by decide) (fun _ => ?_) (fun c_9 => absurd ((cp_ge (by omega) (by have := hI.1; omega)).mpr hlk) c_9)
  refine lv_aload_n hx hb dX1_insert_58 rfl (lv_at hl 0 rfl) ?_
  refine lv_aload_n hx hb dX1_insert_59 rfl (lv_at hl 1 rfl) ?_
  refine lv_aload_n hx hb dX1_insert_60 rfl (lv_at hl 0 rfl) ?_
  refine gh_get (C := RX2) (T := TX2) (N := 8) (v := .ref ld) hx hb hts in_X2 hown hE hG hh rfl 2 (by decide) q192 (fun _ h9 => h9) rfl dX1_insert_61 ?_
  refine gh_calli (va_runU (As := [.ref a, .ref ld]) (rest := []) ⟨hx, hb, hml, hown, hts⟩ (c_bucket l P G h a ld k last hk hI.1 ha hld ba ld mn mx _ cm cb cp hh f hba) (va_cwU (C := "IntegerRadixHeap") (owner := "AbstractRadixHeap") 2 hts (lw_app (lw_five q265 q267 q268 q266 q9) (lw_meth q269)) rfl rfl rfl rfl (by decide +kernel) ⟨Nat.le_of_ble_eq_true rfl, Nat.le_of_ble_eq_true rfl⟩) (gh_preV hE hG hS (gh_recv hE hG hh rfl)) rfl rfl hl.1 rfl (lv_room (Nat.le_of_ble_eq_true rfl)) dX1_insert_64 ⟨Nat.le_of_ble_eq_true rfl, Nat.le_of_ble_eq_true rfl⟩) hS (fun r G_ H locs hw hG hS => ?_)
  rw [hw.1, ← hbk]
  replace hG := hw.2 ▸ hG
  refine lv_istore_n (lv' := [(2, .int (nI b)), (0, .ref h), (1, .ref a)]) hx hb dX1_insert_67 rfl hl (by decide) rfl (fun ls hl => ?_)
  refine lv_aload_n hx hb dX1_insert_68 rfl (lv_at hl 1 rfl) ?_
  refine gh_get (C := RX2) (T := TX2) (N := 8) (v := .ref ba) hx hb hts in_X2 hown hE hG hh rfl 0 (by decide) q186 (fun _ h9 => h9) rfl dX1_insert_69 ?_
  refine lv_iload_n hx hb dX1_insert_72 rfl (lv_at hl 0 rfl) ?_
  refine gh_aald 2 rfl hx hb hE hG hba (vp_in_nI hb22 (by omega)) (x := la b) (by rw [nI_clamp (by omega)]; exact hff b hb22) dX1_insert_73 ?_
  refine lv_aload_n hx hb dX1_insert_74 rfl (lv_at hl 2 rfl) ?_
  refine gh_callFi (va_runF (As := [.ref a]) (rest := []) (gh_at (ci := 3) hE rfl) ⟨hx, hb, hml, hown, hts⟩ (c_add l P G (la b) (da b) a (mc b) (nI k) _ hal (by rw [List.length_map]; have := ks_le hb22 L; omega) ha (rh_key hs hb22)) (va_cwF 1 hts (lw_app (lw_four q291 q295 q297 q20) (lw_meth q299)) rfl rfl rfl (hE.f 0 rfl) (by decide +kernel) ⟨Nat.le_of_ble_eq_true rfl, Nat.le_of_ble_eq_true rfl⟩) (gh_preV hE hG hS (gh_recv hE hG (al_head hal).1 rfl)) rfl rfl hl.1 rfl (lv_room (Nat.le_of_ble_eq_true rfl)) dX1_insert_75 ⟨Nat.le_of_ble_eq_true rfl, Nat.le_of_ble_eq_true rfl⟩) hS (fun r G1 H locs hw hG hS => ?_)
  obtain ⟨-, d', hal1, hd', hf1⟩ := hw
  rw [show (L b).map Prod.fst ++ [a] = (L b ++ [(a, k)]).map Prod.fst by simp] at hal1
  have hs1 := rh_S_set hs hb22 hal1 hd' hf1 (fun q hq => by
    rcases List.mem_append.mp hq with z | z
    · exact hs.2.2.1 b hb22 q z
    · rw [List.mem_singleton.mp z]; exact ha)
  obtain ⟨L1, hL1⟩ : ∃ x, x = va_up L b (L b ++ [(a, k)]) := ⟨_, rfl⟩
  rw [← hL1] at hs1
  have hI1 : rh_I L1 last := by
    rw [hL1]
    exact rh_I_set hI (fun q hq => by
      rcases List.mem_append.mp hq with z | z
      · exact hI.2 b hb22 q z
      · rw [List.mem_singleton.mp z]; exact ⟨hbb, hlk, hk⟩)
  have hcnt : ∀ x, (rh_ks L1).count x = (rh_ks L).count x + [k].count x := fun x => by
    have := ks_count hb22 L (L b ++ [(a, k)]) x
    rw [← hL1, List.map_append, List.count_append] at this
    simp only [List.map_cons, List.map_nil] at this
    omega
  have hlen1 : (rh_ks L1).length = n + 1 := by
    have := ks_len hb22 L (L b ++ [(a, k)])
    rw [← hL1, List.length_append] at this
    simp only [List.length_cons, List.length_nil] at this
    omega
  have hlb : (L1 b).length = (L b).length + 1 := by rw [hL1, va_up_self, List.length_append]; rfl
  have hlast : (L1 b)[(L b).length]? = some (a, k) := by rw [hL1, va_up_self, List.getElem?_append_right (Nat.le_refl _), Nat.sub_self]; rfl
  have hold : ∀ (i p : Nat) (q : Nat × Nat), (L i)[p]? = some q → (L1 i)[p]? = some q := fun i p q hq => by
    rw [hL1]
    by_cases z : i = b
    · subst z
      rw [va_up_self, List.getElem?_append_left (List.getElem?_eq_some_iff.mp hq).1]
      exact hq
    · rw [va_up_ne _ _ z]
      exact hq
  have hmem : ∀ (i : Nat) (q : Nat × Nat), q ∈ L1 i → q ∈ L i ∨ q = (a, k) := fun i q hq => by
    rw [hL1] at hq
    by_cases z : i = b
    · subst z
      rw [va_up_self] at hq
      rcases List.mem_append.mp hq with w | w
      · exact Or.inl w
      · exact Or.inr (List.mem_singleton.mp w)
    · rw [va_up_ne _ _ z] at hq
      exact Or.inl hq
  have hFl : ∀ (y : Nat) (e : va_E), G y = some e → (∀ (j : Nat) (fs : List Value), e = gh_o j fs → j ≠ 3) → (∀ (fs : Nat → Option Nat) (c : Nat), e ≠ gh_q (gh_cO P) c fs) → G1 y = some e := fun y e hy h3 hq => hf1 _ _ hy (fun z => by
    obtain ⟨cap, f2, w1, w2, -⟩ := hal
    rcases z with z | z
    · rw [z, w1] at hy
      cases hy
      exact h3 3 _ rfl rfl
    · rw [z.1, w2] at hy
      cases hy
      exact hq _ _ rfl)
  have hh1 : G1 h = some (rh_o ba (lN n) ld cm cb cp mn mx) := hFl _ _ hh (fun j fs z => by cases z; decide) (fun fs c z => by cases z)
  have hld1 : G1 ld = some (gh_x (nI last)) := hFl _ _ hld (fun j fs z => by cases z; decide) (fun fs c z => by cases z)
  have hmx1 : G1 mx = some (gh_x 1048575) := hFl _ _ hmx (fun j fs z => by cases z; decide) (fun fs c z => by cases z)
  have hfr1 : gh_fr (rh_F P (h, ba, la, da, L)) G G1 := gh_fr_w hf1 (rh_F_fr (R := (h, ba, la, da, L)) hb22)
  refine lv_pop hx hb dX1_insert_80 rfl ?_
  rcases hC with ⟨hC0, rfl⟩ | ⟨b0, p0, q0, hb0, hp0, rfl, rfl, rfl, hmin⟩
  · refine lv_aload_n hx hb dX1_insert_81 rfl (lv_at hl 1 rfl) ?_
    refine gh_get (C := RX2) (T := TX2) (N := 8) (v := .null) hx hb hts in_X2 hown hE hG hh1 rfl 3 (by decide) q195 (fun _ h9 => h9) rfl dX1_insert_82 ?_
    refine lv_ifnullN (tgt := 100) hx hb dX1_insert_85 (by decide) ?_
    refine lv_aload_n hx hb dX1_insert_100 rfl (lv_at hl 1 rfl) ?_
    refine lv_aload_n hx hb dX1_insert_101 rfl (lv_at hl 2 rfl) ?_
    refine gh_put (C := RX2) (T := TX2) (N := 8) (v := .ref a) hx hb hts in_X2 tyX2 tyX2_ok nmX2 hown hE hG hS hN hh1 rfl 3 (by decide) q195 (fun _ h9 => h9) rfl rfl rfl (Nat.le_of_ble_eq_true rfl) dX1_insert_102 (fun H locs hG hS => ?_)
    have hG : gh_H P (gh_up G1 h (rh_o ba (lN n) ld (.ref a) cb cp mn mx)) H := hG
    obtain ⟨G2, hG2⟩ : ∃ g, g = gh_up G1 h (rh_o ba (lN n) ld (.ref a) cb cp mn mx) := ⟨_, rfl⟩
    rw [← hG2] at hG
    have hh2 : G2 h = some (rh_o ba (lN n) ld (.ref a) cb cp mn mx) := by rw [hG2, gh_up_s]
    have hs2 : rh_S P G2 ba la (va_up da b d') (va_up mc b (mc b + 1)) L1 := by rw [hG2]; exact rh_S_up hs1 (fun x q => by rw [hh1] at q; cases q; exact ⟨1, _, rfl, by decide, by decide⟩)
    refine lv_aload_n hx hb dX1_insert_105 rfl (lv_at hl 1 rfl) ?_
    refine lv_iload_n hx hb dX1_insert_106 rfl (lv_at hl 0 rfl) ?_
    refine gh_put (C := RX2) (T := TX2) (N := 8) (v := .int (nI b)) hx hb hts in_X2 tyX2 tyX2_ok nmX2 hown hE hG hS hN hh2 rfl 4 (by decide) q196 (fun _ h9 => h9) rfl rfl rfl (Nat.le_of_ble_eq_true rfl) dX1_insert_107 (fun H locs hG hS => ?_)
    have hG : gh_H P (gh_up G2 h (rh_o ba (lN n) ld (.ref a) (nI b) cp mn mx)) H := hG
    obtain ⟨G3, hG3⟩ : ∃ g, g = gh_up G2 h (rh_o ba (lN n) ld (.ref a) (nI b) cp mn mx) := ⟨_, rfl⟩
    rw [← hG3] at hG
    have hh3 : G3 h = some (rh_o ba (lN n) ld (.ref a) (nI b) cp mn mx) := by rw [hG3, gh_up_s]
    have hs3 : rh_S P G3 ba la (va_up da b d') (va_up mc b (mc b + 1)) L1 := by rw [hG3]; exact rh_S_up hs2 (fun x q => by rw [hh2] at q; cases q; exact ⟨1, _, rfl, by decide, by decide⟩)
    refine lv_aload_n hx hb dX1_insert_110 rfl (lv_at hl 1 rfl) ?_
    refine lv_aload_n hx hb dX1_insert_111 rfl (lv_at hl 1 rfl) ?_
    refine gh_get (C := RX2) (T := TX2) (N := 8) (v := .ref ba) hx hb hts in_X2 hown hE hG hh3 rfl 0 (by decide) q186 (fun _ h9 => h9) rfl dX1_insert_112 ?_
    refine lv_iload_n hx hb dX1_insert_115 rfl (lv_at hl 0 rfl) ?_
    obtain ⟨⟨f3, hba3, hff3⟩, hal3, -⟩ := id hs3
    have hal3 := hal3 b hb22
    refine gh_aald 2 rfl hx hb hE hG hba3 (vp_in_nI hb22 (by omega)) (x := la b) (by rw [nI_clamp (by omega)]; exact hff3 b hb22) dX1_insert_116 ?_
    refine gh_callFi (va_runF (As := []) (rest := [.ref h]) (gh_at (ci := 3) hE rfl) ⟨hx, hb, hml, hown, hts⟩ (c_lsize l P G3 (la b) _ _ _ hal3) (va_cwF 0 hts (lw_app (lw_four q350 q353 q355 q20) (lw_meth q357)) rfl rfl rfl (hE.f 1 rfl) (by decide +kernel) ⟨Nat.le_of_ble_eq_true rfl, Nat.le_of_ble_eq_true rfl⟩) (gh_preV hE hG hS (gh_recv hE hG (al_head hal3).1 rfl)) rfl rfl hl.1 rfl (lv_room (Nat.le_of_ble_eq_true rfl)) dX1_insert_117 ⟨Nat.le_of_ble_eq_true rfl, Nat.le_of_ble_eq_true rfl⟩) hS (fun r G5 H locs hw hG hS => ?_)
    rw [hw.1, List.length_map, hlb]
    replace hG := hw.2 ▸ hG
    refine lv_iconst (v := 1) hx hb dX1_insert_122 (by decide) ?_
    refine lv_isub hx hb dX1_insert_123 ?_
    refine lv_topi (fun z_0 ez_0 => ?_)
    obtain rfl : z_0 = nI (L b).length := ez_0.trans (nI_pred _)
    refine gh_put (C := RX2) (T := TX2) (N := 8) (v := .int (nI (L b).length)) hx hb hts in_X2 tyX2 tyX2_ok nmX2 hown hE hG hS hN hh3 rfl 5 (by decide) q197 (fun _ h9 => h9) rfl rfl rfl (Nat.le_of_ble_eq_true rfl) dX1_insert_124 (fun H locs hG hS => ?_)
    have hG : gh_H P (gh_up G3 h (rh_o ba (lN n) ld (.ref a) (nI b) (nI (L b).length) mn mx)) H := hG
    obtain ⟨G4, hG4⟩ : ∃ g, g = gh_up G3 h (rh_o ba (lN n) ld (.ref a) (nI b) (nI (L b).length) mn mx) := ⟨_, rfl⟩
    rw [← hG4] at hG
    have hh4 : G4 h = some (rh_o ba (lN n) ld (.ref a) (nI b) (nI (L b).length) mn mx) := by rw [hG4, gh_up_s]
    have hs4 : rh_S P G4 ba la (va_up da b d') (va_up mc b (mc b + 1)) L1 := by rw [hG4]; exact rh_S_up hs3 (fun x q => by rw [hh3] at q; cases q; exact ⟨1, _, rfl, by decide, by decide⟩)
    have hbx4 : ∀ (y : Nat) (v : Int32), G1 y = some (gh_x v) → G4 y = some (gh_x v) := fun y v hy => by have w := gh_ne hy hh1 (by simp); rw [hG4, gh_up_n _ _ w, hG3, gh_up_n _ _ w, hG2, gh_up_n _ _ w]; exact hy
    have hfr4 : gh_fr (rh_F P (h, ba, la, da, L)) G G4 := gh_fr_put (gh_fr_put (gh_fr_put hfr1 hG2 (Or.inl rfl)) hG3 (Or.inl rfl)) hG4 (Or.inl rfl)
    skip
    refine lv_aload_n hx hb dX1_insert_127 rfl (lv_at hl 1 rfl) ?_
    refine lv_dup hx hb dX1_insert_128 rfl ?_
    refine gh_get (C := RX2) (T := TX2) (N := 8) (v := .long (lN n)) hx hb hts in_X2 hown hE hG hh4 rfl 1 (by decide) q189 (fun _ h9 => h9) rfl dX1_insert_129 ?_
    refine lv_lconst (v := 1) hx hb dX1_insert_132 (by decide) ?_
    refine lv_ladd hx hb dX1_insert_133 ?_
    refine lv_topl (fun z_1 ez_1 => ?_)
    obtain rfl : z_1 = lN (n + 1) := ez_1.trans (lN_1 n)
    refine gh_put (C := RX2) (T := TX2) (N := 8) (v := .long (lN (n + 1))) hx hb hts in_X2 tyX2 tyX2_ok nmX2 hown hE hG hS hN hh4 rfl 1 (by decide) q189 (fun _ h9 => h9) rfl rfl rfl (Nat.le_of_ble_eq_true rfl) dX1_insert_134 (fun H locs hG hS => ?_)
    have hG : gh_H P (gh_up G4 h (rh_o ba (lN (n + 1)) ld (.ref a) (nI b) (nI (L b).length) mn mx)) H := hG
    obtain ⟨G9, hG9⟩ : ∃ g, g = gh_up G4 h (rh_o ba (lN (n + 1)) ld (.ref a) (nI b) (nI (L b).length) mn mx) := ⟨_, rfl⟩
    rw [← hG9] at hG
    have hs9 : rh_S P G9 ba la (va_up da b d') (va_up mc b (mc b + 1)) L1 := by rw [hG9]; exact rh_S_up hs4 (fun x q => by rw [hh4] at q; cases q; exact ⟨1, _, rfl, by decide, by decide⟩)
    have hbx9 : ∀ (y : Nat) (v : Int32), G1 y = some (gh_x v) → G9 y = some (gh_x v) := fun y v hy => by rw [hG9, gh_up_n _ _ (gh_ne (hbx4 _ _ hy) hh4 (by simp))]; exact (hbx4 _ _ hy)
    exact gh_vret hx hb hr hlocks hG hS (⟨(h, ba, la, va_up da b d', L1), rfl, ⟨ld, mn, mx, _, _, _, va_up mc b (mc b + 1), by rw [hG9, hlen1]; exact gh_up_s _ _ _, hbx9 _ _ hld1, hbx9 _ _ hmx1, hs9, hI1, Or.inr ⟨b, _, (a, k), hb22, hlast, rfl, rfl, rfl, fun i hi q hq => (hmem i q hq).elim (fun z => absurd (ks_mem.mpr ⟨i, hi, q, z, rfl⟩) (by rw [List.length_eq_zero_iff.mp hC0]; exact List.not_mem_nil)) (fun z => by rw [z]; exact Nat.le_refl _)⟩, by rw [hlen1]; omega, hN⟩, hcnt, by rw [hlen1]; exact congrArg (· + 1) hn, gh_fr_put hfr4 hG9 (Or.inl rfl), rh_F_up hb22 hd'⟩) (Nat.le_of_ble_eq_true rfl) (Nat.le_of_ble_eq_true rfl) dX1_insert_137
  · refine lv_aload_n hx hb dX1_insert_81 rfl (lv_at hl 1 rfl) ?_
    refine gh_get (C := RX2) (T := TX2) (N := 8) (v := .ref q0.1) hx hb hts in_X2 hown hE hG hh1 rfl 3 (by decide) q195 (fun _ h9 => h9) rfl dX1_insert_82 ?_
    refine lv_ifnull hx hb dX1_insert_85 ?_
    refine lv_aload_n hx hb dX1_insert_88 rfl (lv_at hl 1 rfl) ?_
    refine lv_aload_n hx hb dX1_insert_89 rfl (lv_at hl 2 rfl) ?_
    refine lv_aload_n hx hb dX1_insert_90 rfl (lv_at hl 1 rfl) ?_
    refine gh_get (C := RX2) (T := TX2) (N := 8) (v := .ref q0.1) hx hb hts in_X2 hown hE hG hh1 rfl 3 (by decide) q195 (fun _ h9 => h9) rfl dX1_insert_91 ?_
    have hq0k := (hI.2 b0 hb0 q0 (List.mem_of_getElem? hp0)).2.2
    have ha1 : G1 a = some (gh_x (nI k)) := hFl _ _ ha (fun j fs z => by cases z; decide) (fun fs c z => by cases z)
    have hq1 : G1 q0.1 = some (gh_x (nI q0.2)) := hFl _ _ (hs.2.2.1 b0 hb0 q0 (List.mem_of_getElem? hp0)) (fun j fs z => by cases z; decide) (fun fs c z => by cases z)
    refine gh_calli (va_runU (As := [.ref a, .ref q0.1]) (rest := []) ⟨hx, hb, hml, hown, hts⟩ (c_cmp l P G1 h a q0.1 (nI k) (nI q0.2) ha1 hq1 _ hh1) (va_cwA (C := "IntegerRadixHeap") (owner := "AbstractRadixHeap") 2 hts (lw_app (lw_five q248 q250 q251 q252 q10) (lw_meth q253)) rfl rfl rfl (hE.w 2 rfl) (by decide +kernel) ⟨Nat.le_of_ble_eq_true rfl, Nat.le_of_ble_eq_true rfl⟩) (gh_preV hE hG hS (gh_recv hE hG hh1 rfl)) rfl rfl hl.1 rfl (lv_room (Nat.le_of_ble_eq_true rfl)) dX1_insert_94 ⟨Nat.le_of_ble_eq_true rfl, Nat.le_of_ble_eq_true rfl⟩) hS (fun r G_ H locs hw hG hS => ?_)
    rw [hw.1]
    replace hG := hw.2 ▸ hG
    refine lv_if_ge (tgt := 127) hx hb dX1_insert_97 (by decide) (fun c_1 => ?_) (fun c_1 => ?_)
    · have hle : q0.2 ≤ k := (cp_ge (by omega) (by omega)).mp c_1
      skip
      refine lv_aload_n hx hb dX1_insert_127 rfl (lv_at hl 1 rfl) ?_
      refine lv_dup hx hb dX1_insert_128 rfl ?_
      refine gh_get (C := RX2) (T := TX2) (N := 8) (v := .long (lN n)) hx hb hts in_X2 hown hE hG hh1 rfl 1 (by decide) q189 (fun _ h9 => h9) rfl dX1_insert_129 ?_
      refine lv_lconst (v := 1) hx hb dX1_insert_132 (by decide) ?_
      refine lv_ladd hx hb dX1_insert_133 ?_
      refine lv_topl (fun z_2 ez_2 => ?_)
      obtain rfl : z_2 = lN (n + 1) := ez_2.trans (lN_1 n)
      refine gh_put (C := RX2) (T := TX2) (N := 8) (v := .long (lN (n + 1))) hx hb hts in_X2 tyX2 tyX2_ok nmX2 hown hE hG hS hN hh1 rfl 1 (by decide) q189 (fun _ h9 => h9) rfl rfl rfl (Nat.le_of_ble_eq_true rfl) dX1_insert_134 (fun H locs hG hS => ?_)
      have hG : gh_H P (gh_up G1 h (rh_o ba (lN (n + 1)) ld (.ref q0.1) (nI b0) (nI p0) mn mx)) H := hG
      obtain ⟨G9, hG9⟩ : ∃ g, g = gh_up G1 h (rh_o ba (lN (n + 1)) ld (.ref q0.1) (nI b0) (nI p0) mn mx) := ⟨_, rfl⟩
      rw [← hG9] at hG
      have hs9 : rh_S P G9 ba la (va_up da b d') (va_up mc b (mc b + 1)) L1 := by rw [hG9]; exact rh_S_up hs1 (fun x q => by rw [hh1] at q; cases q; exact ⟨1, _, rfl, by decide, by decide⟩)
      have hbx9 : ∀ (y : Nat) (v : Int32), G1 y = some (gh_x v) → G9 y = some (gh_x v) := fun y v hy => by rw [hG9, gh_up_n _ _ (gh_ne hy hh1 (by simp))]; exact hy
      exact gh_vret hx hb hr hlocks hG hS (⟨(h, ba, la, va_up da b d', L1), rfl, ⟨ld, mn, mx, _, _, _, va_up mc b (mc b + 1), by rw [hG9, hlen1]; exact gh_up_s _ _ _, hbx9 _ _ hld1, hbx9 _ _ hmx1, hs9, hI1, Or.inr ⟨b0, p0, q0, hb0, hold _ _ _ hp0, rfl, rfl, rfl, fun i hi q hq => (hmem i q hq).elim (fun z => hmin i hi q z) (fun z => by rw [z]; exact hle)⟩, by rw [hlen1]; omega, hN⟩, hcnt, by rw [hlen1]; exact congrArg (· + 1) hn, gh_fr_put hfr1 hG9 (Or.inl rfl), rh_F_up hb22 hd'⟩) (Nat.le_of_ble_eq_true rfl) (Nat.le_of_ble_eq_true rfl) dX1_insert_137
    · have hlt : k < q0.2 := Nat.lt_of_not_le (fun z => c_1 ((cp_ge (by omega) (by omega)).mpr z))
      refine lv_aload_n hx hb dX1_insert_100 rfl (lv_at hl 1 rfl) ?_
      refine lv_aload_n hx hb dX1_insert_101 rfl (lv_at hl 2 rfl) ?_
      refine gh_put (C := RX2) (T := TX2) (N := 8) (v := .ref a) hx hb hts in_X2 tyX2 tyX2_ok nmX2 hown hE hG hS hN hh1 rfl 3 (by decide) q195 (fun _ h9 => h9) rfl rfl rfl (Nat.le_of_ble_eq_true rfl) dX1_insert_102 (fun H locs hG hS => ?_)
      have hG : gh_H P (gh_up G1 h (rh_o ba (lN n) ld (.ref a) (nI b0) (nI p0) mn mx)) H := hG
      obtain ⟨G2, hG2⟩ : ∃ g, g = gh_up G1 h (rh_o ba (lN n) ld (.ref a) (nI b0) (nI p0) mn mx) := ⟨_, rfl⟩
      rw [← hG2] at hG
      have hh2 : G2 h = some (rh_o ba (lN n) ld (.ref a) (nI b0) (nI p0) mn mx) := by rw [hG2, gh_up_s]
      have hs2 : rh_S P G2 ba la (va_up da b d') (va_up mc b (mc b + 1)) L1 := by rw [hG2]; exact rh_S_up hs1 (fun x q => by rw [hh1] at q; cases q; exact ⟨1, _, rfl, by decide, by decide⟩)
      refine lv_aload_n hx hb dX1_insert_105 rfl (lv_at hl 1 rfl) ?_
      refine lv_iload_n hx hb dX1_insert_106 rfl (lv_at hl 0 rfl) ?_
      refine gh_put (C := RX2) (T := TX2) (N := 8) (v := .int (nI b)) hx hb hts in_X2 tyX2 tyX2_ok nmX2 hown hE hG hS hN hh2 rfl 4 (by decide) q196 (fun _ h9 => h9) rfl rfl rfl (Nat.le_of_ble_eq_true rfl) dX1_insert_107 (fun H locs hG hS => ?_)
      have hG : gh_H P (gh_up G2 h (rh_o ba (lN n) ld (.ref a) (nI b) (nI p0) mn mx)) H := hG
      obtain ⟨G3, hG3⟩ : ∃ g, g = gh_up G2 h (rh_o ba (lN n) ld (.ref a) (nI b) (nI p0) mn mx) := ⟨_, rfl⟩
      rw [← hG3] at hG
      have hh3 : G3 h = some (rh_o ba (lN n) ld (.ref a) (nI b) (nI p0) mn mx) := by rw [hG3, gh_up_s]
      have hs3 : rh_S P G3 ba la (va_up da b d') (va_up mc b (mc b + 1)) L1 := by rw [hG3]; exact rh_S_up hs2 (fun x q => by rw [hh2] at q; cases q; exact ⟨1, _, rfl, by decide, by decide⟩)
      refine lv_aload_n hx hb dX1_insert_110 rfl (lv_at hl 1 rfl) ?_
      refine lv_aload_n hx hb dX1_insert_111 rfl (lv_at hl 1 rfl) ?_
      refine gh_get (C := RX2) (T := TX2) (N := 8) (v := .ref ba) hx hb hts in_X2 hown hE hG hh3 rfl 0 (by decide) q186 (fun _ h9 => h9) rfl dX1_insert_112 ?_
      refine lv_iload_n hx hb dX1_insert_115 rfl (lv_at hl 0 rfl) ?_
      obtain ⟨⟨f3, hba3, hff3⟩, hal3, -⟩ := id hs3
      have hal3 := hal3 b hb22
      refine gh_aald 2 rfl hx hb hE hG hba3 (vp_in_nI hb22 (by omega)) (x := la b) (by rw [nI_clamp (by omega)]; exact hff3 b hb22) dX1_insert_116 ?_
      refine gh_callFi (va_runF (As := []) (rest := [.ref h]) (gh_at (ci := 3) hE rfl) ⟨hx, hb, hml, hown, hts⟩ (c_lsize l P G3 (la b) _ _ _ hal3) (va_cwF 0 hts (lw_app (lw_four q350 q353 q355 q20) (lw_meth q357)) rfl rfl rfl (hE.f 1 rfl) (by decide +kernel) ⟨Nat.le_of_ble_eq_true rfl, Nat.le_of_ble_eq_true rfl⟩) (gh_preV hE hG hS (gh_recv hE hG (al_head hal3).1 rfl)) rfl rfl hl.1 rfl (lv_room (Nat.le_of_ble_eq_true rfl)) dX1_insert_117 ⟨Nat.le_of_ble_eq_true rfl, Nat.le_of_ble_eq_true rfl⟩) hS (fun r G5 H locs hw hG hS => ?_)
      rw [hw.1, List.length_map, hlb]
      replace hG := hw.2 ▸ hG
      refine lv_iconst (v := 1) hx hb dX1_insert_122 (by decide) ?_
      refine lv_isub hx hb dX1_insert_123 ?_
      refine lv_topi (fun z_3 ez_3 => ?_)
      obtain rfl : z_3 = nI (L b).length := ez_3.trans (nI_pred _)
      refine gh_put (C := RX2) (T := TX2) (N := 8) (v := .int (nI (L b).length)) hx hb hts in_X2 tyX2 tyX2_ok nmX2 hown hE hG hS hN hh3 rfl 5 (by decide) q197 (fun _ h9 => h9) rfl rfl rfl (Nat.le_of_ble_eq_true rfl) dX1_insert_124 (fun H locs hG hS => ?_)
      have hG : gh_H P (gh_up G3 h (rh_o ba (lN n) ld (.ref a) (nI b) (nI (L b).length) mn mx)) H := hG
      obtain ⟨G4, hG4⟩ : ∃ g, g = gh_up G3 h (rh_o ba (lN n) ld (.ref a) (nI b) (nI (L b).length) mn mx) := ⟨_, rfl⟩
      rw [← hG4] at hG
      have hh4 : G4 h = some (rh_o ba (lN n) ld (.ref a) (nI b) (nI (L b).length) mn mx) := by rw [hG4, gh_up_s]
      have hs4 : rh_S P G4 ba la (va_up da b d') (va_up mc b (mc b + 1)) L1 := by rw [hG4]; exact rh_S_up hs3 (fun x q => by rw [hh3] at q; cases q; exact ⟨1, _, rfl, by decide, by decide⟩)
      have hbx4 : ∀ (y : Nat) (v : Int32), G1 y = some (gh_x v) → G4 y = some (gh_x v) := fun y v hy => by have w := gh_ne hy hh1 (by simp); rw [hG4, gh_up_n _ _ w, hG3, gh_up_n _ _ w, hG2, gh_up_n _ _ w]; exact hy
      have hfr4 : gh_fr (rh_F P (h, ba, la, da, L)) G G4 := gh_fr_put (gh_fr_put (gh_fr_put hfr1 hG2 (Or.inl rfl)) hG3 (Or.inl rfl)) hG4 (Or.inl rfl)
      skip
      refine lv_aload_n hx hb dX1_insert_127 rfl (lv_at hl 1 rfl) ?_
      refine lv_dup hx hb dX1_insert_128 rfl ?_
      refine gh_get (C := RX2) (T := TX2) (N := 8) (v := .long (lN n)) hx hb hts in_X2 hown hE hG hh4 rfl 1 (by decide) q189 (fun _ h9 => h9) rfl dX1_insert_129 ?_
      refine lv_lconst (v := 1) hx hb dX1_insert_132 (by decide) ?_
      refine lv_ladd hx hb dX1_insert_133 ?_
      refine lv_topl (fun z_4 ez_4 => ?_)
      obtain rfl : z_4 = lN (n + 1) := ez_4.trans (lN_1 n)
      refine gh_put (C := RX2) (T := TX2) (N := 8) (v := .long (lN (n + 1))) hx hb hts in_X2 tyX2 tyX2_ok nmX2 hown hE hG hS hN hh4 rfl 1 (by decide) q189 (fun _ h9 => h9) rfl rfl rfl (Nat.le_of_ble_eq_true rfl) dX1_insert_134 (fun H locs hG hS => ?_)
      have hG : gh_H P (gh_up G4 h (rh_o ba (lN (n + 1)) ld (.ref a) (nI b) (nI (L b).length) mn mx)) H := hG
      obtain ⟨G9, hG9⟩ : ∃ g, g = gh_up G4 h (rh_o ba (lN (n + 1)) ld (.ref a) (nI b) (nI (L b).length) mn mx) := ⟨_, rfl⟩
      rw [← hG9] at hG
      have hs9 : rh_S P G9 ba la (va_up da b d') (va_up mc b (mc b + 1)) L1 := by rw [hG9]; exact rh_S_up hs4 (fun x q => by rw [hh4] at q; cases q; exact ⟨1, _, rfl, by decide, by decide⟩)
      have hbx9 : ∀ (y : Nat) (v : Int32), G1 y = some (gh_x v) → G9 y = some (gh_x v) := fun y v hy => by rw [hG9, gh_up_n _ _ (gh_ne (hbx4 _ _ hy) hh4 (by simp))]; exact (hbx4 _ _ hy)
      exact gh_vret hx hb hr hlocks hG hS (⟨(h, ba, la, va_up da b d', L1), rfl, ⟨ld, mn, mx, _, _, _, va_up mc b (mc b + 1), by rw [hG9, hlen1]; exact gh_up_s _ _ _, hbx9 _ _ hld1, hbx9 _ _ hmx1, hs9, hI1, Or.inr ⟨b, _, (a, k), hb22, hlast, rfl, rfl, rfl, fun i hi q hq => (hmem i q hq).elim (fun z => Nat.le_trans (Nat.le_of_lt hlt) (hmin i hi q z)) (fun z => by rw [z]; exact Nat.le_refl _)⟩, by rw [hlen1]; omega, hN⟩, hcnt, by rw [hlen1]; exact congrArg (· + 1) hn, gh_fr_put hfr4 hG9 (Or.inl rfl), rh_F_up hb22 hd'⟩) (Nat.le_of_ble_eq_true rfl) (Nat.le_of_ble_eq_true rfl) dX1_insert_137
end
section
/-! findAndCacheMinimum -/
set_option maxRecDepth 100000
theorem rh_S_fr {P : gh_P} {G G1 : gh_G} {ba : Nat} {la da : Nat → Nat} {mc : Nat → Int32} {L : Nat → List (Nat × Nat)} {F : Nat → Prop} (h : rh_S P G ba la da mc L) (hf : gh_fr F G G1) (ht : ∀ a x, F a → G a = some x → ∃ (k : Nat) (fs : List Value), x = gh_o k fs ∧ k ≠ 3 ∧ k ≠ 5) : rh_S P G1 ba la da mc L := by
  have key : ∀ (a : Nat) (x : va_E), G a = some x → (∀ (k : Nat) (fs : List Value), x = gh_o k fs → k = 3 ∨ k = 5) → G1 a = some x := fun a x ha hx => hf a x ha (fun q => by
    obtain ⟨k, fs, h1, h2, h3⟩ := ht a x q ha
    rcases hx k fs h1 with z | z
    · exact h2 z
    · exact h3 z)
  obtain ⟨⟨f, s1, s2⟩, s3, s4, s5, s6, s7, s8⟩ := h
  refine ⟨⟨f, key _ _ s1 (fun k fs q => by cases q), s2⟩, fun i hi => ?_, fun i hi q hq => key _ _ (s4 i hi q hq) (fun k fs q => by cases q; exact Or.inr rfl), s5, s6, s7, s8⟩
  obtain ⟨cap, f, h1, h2, h3⟩ := s3 i hi
  exact ⟨cap, f, key _ _ h1 (fun k fs q => by cases q; exact Or.inl rfl), key _ _ h2 (fun k fs q => by cases q), h3⟩
set_option maxHeartbeats 4000000 in
theorem c_fcm_loop1 {p : Program} {l : Launch} {e : Env} {s : State} {m : MethodId} {args : Array Value} {below : List Frame} {meth : Method} {c : Code} {R : Room} {Q : State → Prop} {P : gh_P} {cells slots : Nat} {h ba b ld mn mx first : Nat} {sz : Int64} {cm : Value} {cp : Int32} {la da : Nat → Nat} {mc : Nat → Int32} {L : Nat → List (Nat × Nat)} {G : gh_G} (hx : p.tables.exec = Jvm.exec) (hb : c.code = cX1_findAndCacheMinimum) (hml : c.maxLocals = 5) (hts : ∀ w ∈ lw_all, w.before args s = true) (hown : s.vm.findClass "AbstractRadixHeap" = some m.cls) (hE : gh_E P s) (hR : 3 ≤ R.frames ∧ cells ≤ R.cells ∧ slots ≤ R.slots ∧ 64 ≤ R.locals) (hh : G h = some (rh_o ba sz ld cm (-1) cp mn mx)) (hN : gh_N P ≤ h) (hs : rh_S P G ba la da mc L) (hL : ∀ i, i < 22 → (L i).length < 1000) (hb22 : b < 22) (hbn : L b ≠ []) (hlo : ∀ i, first ≤ i → i < b → L i = [])
    (kk : ∀ (H : Heap) (locs : List Loc) (ls : Array Slot), gh_H P (gh_up G h (rh_o ba sz ld cm (nI b) cp mn mx)) H → va_S (gh_A P) s.heap H locs → lv_has ls 5 [(2, .int (nI b)), (0, .ref h)] → W p l e R s m args below meth c H locs cells slots Q (F0 m 51 ls [])) :
    ∀ (k i : Nat) (H : Heap) (locs : List Loc) (ls : Array Slot), first ≤ i → i ≤ b → b < i + k → gh_H P G H → va_S (gh_A P) s.heap H locs → lv_has ls 5 [(2, .int (nI i)), (0, .ref h)] → W p l e R s m args below meth c H locs cells slots Q (F0 m 14 ls []) := by
  obtain ⟨⟨f, hba, hff⟩, hals, -⟩ := id hs
  intro k
  induction k with
  | zero =>
    intro i H locs ls h0 h1 h2
    exact absurd h2 (by omega)
  | succ k ih =>
    intro i H locs ls h0 hi hk hG hS hl
    have hi22 : i < 22 := by omega
    have hal := hals i hi22
    refine lv_iload_n hx hb dX1_findAndCacheMinimum_14 rfl (lv_at hl 0 rfl) ?_
    refine lv_aload_n hx hb dX1_findAndCacheMinimum_15 rfl (lv_at hl 1 rfl) ?_
    refine gh_get (C := RX2) (T := TX2) (N := 8) (v := .ref ba) hx hb hts in_X2 hown hE hG hh rfl 0 (by decide) q186 (fun _ h9 => h9) rfl dX1_findAndCacheMinimum_16 ?_
    refine gh_qlen 2 rfl hx hb hE hG hba dX1_findAndCacheMinimum_19 ?_
    refine lv_icmp_ge (tgt := 51) hx hb dX1_findAndCacheMinimum_20 (by decide) (fun c_9 => absurd c_9 (nI_ge (a := i) (b := 22) (by omega) (by omega))) (fun _ => ?_)
    refine lv_aload_n hx hb dX1_findAndCacheMinimum_23 rfl (lv_at hl 1 rfl) ?_
    refine gh_get (C := RX2) (T := TX2) (N := 8) (v := .ref ba) hx hb hts in_X2 hown hE hG hh rfl 0 (by decide) q186 (fun _ h9 => h9) rfl dX1_findAndCacheMinimum_24 ?_
    refine lv_iload_n hx hb dX1_findAndCacheMinimum_27 rfl (lv_at hl 0 rfl) ?_
    refine gh_aald 2 rfl hx hb hE hG hba (vp_in_nI hi22 (by omega)) (x := la i) (by rw [nI_clamp (by omega)]; exact hff i hi22) dX1_findAndCacheMinimum_28 ?_
    refine gh_callFi (va_runF (As := []) (rest := []) (gh_at (ci := 3) hE rfl) ⟨hx, hb, hml, hown, hts⟩ (c_lempty l P G (la i) _ _ _ hal (by rw [List.length_map]; exact hL i hi22)) (va_cwF 0 hts (lw_app (lw_four q436 q439 q441 q20) (lw_meth q443)) rfl rfl rfl (hE.f 3 rfl) (by decide +kernel) ⟨by show 0 + 1 ≤ R.frames; omega, by show 8 + (1 + 11) + 0 ≤ R.locals; omega⟩) (gh_preV hE hG hS (gh_recv hE hG (al_head hal).1 rfl)) rfl rfl hl.1 rfl (lv_room (Nat.le_of_ble_eq_true rfl)) dX1_findAndCacheMinimum_29 ⟨by omega, by omega⟩) hS (fun r G_ H locs hw hG hS => ?_)
    rw [hw.1]
    replace hG := hw.2 ▸ hG
    by_cases hLi : L i = []
    · rw [if_pos (by rw [hLi]; rfl)]
      refine lv_if_ne (tgt := 45) hx hb dX1_findAndCacheMinimum_34 (by decide) (fun _ => ?_) (fun c_9 => absurd c_9 (by decide))
      have hib : i < b := Nat.lt_of_le_of_ne hi (fun q => hbn (q ▸ hLi))
      refine lv_iinc (v := nI (i + 1)) (lv' := [(2, .int (nI (i + 1))), (0, .ref h)]) hx hb dX1_findAndCacheMinimum_45 hl (k := 0) rfl (nI_1 i) (by decide) rfl (fun ls hl => ?_)
      refine lv_goto (tgt := 14) hx hb dX1_findAndCacheMinimum_48 (by decide) ?_
      exact ih (i + 1) H locs ls (by omega) hib (by omega) hG hS hl
    · rw [if_neg (fun q => hLi (List.map_eq_nil_iff.mp q))]
      refine lv_if_ne (tgt := 45) hx hb dX1_findAndCacheMinimum_34 (by decide) (fun c_9 => absurd (rfl) c_9) (fun _ => ?_)
      have hib : i = b := by
        rcases Nat.lt_or_ge i b with q | q
        · exact absurd (hlo i h0 q) hLi
        · omega
      subst hib
      refine lv_aload_n hx hb dX1_findAndCacheMinimum_37 rfl (lv_at hl 1 rfl) ?_
      refine lv_iload_n hx hb dX1_findAndCacheMinimum_38 rfl (lv_at hl 0 rfl) ?_
      refine gh_put (C := RX2) (T := TX2) (N := 8) (v := .int (nI i)) hx hb hts in_X2 tyX2 tyX2_ok nmX2 hown hE hG hS hN hh rfl 4 (by decide) q196 (fun _ h9 => h9) rfl rfl rfl (Nat.le_of_ble_eq_true rfl) dX1_findAndCacheMinimum_39 (fun H locs hG hS => ?_)
      have hG : gh_H P (gh_up _ h (rh_o ba sz ld cm (nI i) cp mn mx)) H := hG
      refine lv_goto (tgt := 51) hx hb dX1_findAndCacheMinimum_42 (by decide) ?_
      exact kk H locs ls hG hS hl
/-- the scan's state: the least of the first i, or none yet -/
def fc_ (X : List (Nat × Nat)) (i : Nat) (cm : Value) (cp : Int32) : Prop := (i = 0 ∧ cm = .null) ∨ ∃ (p : Nat) (q : Nat × Nat), X[p]? = some q ∧ cm = .ref q.1 ∧ cp = nI p ∧ ∀ (j : Nat) (q' : Nat × Nat), j < i → X[j]? = some q' → q.2 ≤ q'.2
theorem fc_keep {X : List (Nat × Nat)} {i p : Nat} {q x : Nat × Nat} (hp : X[p]? = some q) (hmin : ∀ (j : Nat) (q' : Nat × Nat), j < i → X[j]? = some q' → q.2 ≤ q'.2) (hx : X[i]? = some x) (h : q.2 ≤ x.2) : fc_ X (i + 1) (.ref q.1) (nI p) := Or.inr ⟨p, q, hp, rfl, rfl, fun j q' hj hq => by
  by_cases z : j = i
  · subst z
    rw [hx] at hq
    cases hq
    exact h
  · exact hmin j q' (by omega) hq⟩
theorem fc_new {X : List (Nat × Nat)} {i : Nat} {x : Nat × Nat} (hx : X[i]? = some x) (h : ∀ (j : Nat) (q' : Nat × Nat), j < i → X[j]? = some q' → x.2 ≤ q'.2) : fc_ X (i + 1) (.ref x.1) (nI i) := fc_keep hx h hx (Nat.le_refl _)
set_option maxHeartbeats 4000000 in
theorem c_fcm_loop2 {p : Program} {l : Launch} {e : Env} {s : State} {m : MethodId} {args : Array Value} {below : List Frame} {meth : Method} {c : Code} {R : Room} {Q : State → Prop} {P : gh_P} {cells slots : Nat} {h ba b ld mn mx t : Nat} {sz : Int64} {cb : Int32} {la da : Nat → Nat} {mc : Nat → Int32} {L : Nat → List (Nat × Nat)} {F : Nat → Prop} {G0 : gh_G} (hx : p.tables.exec = Jvm.exec) (hb : c.code = cX1_findAndCacheMinimum) (hml : c.maxLocals = 5) (hts : ∀ w ∈ lw_all, w.before args s = true) (hown : s.vm.findClass "AbstractRadixHeap" = some m.cls) (hE : gh_E P s) (hR : 3 ≤ R.frames ∧ cells ≤ R.cells ∧ slots ≤ R.slots ∧ 64 ≤ R.locals) (hN : gh_N P ≤ h) (hNt : gh_N P ≤ t) (hL : (L b).length < 1000) (hb22 : b < 22) (hkey : ∀ q ∈ L b, q.2 < 1048576) (hFh : F h) (hFt : F t)
    (kk : ∀ (G : gh_G) (cm : Value) (cp : Int32) (H : Heap) (locs : List Loc) (ls : Array Slot), gh_H P G H → va_S (gh_A P) s.heap H locs → G h = some (rh_o ba sz ld cm cb cp mn mx) → fc_ (L b) (L b).length cm cp → gh_fr F G0 G → W p l e R s m args below meth c H locs cells slots Q (F0 m 134 ls [])) :
    ∀ (k i : Nat) (G : gh_G) (cm : Value) (cp lr : Int32) (H : Heap) (locs : List Loc) (ls : Array Slot), i ≤ (L b).length → (L b).length < i + k → gh_H P G H → va_S (gh_A P) s.heap H locs → G h = some (rh_o ba sz ld cm cb cp mn mx) → G t = some (gh_o 4 [.int (nI i), .int lr, .int (mc b), .ref (la b)]) → rh_S P G ba la da mc L → fc_ (L b) i cm cp → gh_fr F G0 G → lv_has ls 5 [(2, .int (nI i)), (3, .ref t), (0, .ref h)] → W p l e R s m args below meth c H locs cells slots Q (F0 m 80 ls []) := by
  intro k
  induction k with
  | zero =>
    intro i G cm cp lr H locs ls h1 h2
    exact absurd h2 (by omega)
  | succ k ih =>
    intro i G cm cp lr H locs ls hi hk hG hS hh ht hs hfc hfr hl
    have hal := hs.2.1 b hb22
    have hlen : ((L b).map Prod.fst).length = (L b).length := List.length_map ..
    refine lv_aload_n hx hb dX1_findAndCacheMinimum_80 rfl (lv_at hl 1 rfl) ?_
    refine gh_callFi (va_runF (As := []) (rest := []) (gh_at (ci := 4) hE rfl) ⟨hx, hb, hml, hown, hts⟩ (c_hasNext l P G t (la b) _ i lr (mc b) _ _ ht hal (by rw [hlen]; exact hi) (by rw [hlen]; exact hL)) (va_cwF 0 hts (lw_app (lw_four q473 q477 q479 q31) (lw_meth q481)) rfl rfl rfl (hE.f 6 rfl) (by decide +kernel) ⟨by show 0 + 1 ≤ R.frames; omega, by show 8 + (1 + 11) + 0 ≤ R.locals; omega⟩) (gh_preV hE hG hS (gh_recv hE hG ht rfl)) rfl rfl hl.1 rfl (lv_room (Nat.le_of_ble_eq_true rfl)) dX1_findAndCacheMinimum_81 ⟨by omega, by omega⟩) hS (fun r G_ H locs hw hG hS => ?_)
    rw [hw.1, hlen]
    replace hG := hw.2 ▸ hG
    by_cases hil : i < (L b).length
    · rw [if_pos hil]
      refine lv_if_eq (tgt := 134) hx hb dX1_findAndCacheMinimum_86 (by decide) (fun c_9 => absurd c_9 (by decide)) (fun _ => ?_)
      refine lv_aload_n hx hb dX1_findAndCacheMinimum_89 rfl (lv_at hl 1 rfl) ?_
      obtain ⟨x, hx1⟩ : ∃ x, (L b)[i]? = some x := ⟨_, List.getElem?_eq_getElem hil⟩
      have hxm : x ∈ L b := List.mem_of_getElem? hx1
      have hxk := hkey x hxm
      have hx2 : ((L b).map Prod.fst)[i]? = some x.1 := by rw [List.getElem?_map, hx1]; rfl
      refine gh_callFr (va_runF (As := []) (rest := []) (gh_at (ci := 4) hE rfl) ⟨hx, hb, hml, hown, hts⟩ (c_next l P G t (la b) _ i lr (mc b) _ ht hal hNt x.1 hx2 (by rw [hlen]; exact hL)) (va_cwF 0 hts (lw_app (lw_four q483 q486 q488 q31) (lw_meth q490)) rfl rfl rfl (hE.f 7 rfl) (by decide +kernel) ⟨by show 1 + 1 ≤ R.frames; omega, by show 8 + (3 + 11) + 25 ≤ R.locals; omega⟩) (gh_preV hE hG hS (gh_recv hE hG ht rfl)) rfl rfl hl.1 rfl (lv_room (Nat.le_of_ble_eq_true rfl)) dX1_findAndCacheMinimum_90 ⟨by omega, by omega⟩) hS (fun y G1 H locs hw hG hS => ?_)
      obtain ⟨rfl, hG1⟩ := hw
      have hht : h ≠ t := gh_ne hh ht (by simp)
      have hh1 : G1 h = some (rh_o ba sz ld cm cb cp mn mx) := by rw [hG1, gh_up_n _ _ hht]; exact hh
      have ht1 : G1 t = some (gh_o 4 [.int (nI (i + 1)), .int (nI i), .int (mc b), .ref (la b)]) := by rw [hG1, gh_up_s]
      have hs1 : rh_S P G1 ba la da mc L := by rw [hG1]; exact rh_S_up hs (fun z q => by rw [ht] at q; cases q; exact ⟨4, _, rfl, by decide, by decide⟩)
      have hfr1 : gh_fr F G0 G1 := gh_fr_put hfr hG1 hFt
      have hbx1 : G1 x.1 = some (gh_x (nI x.2)) := hs1.2.2.1 b hb22 x hxm
      refine lv_astore (lv' := [(4, .ref x.1), (2, .int (nI i)), (3, .ref t), (0, .ref h)]) hx hb dX1_findAndCacheMinimum_95 hl (by decide) rfl (fun ls hl => ?_)
      refine lv_aload_n hx hb dX1_findAndCacheMinimum_97 rfl (lv_at hl 3 rfl) ?_
      rcases hfc with ⟨hi0, rfl⟩ | ⟨p0, q0, hp0, rfl, rfl, hmin⟩
      · refine gh_get (C := RX2) (T := TX2) (N := 8) (v := .null) hx hb hts in_X2 hown hE hG hh1 rfl 3 (by decide) q195 (fun _ h9 => h9) rfl dX1_findAndCacheMinimum_98 ?_
        refine lv_ifnullN (tgt := 117) hx hb dX1_findAndCacheMinimum_101 (by decide) ?_
        refine lv_aload_n hx hb dX1_findAndCacheMinimum_117 rfl (lv_at hl 3 rfl) ?_
        refine lv_aload hx hb dX1_findAndCacheMinimum_118 (lv_at hl 0 rfl) ?_
        refine gh_put (C := RX2) (T := TX2) (N := 8) (v := .ref x.1) hx hb hts in_X2 tyX2 tyX2_ok nmX2 hown hE hG hS hN hh1 rfl 3 (by decide) q195 (fun _ h9 => h9) rfl rfl rfl (Nat.le_of_ble_eq_true rfl) dX1_findAndCacheMinimum_120 (fun H locs hG hS => ?_)
        have hG : gh_H P (gh_up G1 h (rh_o ba sz ld (.ref x.1) cb cp mn mx)) H := hG
        obtain ⟨G2, hG2⟩ : ∃ g, g = gh_up G1 h (rh_o ba sz ld (.ref x.1) cb cp mn mx) := ⟨_, rfl⟩
        rw [← hG2] at hG
        have hh2 : G2 h = some (rh_o ba sz ld (.ref x.1) cb cp mn mx) := by rw [hG2, gh_up_s]
        refine lv_aload_n hx hb dX1_findAndCacheMinimum_123 rfl (lv_at hl 3 rfl) ?_
        refine lv_iload_n hx hb dX1_findAndCacheMinimum_124 rfl (lv_at hl 1 rfl) ?_
        refine gh_put (C := RX2) (T := TX2) (N := 8) (v := .int (nI i)) hx hb hts in_X2 tyX2 tyX2_ok nmX2 hown hE hG hS hN hh2 rfl 5 (by decide) q197 (fun _ h9 => h9) rfl rfl rfl (Nat.le_of_ble_eq_true rfl) dX1_findAndCacheMinimum_125 (fun H locs hG hS => ?_)
        have hG : gh_H P (gh_up G2 h (rh_o ba sz ld (.ref x.1) cb (nI i) mn mx)) H := hG
        obtain ⟨G3, hG3⟩ : ∃ g, g = gh_up G2 h (rh_o ba sz ld (.ref x.1) cb (nI i) mn mx) := ⟨_, rfl⟩
        rw [← hG3] at hG
        have hh3 : G3 h = some (rh_o ba sz ld (.ref x.1) cb (nI i) mn mx) := by rw [hG3, gh_up_s]
        have ht3 : G3 t = some (gh_o 4 [.int (nI (i + 1)), .int (nI i), .int (mc b), .ref (la b)]) := by rw [hG3, gh_up_n _ _ (Ne.symm hht), hG2, gh_up_n _ _ (Ne.symm hht)]; exact ht1
        have hs3 : rh_S P G3 ba la da mc L := by rw [hG3]; exact rh_S_up (by rw [hG2]; exact rh_S_up hs1 (fun z q => by rw [hh1] at q; cases q; exact ⟨1, _, rfl, by decide, by decide⟩)) (fun z q => by rw [hh2] at q; cases q; exact ⟨1, _, rfl, by decide, by decide⟩)
        have hfr3 : gh_fr F G0 G3 := gh_fr_put (gh_fr_put hfr1 hG2 hFh) hG3 hFh
        refine lv_iinc (v := nI (i + 1)) (lv' := [(2, .int (nI (i + 1))), (4, .ref x.1), (3, .ref t), (0, .ref h)]) hx hb dX1_findAndCacheMinimum_128 hl (k := 1) rfl (nI_1 i) (by decide) rfl (fun ls hl => ?_)
        refine lv_goto (tgt := 80) hx hb dX1_findAndCacheMinimum_131 (by decide) ?_
        exact ih (i + 1) G3 _ _ _ H locs ls hil (by omega) hG hS hh3 ht3 hs3 (fc_new hx1 (fun j _ hj => absurd hj (by omega))) hfr3 (lv_sub hl [0, 2, 3] rfl)
      · refine gh_get (C := RX2) (T := TX2) (N := 8) (v := .ref q0.1) hx hb hts in_X2 hown hE hG hh1 rfl 3 (by decide) q195 (fun _ h9 => h9) rfl dX1_findAndCacheMinimum_98 ?_
        refine lv_ifnull hx hb dX1_findAndCacheMinimum_101 ?_
        refine lv_aload_n hx hb dX1_findAndCacheMinimum_104 rfl (lv_at hl 3 rfl) ?_
        refine lv_aload hx hb dX1_findAndCacheMinimum_105 (lv_at hl 0 rfl) ?_
        refine lv_aload_n hx hb dX1_findAndCacheMinimum_107 rfl (lv_at hl 3 rfl) ?_
        refine gh_get (C := RX2) (T := TX2) (N := 8) (v := .ref q0.1) hx hb hts in_X2 hown hE hG hh1 rfl 3 (by decide) q195 (fun _ h9 => h9) rfl dX1_findAndCacheMinimum_108 ?_
        have hq0m : q0 ∈ L b := List.mem_of_getElem? hp0
        have hq0k := hkey q0 hq0m
        refine gh_calli (va_runU (As := [.ref x.1, .ref q0.1]) (rest := []) ⟨hx, hb, hml, hown, hts⟩ (c_cmp l P G1 h x.1 q0.1 (nI x.2) (nI q0.2) hbx1 (hs1.2.2.1 b hb22 q0 hq0m) _ hh1) (va_cwA (C := "IntegerRadixHeap") (owner := "AbstractRadixHeap") 2 hts (lw_app (lw_five q248 q250 q251 q252 q10) (lw_meth q253)) rfl rfl rfl (hE.w 2 rfl) (by decide +kernel) ⟨by show 2 + 1 ≤ R.frames; omega, by show 8 + (3 + 11) + 42 ≤ R.locals; omega⟩) (gh_preV hE hG hS (gh_recv hE hG hh1 rfl)) rfl rfl hl.1 rfl (lv_room (Nat.le_of_ble_eq_true rfl)) dX1_findAndCacheMinimum_111 ⟨by omega, by omega⟩) hS (fun r G_ H locs hw hG hS => ?_)
        rw [hw.1]
        replace hG := hw.2 ▸ hG
        refine lv_if_ge (tgt := 128) hx hb dX1_findAndCacheMinimum_114 (by decide) (fun c_1 => ?_) (fun c_1 => ?_)
        · have hle : q0.2 ≤ x.2 := (cp_ge (by omega) (by omega)).mp c_1
          refine lv_iinc (v := nI (i + 1)) (lv' := [(2, .int (nI (i + 1))), (4, .ref x.1), (3, .ref t), (0, .ref h)]) hx hb dX1_findAndCacheMinimum_128 hl (k := 1) rfl (nI_1 i) (by decide) rfl (fun ls hl => ?_)
          refine lv_goto (tgt := 80) hx hb dX1_findAndCacheMinimum_131 (by decide) ?_
          exact ih (i + 1) G1 _ _ _ H locs ls hil (by omega) hG hS hh1 ht1 hs1 (fc_keep hp0 hmin hx1 hle) hfr1 (lv_sub hl [0, 2, 3] rfl)
        · have hlt : x.2 < q0.2 := Nat.lt_of_not_le (fun z => c_1 ((cp_ge (by omega) (by omega)).mpr z))
          refine lv_aload_n hx hb dX1_findAndCacheMinimum_117 rfl (lv_at hl 3 rfl) ?_
          refine lv_aload hx hb dX1_findAndCacheMinimum_118 (lv_at hl 0 rfl) ?_
          refine gh_put (C := RX2) (T := TX2) (N := 8) (v := .ref x.1) hx hb hts in_X2 tyX2 tyX2_ok nmX2 hown hE hG hS hN hh1 rfl 3 (by decide) q195 (fun _ h9 => h9) rfl rfl rfl (Nat.le_of_ble_eq_true rfl) dX1_findAndCacheMinimum_120 (fun H locs hG hS => ?_)
          have hG : gh_H P (gh_up G1 h (rh_o ba sz ld (.ref x.1) cb (nI p0) mn mx)) H := hG
          obtain ⟨G2, hG2⟩ : ∃ g, g = gh_up G1 h (rh_o ba sz ld (.ref x.1) cb (nI p0) mn mx) := ⟨_, rfl⟩
          rw [← hG2] at hG
          have hh2 : G2 h = some (rh_o ba sz ld (.ref x.1) cb (nI p0) mn mx) := by rw [hG2, gh_up_s]
          refine lv_aload_n hx hb dX1_findAndCacheMinimum_123 rfl (lv_at hl 3 rfl) ?_
          refine lv_iload_n hx hb dX1_findAndCacheMinimum_124 rfl (lv_at hl 1 rfl) ?_
          refine gh_put (C := RX2) (T := TX2) (N := 8) (v := .int (nI i)) hx hb hts in_X2 tyX2 tyX2_ok nmX2 hown hE hG hS hN hh2 rfl 5 (by decide) q197 (fun _ h9 => h9) rfl rfl rfl (Nat.le_of_ble_eq_true rfl) dX1_findAndCacheMinimum_125 (fun H locs hG hS => ?_)
          have hG : gh_H P (gh_up G2 h (rh_o ba sz ld (.ref x.1) cb (nI i) mn mx)) H := hG
          obtain ⟨G3, hG3⟩ : ∃ g, g = gh_up G2 h (rh_o ba sz ld (.ref x.1) cb (nI i) mn mx) := ⟨_, rfl⟩
          rw [← hG3] at hG
          have hh3 : G3 h = some (rh_o ba sz ld (.ref x.1) cb (nI i) mn mx) := by rw [hG3, gh_up_s]
          have ht3 : G3 t = some (gh_o 4 [.int (nI (i + 1)), .int (nI i), .int (mc b), .ref (la b)]) := by rw [hG3, gh_up_n _ _ (Ne.symm hht), hG2, gh_up_n _ _ (Ne.symm hht)]; exact ht1
          have hs3 : rh_S P G3 ba la da mc L := by rw [hG3]; exact rh_S_up (by rw [hG2]; exact rh_S_up hs1 (fun z q => by rw [hh1] at q; cases q; exact ⟨1, _, rfl, by decide, by decide⟩)) (fun z q => by rw [hh2] at q; cases q; exact ⟨1, _, rfl, by decide, by decide⟩)
          have hfr3 : gh_fr F G0 G3 := gh_fr_put (gh_fr_put hfr1 hG2 hFh) hG3 hFh
          refine lv_iinc (v := nI (i + 1)) (lv' := [(2, .int (nI (i + 1))), (4, .ref x.1), (3, .ref t), (0, .ref h)]) hx hb dX1_findAndCacheMinimum_128 hl (k := 1) rfl (nI_1 i) (by decide) rfl (fun ls hl => ?_)
          refine lv_goto (tgt := 80) hx hb dX1_findAndCacheMinimum_131 (by decide) ?_
          exact ih (i + 1) G3 _ _ _ H locs ls hil (by omega) hG hS hh3 ht3 hs3 (fc_new hx1 (fun j q' hj hq => Nat.le_trans (Nat.le_of_lt hlt) (hmin j q' hj hq))) hfr3 (lv_sub hl [0, 2, 3] rfl)
    · rw [if_neg hil]
      refine lv_if_eq (tgt := 134) hx hb dX1_findAndCacheMinimum_86 (by decide) (fun _ => ?_) (fun c_9 => absurd (rfl) c_9)
      have hie : i = (L b).length := by omega
      rw [hie] at hfc
      exact kk G cm cp H locs ls hG hS hh hfc hfr
set_option maxHeartbeats 4000000 in
/-- findAndCacheMinimum with a minimum cached -/
theorem c_fcm_some (l : Launch) (P : gh_P) (G : gh_G) (h ba ld mn mx : Nat) (sz : Int64) (cb cp : Int32) (q : Nat) (x : Int32) (hh : G h = some (rh_o ba sz ld (.ref q) cb cp mn mx)) : Met l yX1_findAndCacheMinimum (ws_ yX1_findAndCacheMinimum cX1_findAndCacheMinimum 5 none) ({ frames := 3, cells := 1, slots := 4, locals := 64 }) (gh_Pc P G [.ref h, .int x]) (gh_Qv P (fun G1 => G1 = G)) 1 4 (gh_A P) := by
  refine gh_met (plainFor_of_name (by decide)) (Nat.le_of_ble_eq_true rfl) ?_
  intro p e s m below meth c hx hb hr hlocks hml hown hin hts hE hG ls hl
  have hS : va_S (gh_A P) s.heap s.heap [] := va_S.rf
  have hl : lv_has ls 5 [(0, .ref h), (1, .int x)] := hl
  refine lv_aload_n hx hb dX1_findAndCacheMinimum_0 rfl (lv_at hl 0 rfl) ?_
  refine gh_get (C := RX2) (T := TX2) (N := 8) (v := .ref q) hx hb hts in_X2 hown hE hG hh rfl 3 (by decide) q195 (fun _ h9 => h9) rfl dX1_findAndCacheMinimum_1 ?_
  refine lv_ifnonnull (tgt := 134) hx hb dX1_findAndCacheMinimum_4 (by decide) ?_
  exact gh_vret hx hb hr hlocks hG hS (rfl) (Nat.le_of_ble_eq_true rfl) (Nat.le_of_ble_eq_true rfl) dX1_findAndCacheMinimum_134
set_option maxHeartbeats 4000000 in
/-- findAndCacheMinimum with no minimum cached: the least of the first bucket that holds something -/
theorem c_fcm_none (l : Launch) (P : gh_P) (G : gh_G) (h ba ld mn mx : Nat) (sz : Int64) (cb cp : Int32) (first : Nat) (la da : Nat → Nat) (mc : Nat → Int32) (L : Nat → List (Nat × Nat)) (hh : G h = some (rh_o ba sz ld .null cb cp mn mx)) (hN : gh_N P ≤ h) (hs : rh_S P G ba la da mc L) (hL : ∀ i, i < 22 → (L i).length < 1000) (hkey : ∀ i, i < 22 → ∀ q ∈ L i, q.2 < 1048576) (hex : ∃ i, first ≤ i ∧ i < 22 ∧ L i ≠ []) : Met l yX1_findAndCacheMinimum (ws_ yX1_findAndCacheMinimum cX1_findAndCacheMinimum 5 none) ({ frames := 3, cells := 1, slots := 4, locals := 64 }) (gh_Pc P G [.ref h, .int (nI first)]) (gh_Qv P (fun G1 => ∃ (b p : Nat) (q : Nat × Nat), first ≤ b ∧ b < 22 ∧ (∀ i, first ≤ i → i < b → L i = []) ∧ (L b)[p]? = some q ∧ (∀ q' ∈ L b, q.2 ≤ q'.2) ∧ G1 h = some (rh_o ba sz ld (.ref q.1) (nI b) (nI p) mn mx) ∧ gh_fr (fun a => a = h) G G1)) 1 4 (gh_A P) := by
  refine gh_met (plainFor_of_name (by decide)) (Nat.le_of_ble_eq_true rfl) ?_
  intro p e s m below meth c hx hb hr hlocks hml hown hin hts hE hG ls hl
  have hS : va_S (gh_A P) s.heap s.heap [] := va_S.rf
  have hl : lv_has ls 5 [(0, .ref h), (1, .int (nI first))] := hl
  obtain ⟨b, ⟨hfb, hb22, hbn⟩, hleast⟩ := pk_least (fun i => first ≤ i ∧ i < 22 ∧ L i ≠ []) hex
  have hlo : ∀ i, first ≤ i → i < b → L i = [] := fun i h1 h2 => Classical.byContradiction (fun z => hleast i h2 ⟨h1, by omega, z⟩)
  refine lv_aload_n hx hb dX1_findAndCacheMinimum_0 rfl (lv_at hl 0 rfl) ?_
  refine gh_get (C := RX2) (T := TX2) (N := 8) (v := .null) hx hb hts in_X2 hown hE hG hh rfl 3 (by decide) q195 (fun _ h9 => h9) rfl dX1_findAndCacheMinimum_1 ?_
  refine lv_ifnonnullN hx hb dX1_findAndCacheMinimum_4 ?_
  refine lv_aload_n hx hb dX1_findAndCacheMinimum_7 rfl (lv_at hl 0 rfl) ?_
  refine lv_iconst (v := (-1)) hx hb dX1_findAndCacheMinimum_8 (by decide) ?_
  refine gh_put (C := RX2) (T := TX2) (N := 8) (v := .int (-1)) hx hb hts in_X2 tyX2 tyX2_ok nmX2 hown hE hG hS hN hh rfl 4 (by decide) q196 (fun _ h9 => h9) rfl rfl rfl (Nat.le_of_ble_eq_true rfl) dX1_findAndCacheMinimum_9 (fun H locs hG hS => ?_)
  have hG : gh_H P (gh_up G h (rh_o ba sz ld .null (-1) cp mn mx)) H := hG
  obtain ⟨G2, hG2⟩ : ∃ g, g = gh_up G h (rh_o ba sz ld .null (-1) cp mn mx) := ⟨_, rfl⟩
  rw [← hG2] at hG
  have hh2 : G2 h = some (rh_o ba sz ld .null (-1) cp mn mx) := by rw [hG2, gh_up_s]
  have hs2 : rh_S P G2 ba la da mc L := by rw [hG2]; exact rh_S_up hs (fun z q => by rw [hh] at q; cases q; exact ⟨1, _, rfl, by decide, by decide⟩)
  refine lv_iload_n hx hb dX1_findAndCacheMinimum_12 rfl (lv_at hl 1 rfl) ?_
  refine lv_istore_n (lv' := [(2, .int (nI first)), (0, .ref h), (1, .int (nI first))]) hx hb dX1_findAndCacheMinimum_13 rfl hl (by decide) rfl (fun ls hl => ?_)
  refine c_fcm_loop1 (first := first) hx hb hml hts hown hE ⟨Nat.le_of_ble_eq_true rfl, Nat.zero_le _, Nat.zero_le _, Nat.le_of_ble_eq_true rfl⟩ hh2 hN hs2 hL hb22 hbn hlo (fun H locs ls hG hS hl => ?_) (b + 1) first H locs ls (Nat.le_refl _) hfb (by omega) hG hS (lv_sub hl [0, 1] rfl)
  obtain ⟨G3, hG3⟩ : ∃ g, g = gh_up G2 h (rh_o ba sz ld .null (nI b) cp mn mx) := ⟨_, rfl⟩
  rw [← hG3] at hG
  have hh3 : G3 h = some (rh_o ba sz ld .null (nI b) cp mn mx) := by rw [hG3, gh_up_s]
  have hs3 : rh_S P G3 ba la da mc L := by rw [hG3]; exact rh_S_up hs2 (fun z q => by rw [hh2] at q; cases q; exact ⟨1, _, rfl, by decide, by decide⟩)
  refine lv_aload_n hx hb dX1_findAndCacheMinimum_51 rfl (lv_at hl 1 rfl) ?_
  refine lv_iconst (v := (-1)) hx hb dX1_findAndCacheMinimum_52 (by decide) ?_
  refine gh_put (C := RX2) (T := TX2) (N := 8) (v := .int (-1)) hx hb hts in_X2 tyX2 tyX2_ok nmX2 hown hE hG hS hN hh3 rfl 5 (by decide) q197 (fun _ h9 => h9) rfl rfl rfl (Nat.le_of_ble_eq_true rfl) dX1_findAndCacheMinimum_53 (fun H locs hG hS => ?_)
  have hG : gh_H P (gh_up G3 h (rh_o ba sz ld .null (nI b) (-1) mn mx)) H := hG
  obtain ⟨G4, hG4⟩ : ∃ g, g = gh_up G3 h (rh_o ba sz ld .null (nI b) (-1) mn mx) := ⟨_, rfl⟩
  rw [← hG4] at hG
  have hh4 : G4 h = some (rh_o ba sz ld .null (nI b) (-1) mn mx) := by rw [hG4, gh_up_s]
  have hs4 : rh_S P G4 ba la da mc L := by rw [hG4]; exact rh_S_up hs3 (fun z q => by rw [hh3] at q; cases q; exact ⟨1, _, rfl, by decide, by decide⟩)
  have hfr4 : gh_fr (fun a => a = h) G G4 := gh_fr_put (gh_fr_put (gh_fr_put (fun _ _ z _ => z) hG2 rfl) hG3 rfl) hG4 rfl
  refine lv_aload_n hx hb dX1_findAndCacheMinimum_56 rfl (lv_at hl 1 rfl) ?_
  refine gh_get (C := RX2) (T := TX2) (N := 8) (v := .int (nI b)) hx hb hts in_X2 hown hE hG hh4 rfl 4 (by decide) q196 (fun _ h9 => h9) rfl dX1_findAndCacheMinimum_57 ?_
  refine lv_if_lt (tgt := 134) hx hb dX1_findAndCacheMinimum_60 (by decide) (fun c_9 => absurd c_9 (nI_pos (by omega))) (fun _ => ?_)
  refine lv_iconst (v := 0) hx hb dX1_findAndCacheMinimum_63 (by decide) ?_
  refine lv_istore_n (lv' := [(2, .int 0), (0, .ref h)]) hx hb dX1_findAndCacheMinimum_64 rfl hl (by decide) rfl (fun ls hl => ?_)
  refine lv_aload_n hx hb dX1_findAndCacheMinimum_65 rfl (lv_at hl 1 rfl) ?_
  refine gh_get (C := RX2) (T := TX2) (N := 8) (v := .ref ba) hx hb hts in_X2 hown hE hG hh4 rfl 0 (by decide) q186 (fun _ h9 => h9) rfl dX1_findAndCacheMinimum_66 ?_
  refine lv_aload_n hx hb dX1_findAndCacheMinimum_69 rfl (lv_at hl 1 rfl) ?_
  refine gh_get (C := RX2) (T := TX2) (N := 8) (v := .int (nI b)) hx hb hts in_X2 hown hE hG hh4 rfl 4 (by decide) q196 (fun _ h9 => h9) rfl dX1_findAndCacheMinimum_70 ?_
  obtain ⟨⟨f, hba, hff⟩, hals, -⟩ := id hs4
  have hal := hals b hb22
  refine gh_aald 2 rfl hx hb hE hG hba (vp_in_nI hb22 (by omega)) (x := la b) (by rw [nI_clamp (by omega)]; exact hff b hb22) dX1_findAndCacheMinimum_73 ?_
  refine gh_callFr (va_runF (As := []) (rest := []) (gh_at (ci := 3) hE rfl) ⟨hx, hb, hml, hown, hts⟩ (c_iterator l P G4 (la b) _ _ _ hal) (va_cwF 0 hts (lw_app (lw_four q445 q448 q450 q20) (lw_meth q452)) rfl rfl rfl (hE.f 4 rfl) (by decide +kernel) ⟨Nat.le_of_ble_eq_true rfl, Nat.le_of_ble_eq_true rfl⟩) (gh_preV hE hG hS (gh_recv hE hG (al_head hal).1 rfl)) rfl rfl hl.1 rfl (lv_room (Nat.le_of_ble_eq_true rfl)) dX1_findAndCacheMinimum_74 ⟨Nat.le_of_ble_eq_true rfl, Nat.le_of_ble_eq_true rfl⟩) hS (fun t G5 H locs hw hG hS => ?_)
  obtain ⟨hNt, hft, hG5⟩ := hw
  have hht : h ≠ t := gh_nf hh4 hft
  have hh5 : G5 h = some (rh_o ba sz ld .null (nI b) (-1) mn mx) := by rw [hG5, gh_up_n _ _ hht]; exact hh4
  have ht5 : G5 t = some (gh_o 4 [.int (nI 0), .int (-1), .int (mc b), .ref (la b)]) := by rw [hG5, gh_up_s]; rfl
  have hs5 : rh_S P G5 ba la da mc L := by rw [hG5]; exact rh_S_up hs4 (fun z q => by rw [hft] at q; cases q)
  have hfr5 : gh_fr (fun a => a = h ∨ a = t) G G5 := gh_fr_put (gh_fr_w hfr4 (fun _ z => Or.inl z)) hG5 (Or.inr rfl)
  refine lv_astore_n (lv' := [(3, .ref t), (2, .int 0), (0, .ref h)]) hx hb dX1_findAndCacheMinimum_79 rfl hl (by decide) rfl (fun ls hl => ?_)
  have hl : lv_has ls 5 [(3, .ref t), (2, .int (nI 0)), (0, .ref h)] := hl
  refine c_fcm_loop2 (b := b) (L := L) (F := fun a => a = h ∨ a = t) (G0 := G) hx hb hml hts hown hE ⟨Nat.le_of_ble_eq_true rfl, Nat.le_of_ble_eq_true rfl, Nat.le_of_ble_eq_true rfl, Nat.le_of_ble_eq_true rfl⟩ hN hNt (hL b hb22) hb22 (hkey b hb22) (Or.inl rfl) (Or.inr rfl) (fun G6 cm cp6 H locs ls hG hS hh6 hfc hfr6 => ?_) ((L b).length + 1) 0 G5 _ _ _ H locs ls (Nat.zero_le _) (by omega) hG hS hh5 ht5 hs5 (Or.inl ⟨rfl, rfl⟩) hfr5 (lv_sub hl [1, 0, 2] rfl)
  rcases hfc with ⟨h0, -⟩ | ⟨p, q, hp, rfl, rfl, hmin⟩
  · exact absurd (List.length_eq_zero_iff.mp h0) hbn
  have hnt : G t = none := by
    cases hx9 : G t with
    | none => rfl
    | some x =>
      have := hfr4 t x hx9 (Ne.symm hht)
      rw [hft] at this
      cases this
  have hfr7 : gh_fr (fun a => a = h) G G6 := fun a x ha hF => hfr6 a x ha (fun z => z.elim hF (gh_nf ha hnt))
  have hmin2 : ∀ q' ∈ L b, q.2 ≤ q'.2 := fun q' hq => by
    obtain ⟨j, hj⟩ := List.getElem?_of_mem hq
    exact hmin j q' (List.getElem?_eq_some_iff.mp hj).1 hj
  exact gh_vret hx hb hr hlocks hG hS (⟨b, p, q, hfb, hb22, hlo, hp, hmin2, hh6, hfr7⟩) (Nat.le_of_ble_eq_true rfl) (Nat.le_of_ble_eq_true rfl) dX1_findAndCacheMinimum_134
end
section
/-! deleteMin -/
set_option maxRecDepth 100000
theorem tk_skip {α : Type} (X : List α) (p : Nat) : (X.take (p + 1)).eraseIdx p = (X.take p).eraseIdx p := by
  rw [List.take_add_one, List.eraseIdx_of_length_le (l := X.take p) (by rw [List.length_take]; omega)]
  by_cases h : p < X.length
  · have hl : (X.take p).length = p := by rw [List.length_take]; omega
    rw [List.eraseIdx_append_of_length_le (by omega), hl, Nat.sub_self, List.getElem?_eq_getElem h]
    simp
  · rw [List.getElem?_eq_none (by omega)]
    simp only [Option.toList_none, List.append_nil]
    exact List.eraseIdx_of_length_le (by rw [List.length_take]; omega)
theorem tk_step {α : Type} {X : List α} {p i : Nat} {x : α} (hx : X[i]? = some x) (h : i ≠ p) : (X.take (i + 1)).eraseIdx p = (X.take i).eraseIdx p ++ [x] := by
  have hi := (List.getElem?_eq_some_iff.mp hx).1
  have hl : (X.take i).length = i := by rw [List.length_take]; omega
  rw [List.take_add_one, hx, Option.toList_some]
  by_cases hp : p < i
  · rw [List.eraseIdx_append_of_lt_length (by omega)]
  · rw [List.eraseIdx_of_length_le (l := X.take i) (by omega), List.eraseIdx_of_length_le (by rw [List.length_append, hl]; simp; omega)]
/-- deleteMin's redistribution, i of the bucket's keys read -/
def dl_ (P : gh_P) (F : Nat → Prop) (G0 : gh_G) (h ba b : Nat) (la : Nat → Nat) (mcb : Int32) (L : Nat → List (Nat × Nat)) (m p i : Nat) (dac : Nat → Nat) (mcc : Nat → Int32) (Lc : Nat → List (Nat × Nat)) (G : gh_G) : Prop :=
  rh_S P G ba la dac mcc Lc ∧ mcc b = mcb ∧ (∀ j, j < 22 → b ≤ j → Lc j = L j) ∧ (∀ j, j < b → (Lc j).length ≤ i ∧ ∀ x ∈ Lc j, bk_ j x.2 m ∧ m ≤ x.2 ∧ x.2 < 1048576) ∧
  (∀ x, (rh_ks Lc).count x = (rh_ks L).count x + ((((L b).take i).eraseIdx p).map Prod.snd).count x) ∧ (rh_ks Lc).length = (rh_ks L).length + (((L b).take i).eraseIdx p).length ∧ gh_fr F G0 G ∧ ∀ y, rh_F P (h, ba, la, dac, Lc) y → F y ∨ G0 y = none
theorem dl_skip {P : gh_P} {F : Nat → Prop} {G0 G : gh_G} {h ba b m p : Nat} {la : Nat → Nat} {mcb : Int32} {L Lc : Nat → List (Nat × Nat)} {dac : Nat → Nat} {mcc : Nat → Int32} (d : dl_ P F G0 h ba b la mcb L m p p dac mcc Lc G) : dl_ P F G0 h ba b la mcb L m p (p + 1) dac mcc Lc G := by
  obtain ⟨d1, d2, d3, d4, d5, d6, d7, d8⟩ := d
  exact ⟨d1, d2, d3, fun j hj => ⟨Nat.le_succ_of_le (d4 j hj).1, (d4 j hj).2⟩, fun x => by rw [tk_skip]; exact d5 x, by rw [tk_skip]; exact d6, d7, d8⟩
theorem dl_step {P : gh_P} {F : Nat → Prop} {G0 G G1 : gh_G} {h ba b m p i d' j0 : Nat} {la : Nat → Nat} {mcb mc' : Int32} {L Lc : Nat → List (Nat × Nat)} {dac : Nat → Nat} {mcc : Nat → Int32} {x : Nat × Nat} (d : dl_ P F G0 h ba b la mcb L m p i dac mcc Lc G) (hb : b < 22) (hx : (L b)[i]? = some x) (hip : i ≠ p) (hj0 : j0 < b) (hbk : bk_ j0 x.2 m) (hmx : m ≤ x.2) (hxk : x.2 < 1048576) (hFla : F (la j0)) (hal : al_ P G1 (la j0) d' mc' ((Lc j0 ++ [x]).map Prod.fst)) (hd : d' = dac j0 ∨ G d' = none) (hf : gh_fr (al_F P (la j0) (dac j0)) G G1) : dl_ P F G0 h ba b la mcb L m p (i + 1) (va_up dac j0 d') (va_up mcc j0 mc') (va_up Lc j0 (Lc j0 ++ [x])) G1 := by
  obtain ⟨d1, d2, d3, d4, d5, d6, d7, d8⟩ := d
  have hj22 : j0 < 22 := by omega
  have hLb : Lc b = L b := d3 b hb (Nat.le_refl b)
  have hG0 : ∀ y, G y = none → F y ∨ G0 y = none := fun y hy => by
    by_cases hFy : F y
    · exact Or.inl hFy
    · cases hx9 : G0 y with
      | none => exact Or.inr rfl
      | some e =>
        have := d7 y e hx9 hFy
        rw [hy] at this
        cases this
  refine ⟨rh_S_set d1 hj22 hal hd hf (fun q hq => ?_), by rw [va_up_ne _ _ (by omega)]; exact d2, fun j hj hbj => by rw [va_up_ne _ _ (by omega)]; exact d3 j hj hbj, fun j hj => ?_, fun y => ?_, ?_, fun a e ha hF => ?_, fun y hy => ?_⟩
  · rcases List.mem_append.mp hq with z | z
    · exact d1.2.2.1 j0 hj22 q z
    · rw [List.mem_singleton.mp z]
      exact d1.2.2.1 b hb x (by rw [hLb]; exact List.mem_of_getElem? hx)
  · by_cases z : j = j0
    · subst z
      rw [va_up_self]
      refine ⟨by rw [List.length_append]; have := (d4 j hj).1; simp; omega, fun q hq => ?_⟩
      rcases List.mem_append.mp hq with w | w
      · exact (d4 j hj).2 q w
      · rw [List.mem_singleton.mp w]
        exact ⟨hbk, hmx, hxk⟩
    · rw [va_up_ne _ _ z]
      exact ⟨Nat.le_succ_of_le (d4 j hj).1, (d4 j hj).2⟩
  · have c1 := ks_count hj22 Lc (Lc j0 ++ [x]) y
    rw [List.map_append, List.count_append] at c1
    have c2 := d5 y
    rw [tk_step hx hip, List.map_append, List.count_append]
    omega
  · have c1 := ks_len hj22 Lc (Lc j0 ++ [x])
    rw [List.length_append] at c1
    rw [tk_step hx hip, List.length_append]
    simp only [List.length_cons, List.length_nil] at c1 ⊢
    omega
  · refine hf a e (d7 a e ha hF) (fun z => ?_)
    rcases z with z | ⟨z, z2⟩
    · exact hF (by rw [z]; exact hFla)
    · rcases d8 a (Or.inr (Or.inr ⟨j0, hj22, Or.inr ⟨z, z2⟩⟩)) with w | w
      · exact hF w
      · rw [ha] at w
        cases w
  · rcases rh_F_up (L := Lc) (L' := va_up Lc j0 (Lc j0 ++ [x])) hj22 hd y hy with z | z
    · exact d8 y z
    · exact hG0 y z
/-- the least of what was moved -/
def nm_ (b : Nat) (Lc : Nat → List (Nat × Nat)) (v : Value) (nb np : Int32) : Prop := (v = .null ∧ nb = -1 ∧ np = -1 ∧ ∀ j, j < b → Lc j = []) ∨ ∃ (j pp : Nat) (q : Nat × Nat), j < b ∧ (Lc j)[pp]? = some q ∧ v = .ref q.1 ∧ nb = nI j ∧ np = nI pp ∧ ∀ j', j' < b → ∀ x ∈ Lc j', q.2 ≤ x.2
theorem nm_new {b j0 : Nat} {Lc : Nat → List (Nat × Nat)} {x : Nat × Nat} (hj : j0 < b) (h : ∀ j', j' < b → ∀ y ∈ Lc j', x.2 ≤ y.2) : nm_ b (va_up Lc j0 (Lc j0 ++ [x])) (.ref x.1) (nI j0) (nI (Lc j0).length) := Or.inr ⟨j0, (Lc j0).length, x, hj, by rw [va_up_self, List.getElem?_append_right (Nat.le_refl _), Nat.sub_self]; rfl, rfl, rfl, rfl, fun j' hj' y hy => by
  by_cases z : j' = j0
  · subst z
    rw [va_up_self] at hy
    rcases List.mem_append.mp hy with w | w
    · exact h j' hj' y w
    · rw [List.mem_singleton.mp w]; exact Nat.le_refl _
  · rw [va_up_ne _ _ z] at hy
    exact h j' hj' y hy⟩
theorem nm_keep {b j0 j pp : Nat} {Lc : Nat → List (Nat × Nat)} {x q : Nat × Nat} (hj : j < b) (hp : (Lc j)[pp]? = some q) (h : ∀ j', j' < b → ∀ y ∈ Lc j', q.2 ≤ y.2) (hx : q.2 ≤ x.2) : nm_ b (va_up Lc j0 (Lc j0 ++ [x])) (.ref q.1) (nI j) (nI pp) := Or.inr ⟨j, pp, q, hj, by
  by_cases z : j = j0
  · subst z
    rw [va_up_self, List.getElem?_append_left (List.getElem?_eq_some_iff.mp hp).1]
    exact hp
  · rw [va_up_ne _ _ z]
    exact hp, rfl, rfl, rfl, fun j' hj' y hy => by
  by_cases z : j' = j0
  · subst z
    rw [va_up_self] at hy
    rcases List.mem_append.mp hy with w | w
    · exact h j' hj' y w
    · rw [List.mem_singleton.mp w]; exact hx
  · rw [va_up_ne _ _ z] at hy
    exact h j' hj' y hy⟩
theorem map_erase {α β : Type} (f : α → β) (l : List α) (p : Nat) : (l.map f).eraseIdx p = (l.eraseIdx p).map f := by
  induction l generalizing p with
  | nil => rfl
  | cons a l ih =>
    cases p with
    | zero => rfl
    | succ p => simp only [List.map_cons, List.eraseIdx_cons_succ, ih]
/-- behind the bucket's clearing -/
theorem dl_end {P : gh_P} {F : Nat → Prop} {G0 G G1 : gh_G} {h ba b m p last : Nat} {la : Nat → Nat} {mcb mc' : Int32} {L Lc : Nat → List (Nat × Nat)} {dac : Nat → Nat} {mcc : Nat → Int32} {q : Nat × Nat} (d : dl_ P F G0 h ba b la mcb L m p (L b).length dac mcc Lc G) (hI : rh_I L last) (hb : b < 22) (hp : (L b)[p]? = some q) (hqm : q.2 = m) (hmin : ∀ i, i < 22 → ∀ x ∈ L i, m ≤ x.2) (hFla : F (la b)) (hal : al_ P G1 (la b) (dac b) mc' []) (hf : gh_fr (al_F P (la b) (dac b)) G G1) : rh_S P G1 ba la dac (va_up mcc b mc') (va_up Lc b []) ∧ rh_I (va_up Lc b []) m ∧ (∀ x, (rh_ks L).count x = (rh_ks (va_up Lc b [])).count x + [m].count x) ∧ (rh_ks L).length = (rh_ks (va_up Lc b [])).length + 1 ∧ gh_fr F G0 G1 ∧ ∀ y, rh_F P (h, ba, la, dac, va_up Lc b []) y → F y ∨ G0 y = none := by
  obtain ⟨d1, d2, d3, d4, d5, d6, d7, d8⟩ := d
  have hLb : Lc b = L b := d3 b hb (Nat.le_refl b)
  have hqb := hI.2 b hb q (List.mem_of_getElem? hp)
  rw [hqm] at hqb
  have hs := rh_S_set (X := []) d1 hb hal (Or.inl rfl) hf (fun q hq => absurd hq List.not_mem_nil)
  rw [show va_up dac b (dac b) = dac from funext (fun j => by by_cases z : j = b <;> simp [va_up, z])] at hs
  rw [List.take_length] at d5 d6
  refine ⟨hs, ⟨hqb.2.2, fun i hi x hx => ?_⟩, fun x => ?_, ?_, fun a e ha hF => hf a e (d7 a e ha hF) (fun z => ?_), fun y hy => d8 y hy⟩
  · by_cases z : i = b
    · subst z
      rw [va_up_self] at hx
      cases hx
    · rw [va_up_ne _ _ z] at hx
      by_cases w : i < b
      · exact (d4 i w).2 x hx
      · rw [d3 i hi (by omega)] at hx
        have h3 := hI.2 i hi x hx
        exact ⟨bk_high h3.1 hqb.1 (by omega), hmin i hi x hx, h3.2.2⟩
  · have c1 := ks_count hb Lc [] x
    rw [hLb] at c1
    have c2 := d5 x
    have c3 := count_erase (l := (L b).map Prod.snd) (p := p) (x := m) (by rw [List.getElem?_map, hp]; simp [hqm]) x
    rw [map_erase] at c3
    simp only [List.map_nil, List.count_nil] at c1
    omega
  · have c1 := ks_len hb Lc []
    rw [hLb] at c1
    have hlt := (List.getElem?_eq_some_iff.mp hp).1
    rw [List.length_eraseIdx_of_lt hlt] at d6
    simp only [List.length_nil] at c1
    omega
  · rcases z with z | ⟨z, z2⟩
    · exact hF (by rw [z]; exact hFla)
    · rcases d8 a (Or.inr (Or.inr ⟨b, hb, Or.inr ⟨z, z2⟩⟩)) with w | w
      · exact hF w
      · rw [ha] at w
        cases w
theorem rh_least {L : Nat → List (Nat × Nat)} {m b : Nat} {q : Nat × Nat} (hI : rh_I L m) (hb : b < 22) (hlo : ∀ i, i < b → ∀ x ∈ L i, q.2 ≤ x.2) (hq : bk_ b q.2 m) (hmin : ∀ q' ∈ L b, q.2 ≤ q'.2) : ∀ i, i < 22 → ∀ q' ∈ L i, q.2 ≤ q'.2 := fun i hi x hx => by
  rcases Nat.lt_trichotomy i b with z | z | z
  · exact hlo i z x hx
  · rw [z] at hx
    exact hmin x hx
  · have h3 := hI.2 i hi x hx
    exact Nat.le_of_lt (bk_lt hq h3.1 h3.2.1 z)
set_option maxHeartbeats 4000000 in
theorem c_del_loop {pr : Program} {l : Launch} {e : Env} {s : State} {m : MethodId} {args : Array Value} {below : List Frame} {meth : Method} {c : Code} {R : Room} {Q : State → Prop} {P : gh_P} {F : Nat → Prop} {G0 : gh_G} {h ba b n ld mn mx t p k0 last : Nat} {q : Nat × Nat} {la : Nat → Nat} {mcb : Int32} {L : Nat → List (Nat × Nat)} (hx : pr.tables.exec = Jvm.exec) (hb : c.code = cX1_deleteMin) (hml : c.maxLocals = 8) (hts : ∀ w ∈ lw_all, w.before args s = true) (hown : s.vm.findClass "AbstractRadixHeap" = some m.cls) (hE : gh_E P s) (hR : 7 ≤ R.frames ∧ 66 ≤ R.cells ∧ 12900 ≤ R.slots ∧ 191 ≤ R.locals) (hN : gh_N P ≤ h) (hNt : gh_N P ≤ t) (hI : rh_I L last) (hb22 : b < 22) (hb0 : 0 < b) (hL64 : (L b).length ≤ 64) (hp : (L b)[p]? = some q) (hqk : q.2 = k0) (hmin : ∀ i, i < 22 → ∀ x ∈ L i, k0 ≤ x.2) (hFt : F t) (hFla : ∀ j, j < 22 → F (la j))
    (kk : ∀ (G : gh_G) (dac : Nat → Nat) (mcc : Nat → Int32) (Lc : Nat → List (Nat × Nat)) (v : Value) (nb np : Int32) (H : Heap) (locs : List Loc) (ls : Array Slot), gh_H P G H → va_S (gh_A P) s.heap H locs → G h = some (rh_o ba (lN n) q.1 (.ref q.1) (nI b) (nI p) mn mx) → G q.1 = some (gh_x (nI k0)) → dl_ P F G0 h ba b la mcb L k0 p (L b).length dac mcc Lc G → nm_ b Lc v nb np → lv_has ls 8 [(1, v), (2, .int nb), (3, .int np), (0, .ref h)] → W pr l e R s m args below meth c H locs (1 + 64) (4 + 200 * 64) Q (F0 m 211 ls [])) :
    ∀ (k i : Nat) (G : gh_G) (dac : Nat → Nat) (mcc : Nat → Int32) (Lc : Nat → List (Nat × Nat)) (v : Value) (nb np lr : Int32) (H : Heap) (locs : List Loc) (ls : Array Slot), i ≤ (L b).length → (L b).length < i + k → gh_H P G H → va_S (gh_A P) s.heap H locs → G h = some (rh_o ba (lN n) q.1 (.ref q.1) (nI b) (nI p) mn mx) → G q.1 = some (gh_x (nI k0)) → G t = some (gh_o 4 [.int (nI i), .int lr, .int mcb, .ref (la b)]) → dl_ P F G0 h ba b la mcb L k0 p i dac mcc Lc G → nm_ b Lc v nb np → lv_has ls 8 [(4, .int (nI i)), (1, v), (2, .int nb), (3, .int np), (5, .ref t), (0, .ref h)] → W pr l e R s m args below meth c H locs (1 + i) (4 + 200 * i) Q (F0 m 115 ls []) := by
  intro k
  induction k with
  | zero =>
    intro i G dac mcc Lc v nb np lr H locs ls h1 h2
    exact absurd h2 (by omega)
  | succ k ih =>
    intro i G dac mcc Lc v nb np lr H locs ls hi hk hG hS hh hq1 ht hdl hnm hl
    have hs := hdl.1
    have hLb : Lc b = L b := hdl.2.2.1 b hb22 (Nat.le_refl b)
    have hal := hs.2.1 b hb22
    rw [hLb, hdl.2.1] at hal
    have hlen : ((L b).map Prod.fst).length = (L b).length := List.length_map ..
    have hqb := hI.2 b hb22 q (List.mem_of_getElem? hp)
    rw [hqk] at hqb
    refine lv_aload hx hb dX1_deleteMin_115 (lv_at hl 4 rfl) ?_
    refine gh_callFi (va_runF (As := []) (rest := []) (gh_at (ci := 4) hE rfl) ⟨hx, hb, hml, hown, hts⟩ (c_hasNext l P G t (la b) _ i lr mcb mcb _ ht hal (by rw [hlen]; exact hi) (by rw [hlen]; omega)) (va_cwF 0 hts (lw_app (lw_four q473 q477 q479 q31) (lw_meth q481)) rfl rfl rfl (hE.f 6 rfl) (by decide +kernel) ⟨by show 0 + 1 ≤ R.frames; omega, by show 8 + (1 + 11) + 0 ≤ R.locals; omega⟩) (gh_preV hE hG hS (gh_recv hE hG ht rfl)) rfl rfl hl.1 rfl (lv_room (Nat.le_of_ble_eq_true rfl)) dX1_deleteMin_117 ⟨by omega, by omega⟩) hS (fun r G_ H locs hw hG hS => ?_)
    rw [hw.1, hlen]
    replace hG := hw.2 ▸ hG
    by_cases hil : i < (L b).length
    · rw [if_pos hil]
      refine lv_if_eq (tgt := 211) hx hb dX1_deleteMin_122 (by decide) (fun c_9 => absurd c_9 (by decide)) (fun _ => ?_)
      refine lv_aload hx hb dX1_deleteMin_125 (lv_at hl 4 rfl) ?_
      obtain ⟨x, hx1⟩ : ∃ x, (L b)[i]? = some x := ⟨_, List.getElem?_eq_getElem hil⟩
      have hxm : x ∈ L b := List.mem_of_getElem? hx1
      have hxI := hI.2 b hb22 x hxm
      have hx2 : ((L b).map Prod.fst)[i]? = some x.1 := by rw [List.getElem?_map, hx1]; rfl
      refine gh_callFr (va_runF (As := []) (rest := []) (gh_at (ci := 4) hE rfl) ⟨hx, hb, hml, hown, hts⟩ (c_next l P G t (la b) _ i lr mcb _ ht hal hNt x.1 hx2 (by rw [hlen]; omega)) (va_cwF 0 hts (lw_app (lw_four q483 q486 q488 q31) (lw_meth q490)) rfl rfl rfl (hE.f 7 rfl) (by decide +kernel) ⟨by show 1 + 1 ≤ R.frames; omega, by show 8 + (3 + 11) + 25 ≤ R.locals; omega⟩) (gh_preV hE hG hS (gh_recv hE hG ht rfl)) rfl rfl hl.1 rfl (lv_room (Nat.le_of_ble_eq_true rfl)) dX1_deleteMin_127 ⟨by omega, by omega⟩) hS (fun y G1 H locs hw hG hS => ?_)
      obtain ⟨rfl, hG1⟩ := hw
      have hht : h ≠ t := gh_ne hh ht (by simp)
      have hh1 : G1 h = some (rh_o ba (lN n) q.1 (.ref q.1) (nI b) (nI p) mn mx) := by rw [hG1, gh_up_n _ _ hht]; exact hh
      have hq11 : G1 q.1 = some (gh_x (nI k0)) := by rw [hG1, gh_up_n _ _ (gh_ne hq1 ht (by simp))]; exact hq1
      have ht1 : G1 t = some (gh_o 4 [.int (nI (i + 1)), .int (nI i), .int mcb, .ref (la b)]) := by rw [hG1, gh_up_s]
      have hs1 : rh_S P G1 ba la dac mcc Lc := by rw [hG1]; exact rh_S_up hs (fun z q => by rw [ht] at q; cases q; exact ⟨4, _, rfl, by decide, by decide⟩)
      have hdl1 : dl_ P F G0 h ba b la mcb L k0 p i dac mcc Lc G1 := ⟨hs1, hdl.2.1, hdl.2.2.1, hdl.2.2.2.1, hdl.2.2.2.2.1, hdl.2.2.2.2.2.1, gh_fr_put hdl.2.2.2.2.2.2.1 hG1 hFt, hdl.2.2.2.2.2.2.2⟩
      have hbx1 : G1 x.1 = some (gh_x (nI x.2)) := hs1.2.2.1 b hb22 x (by rw [hLb]; exact hxm)
      refine lv_astore (lv' := [(6, .ref x.1), (4, .int (nI i)), (1, v), (2, .int nb), (3, .int np), (5, .ref t), (0, .ref h)]) hx hb dX1_deleteMin_132 hl (by decide) rfl (fun ls hl => ?_)
      refine lv_iload hx hb dX1_deleteMin_134 (lv_at hl 1 rfl) ?_
      refine lv_aload_n hx hb dX1_deleteMin_136 rfl (lv_at hl 6 rfl) ?_
      refine gh_get (C := RX2) (T := TX2) (N := 8) (v := .int (nI p)) hx hb hts in_X2 hown hE hG hh1 rfl 5 (by decide) q197 (fun _ h9 => h9) rfl dX1_deleteMin_137 ?_
      refine lv_icmp_eq (tgt := 205) hx hb dX1_deleteMin_140 (by decide) (fun c_1 => ?_) (fun c_1 => ?_)
      · have hip : i = p := (nI_eq (by omega) (by have := (List.getElem?_eq_some_iff.mp hp).1; omega)).mp c_1
        subst hip
        refine lv_iinc (v := nI (i + 1)) (lv' := [(4, .int (nI (i + 1))), (6, .ref x.1), (1, v), (2, .int nb), (3, .int np), (5, .ref t), (0, .ref h)]) hx hb dX1_deleteMin_205 hl (k := 1) rfl (nI_1 i) (by decide) rfl (fun ls hl => ?_)
        refine lv_goto (tgt := 115) hx hb dX1_deleteMin_208 (by decide) ?_
        refine W.widen (k := 1 + (i + 1)) (n := 4 + 200 * (i + 1)) (by omega) (by omega) ?_
        exact ih (i + 1) G1 dac mcc Lc v nb np _ H locs ls hil (by omega) hG hS hh1 hq11 ht1 (dl_skip hdl1) hnm (lv_sub hl [0, 2, 3, 4, 5, 6] rfl)
      · have hip : i ≠ p := fun z => c_1 (by rw [z])
        obtain ⟨j0, hj0⟩ : ∃ j0, j0 = bkt x.2 k0 := ⟨_, rfl⟩
        have hj0b : j0 < b := by rw [hj0]; exact bk_same hxI.1 hqb.1 hb0
        have hj22 : j0 < 22 := by omega
        obtain ⟨⟨f, hba, hff⟩, hals, -⟩ := id hs1
        have hal0 := hals j0 hj22
        refine lv_aload_n hx hb dX1_deleteMin_143 rfl (lv_at hl 6 rfl) ?_
        refine lv_aload hx hb dX1_deleteMin_144 (lv_at hl 0 rfl) ?_
        refine lv_aload_n hx hb dX1_deleteMin_146 rfl (lv_at hl 6 rfl) ?_
        refine gh_get (C := RX2) (T := TX2) (N := 8) (v := .ref q.1) hx hb hts in_X2 hown hE hG hh1 rfl 2 (by decide) q192 (fun _ h9 => h9) rfl dX1_deleteMin_147 ?_
        refine gh_calli (va_runU (As := [.ref x.1, .ref q.1]) (rest := []) ⟨hx, hb, hml, hown, hts⟩ (c_bucket l P G1 h x.1 q.1 x.2 k0 hxI.2.2 hqb.2.2 hbx1 hq11 ba q.1 mn mx _ (.ref q.1) (nI b) (nI p) hh1 f hba) (va_cwU (C := "IntegerRadixHeap") (owner := "AbstractRadixHeap") 2 hts (lw_app (lw_five q265 q267 q268 q266 q9) (lw_meth q269)) rfl rfl rfl rfl (by decide +kernel) ⟨by show 4 + 1 ≤ R.frames; omega, by show 8 + (3 + 11) + 80 ≤ R.locals; omega⟩) (gh_preV hE hG hS (gh_recv hE hG hh1 rfl)) rfl rfl hl.1 rfl (lv_room (Nat.le_of_ble_eq_true rfl)) dX1_deleteMin_150 ⟨by omega, by omega⟩) hS (fun r G_ H locs hw hG hS => ?_)
        rw [hw.1, ← hj0]
        replace hG := hw.2 ▸ hG
        refine lv_istore (lv' := [(7, .int (nI j0)), (6, .ref x.1), (4, .int (nI i)), (1, v), (2, .int nb), (3, .int np), (5, .ref t), (0, .ref h)]) hx hb dX1_deleteMin_153 hl (by decide) rfl (fun ls hl => ?_)
        refine lv_aload_n hx hb dX1_deleteMin_155 rfl (lv_at hl 7 rfl) ?_
        refine gh_get (C := RX2) (T := TX2) (N := 8) (v := .ref ba) hx hb hts in_X2 hown hE hG hh1 rfl 0 (by decide) q186 (fun _ h9 => h9) rfl dX1_deleteMin_156 ?_
        refine lv_iload hx hb dX1_deleteMin_159 (lv_at hl 0 rfl) ?_
        refine gh_aald 2 rfl hx hb hE hG hba (vp_in_nI hj22 (by omega)) (x := la j0) (by rw [nI_clamp (by omega)]; exact hff j0 hj22) dX1_deleteMin_161 ?_
        refine lv_aload hx hb dX1_deleteMin_162 (lv_at hl 1 rfl) ?_
        refine gh_callFi (va_runF (As := [.ref x.1]) (rest := []) (gh_at (ci := 3) hE rfl) ⟨hx, hb, hml, hown, hts⟩ (c_add l P G1 (la j0) (dac j0) x.1 (mcc j0) (nI x.2) _ hal0 (by rw [List.length_map]; have := (hdl1.2.2.2.1 j0 hj0b).1; omega) hbx1 (rh_key hs1 hj22)) (va_cwF 1 hts (lw_app (lw_four q291 q295 q297 q20) (lw_meth q299)) rfl rfl rfl (hE.f 0 rfl) (by decide +kernel) ⟨by show 6 + 1 ≤ R.frames; omega, by show 8 + (2 + 11) + 170 ≤ R.locals; omega⟩) (gh_preV hE hG hS (gh_recv hE hG (al_head hal0).1 rfl)) rfl rfl hl.1 rfl (lv_room (Nat.le_of_ble_eq_true rfl)) dX1_deleteMin_164 ⟨by omega, by omega⟩) hS (fun r G2 H locs hw hG hS => ?_)
        obtain ⟨-, d', hal2, hd', hf2⟩ := hw
        rw [show (Lc j0).map Prod.fst ++ [x.1] = (Lc j0 ++ [x]).map Prod.fst by simp] at hal2
        have hdl2 := dl_step hdl1 hb22 hx1 hip hj0b (by rw [hj0]; exact bk_bkt _ _) (hmin b hb22 x hxm) hxI.2.2 (hFla j0 hj22) hal2 hd' hf2
        have hFl : ∀ (y : Nat) (e : va_E), G1 y = some e → (∀ (j : Nat) (fs : List Value), e = gh_o j fs → j ≠ 3) → (∀ (fs : Nat → Option Nat) (c : Nat), e ≠ gh_q (gh_cO P) c fs) → G2 y = some e := fun y e hy h3 hq => hf2 _ _ hy (fun z => by
          obtain ⟨cap, f2, w1, w2, -⟩ := hal0
          rcases z with z | z
          · rw [z, w1] at hy
            cases hy
            exact h3 3 _ rfl rfl
          · rw [z.1, w2] at hy
            cases hy
            exact hq _ _ rfl)
        have hh2 : G2 h = some (rh_o ba (lN n) q.1 (.ref q.1) (nI b) (nI p) mn mx) := hFl _ _ hh1 (fun j fs z => by cases z; decide) (fun fs c z => by cases z)
        have hq12 : G2 q.1 = some (gh_x (nI k0)) := hFl _ _ hq11 (fun j fs z => by cases z; decide) (fun fs c z => by cases z)
        have hbx2 : G2 x.1 = some (gh_x (nI x.2)) := hFl _ _ hbx1 (fun j fs z => by cases z; decide) (fun fs c z => by cases z)
        have ht2 : G2 t = some (gh_o 4 [.int (nI (i + 1)), .int (nI i), .int mcb, .ref (la b)]) := hFl _ _ ht1 (fun j fs z => by cases z; decide) (fun fs c z => by cases z)
        refine lv_pop hx hb dX1_deleteMin_169 rfl ?_
        rcases hnm with ⟨rfl, rfl, rfl, hemp⟩ | ⟨j9, p9, q9, hj9, hp9, rfl, rfl, rfl, hmin9⟩
        · refine lv_aload_nN hx hb dX1_deleteMin_170 rfl (lv_at hl 3 rfl) ?_
          refine lv_ifnullN (tgt := 184) hx hb dX1_deleteMin_171 (by decide) ?_
          refine lv_aload hx hb dX1_deleteMin_184 (lv_at hl 1 rfl) ?_
          refine lv_astore_n (lv' := [(1, .ref x.1), (7, .int (nI j0)), (6, .ref x.1), (4, .int (nI i)), (2, .int (-1)), (3, .int (-1)), (5, .ref t), (0, .ref h)]) hx hb dX1_deleteMin_186 rfl hl (by decide) rfl (fun ls hl => ?_)
          refine lv_iload hx hb dX1_deleteMin_187 (lv_at hl 1 rfl) ?_
          refine lv_istore_n (lv' := [(2, .int (nI j0)), (1, .ref x.1), (7, .int (nI j0)), (6, .ref x.1), (4, .int (nI i)), (3, .int (-1)), (5, .ref t), (0, .ref h)]) hx hb dX1_deleteMin_189 rfl hl (by decide) rfl (fun ls hl => ?_)
          refine lv_aload_n hx hb dX1_deleteMin_190 rfl (lv_at hl 7 rfl) ?_
          refine gh_get (C := RX2) (T := TX2) (N := 8) (v := .ref ba) hx hb hts in_X2 hown hE hG hh2 rfl 0 (by decide) q186 (fun _ h9 => h9) rfl dX1_deleteMin_191 ?_
          refine lv_iload hx hb dX1_deleteMin_194 (lv_at hl 2 rfl) ?_
          obtain ⟨⟨f3, hba3, hff3⟩, hal3, -⟩ := id hdl2.1
          have hal3 := hal3 j0 hj22
          have hlb3 : ((va_up Lc j0 (Lc j0 ++ [x]) j0).map Prod.fst).length = (Lc j0).length + 1 := by rw [va_up_self, List.length_map, List.length_append]; rfl
          refine gh_aald 2 rfl hx hb hE hG hba3 (vp_in_nI hj22 (by omega)) (x := la j0) (by rw [nI_clamp (by omega)]; exact hff3 j0 hj22) dX1_deleteMin_196 ?_
          refine gh_callFi (va_runF (As := []) (rest := []) (gh_at (ci := 3) hE rfl) ⟨hx, hb, hml, hown, hts⟩ (c_lsize l P G2 (la j0) _ _ _ hal3) (va_cwF 0 hts (lw_app (lw_four q350 q353 q355 q20) (lw_meth q357)) rfl rfl rfl (hE.f 1 rfl) (by decide +kernel) ⟨by show 0 + 1 ≤ R.frames; omega, by show 8 + (1 + 11) + 0 ≤ R.locals; omega⟩) (gh_preV hE hG hS (gh_recv hE hG (al_head hal3).1 rfl)) rfl rfl hl.1 rfl (lv_room (Nat.le_of_ble_eq_true rfl)) dX1_deleteMin_197 ⟨by omega, by omega⟩) hS (fun r G_ H locs hw hG hS => ?_)
          rw [hw.1, hlb3]
          replace hG := hw.2 ▸ hG
          refine lv_iconst (v := 1) hx hb dX1_deleteMin_202 (by decide) ?_
          refine lv_isub hx hb dX1_deleteMin_203 ?_
          refine lv_topi (fun z_0 ez_0 => ?_)
          obtain rfl : z_0 = nI (Lc j0).length := ez_0.trans (nI_pred _)
          refine lv_istore_n (lv' := [(3, .int (nI (Lc j0).length)), (2, .int (nI j0)), (1, .ref x.1), (7, .int (nI j0)), (6, .ref x.1), (4, .int (nI i)), (5, .ref t), (0, .ref h)]) hx hb dX1_deleteMin_204 rfl hl (by decide) rfl (fun ls hl => ?_)
          refine lv_iinc (v := nI (i + 1)) (lv' := [(4, .int (nI (i + 1))), (3, .int (nI (Lc j0).length)), (2, .int (nI j0)), (1, .ref x.1), (7, .int (nI j0)), (6, .ref x.1), (5, .ref t), (0, .ref h)]) hx hb dX1_deleteMin_205 hl (k := 5) rfl (nI_1 i) (by decide) rfl (fun ls hl => ?_)
          refine lv_goto (tgt := 115) hx hb dX1_deleteMin_208 (by decide) ?_
          refine W.cs (cells' := 1 + (i + 1)) (slots' := 4 + 200 * (i + 1)) (by omega) (by omega) ?_
          exact ih (i + 1) G2 _ _ _ (.ref x.1) (nI j0) (nI (Lc j0).length) _ H locs ls hil (by omega) hG hS hh2 hq12 ht2 hdl2 (nm_new hj0b (fun j' hj' y hy => absurd hy (by rw [hemp j' hj']; exact List.not_mem_nil))) (lv_sub hl [0, 3, 2, 1, 6, 7] rfl)
        · refine lv_aload_n hx hb dX1_deleteMin_170 rfl (lv_at hl 3 rfl) ?_
          refine lv_ifnull hx hb dX1_deleteMin_171 ?_
          refine lv_aload_n hx hb dX1_deleteMin_174 rfl (lv_at hl 7 rfl) ?_
          refine lv_aload hx hb dX1_deleteMin_175 (lv_at hl 1 rfl) ?_
          refine lv_aload_n hx hb dX1_deleteMin_177 rfl (lv_at hl 3 rfl) ?_
          have hq9m : q9 ∈ Lc j9 := List.mem_of_getElem? hp9
          have hq9k := ((hdl1.2.2.2.1 j9 hj9).2 q9 hq9m).2.2
          have hq92 : G2 q9.1 = some (gh_x (nI q9.2)) := hFl _ _ (hs1.2.2.1 j9 (by omega) q9 hq9m) (fun j fs z => by cases z; decide) (fun fs c z => by cases z)
          have hxk := hxI.2.2
          refine gh_calli (va_runU (As := [.ref x.1, .ref q9.1]) (rest := []) ⟨hx, hb, hml, hown, hts⟩ (c_cmp l P G2 h x.1 q9.1 (nI x.2) (nI q9.2) hbx2 hq92 _ hh2) (va_cwA (C := "IntegerRadixHeap") (owner := "AbstractRadixHeap") 2 hts (lw_app (lw_five q248 q250 q251 q252 q10) (lw_meth q253)) rfl rfl rfl (hE.w 2 rfl) (by decide +kernel) ⟨by show 2 + 1 ≤ R.frames; omega, by show 8 + (3 + 11) + 42 ≤ R.locals; omega⟩) (gh_preV hE hG hS (gh_recv hE hG hh2 rfl)) rfl rfl hl.1 rfl (lv_room (Nat.le_of_ble_eq_true rfl)) dX1_deleteMin_178 ⟨by omega, by omega⟩) hS (fun r G_ H locs hw hG hS => ?_)
          rw [hw.1]
          replace hG := hw.2 ▸ hG
          refine lv_if_ge (tgt := 205) hx hb dX1_deleteMin_181 (by decide) (fun c_2 => ?_) (fun c_2 => ?_)
          · have hle : q9.2 ≤ x.2 := (cp_ge (by omega) (by omega)).mp c_2
            refine lv_iinc (v := nI (i + 1)) (lv' := [(4, .int (nI (i + 1))), (7, .int (nI j0)), (6, .ref x.1), (1, .ref q9.1), (2, .int (nI j9)), (3, .int (nI p9)), (5, .ref t), (0, .ref h)]) hx hb dX1_deleteMin_205 hl (k := 2) rfl (nI_1 i) (by decide) rfl (fun ls hl => ?_)
            refine lv_goto (tgt := 115) hx hb dX1_deleteMin_208 (by decide) ?_
            refine W.cs (cells' := 1 + (i + 1)) (slots' := 4 + 200 * (i + 1)) (by omega) (by omega) ?_
            exact ih (i + 1) G2 _ _ _ (.ref q9.1) (nI j9) (nI p9) _ H locs ls hil (by omega) hG hS hh2 hq12 ht2 hdl2 (nm_keep hj9 hp9 hmin9 hle) (lv_sub hl [0, 3, 4, 5, 6, 7] rfl)
          · have hlt : x.2 < q9.2 := Nat.lt_of_not_le (fun z => c_2 ((cp_ge (by omega) (by omega)).mpr z))
            refine lv_aload hx hb dX1_deleteMin_184 (lv_at hl 1 rfl) ?_
            refine lv_astore_n (lv' := [(1, .ref x.1), (7, .int (nI j0)), (6, .ref x.1), (4, .int (nI i)), (2, .int (nI j9)), (3, .int (nI p9)), (5, .ref t), (0, .ref h)]) hx hb dX1_deleteMin_186 rfl hl (by decide) rfl (fun ls hl => ?_)
            refine lv_iload hx hb dX1_deleteMin_187 (lv_at hl 1 rfl) ?_
            refine lv_istore_n (lv' := [(2, .int (nI j0)), (1, .ref x.1), (7, .int (nI j0)), (6, .ref x.1), (4, .int (nI i)), (3, .int (nI p9)), (5, .ref t), (0, .ref h)]) hx hb dX1_deleteMin_189 rfl hl (by decide) rfl (fun ls hl => ?_)
            refine lv_aload_n hx hb dX1_deleteMin_190 rfl (lv_at hl 7 rfl) ?_
            refine gh_get (C := RX2) (T := TX2) (N := 8) (v := .ref ba) hx hb hts in_X2 hown hE hG hh2 rfl 0 (by decide) q186 (fun _ h9 => h9) rfl dX1_deleteMin_191 ?_
            refine lv_iload hx hb dX1_deleteMin_194 (lv_at hl 2 rfl) ?_
            obtain ⟨⟨f3, hba3, hff3⟩, hal3, -⟩ := id hdl2.1
            have hal3 := hal3 j0 hj22
            have hlb3 : ((va_up Lc j0 (Lc j0 ++ [x]) j0).map Prod.fst).length = (Lc j0).length + 1 := by rw [va_up_self, List.length_map, List.length_append]; rfl
            refine gh_aald 2 rfl hx hb hE hG hba3 (vp_in_nI hj22 (by omega)) (x := la j0) (by rw [nI_clamp (by omega)]; exact hff3 j0 hj22) dX1_deleteMin_196 ?_
            refine gh_callFi (va_runF (As := []) (rest := []) (gh_at (ci := 3) hE rfl) ⟨hx, hb, hml, hown, hts⟩ (c_lsize l P G2 (la j0) _ _ _ hal3) (va_cwF 0 hts (lw_app (lw_four q350 q353 q355 q20) (lw_meth q357)) rfl rfl rfl (hE.f 1 rfl) (by decide +kernel) ⟨by show 0 + 1 ≤ R.frames; omega, by show 8 + (1 + 11) + 0 ≤ R.locals; omega⟩) (gh_preV hE hG hS (gh_recv hE hG (al_head hal3).1 rfl)) rfl rfl hl.1 rfl (lv_room (Nat.le_of_ble_eq_true rfl)) dX1_deleteMin_197 ⟨by omega, by omega⟩) hS (fun r G_ H locs hw hG hS => ?_)
            rw [hw.1, hlb3]
            replace hG := hw.2 ▸ hG
            refine lv_iconst (v := 1) hx hb dX1_deleteMin_202 (by decide) ?_
            refine lv_isub hx hb dX1_deleteMin_203 ?_
            refine lv_topi (fun z_1 ez_1 => ?_)
            obtain rfl : z_1 = nI (Lc j0).length := ez_1.trans (nI_pred _)
            refine lv_istore_n (lv' := [(3, .int (nI (Lc j0).length)), (2, .int (nI j0)), (1, .ref x.1), (7, .int (nI j0)), (6, .ref x.1), (4, .int (nI i)), (5, .ref t), (0, .ref h)]) hx hb dX1_deleteMin_204 rfl hl (by decide) rfl (fun ls hl => ?_)
            refine lv_iinc (v := nI (i + 1)) (lv' := [(4, .int (nI (i + 1))), (3, .int (nI (Lc j0).length)), (2, .int (nI j0)), (1, .ref x.1), (7, .int (nI j0)), (6, .ref x.1), (5, .ref t), (0, .ref h)]) hx hb dX1_deleteMin_205 hl (k := 5) rfl (nI_1 i) (by decide) rfl (fun ls hl => ?_)
            refine lv_goto (tgt := 115) hx hb dX1_deleteMin_208 (by decide) ?_
            refine W.cs (cells' := 1 + (i + 1)) (slots' := 4 + 200 * (i + 1)) (by omega) (by omega) ?_
            exact ih (i + 1) G2 _ _ _ (.ref x.1) (nI j0) (nI (Lc j0).length) _ H locs ls hil (by omega) hG hS hh2 hq12 ht2 hdl2 (nm_new hj0b (fun j' hj' y hy => Nat.le_trans (Nat.le_of_lt hlt) (hmin9 j' hj' y hy))) (lv_sub hl [0, 3, 2, 1, 6, 7] rfl)
    · rw [if_neg hil]
      refine lv_if_eq (tgt := 211) hx hb dX1_deleteMin_122 (by decide) (fun _ => ?_) (fun c_9 => absurd (rfl) c_9)
      have hie : i = (L b).length := by omega
      subst hie
      refine W.widen (k := 1 + 64) (n := 4 + 200 * 64) (by omega) (by omega) ?_
      exact kk G dac mcc Lc v nb np H locs ls hG hS hh hq1 hdl hnm (lv_sub hl [1, 2, 3, 5] rfl)
end
section
/-! deleteMin, the whole -/
set_option maxRecDepth 100000
theorem rh_box {P : gh_P} {G : gh_G} {h ba a ld mn mx : Nat} {sz : Int64} {cm : Value} {cb cp : Int32} {v : Int32} {la da : Nat → Nat} {mc : Nat → Int32} {L L' : Nat → List (Nat × Nat)} (hs : rh_S P G ba la da mc L) (hh : G h = some (rh_o ba sz ld cm cb cp mn mx)) (ha : G a = some (gh_x v)) : ¬ rh_F P (h, ba, la, da, L') a := by
  obtain ⟨⟨f, s1, s2⟩, s3, -⟩ := hs
  rintro (z | z | ⟨i, hi, z | ⟨z, -⟩⟩)
  · have z : a = h := z
    rw [z, hh] at ha
    cases ha
  · have z : a = ba := z
    rw [z, s1] at ha
    cases ha
  · have z : a = la i := z
    obtain ⟨cap, f, w, -⟩ := s3 i hi
    rw [z, w] at ha
    cases ha
  · have z : a = da i := z
    obtain ⟨cap, f, -, w, -⟩ := s3 i hi
    rw [z, w] at ha
    cases ha
theorem up_id (da : Nat → Nat) (b : Nat) : va_up da b (da b) = da := funext (fun j => by by_cases z : j = b <;> simp [va_up, z])
/-- a list's change keeps what is neither list nor array -/
theorem al_keep {P : gh_P} {G G1 : gh_G} {a d : Nat} {mc : Int32} {es : List Nat} (hal : al_ P G a d mc es) (hf : gh_fr (al_F P a d) G G1) : ∀ (y : Nat) (e : va_E), G y = some e → (∀ (j : Nat) (fs : List Value), e = gh_o j fs → j ≠ 3) → (∀ (fs : Nat → Option Nat) (c : Nat), e ≠ gh_q (gh_cO P) c fs) → G1 y = some e := fun y e hy h3 hq => hf _ _ hy (fun z => by
  obtain ⟨cap, f2, w1, w2, -⟩ := hal
  rcases z with z | z
  · rw [z, w1] at hy
    cases hy
    exact h3 3 _ rfl rfl
  · rw [z.1, w2] at hy
    cases hy
    exact hq _ _ rfl)
theorem dl_0 {P : gh_P} {F : Nat → Prop} {G G2 : gh_G} {h ba b m p : Nat} {la da : Nat → Nat} {mc : Nat → Int32} {L : Nat → List (Nat × Nat)} (hs : rh_S P G2 ba la da mc L) (hlow : ∀ j, j < b → L j = []) (hfr : gh_fr F G G2) (hF : ∀ y, rh_F P (h, ba, la, da, L) y → F y ∨ G y = none) : dl_ P F G h ba b la (mc b) L m p 0 da mc L G2 := by
  refine ⟨hs, rfl, fun _ _ _ => rfl, fun j hj => ?_, fun x => ?_, ?_, hfr, hF⟩
  · rw [hlow j hj]
    exact ⟨Nat.le_refl _, fun x hx9 => absurd hx9 List.not_mem_nil⟩
  · rw [List.take_zero, List.eraseIdx_nil, List.map_nil, List.count_nil, Nat.add_zero]
  · rw [List.take_zero, List.eraseIdx_nil, List.length_nil, Nat.add_zero]
/-- what the heap is behind deleteMin -/
def dm_ (P : gh_P) (G : gh_G) (h ba : Nat) (la da : Nat → Nat) (L : Nat → List (Nat × Nat)) (q : Nat × Nat) (n mn mx : Nat) (G9 : gh_G) : Prop := ∃ (da' : Nat → Nat) (L1 : Nat → List (Nat × Nat)) (cm : Value) (cb cp : Int32), G9 h = some (rh_o ba (lN n) q.1 cm cb cp mn mx) ∧ rh_ P G9 (h, ba, la, da', L1) q.2 ∧ G9 q.1 = some (gh_x (nI q.2)) ∧ (∀ x, (rh_ks L).count x = (rh_ks L1).count x + [q.2].count x) ∧ (rh_ks L).length = (rh_ks L1).length + 1 ∧ gh_fr (rh_F P (h, ba, la, da, L)) G G9 ∧ ∀ y, rh_F P (h, ba, la, da', L1) y → rh_F P (h, ba, la, da, L) y ∨ G y = none
set_option maxHeartbeats 4000000 in
theorem dm_zero {pr : Program} {l : Launch} {e : Env} {s : State} {m : MethodId} {args : Array Value} {below : List Frame} {meth : Method} {c : Code} {R : Room} {Q : State → Prop} {P : gh_P} {h ba n mn mx p last : Nat} {q : Nat × Nat} {la da : Nat → Nat} {mc : Nat → Int32} {L : Nat → List (Nat × Nat)} {G G1 : gh_G} {H : Heap} {locs : List Loc} {ls : Array Slot} (hx : pr.tables.exec = Jvm.exec) (hb : c.code = cX1_deleteMin) (hml : c.maxLocals = 8) (hts : ∀ w ∈ lw_all, w.before args s = true) (hown : s.vm.findClass "AbstractRadixHeap" = some m.cls) (hE : gh_E P s) (hR : 7 ≤ R.frames ∧ 70 ≤ R.cells ∧ 13000 ≤ R.slots ∧ 191 ≤ R.locals) (hN : gh_N P ≤ h) (hh1 : G1 h = some (rh_o ba (lN (n + 1)) q.1 (.ref q.1) (nI 0) (nI p) mn mx)) (hmx1 : G1 mx = some (gh_x 1048575)) (hq1 : G1 q.1 = some (gh_x (nI q.2))) (hs1 : rh_S P G1 ba la da mc L) (hI : rh_I L last) (hn : (rh_ks L).length = n + 1) (h64 : n + 1 ≤ 64) (hp : (L 0)[p]? = some q) (hfr0 : gh_fr (rh_F P (h, ba, la, da, L)) G G1) (hG : gh_H P G1 H) (hS : va_S (gh_A P) s.heap H locs) (hl : lv_has ls 8 [(0, .ref h)])
    (kk : ∀ (G9 : gh_G) (H : Heap) (locs : List Loc) (ls : Array Slot), gh_H P G9 H → va_S (gh_A P) s.heap H locs → dm_ P G h ba la da L q n mn mx G9 → lv_has ls 8 [(0, .ref h)] → W pr l e R s m args below meth c H locs (1 + 64 + 1) (4 + 200 * 64 + 4) Q (F0 m 266 ls [])) : W pr l e R s m args below meth c H locs 0 0 Q (F0 m 32 ls []) := by
  have hqm := List.mem_of_getElem? hp
  have hqI := hI.2 0 (by omega) q hqm
  have hpl : p < (L 0).length := (List.getElem?_eq_some_iff.mp hp).1
  have hb22 : 0 < 22 := by omega
  have hL0 : (L 0).length ≤ n + 1 := hn ▸ ks_le hb22 L
  refine lv_aload_n hx hb dX1_deleteMin_32 rfl (lv_at hl 0 rfl) ?_
  refine gh_get (C := RX2) (T := TX2) (N := 8) (v := .ref ba) hx hb hts in_X2 hown hE hG hh1 rfl 0 (by decide) q186 (fun _ h9 => h9) rfl dX1_deleteMin_33 ?_
  refine lv_aload_n hx hb dX1_deleteMin_36 rfl (lv_at hl 0 rfl) ?_
  refine gh_get (C := RX2) (T := TX2) (N := 8) (v := .int (nI 0)) hx hb hts in_X2 hown hE hG hh1 rfl 4 (by decide) q196 (fun _ h9 => h9) rfl dX1_deleteMin_37 ?_
  obtain ⟨⟨f1, hba1, hff1⟩, hals1, -⟩ := id hs1
  have hal1 := hals1 0 hb22
  refine gh_aald 2 rfl hx hb hE hG hba1 (vp_in_nI hb22 (by omega)) (x := la 0) (by rw [nI_clamp (by omega)]; exact hff1 0 hb22) dX1_deleteMin_40 ?_
  refine lv_aload_n hx hb dX1_deleteMin_41 rfl (lv_at hl 0 rfl) ?_
  refine gh_get (C := RX2) (T := TX2) (N := 8) (v := .int (nI p)) hx hb hts in_X2 hown hE hG hh1 rfl 5 (by decide) q197 (fun _ h9 => h9) rfl dX1_deleteMin_42 ?_
  refine gh_callFr (va_runF (As := [.int (nI p)]) (rest := []) (gh_at (ci := 3) hE rfl) ⟨hx, hb, hml, hown, hts⟩ (c_lremove l P G1 (la 0) (da 0) p ((L 0).length - 1) (mc 0) ((L 0).map Prod.fst) hal1 (by rw [List.length_map]; omega) (by omega) (by omega) (rh_key hs1 hb22)) (va_cwF 1 hts (lw_app (lw_four q412 q415 q417 q20) (lw_meth q419)) rfl rfl rfl (hE.f 2 rfl) (by decide +kernel) ⟨by show 2 + 1 ≤ R.frames; omega, by show 8 + (4 + 11) + 65 ≤ R.locals; omega⟩) (gh_preV hE hG hS (gh_recv hE hG (al_head hal1).1 rfl)) rfl rfl hl.1 rfl (lv_room (Nat.le_of_ble_eq_true rfl)) dX1_deleteMin_45 ⟨by omega, by omega⟩) hS (fun r G2 H locs hw hG hS => ?_)
  obtain ⟨-, hal2, hf2⟩ := hw
  rw [map_erase] at hal2
  have hFl := al_keep hal1 hf2
  have hh2 : G2 h = some (rh_o ba (lN (n + 1)) q.1 (.ref q.1) (nI 0) (nI p) mn mx) := hFl _ _ hh1 (fun j fs z => by cases z; decide) (fun fs c z => by cases z)
  have hmx2 : G2 mx = some (gh_x 1048575) := hFl _ _ hmx1 (fun j fs z => by cases z; decide) (fun fs c z => by cases z)
  have hq2 : G2 q.1 = some (gh_x (nI q.2)) := hFl _ _ hq1 (fun j fs z => by cases z; decide) (fun fs c z => by cases z)
  have hs2 := rh_S_set hs1 hb22 hal2 (Or.inl rfl) hf2 (fun x hx9 => hs1.2.2.1 0 (by omega) x (List.mem_of_mem_eraseIdx hx9))
  rw [up_id] at hs2
  have hfr2 : gh_fr (rh_F P (h, ba, la, da, L)) G G2 := gh_fr_tr hfr0 (gh_fr_w hf2 (rh_F_fr (R := (h, ba, la, da, L)) hb22))
  have hql : q.2 = last := by
    have := hqI.1.1
    rw [Nat.pow_zero, Nat.div_one, Nat.div_one] at this
    exact this
  have hI1 : rh_I (va_up L 0 ((L 0).eraseIdx p)) q.2 := by
    rw [hql]
    exact rh_I_set hI (fun x hx9 => hI.2 0 hb22 x (List.mem_of_mem_eraseIdx hx9))
  have hcnt : ∀ x, (rh_ks L).count x = (rh_ks (va_up L 0 ((L 0).eraseIdx p))).count x + [q.2].count x := fun x => by
    have c1 := ks_count hb22 L ((L 0).eraseIdx p) x
    have c3 := count_erase (l := (L 0).map Prod.snd) (p := p) (x := q.2) (by rw [List.getElem?_map, hp]; rfl) x
    rw [map_erase] at c3
    omega
  have hlen1 : (rh_ks (va_up L 0 ((L 0).eraseIdx p))).length = n := by
    have c1 := ks_len hb22 L ((L 0).eraseIdx p)
    rw [List.length_eraseIdx_of_lt hpl] at c1
    omega
  have hft : ∀ y, rh_F P (h, ba, la, da, va_up L 0 ((L 0).eraseIdx p)) y → rh_F P (h, ba, la, da, L) y ∨ G y = none := fun y z => Or.inl z
  obtain ⟨L1, hL1e⟩ : ∃ x, x = va_up L 0 ((L 0).eraseIdx p) := ⟨_, rfl⟩
  obtain ⟨mc1, hmc1⟩ : ∃ x, x = va_up mc 0 (mc 0 + 1) := ⟨_, rfl⟩
  rw [← hL1e] at hs2 hI1 hcnt hlen1 hft
  rw [← hmc1] at hs2
  refine lv_pop hx hb dX1_deleteMin_50 rfl ?_
  refine lv_aload_n hx hb dX1_deleteMin_51 rfl (lv_at hl 0 rfl) ?_
  refine lv_null hx hb dX1_deleteMin_52 ?_
  refine gh_put (C := RX2) (T := TX2) (N := 8) (v := .null) hx hb hts in_X2 tyX2 tyX2_ok nmX2 hown hE hG hS hN hh2 rfl 3 (by decide) q195 (fun _ h9 => h9) rfl rfl rfl (Nat.le_of_ble_eq_true rfl) dX1_deleteMin_53 (fun H locs hG hS => ?_)
  have hG : gh_H P (gh_up G2 h (rh_o ba (lN (n + 1)) q.1 .null (nI 0) (nI p) mn mx)) H := hG
  obtain ⟨G3, hG3⟩ : ∃ g, g = gh_up G2 h (rh_o ba (lN (n + 1)) q.1 .null (nI 0) (nI p) mn mx) := ⟨_, rfl⟩
  rw [← hG3] at hG
  have hh3 : G3 h = some (rh_o ba (lN (n + 1)) q.1 .null (nI 0) (nI p) mn mx) := by rw [hG3, gh_up_s]
  have hs3 : rh_S P G3 ba la da mc1 L1 := by rw [hG3]; exact rh_S_up hs2 (fun x q => by rw [hh2] at q; cases q; exact ⟨1, _, rfl, by decide, by decide⟩)
  have hbx3 : ∀ (y : Nat) (v : Int32), G2 y = some (gh_x v) → G3 y = some (gh_x v) := fun y v hy => by rw [hG3, gh_up_n _ _ (gh_ne hy hh2 (by simp))]; exact hy
  have hfr3 : gh_fr (rh_F P (h, ba, la, da, L)) G G3 := gh_fr_put hfr2 hG3 (Or.inl rfl)
  refine lv_aload_n hx hb dX1_deleteMin_56 rfl (lv_at hl 0 rfl) ?_
  refine lv_iconst (v := (-1)) hx hb dX1_deleteMin_57 (by decide) ?_
  refine gh_put (C := RX2) (T := TX2) (N := 8) (v := .int (-1)) hx hb hts in_X2 tyX2 tyX2_ok nmX2 hown hE hG hS hN hh3 rfl 4 (by decide) q196 (fun _ h9 => h9) rfl rfl rfl (Nat.le_of_ble_eq_true rfl) dX1_deleteMin_58 (fun H locs hG hS => ?_)
  have hG : gh_H P (gh_up G3 h (rh_o ba (lN (n + 1)) q.1 .null (-1) (nI p) mn mx)) H := hG
  obtain ⟨G4, hG4⟩ : ∃ g, g = gh_up G3 h (rh_o ba (lN (n + 1)) q.1 .null (-1) (nI p) mn mx) := ⟨_, rfl⟩
  rw [← hG4] at hG
  have hh4 : G4 h = some (rh_o ba (lN (n + 1)) q.1 .null (-1) (nI p) mn mx) := by rw [hG4, gh_up_s]
  have hs4 : rh_S P G4 ba la da mc1 L1 := by rw [hG4]; exact rh_S_up hs3 (fun x q => by rw [hh3] at q; cases q; exact ⟨1, _, rfl, by decide, by decide⟩)
  have hbx4 : ∀ (y : Nat) (v : Int32), G3 y = some (gh_x v) → G4 y = some (gh_x v) := fun y v hy => by rw [hG4, gh_up_n _ _ (gh_ne hy hh3 (by simp))]; exact hy
  have hfr4 : gh_fr (rh_F P (h, ba, la, da, L)) G G4 := gh_fr_put hfr3 hG4 (Or.inl rfl)
  refine lv_aload_n hx hb dX1_deleteMin_61 rfl (lv_at hl 0 rfl) ?_
  refine lv_iconst (v := (-1)) hx hb dX1_deleteMin_62 (by decide) ?_
  refine gh_put (C := RX2) (T := TX2) (N := 8) (v := .int (-1)) hx hb hts in_X2 tyX2 tyX2_ok nmX2 hown hE hG hS hN hh4 rfl 5 (by decide) q197 (fun _ h9 => h9) rfl rfl rfl (Nat.le_of_ble_eq_true rfl) dX1_deleteMin_63 (fun H locs hG hS => ?_)
  have hG : gh_H P (gh_up G4 h (rh_o ba (lN (n + 1)) q.1 .null (-1) (-1) mn mx)) H := hG
  obtain ⟨G5, hG5⟩ : ∃ g, g = gh_up G4 h (rh_o ba (lN (n + 1)) q.1 .null (-1) (-1) mn mx) := ⟨_, rfl⟩
  rw [← hG5] at hG
  have hh5 : G5 h = some (rh_o ba (lN (n + 1)) q.1 .null (-1) (-1) mn mx) := by rw [hG5, gh_up_s]
  have hs5 : rh_S P G5 ba la da mc1 L1 := by rw [hG5]; exact rh_S_up hs4 (fun x q => by rw [hh4] at q; cases q; exact ⟨1, _, rfl, by decide, by decide⟩)
  have hbx5 : ∀ (y : Nat) (v : Int32), G4 y = some (gh_x v) → G5 y = some (gh_x v) := fun y v hy => by rw [hG5, gh_up_n _ _ (gh_ne hy hh4 (by simp))]; exact hy
  have hfr5 : gh_fr (rh_F P (h, ba, la, da, L)) G G5 := gh_fr_put hfr4 hG5 (Or.inl rfl)
  refine lv_aload_n hx hb dX1_deleteMin_66 rfl (lv_at hl 0 rfl) ?_
  refine lv_dup hx hb dX1_deleteMin_67 rfl ?_
  refine gh_get (C := RX2) (T := TX2) (N := 8) (v := .long (lN (n + 1))) hx hb hts in_X2 hown hE hG hh5 rfl 1 (by decide) q189 (fun _ h9 => h9) rfl dX1_deleteMin_68 ?_
  refine lv_lconst (v := 1) hx hb dX1_deleteMin_71 (by decide) ?_
  refine lv_lsub hx hb dX1_deleteMin_72 ?_
  refine lv_topl (fun z_0 ez_0 => ?_)
  obtain rfl : z_0 = lN n := ez_0.trans (lN_sub (show 1 ≤ n + 1 by omega))
  refine lv_dup2_x1_2 hx hb dX1_deleteMin_73 rfl rfl ?_
  refine gh_put (C := RX2) (T := TX2) (N := 8) (v := .long (lN n)) hx hb hts in_X2 tyX2 tyX2_ok nmX2 hown hE hG hS hN hh5 rfl 1 (by decide) q189 (fun _ h9 => h9) rfl rfl rfl (Nat.le_of_ble_eq_true rfl) dX1_deleteMin_74 (fun H locs hG hS => ?_)
  have hG : gh_H P (gh_up G5 h (rh_o ba (lN n) q.1 .null (-1) (-1) mn mx)) H := hG
  obtain ⟨G6, hG6⟩ : ∃ g, g = gh_up G5 h (rh_o ba (lN n) q.1 .null (-1) (-1) mn mx) := ⟨_, rfl⟩
  rw [← hG6] at hG
  have hh6 : G6 h = some (rh_o ba (lN n) q.1 .null (-1) (-1) mn mx) := by rw [hG6, gh_up_s]
  have hs6 : rh_S P G6 ba la da mc1 L1 := by rw [hG6]; exact rh_S_up hs5 (fun x q => by rw [hh5] at q; cases q; exact ⟨1, _, rfl, by decide, by decide⟩)
  have hbx6 : ∀ (y : Nat) (v : Int32), G5 y = some (gh_x v) → G6 y = some (gh_x v) := fun y v hy => by rw [hG6, gh_up_n _ _ (gh_ne hy hh5 (by simp))]; exact hy
  have hfr6 : gh_fr (rh_F P (h, ba, la, da, L)) G G6 := gh_fr_put hfr5 hG6 (Or.inl rfl)
  refine lv_lconst (v := 0) hx hb dX1_deleteMin_77 (by decide) ?_
  refine W.lcmp hx hb dX1_deleteMin_78 ?_
  have hqb := (hbx6 _ _ (hbx5 _ _ (hbx4 _ _ (hbx3 _ _ hq2))))
  have hmxb := (hbx6 _ _ (hbx5 _ _ (hbx4 _ _ (hbx3 _ _ hmx2))))
  refine lv_if_le (tgt := 266) hx hb dX1_deleteMin_79 (by decide) (fun c_1 => ?_) (fun c_1 => ?_)
  · have hn0 : n = 0 := Nat.le_zero.mp ((lN_le (b := 0) (show n < 2 ^ 31 by omega) (by omega)).mp ((lg_cmp_le _ _).mp c_1))
    refine W.widen (k := (1 + 64 + 1)) (n := (4 + 200 * 64 + 4)) (by omega) (by omega) ?_
    exact kk G6 H locs ls hG hS ⟨da, L1, _, _, _, hh6, ⟨q.1, mn, mx, _, _, _, mc1, by show G6 h = _; rw [hlen1]; exact hh6, hqb, hmxb, hs6, hI1, Or.inl ⟨by rw [hlen1]; exact hn0, rfl⟩, by show (rh_ks L1).length ≤ 64; omega, hN⟩, hqb, hcnt, by show (rh_ks L).length = (rh_ks L1).length + 1; omega, hfr6, hft⟩ (lv_sub hl [0] rfl)
  · have hn0 : n ≠ 0 := fun z => c_1 (by rw [z]; exact (lg_cmp_le _ _).mpr (by decide))
    have hex : ∃ i, 0 ≤ i ∧ i < 22 ∧ L1 i ≠ [] := by
      obtain ⟨x, hx9⟩ := List.exists_mem_of_length_pos (l := rh_ks L1) (by omega)
      obtain ⟨i, hi, q3, h3, -⟩ := ks_mem.mp hx9
      exact ⟨i, Nat.zero_le i, hi, fun z => by rw [z] at h3; cases h3⟩
    refine lv_aload_n hx hb dX1_deleteMin_82 rfl (lv_at hl 0 rfl) ?_
    refine lv_iconst (v := 0) hx hb dX1_deleteMin_83 (by decide) ?_
    refine gh_callv (va_runV (C := "IntegerRadixHeap") (As := [.int 0]) (rest := []) ⟨hx, hb, hml, hown, hts⟩ (c_fcm_none l P G6 h ba q.1 mn mx (lN n) (-1) (-1) 0 la da mc1 L1 hh6 hN hs6 (fun i hi => by have := ks_le hi L1; omega) (fun i hi x hx9 => (hI1.2 i hi x hx9).2.2) hex) ⟨callB_of 1 hts (lw_meth q434) rfl rfl rfl (hts _ q9) (hts _ q431) (by decide +kernel) ⟨by show 3 + 1 ≤ R.frames; omega, by show 8 + (5 + 11) + 64 ≤ R.locals; omega⟩, hts _ q433, (hE.w 5 rfl).use rfl⟩ (gh_preV hE hG hS (gh_recv hE hG hh6 rfl)) rfl rfl hl.1 rfl (lv_room (Nat.le_of_ble_eq_true rfl)) dX1_deleteMin_84 ⟨by omega, by omega⟩) hS (fun G7 H locs hw hG hS => ?_)
    obtain ⟨b', p', q', -, hb', hlo', hp', hmin', hh7, hf7⟩ := hw
    have hs7 := rh_S_fr hs6 hf7 (fun a x ha hx9 => by have ha : a = h := ha; rw [ha, hh6] at hx9; cases hx9; exact ⟨1, _, rfl, by decide, by decide⟩)
    have hfr7 : gh_fr (rh_F P (h, ba, la, da, L)) G G7 := gh_fr_tr hfr6 (gh_fr_w hf7 (fun a z => Or.inl z))
    replace hqb := hf7 _ _ hqb (gh_ne hqb hh6 (by simp))
    replace hmxb := hf7 _ _ hmxb (gh_ne hmxb hh6 (by simp))
    refine lv_goto (tgt := 266) hx hb dX1_deleteMin_87 (by decide) ?_
    refine W.widen (k := (1 + 64 + 1)) (n := (4 + 200 * 64 + 4)) (by omega) (by omega) ?_
    exact kk G7 H locs ls hG hS ⟨da, L1, _, _, _, hh7, ⟨q.1, mn, mx, _, _, _, mc1, by show G7 h = _; rw [hlen1]; exact hh7, hqb, hmxb, hs7, hI1, Or.inr ⟨b', p', q', hb', hp', rfl, rfl, rfl, rh_least hI1 hb' (fun i hi x hx9 => absurd hx9 (by show ¬ x ∈ L1 i; rw [hlo' i (Nat.zero_le i) hi]; exact List.not_mem_nil)) (hI1.2 b' hb' q' (List.mem_of_getElem? hp')).1 hmin'⟩, by show (rh_ks L1).length ≤ 64; omega, hN⟩, hqb, hcnt, by show (rh_ks L).length = (rh_ks L1).length + 1; omega, hfr7, hft⟩ (lv_sub hl [0] rfl)
end
section
/-! deleteMin behind its loop -/
set_option maxRecDepth 100000
set_option maxHeartbeats 4000000 in
theorem dm_high {pr : Program} {l : Launch} {e : Env} {s : State} {m : MethodId} {args : Array Value} {below : List Frame} {meth : Method} {c : Code} {R : Room} {Q : State → Prop} {P : gh_P} {G4 : gh_G} {dac : Nat → Nat} {mcc : Nat → Int32} {Lc : Nat → List (Nat × Nat)} {mcb : Int32} {t b : Nat} {v : Value} {nb np : Int32} {h ba n mn mx p last : Nat} {q : Nat × Nat} {la da : Nat → Nat} {L : Nat → List (Nat × Nat)} {G : gh_G} {H : Heap} {locs : List Loc} {ls : Array Slot} (hx : pr.tables.exec = Jvm.exec) (hb : c.code = cX1_deleteMin) (hml : c.maxLocals = 8) (hts : ∀ w ∈ lw_all, w.before args s = true) (hown : s.vm.findClass "AbstractRadixHeap" = some m.cls) (hE : gh_E P s) (hR : 7 ≤ R.frames ∧ 70 ≤ R.cells ∧ 13000 ≤ R.slots ∧ 191 ≤ R.locals) (hN : gh_N P ≤ h) (hh4 : G4 h = some (rh_o ba (lN (n + 1)) q.1 (.ref q.1) (nI b) (nI p) mn mx)) (hmx4 : G4 mx = some (gh_x 1048575)) (hq4 : G4 q.1 = some (gh_x (nI q.2))) (hI : rh_I L last) (hn : (rh_ks L).length = n + 1) (h64 : n + 1 ≤ 64) (hp : (L b)[p]? = some q) (hb22 : b < 22) (hmin : ∀ i, i < 22 → ∀ x ∈ L i, q.2 ≤ x.2) (hft0 : G t = none) (hG : gh_H P G4 H) (hS : va_S (gh_A P) s.heap H locs) (hdl : dl_ P (fun y => rh_F P (h, ba, la, da, L) y ∨ y = t) G h ba b la mcb L q.2 p (L b).length dac mcc Lc G4) (hnm : nm_ b Lc v nb np) (hl : lv_has ls 8 [(1, v), (2, .int nb), (3, .int np), (0, .ref h)])
    (kk : ∀ (G9 : gh_G) (H : Heap) (locs : List Loc) (ls : Array Slot), gh_H P G9 H → va_S (gh_A P) s.heap H locs → dm_ P G h ba la da L q n mn mx G9 → lv_has ls 8 [(0, .ref h)] → W pr l e R s m args below meth c H locs (1 + 64 + 1) (4 + 200 * 64 + 4) Q (F0 m 266 ls [])) : W pr l e R s m args below meth c H locs (1 + 64) (4 + 200 * 64) Q (F0 m 211 ls []) := by
  have hs4 := hdl.1
  refine lv_aload_n hx hb dX1_deleteMin_211 rfl (lv_at hl 3 rfl) ?_
  refine gh_get (C := RX2) (T := TX2) (N := 8) (v := .ref ba) hx hb hts in_X2 hown hE hG hh4 rfl 0 (by decide) q186 (fun _ h9 => h9) rfl dX1_deleteMin_212 ?_
  refine lv_aload_n hx hb dX1_deleteMin_215 rfl (lv_at hl 3 rfl) ?_
  refine gh_get (C := RX2) (T := TX2) (N := 8) (v := .int (nI b)) hx hb hts in_X2 hown hE hG hh4 rfl 4 (by decide) q196 (fun _ h9 => h9) rfl dX1_deleteMin_216 ?_
  obtain ⟨⟨f4, hba4, hff4⟩, hals4, -⟩ := id hs4
  have hal4 := hals4 b hb22
  refine gh_aald 2 rfl hx hb hE hG hba4 (vp_in_nI hb22 (by omega)) (x := la b) (by rw [nI_clamp (by omega)]; exact hff4 b hb22) dX1_deleteMin_219 ?_
  refine gh_callFv (va_runF (As := []) (rest := []) (gh_at (ci := 3) hE rfl) ⟨hx, hb, hml, hown, hts⟩ (c_lclear l P G4 (la b) (dac b) (mcc b) _ hal4) (va_cwF 0 hts (lw_app (lw_four q496 q499 q501 q20) (lw_meth q503)) rfl rfl rfl (hE.f 5 rfl) (by decide +kernel) ⟨by show 0 + 1 ≤ R.frames; omega, by show 8 + (4 + 11) + 0 ≤ R.locals; omega⟩) (gh_preV hE hG hS (gh_recv hE hG (al_head hal4).1 rfl)) rfl rfl hl.1 rfl (lv_room (Nat.le_of_ble_eq_true rfl)) dX1_deleteMin_220 ⟨by omega, by omega⟩) hS (fun G5 H locs hw hG hS => ?_)
  obtain ⟨hal5, hf5⟩ := hw
  have hFl := al_keep hal4 hf5
  have hh5 : G5 h = some (rh_o ba (lN (n + 1)) q.1 (.ref q.1) (nI b) (nI p) mn mx) := hFl _ _ hh4 (fun j fs z => by cases z; decide) (fun fs c z => by cases z)
  have hmx5 : G5 mx = some (gh_x 1048575) := hFl _ _ hmx4 (fun j fs z => by cases z; decide) (fun fs c z => by cases z)
  have hq5 : G5 q.1 = some (gh_x (nI q.2)) := hFl _ _ hq4 (fun j fs z => by cases z; decide) (fun fs c z => by cases z)
  obtain ⟨hs5, hI1, hcnt, hlen0, hfr50, hft5⟩ := dl_end hdl hI hb22 hp rfl hmin (Or.inl (Or.inr (Or.inr ⟨b, hb22, Or.inl rfl⟩))) hal5 hf5
  have hfr5 : gh_fr (rh_F P (h, ba, la, da, L)) G G5 := fun a x ha hnF => hfr50 a x ha (fun z => z.elim hnF (gh_nf ha hft0))
  have hlen1 : (rh_ks (va_up Lc b [])).length = n := by omega
  have hft : ∀ y, rh_F P (h, ba, la, dac, va_up Lc b []) y → rh_F P (h, ba, la, da, L) y ∨ G y = none := fun y z => by
    rcases hft5 y z with (w | w) | w
    · exact Or.inl w
    · exact Or.inr (by rw [w]; exact hft0)
    · exact Or.inr w
  have hne9 : ∀ j, j < b → va_up Lc b [] j = Lc j := fun j hj => va_up_ne _ _ (by omega)
  obtain ⟨L1, hL1e⟩ : ∃ x, x = va_up Lc b [] := ⟨_, rfl⟩
  obtain ⟨mc1, hmc1⟩ : ∃ x, x = va_up mcc b (mcc b + 1) := ⟨_, rfl⟩
  rw [← hL1e] at hs5 hI1 hcnt hlen1 hft hne9 hlen0
  rw [← hmc1] at hs5
  clear hdl hfr50 hft5 hs4 hal4 hals4 hal5 hf5 hFl
  rcases hnm with ⟨rfl, rfl, rfl, hemp⟩ | ⟨j, pp, q2, hj, hpp, rfl, rfl, rfl, hmn⟩
  · refine lv_aload_n hx hb dX1_deleteMin_225 rfl (lv_at hl 3 rfl) ?_
    refine lv_aload_nN hx hb dX1_deleteMin_226 rfl (lv_at hl 0 rfl) ?_
    refine gh_put (C := RX2) (T := TX2) (N := 8) (v := .null) hx hb hts in_X2 tyX2 tyX2_ok nmX2 hown hE hG hS hN hh5 rfl 3 (by decide) q195 (fun _ h9 => h9) rfl rfl rfl (Nat.le_of_ble_eq_true rfl) dX1_deleteMin_227 (fun H locs hG hS => ?_)
    have hG : gh_H P (gh_up G5 h (rh_o ba (lN (n + 1)) q.1 .null (nI b) (nI p) mn mx)) H := hG
    obtain ⟨G6, hG6⟩ : ∃ g, g = gh_up G5 h (rh_o ba (lN (n + 1)) q.1 .null (nI b) (nI p) mn mx) := ⟨_, rfl⟩
    rw [← hG6] at hG
    have hh6 : G6 h = some (rh_o ba (lN (n + 1)) q.1 .null (nI b) (nI p) mn mx) := by rw [hG6, gh_up_s]
    have hs6 : rh_S P G6 ba la dac mc1 L1 := by rw [hG6]; exact rh_S_up hs5 (fun x q => by rw [hh5] at q; cases q; exact ⟨1, _, rfl, by decide, by decide⟩)
    have hbx6 : ∀ (y : Nat) (v : Int32), G5 y = some (gh_x v) → G6 y = some (gh_x v) := fun y v hy => by rw [hG6, gh_up_n _ _ (gh_ne hy hh5 (by simp))]; exact hy
    have hfr6 : gh_fr (rh_F P (h, ba, la, da, L)) G G6 := gh_fr_put hfr5 hG6 (Or.inl rfl)
    refine lv_aload_n hx hb dX1_deleteMin_230 rfl (lv_at hl 3 rfl) ?_
    refine lv_iload_n hx hb dX1_deleteMin_231 rfl (lv_at hl 1 rfl) ?_
    refine gh_put (C := RX2) (T := TX2) (N := 8) (v := .int (-1)) hx hb hts in_X2 tyX2 tyX2_ok nmX2 hown hE hG hS hN hh6 rfl 4 (by decide) q196 (fun _ h9 => h9) rfl rfl rfl (Nat.le_of_ble_eq_true rfl) dX1_deleteMin_232 (fun H locs hG hS => ?_)
    have hG : gh_H P (gh_up G6 h (rh_o ba (lN (n + 1)) q.1 .null (-1) (nI p) mn mx)) H := hG
    obtain ⟨G7, hG7⟩ : ∃ g, g = gh_up G6 h (rh_o ba (lN (n + 1)) q.1 .null (-1) (nI p) mn mx) := ⟨_, rfl⟩
    rw [← hG7] at hG
    have hh7 : G7 h = some (rh_o ba (lN (n + 1)) q.1 .null (-1) (nI p) mn mx) := by rw [hG7, gh_up_s]
    have hs7 : rh_S P G7 ba la dac mc1 L1 := by rw [hG7]; exact rh_S_up hs6 (fun x q => by rw [hh6] at q; cases q; exact ⟨1, _, rfl, by decide, by decide⟩)
    have hbx7 : ∀ (y : Nat) (v : Int32), G6 y = some (gh_x v) → G7 y = some (gh_x v) := fun y v hy => by rw [hG7, gh_up_n _ _ (gh_ne hy hh6 (by simp))]; exact hy
    have hfr7 : gh_fr (rh_F P (h, ba, la, da, L)) G G7 := gh_fr_put hfr6 hG7 (Or.inl rfl)
    refine lv_aload_n hx hb dX1_deleteMin_235 rfl (lv_at hl 3 rfl) ?_
    refine lv_iload_n hx hb dX1_deleteMin_236 rfl (lv_at hl 2 rfl) ?_
    refine gh_put (C := RX2) (T := TX2) (N := 8) (v := .int (-1)) hx hb hts in_X2 tyX2 tyX2_ok nmX2 hown hE hG hS hN hh7 rfl 5 (by decide) q197 (fun _ h9 => h9) rfl rfl rfl (Nat.le_of_ble_eq_true rfl) dX1_deleteMin_237 (fun H locs hG hS => ?_)
    have hG : gh_H P (gh_up G7 h (rh_o ba (lN (n + 1)) q.1 .null (-1) (-1) mn mx)) H := hG
    obtain ⟨G8, hG8⟩ : ∃ g, g = gh_up G7 h (rh_o ba (lN (n + 1)) q.1 .null (-1) (-1) mn mx) := ⟨_, rfl⟩
    rw [← hG8] at hG
    have hh8 : G8 h = some (rh_o ba (lN (n + 1)) q.1 .null (-1) (-1) mn mx) := by rw [hG8, gh_up_s]
    have hs8 : rh_S P G8 ba la dac mc1 L1 := by rw [hG8]; exact rh_S_up hs7 (fun x q => by rw [hh7] at q; cases q; exact ⟨1, _, rfl, by decide, by decide⟩)
    have hbx8 : ∀ (y : Nat) (v : Int32), G7 y = some (gh_x v) → G8 y = some (gh_x v) := fun y v hy => by rw [hG8, gh_up_n _ _ (gh_ne hy hh7 (by simp))]; exact hy
    have hfr8 : gh_fr (rh_F P (h, ba, la, da, L)) G G8 := gh_fr_put hfr7 hG8 (Or.inl rfl)
    refine lv_aload_n hx hb dX1_deleteMin_240 rfl (lv_at hl 3 rfl) ?_
    refine lv_dup hx hb dX1_deleteMin_241 rfl ?_
    refine gh_get (C := RX2) (T := TX2) (N := 8) (v := .long (lN (n + 1))) hx hb hts in_X2 hown hE hG hh8 rfl 1 (by decide) q189 (fun _ h9 => h9) rfl dX1_deleteMin_242 ?_
    refine lv_lconst (v := 1) hx hb dX1_deleteMin_245 (by decide) ?_
    refine lv_lsub hx hb dX1_deleteMin_246 ?_
    refine lv_topl (fun z_0 ez_0 => ?_)
    obtain rfl : z_0 = lN n := ez_0.trans (lN_sub (show 1 ≤ n + 1 by omega))
    refine lv_dup2_x1_2 hx hb dX1_deleteMin_247 rfl rfl ?_
    refine gh_put (C := RX2) (T := TX2) (N := 8) (v := .long (lN n)) hx hb hts in_X2 tyX2 tyX2_ok nmX2 hown hE hG hS hN hh8 rfl 1 (by decide) q189 (fun _ h9 => h9) rfl rfl rfl (Nat.le_of_ble_eq_true rfl) dX1_deleteMin_248 (fun H locs hG hS => ?_)
    have hG : gh_H P (gh_up G8 h (rh_o ba (lN n) q.1 .null (-1) (-1) mn mx)) H := hG
    obtain ⟨G9, hG9⟩ : ∃ g, g = gh_up G8 h (rh_o ba (lN n) q.1 .null (-1) (-1) mn mx) := ⟨_, rfl⟩
    rw [← hG9] at hG
    have hh9 : G9 h = some (rh_o ba (lN n) q.1 .null (-1) (-1) mn mx) := by rw [hG9, gh_up_s]
    have hs9 : rh_S P G9 ba la dac mc1 L1 := by rw [hG9]; exact rh_S_up hs8 (fun x q => by rw [hh8] at q; cases q; exact ⟨1, _, rfl, by decide, by decide⟩)
    have hbx9 : ∀ (y : Nat) (v : Int32), G8 y = some (gh_x v) → G9 y = some (gh_x v) := fun y v hy => by rw [hG9, gh_up_n _ _ (gh_ne hy hh8 (by simp))]; exact hy
    have hfr9 : gh_fr (rh_F P (h, ba, la, da, L)) G G9 := gh_fr_put hfr8 hG9 (Or.inl rfl)
    refine lv_lconst (v := 0) hx hb dX1_deleteMin_251 (by decide) ?_
    refine W.lcmp hx hb dX1_deleteMin_252 ?_
    have hqb := (hbx9 _ _ (hbx8 _ _ (hbx7 _ _ (hbx6 _ _ hq5))))
    have hmxb := (hbx9 _ _ (hbx8 _ _ (hbx7 _ _ (hbx6 _ _ hmx5))))
    refine lv_if_le (tgt := 266) hx hb dX1_deleteMin_253 (by decide) (fun c_1 => ?_) (fun c_1 => ?_)
    · have hn0 : n = 0 := Nat.le_zero.mp ((lN_le (b := 0) (show n < 2 ^ 31 by omega) (by omega)).mp ((lg_cmp_le _ _).mp c_1))
      refine W.widen (k := (1 + 64 + 1)) (n := (4 + 200 * 64 + 4)) (by omega) (by omega) ?_
      exact kk G9 H locs ls hG hS ⟨dac, L1, _, _, _, hh9, ⟨q.1, mn, mx, _, _, _, mc1, by show G9 h = _; rw [hlen1]; exact hh9, hqb, hmxb, hs9, hI1, Or.inl ⟨by rw [hlen1]; exact hn0, rfl⟩, by show (rh_ks L1).length ≤ 64; omega, hN⟩, hqb, hcnt, by show (rh_ks L).length = (rh_ks L1).length + 1; omega, hfr9, hft⟩ (lv_sub hl [3] rfl)
    · have hn0 : n ≠ 0 := fun z => c_1 (by rw [z]; exact (lg_cmp_le _ _).mpr (by decide))
      have hex : ∃ i, 0 ≤ i ∧ i < 22 ∧ L1 i ≠ [] := by
        obtain ⟨x, hx9⟩ := List.exists_mem_of_length_pos (l := rh_ks L1) (by omega)
        obtain ⟨i, hi, q3, h3, -⟩ := ks_mem.mp hx9
        exact ⟨i, Nat.zero_le i, hi, fun z => by rw [z] at h3; cases h3⟩
      refine lv_aload_n hx hb dX1_deleteMin_256 rfl (lv_at hl 3 rfl) ?_
      refine lv_aload_n hx hb dX1_deleteMin_257 rfl (lv_at hl 3 rfl) ?_
      refine gh_get (C := RX2) (T := TX2) (N := 8) (v := .int (-1)) hx hb hts in_X2 hown hE hG hh9 rfl 4 (by decide) q196 (fun _ h9 => h9) rfl dX1_deleteMin_258 ?_
      refine lv_iconst (v := 1) hx hb dX1_deleteMin_261 (by decide) ?_
      refine lv_iadd hx hb dX1_deleteMin_262 ?_
      refine lv_topi (fun z_1 ez_1 => ?_)
      obtain rfl : z_1 = nI 0 := ez_1.trans (by decide)
      refine gh_callv (va_runV (C := "IntegerRadixHeap") (As := [.int (nI 0)]) (rest := []) ⟨hx, hb, hml, hown, hts⟩ (c_fcm_none l P G9 h ba q.1 mn mx (lN n) (-1) (-1) 0 la dac mc1 L1 hh9 hN hs9 (fun i hi => by have := ks_le hi L1; omega) (fun i hi x hx9 => (hI1.2 i hi x hx9).2.2) hex) ⟨callB_of 1 hts (lw_meth q434) rfl rfl rfl (hts _ q9) (hts _ q431) (by decide +kernel) ⟨by show 3 + 1 ≤ R.frames; omega, by show 8 + (5 + 11) + 64 ≤ R.locals; omega⟩, hts _ q433, (hE.w 5 rfl).use rfl⟩ (gh_preV hE hG hS (gh_recv hE hG hh9 rfl)) rfl rfl hl.1 rfl (lv_room (Nat.le_of_ble_eq_true rfl)) dX1_deleteMin_263 ⟨by omega, by omega⟩) hS (fun G10 H locs hw hG hS => ?_)
      obtain ⟨b', p', q', -, hb', hlo', hp', hmin', hh10, hf10⟩ := hw
      have hs10 := rh_S_fr hs9 hf10 (fun a x ha hx9 => by have ha : a = h := ha; rw [ha, hh9] at hx9; cases hx9; exact ⟨1, _, rfl, by decide, by decide⟩)
      have hfr10 : gh_fr (rh_F P (h, ba, la, da, L)) G G10 := gh_fr_tr hfr9 (gh_fr_w hf10 (fun a z => Or.inl z))
      replace hqb := hf10 _ _ hqb (gh_ne hqb hh9 (by simp))
      replace hmxb := hf10 _ _ hmxb (gh_ne hmxb hh9 (by simp))
      refine W.widen (k := (1 + 64 + 1)) (n := (4 + 200 * 64 + 4)) (by omega) (by omega) ?_
      exact kk G10 H locs ls hG hS ⟨dac, L1, _, _, _, hh10, ⟨q.1, mn, mx, _, _, _, mc1, by show G10 h = _; rw [hlen1]; exact hh10, hqb, hmxb, hs10, hI1, Or.inr ⟨b', p', q', hb', hp', rfl, rfl, rfl, rh_least hI1 hb' (fun i hi x hx9 => absurd hx9 (by show ¬ x ∈ L1 i; rw [hlo' i (Nat.zero_le i) hi]; exact List.not_mem_nil)) (hI1.2 b' hb' q' (List.mem_of_getElem? hp')).1 hmin'⟩, by show (rh_ks L1).length ≤ 64; omega, hN⟩, hqb, hcnt, by show (rh_ks L).length = (rh_ks L1).length + 1; omega, hfr10, hft⟩ (lv_sub hl [3] rfl)
  · refine lv_aload_n hx hb dX1_deleteMin_225 rfl (lv_at hl 3 rfl) ?_
    refine lv_aload_n hx hb dX1_deleteMin_226 rfl (lv_at hl 0 rfl) ?_
    refine gh_put (C := RX2) (T := TX2) (N := 8) (v := .ref q2.1) hx hb hts in_X2 tyX2 tyX2_ok nmX2 hown hE hG hS hN hh5 rfl 3 (by decide) q195 (fun _ h9 => h9) rfl rfl rfl (Nat.le_of_ble_eq_true rfl) dX1_deleteMin_227 (fun H locs hG hS => ?_)
    have hG : gh_H P (gh_up G5 h (rh_o ba (lN (n + 1)) q.1 (.ref q2.1) (nI b) (nI p) mn mx)) H := hG
    obtain ⟨G6, hG6⟩ : ∃ g, g = gh_up G5 h (rh_o ba (lN (n + 1)) q.1 (.ref q2.1) (nI b) (nI p) mn mx) := ⟨_, rfl⟩
    rw [← hG6] at hG
    have hh6 : G6 h = some (rh_o ba (lN (n + 1)) q.1 (.ref q2.1) (nI b) (nI p) mn mx) := by rw [hG6, gh_up_s]
    have hs6 : rh_S P G6 ba la dac mc1 L1 := by rw [hG6]; exact rh_S_up hs5 (fun x q => by rw [hh5] at q; cases q; exact ⟨1, _, rfl, by decide, by decide⟩)
    have hbx6 : ∀ (y : Nat) (v : Int32), G5 y = some (gh_x v) → G6 y = some (gh_x v) := fun y v hy => by rw [hG6, gh_up_n _ _ (gh_ne hy hh5 (by simp))]; exact hy
    have hfr6 : gh_fr (rh_F P (h, ba, la, da, L)) G G6 := gh_fr_put hfr5 hG6 (Or.inl rfl)
    refine lv_aload_n hx hb dX1_deleteMin_230 rfl (lv_at hl 3 rfl) ?_
    refine lv_iload_n hx hb dX1_deleteMin_231 rfl (lv_at hl 1 rfl) ?_
    refine gh_put (C := RX2) (T := TX2) (N := 8) (v := .int (nI j)) hx hb hts in_X2 tyX2 tyX2_ok nmX2 hown hE hG hS hN hh6 rfl 4 (by decide) q196 (fun _ h9 => h9) rfl rfl rfl (Nat.le_of_ble_eq_true rfl) dX1_deleteMin_232 (fun H locs hG hS => ?_)
    have hG : gh_H P (gh_up G6 h (rh_o ba (lN (n + 1)) q.1 (.ref q2.1) (nI j) (nI p) mn mx)) H := hG
    obtain ⟨G7, hG7⟩ : ∃ g, g = gh_up G6 h (rh_o ba (lN (n + 1)) q.1 (.ref q2.1) (nI j) (nI p) mn mx) := ⟨_, rfl⟩
    rw [← hG7] at hG
    have hh7 : G7 h = some (rh_o ba (lN (n + 1)) q.1 (.ref q2.1) (nI j) (nI p) mn mx) := by rw [hG7, gh_up_s]
    have hs7 : rh_S P G7 ba la dac mc1 L1 := by rw [hG7]; exact rh_S_up hs6 (fun x q => by rw [hh6] at q; cases q; exact ⟨1, _, rfl, by decide, by decide⟩)
    have hbx7 : ∀ (y : Nat) (v : Int32), G6 y = some (gh_x v) → G7 y = some (gh_x v) := fun y v hy => by rw [hG7, gh_up_n _ _ (gh_ne hy hh6 (by simp))]; exact hy
    have hfr7 : gh_fr (rh_F P (h, ba, la, da, L)) G G7 := gh_fr_put hfr6 hG7 (Or.inl rfl)
    refine lv_aload_n hx hb dX1_deleteMin_235 rfl (lv_at hl 3 rfl) ?_
    refine lv_iload_n hx hb dX1_deleteMin_236 rfl (lv_at hl 2 rfl) ?_
    refine gh_put (C := RX2) (T := TX2) (N := 8) (v := .int (nI pp)) hx hb hts in_X2 tyX2 tyX2_ok nmX2 hown hE hG hS hN hh7 rfl 5 (by decide) q197 (fun _ h9 => h9) rfl rfl rfl (Nat.le_of_ble_eq_true rfl) dX1_deleteMin_237 (fun H locs hG hS => ?_)
    have hG : gh_H P (gh_up G7 h (rh_o ba (lN (n + 1)) q.1 (.ref q2.1) (nI j) (nI pp) mn mx)) H := hG
    obtain ⟨G8, hG8⟩ : ∃ g, g = gh_up G7 h (rh_o ba (lN (n + 1)) q.1 (.ref q2.1) (nI j) (nI pp) mn mx) := ⟨_, rfl⟩
    rw [← hG8] at hG
    have hh8 : G8 h = some (rh_o ba (lN (n + 1)) q.1 (.ref q2.1) (nI j) (nI pp) mn mx) := by rw [hG8, gh_up_s]
    have hs8 : rh_S P G8 ba la dac mc1 L1 := by rw [hG8]; exact rh_S_up hs7 (fun x q => by rw [hh7] at q; cases q; exact ⟨1, _, rfl, by decide, by decide⟩)
    have hbx8 : ∀ (y : Nat) (v : Int32), G7 y = some (gh_x v) → G8 y = some (gh_x v) := fun y v hy => by rw [hG8, gh_up_n _ _ (gh_ne hy hh7 (by simp))]; exact hy
    have hfr8 : gh_fr (rh_F P (h, ba, la, da, L)) G G8 := gh_fr_put hfr7 hG8 (Or.inl rfl)
    refine lv_aload_n hx hb dX1_deleteMin_240 rfl (lv_at hl 3 rfl) ?_
    refine lv_dup hx hb dX1_deleteMin_241 rfl ?_
    refine gh_get (C := RX2) (T := TX2) (N := 8) (v := .long (lN (n + 1))) hx hb hts in_X2 hown hE hG hh8 rfl 1 (by decide) q189 (fun _ h9 => h9) rfl dX1_deleteMin_242 ?_
    refine lv_lconst (v := 1) hx hb dX1_deleteMin_245 (by decide) ?_
    refine lv_lsub hx hb dX1_deleteMin_246 ?_
    refine lv_topl (fun z_2 ez_2 => ?_)
    obtain rfl : z_2 = lN n := ez_2.trans (lN_sub (show 1 ≤ n + 1 by omega))
    refine lv_dup2_x1_2 hx hb dX1_deleteMin_247 rfl rfl ?_
    refine gh_put (C := RX2) (T := TX2) (N := 8) (v := .long (lN n)) hx hb hts in_X2 tyX2 tyX2_ok nmX2 hown hE hG hS hN hh8 rfl 1 (by decide) q189 (fun _ h9 => h9) rfl rfl rfl (Nat.le_of_ble_eq_true rfl) dX1_deleteMin_248 (fun H locs hG hS => ?_)
    have hG : gh_H P (gh_up G8 h (rh_o ba (lN n) q.1 (.ref q2.1) (nI j) (nI pp) mn mx)) H := hG
    obtain ⟨G9, hG9⟩ : ∃ g, g = gh_up G8 h (rh_o ba (lN n) q.1 (.ref q2.1) (nI j) (nI pp) mn mx) := ⟨_, rfl⟩
    rw [← hG9] at hG
    have hh9 : G9 h = some (rh_o ba (lN n) q.1 (.ref q2.1) (nI j) (nI pp) mn mx) := by rw [hG9, gh_up_s]
    have hs9 : rh_S P G9 ba la dac mc1 L1 := by rw [hG9]; exact rh_S_up hs8 (fun x q => by rw [hh8] at q; cases q; exact ⟨1, _, rfl, by decide, by decide⟩)
    have hbx9 : ∀ (y : Nat) (v : Int32), G8 y = some (gh_x v) → G9 y = some (gh_x v) := fun y v hy => by rw [hG9, gh_up_n _ _ (gh_ne hy hh8 (by simp))]; exact hy
    have hfr9 : gh_fr (rh_F P (h, ba, la, da, L)) G G9 := gh_fr_put hfr8 hG9 (Or.inl rfl)
    refine lv_lconst (v := 0) hx hb dX1_deleteMin_251 (by decide) ?_
    refine W.lcmp hx hb dX1_deleteMin_252 ?_
    have hqb := (hbx9 _ _ (hbx8 _ _ (hbx7 _ _ (hbx6 _ _ hq5))))
    have hmxb := (hbx9 _ _ (hbx8 _ _ (hbx7 _ _ (hbx6 _ _ hmx5))))
    refine lv_if_le (tgt := 266) hx hb dX1_deleteMin_253 (by decide) (fun c_1 => ?_) (fun c_1 => ?_)
    · have hn0 : n = 0 := Nat.le_zero.mp ((lN_le (b := 0) (show n < 2 ^ 31 by omega) (by omega)).mp ((lg_cmp_le _ _).mp c_1))
      have hj22 : j < 22 := by omega
      have hpp1 : (L1 j)[pp]? = some q2 := by rw [hne9 j hj]; exact hpp
      have hq2m := List.mem_of_getElem? hpp1
      exact absurd (List.length_pos_of_mem (ks_mem.mpr ⟨j, hj22, q2, hq2m, rfl⟩)) (by omega)
    · have hj22 : j < 22 := by omega
      have hpp1 : (L1 j)[pp]? = some q2 := by rw [hne9 j hj]; exact hpp
      have hq2m := List.mem_of_getElem? hpp1
      refine lv_aload_n hx hb dX1_deleteMin_256 rfl (lv_at hl 3 rfl) ?_
      refine lv_aload_n hx hb dX1_deleteMin_257 rfl (lv_at hl 3 rfl) ?_
      refine gh_get (C := RX2) (T := TX2) (N := 8) (v := .int (nI j)) hx hb hts in_X2 hown hE hG hh9 rfl 4 (by decide) q196 (fun _ h9 => h9) rfl dX1_deleteMin_258 ?_
      refine lv_iconst (v := 1) hx hb dX1_deleteMin_261 (by decide) ?_
      refine lv_iadd hx hb dX1_deleteMin_262 ?_
      refine lv_topi (fun z_3 ez_3 => ?_)
      obtain rfl : z_3 = nI (j + 1) := ez_3.trans (nI_1 j)
      refine gh_callv (va_runV (C := "IntegerRadixHeap") (As := [.int (nI (j + 1))]) (rest := []) ⟨hx, hb, hml, hown, hts⟩ (c_fcm_some l P G9 h ba q.1 mn mx (lN n) (nI j) (nI pp) q2.1 (nI (j + 1)) hh9) ⟨callB_of 1 hts (lw_meth q434) rfl rfl rfl (hts _ q9) (hts _ q431) (by decide +kernel) ⟨by show 3 + 1 ≤ R.frames; omega, by show 8 + (5 + 11) + 64 ≤ R.locals; omega⟩, hts _ q433, (hE.w 5 rfl).use rfl⟩ (gh_preV hE hG hS (gh_recv hE hG hh9 rfl)) rfl rfl hl.1 rfl (lv_room (Nat.le_of_ble_eq_true rfl)) dX1_deleteMin_263 ⟨by omega, by omega⟩) hS (fun G10 H locs hw hG hS => ?_)
      replace hG := hw ▸ hG
      refine W.widen (k := (1 + 64 + 1)) (n := (4 + 200 * 64 + 4)) (by omega) (by omega) ?_
      exact kk G9 H locs ls hG hS ⟨dac, L1, _, _, _, hh9, ⟨q.1, mn, mx, _, _, _, mc1, by show G9 h = _; rw [hlen1]; exact hh9, hqb, hmxb, hs9, hI1, Or.inr ⟨j, pp, q2, hj22, hpp1, rfl, rfl, rfl, rh_least hI1 hj22 (fun i hi x hx9 => hmn i (by omega) x (by rw [← hne9 i (by omega)]; exact hx9)) (hI1.2 j hj22 q2 hq2m).1 (fun x hx9 => hmn j hj x (by rw [← hne9 j hj]; exact hx9))⟩, by show (rh_ks L1).length ≤ 64; omega, hN⟩, hqb, hcnt, by show (rh_ks L).length = (rh_ks L1).length + 1; omega, hfr9, hft⟩ (lv_sub hl [3] rfl)
end
section
/-! deleteMin -/
set_option maxRecDepth 100000
set_option maxHeartbeats 4000000 in
/-- AbstractRadixHeap.deleteMin(), not empty -/
theorem c_deleteMin (l : Launch) (P : gh_P) (G : gh_G) (R : rh_R) (last : Nat) (hR : rh_ P G R last) (hpos : 0 < (rh_ks (rh_L R)).length) : Met l yX1_deleteMin (ws_ yX1_deleteMin cX1_deleteMin 8 (some (.object "java/lang/Object"))) ({ frames := 7, cells := 70, slots := 13000, locals := 191 }) (gh_Pc P G [.ref R.1]) (gh_Qr P (fun r G1 => ∃ (R' : rh_R) (k : Nat), R'.1 = R.1 ∧ rh_ P G1 R' k ∧ G1 r = some (gh_x (nI k)) ∧ (∀ x, (rh_ks (rh_L R)).count x = (rh_ks (rh_L R')).count x + [k].count x) ∧ (rh_ks (rh_L R)).length = (rh_ks (rh_L R')).length + 1 ∧ (∀ x ∈ rh_ks (rh_L R), k ≤ x) ∧ gh_fr (rh_F P R) G G1 ∧ ∀ y, rh_F P R' y → rh_F P R y ∨ G y = none)) 70 13000 (gh_A P) := by
  refine gh_met (plainFor_of_name (by decide)) (Nat.le_of_ble_eq_true rfl) ?_
  intro p e s m below meth c hx hb hr hlocks hml hown hin hts hE hG ls hl
  have hS : va_S (gh_A P) s.heap s.heap [] := va_S.rf
  have hl : lv_has ls 8 [(0, .ref R.1)] := hl
  obtain ⟨h, ba, la, da, L⟩ := R
  obtain ⟨ld, mn, mx, cm, cb, cp, mc, hh, hld, hmx, hs, hI, hC, h64, hN⟩ := hR
  dsimp only [rh_ba, rh_la, rh_da, rh_L] at hh hs hI hC h64 hN hl hpos
  obtain ⟨n, hn⟩ : ∃ n, (rh_ks L).length = n + 1 := ⟨(rh_ks L).length - 1, by omega⟩
  rw [hn] at hh h64
  rcases hC with ⟨z, -⟩ | ⟨b, p, q, hb22, hp, rfl, rfl, rfl, hmin⟩
  · exact absurd z (by omega)
  have hqm := List.mem_of_getElem? hp
  have hqI := hI.2 b hb22 q hqm
  have hq := hs.2.2.1 b hb22 q hqm
  have hlow : ∀ j, j < b → L j = [] := fun j hj => List.eq_nil_iff_forall_not_mem.mpr (fun x hxm => absurd (hmin j (by omega) x hxm) (Nat.not_le_of_lt (bk_lt (hI.2 j (by omega) x hxm).1 hqI.1 hqI.2.1 hj)))
  have hLb : (L b).length ≤ n + 1 := hn ▸ ks_le hb22 L
  have hmk : ∀ x ∈ rh_ks L, q.2 ≤ x := fun x hx => by
    obtain ⟨i, hi, q3, h3, rfl⟩ := ks_mem.mp hx
    exact hmin i hi q3 h3
  refine lv_aload_n hx hb dX1_deleteMin_0 rfl (lv_at hl 0 rfl) ?_
  refine gh_get (C := RX2) (T := TX2) (N := 8) (v := .long (lN (n + 1))) hx hb hts in_X2 hown hE hG hh rfl 1 (by decide) q189 (fun _ h9 => h9) rfl dX1_deleteMin_1 ?_
  refine lv_lconst (v := 0) hx hb dX1_deleteMin_4 (by decide) ?_
  refine W.lcmp hx hb dX1_deleteMin_5 ?_
  refine lv_if_ne (tgt := 17) hx hb dX1_deleteMin_6 (by decide) (fun _ => ?_) (fun c_9 => absurd c_9 (fun z => absurd ((lN_eq (b := 0) (show n + 1 < 2 ^ 31 by omega) (by omega)).mp ((lg_cmp_eq _ _).mp z)) (by omega)))
  refine lv_aload_n hx hb dX1_deleteMin_17 rfl (lv_at hl 0 rfl) ?_
  refine lv_aload_n hx hb dX1_deleteMin_18 rfl (lv_at hl 0 rfl) ?_
  refine gh_get (C := RX2) (T := TX2) (N := 8) (v := .ref q.1) hx hb hts in_X2 hown hE hG hh rfl 3 (by decide) q195 (fun _ h9 => h9) rfl dX1_deleteMin_19 ?_
  refine gh_put (C := RX2) (T := TX2) (N := 8) (v := .ref q.1) hx hb hts in_X2 tyX2 tyX2_ok nmX2 hown hE hG hS hN hh rfl 2 (by decide) q192 (fun _ h9 => h9) rfl rfl rfl (Nat.le_of_ble_eq_true rfl) dX1_deleteMin_22 (fun H locs hG hS => ?_)
  have hG : gh_H P (gh_up G h (rh_o ba (lN (n + 1)) q.1 (.ref q.1) (nI b) (nI p) mn mx)) H := hG
  obtain ⟨G1, hG1⟩ : ∃ g, g = gh_up G h (rh_o ba (lN (n + 1)) q.1 (.ref q.1) (nI b) (nI p) mn mx) := ⟨_, rfl⟩
  rw [← hG1] at hG
  have hh1 : G1 h = some (rh_o ba (lN (n + 1)) q.1 (.ref q.1) (nI b) (nI p) mn mx) := by rw [hG1, gh_up_s]
  have hs1 : rh_S P G1 ba la da mc L := by rw [hG1]; exact rh_S_up hs (fun x q => by rw [hh] at q; cases q; exact ⟨1, _, rfl, by decide, by decide⟩)
  have hbx1 : ∀ (y : Nat) (v : Int32), G y = some (gh_x v) → G1 y = some (gh_x v) := fun y v hy => by rw [hG1, gh_up_n _ _ (gh_ne hy hh (by simp))]; exact hy
  have hfr0 : gh_fr (rh_F P (h, ba, la, da, L)) G G1 := gh_fr_put (fun _ _ z _ => z) hG1 (Or.inl rfl)
  refine lv_aload_n hx hb dX1_deleteMin_25 rfl (lv_at hl 0 rfl) ?_
  refine gh_get (C := RX2) (T := TX2) (N := 8) (v := .int (nI b)) hx hb hts in_X2 hown hE hG hh1 rfl 4 (by decide) q196 (fun _ h9 => h9) rfl dX1_deleteMin_26 ?_
  rcases Nat.eq_zero_or_pos b with hb0 | hb0
  · rw [hb0] at hp hh1 ⊢
    refine lv_if_ne (tgt := 90) hx hb dX1_deleteMin_29 (by decide) (fun c_9 => absurd rfl c_9) (fun _ => ?_)
    refine dm_zero hx hb hml hts hown hE ⟨Nat.le_of_ble_eq_true rfl, Nat.le_of_ble_eq_true rfl, Nat.le_of_ble_eq_true rfl, Nat.le_of_ble_eq_true rfl⟩ hN hh1 (hbx1 _ _ hmx) (hbx1 _ _ hq) hs1 hI hn h64 hp hfr0 hG hS hl (fun G9 H locs ls hG hS hdm hl => ?_)
    obtain ⟨da', L1, cm, cb, cp, hh9, hR9, hq9, hcnt, hlen, hfr9, hft9⟩ := hdm
    refine lv_aload_n hx hb dX1_deleteMin_266 rfl (lv_at hl 0 rfl) ?_
    refine gh_get (C := RX2) (T := TX2) (N := 8) (v := .ref q.1) hx hb hts in_X2 hown hE hG hh9 rfl 2 (by decide) q192 (fun _ h9 => h9) rfl dX1_deleteMin_267 ?_
    exact gh_aret hx hb hr hlocks (Or.inl ⟨_, rfl⟩) hG hS (⟨(h, ba, la, da', L1), q.2, rfl, hR9, hq9, hcnt, hlen, hmk, hfr9, hft9⟩) (Nat.le_of_ble_eq_true rfl) (Nat.le_of_ble_eq_true rfl) dX1_deleteMin_270
  · refine lv_if_ne (tgt := 90) hx hb dX1_deleteMin_29 (by decide) (fun _ => ?_) (fun c_9 => absurd c_9 (fun z => absurd ((nI_eq (a := b) (b := 0) (by omega) (by omega)).mp z) (by omega)))
    refine lv_null hx hb dX1_deleteMin_90 ?_
    refine lv_astore_nN (lv' := [(1, .null), (0, .ref h)]) hx hb dX1_deleteMin_91 rfl hl (by decide) rfl (fun ls hl => ?_)
    refine lv_iconst (v := (-1)) hx hb dX1_deleteMin_92 (by decide) ?_
    refine lv_istore_n (lv' := [(2, .int (-1)), (1, .null), (0, .ref h)]) hx hb dX1_deleteMin_93 rfl hl (by decide) rfl (fun ls hl => ?_)
    refine lv_iconst (v := (-1)) hx hb dX1_deleteMin_94 (by decide) ?_
    refine lv_istore_n (lv' := [(3, .int (-1)), (2, .int (-1)), (1, .null), (0, .ref h)]) hx hb dX1_deleteMin_95 rfl hl (by decide) rfl (fun ls hl => ?_)
    refine lv_iconst (v := 0) hx hb dX1_deleteMin_96 (by decide) ?_
    refine lv_istore (lv' := [(4, .int 0), (3, .int (-1)), (2, .int (-1)), (1, .null), (0, .ref h)]) hx hb dX1_deleteMin_97 hl (by decide) rfl (fun ls hl => ?_)
    refine lv_aload_n hx hb dX1_deleteMin_99 rfl (lv_at hl 4 rfl) ?_
    refine gh_get (C := RX2) (T := TX2) (N := 8) (v := .ref ba) hx hb hts in_X2 hown hE hG hh1 rfl 0 (by decide) q186 (fun _ h9 => h9) rfl dX1_deleteMin_100 ?_
    refine lv_aload_n hx hb dX1_deleteMin_103 rfl (lv_at hl 4 rfl) ?_
    refine gh_get (C := RX2) (T := TX2) (N := 8) (v := .int (nI b)) hx hb hts in_X2 hown hE hG hh1 rfl 4 (by decide) q196 (fun _ h9 => h9) rfl dX1_deleteMin_104 ?_
    obtain ⟨⟨f1, hba1, hff1⟩, hals1, -⟩ := id hs1
    have hal1 := hals1 b hb22
    refine gh_aald 2 rfl hx hb hE hG hba1 (vp_in_nI hb22 (by omega)) (x := la b) (by rw [nI_clamp (by omega)]; exact hff1 b hb22) dX1_deleteMin_107 ?_
    refine gh_callFr (va_runF (As := []) (rest := []) (gh_at (ci := 3) hE rfl) ⟨hx, hb, hml, hown, hts⟩ (c_iterator l P G1 (la b) _ _ _ hal1) (va_cwF 0 hts (lw_app (lw_four q445 q448 q450 q20) (lw_meth q452)) rfl rfl rfl (hE.f 4 rfl) (by decide +kernel) ⟨Nat.le_of_ble_eq_true rfl, Nat.le_of_ble_eq_true rfl⟩) (gh_preV hE hG hS (gh_recv hE hG (al_head hal1).1 rfl)) rfl rfl hl.1 rfl (lv_room (Nat.le_of_ble_eq_true rfl)) dX1_deleteMin_108 ⟨Nat.le_of_ble_eq_true rfl, Nat.le_of_ble_eq_true rfl⟩) hS (fun t G2 H locs hw hG hS => ?_)
    obtain ⟨hNt, hft1, hG2⟩ := hw
    have hht : h ≠ t := gh_nf hh1 hft1
    have hft0 : G t = none := by
      cases hx9 : G t with
      | none => rfl
      | some x =>
        rw [hG1, gh_up_n _ _ (Ne.symm hht), hx9] at hft1
        cases hft1
    have hh2 : G2 h = some (rh_o ba (lN (n + 1)) q.1 (.ref q.1) (nI b) (nI p) mn mx) := by rw [hG2, gh_up_n _ _ hht]; exact hh1
    have hq2 : G2 q.1 = some (gh_x (nI q.2)) := by rw [hG2, gh_up_n _ _ (gh_nf (hbx1 _ _ hq) hft1)]; exact hbx1 _ _ hq
    have ht2 : G2 t = some (gh_o 4 [.int (nI 0), .int (-1), .int (mc b), .ref (la b)]) := by rw [hG2, gh_up_s]; rfl
    have hs2 : rh_S P G2 ba la da mc L := by rw [hG2]; exact rh_S_up hs1 (fun z q => by rw [hft1] at q; cases q)
    have hfr2 : gh_fr (fun y => rh_F P (h, ba, la, da, L) y ∨ y = t) G G2 := gh_fr_put (gh_fr_w hfr0 (fun a z => Or.inl z)) hG2 (Or.inr rfl)
    have hd0 := dl_0 (h := h) (m := q.2) (p := p) hs2 hlow hfr2 (fun y z => Or.inl (Or.inl z))
    clear hfr2 hs2 hff1 hba1 hals1
    refine lv_astore (lv' := [(5, .ref t), (4, .int 0), (3, .int (-1)), (2, .int (-1)), (1, .null), (0, .ref h)]) hx hb dX1_deleteMin_113 hl (by decide) rfl (fun ls hl => ?_)
    have hl : lv_has ls 8 [(5, .ref t), (4, .int (nI 0)), (3, .int (-1)), (2, .int (-1)), (1, .null), (0, .ref h)] := hl
    refine c_del_loop (b := b) (ld := 0) (F := fun y => rh_F P (h, ba, la, da, L) y ∨ y = t) (G0 := G) (last := last) hx hb hml hts hown hE ⟨Nat.le_of_ble_eq_true rfl, Nat.le_of_ble_eq_true rfl, Nat.le_of_ble_eq_true rfl, Nat.le_of_ble_eq_true rfl⟩ hN hNt hI hb22 hb0 (by omega) hp rfl hmin (Or.inr rfl) (fun j hj => Or.inl (Or.inr (Or.inr ⟨j, hj, Or.inl rfl⟩))) (fun G4 dac mcc Lc v nb np H locs ls hG hS hh4 hq4 hdl hnm hl => ?_) ((L b).length + 1) 0 G2 _ _ _ _ _ _ _ H locs ls (Nat.zero_le _) (by omega) hG hS hh2 hq2 ht2 hd0 (Or.inl ⟨rfl, rfl, rfl, hlow⟩) (lv_sub hl [1, 4, 3, 2, 0, 5] rfl)
    refine dm_high hx hb hml hts hown hE ⟨Nat.le_of_ble_eq_true rfl, Nat.le_of_ble_eq_true rfl, Nat.le_of_ble_eq_true rfl, Nat.le_of_ble_eq_true rfl⟩ hN hh4 (hdl.2.2.2.2.2.2.1 _ _ hmx (fun z => z.elim (rh_box hs hh hmx) (gh_nf hmx hft0))) hq4 hI hn h64 hp hb22 hmin hft0 hG hS hdl hnm hl (fun G9 H locs ls hG hS hdm hl => ?_)
    obtain ⟨da', L1, cm, cb, cp, hh9, hR9, hq9, hcnt, hlen, hfr9, hft9⟩ := hdm
    refine lv_aload_n hx hb dX1_deleteMin_266 rfl (lv_at hl 0 rfl) ?_
    refine gh_get (C := RX2) (T := TX2) (N := 8) (v := .ref q.1) hx hb hts in_X2 hown hE hG hh9 rfl 2 (by decide) q192 (fun _ h9 => h9) rfl dX1_deleteMin_267 ?_
    exact gh_aret hx hb hr hlocks (Or.inl ⟨_, rfl⟩) hG hS (⟨(h, ba, la, da', L1), q.2, rfl, hR9, hq9, hcnt, hlen, hmk, hfr9, hft9⟩) (Nat.le_of_ble_eq_true rfl) (Nat.le_of_ble_eq_true rfl) dX1_deleteMin_270
end
section
/-! The desk's cells, in plain Lean -/
set_option maxRecDepth 100000
theorem rh_cls {P : gh_P} {G : gh_G} {R : rh_R} {last a : Nat} (h : rh_ P G R last) (ha : rh_F P R a) : gh_N P ≤ a ∧ ∃ e, G a = some e ∧ ((∃ fs, e = gh_o 1 fs) ∨ (∃ fs, e = gh_o 3 fs) ∨ ∃ c n f, e = gh_q c n f) := by
  obtain ⟨ld, mn, mx, cm, cb, cp, mc, h1, -, -, hs, -, -, -, hN⟩ := h
  obtain ⟨⟨f, s1, s2⟩, s3, -, -, -, -, s8⟩ := hs
  rcases ha with z | z | ⟨i, hi, z | ⟨z, z2⟩⟩
  · rw [z]
    exact ⟨hN, _, h1, Or.inl ⟨_, rfl⟩⟩
  · rw [z]
    exact ⟨s8, _, s1, Or.inr (Or.inr ⟨_, _, _, rfl⟩)⟩
  · have w := al_head (s3 i hi)
    rw [z]
    exact ⟨w.2, _, w.1, Or.inr (Or.inl ⟨_, rfl⟩)⟩
  · obtain ⟨cap, f, -, w, -⟩ := s3 i hi
    refine ⟨z2, ?_⟩
    rw [z]
    exact ⟨_, w, Or.inr (Or.inr ⟨_, _, _, rfl⟩)⟩
/-- a heap stays under a change of cells that aren't its own -/
theorem rh_keep {P : gh_P} {G G1 : gh_G} {R : rh_R} {last : Nat} {F : Nat → Prop} (h : rh_ P G R last) (hf : gh_fr F G G1) (hd : ∀ a, rh_F P R a → ¬ F a) (hb : ∀ a v, G a = some (gh_x v) → ¬ F a) (hN : ∀ a, F a → gh_N P ≤ a) : rh_ P G1 R last := by
  obtain ⟨ld, mn, mx, cm, cb, cp, mc, h1, h2, h3, hs, h5, h6, h7, h8⟩ := h
  refine ⟨ld, mn, mx, cm, cb, cp, mc, hf _ _ h1 (hd _ (Or.inl rfl)), hf _ _ h2 (hb _ _ h2), hf _ _ h3 (hb _ _ h3), ?_, h5, h6, h7, h8⟩
  obtain ⟨⟨f, s1, s2⟩, s3, s4, s5, s6, s7, s8⟩ := hs
  refine ⟨⟨f, hf _ _ s1 (hd _ (Or.inr (Or.inl rfl))), s2⟩, fun i hi => al_kept (s3 i hi) hf (hd _ (Or.inr (Or.inr ⟨i, hi, Or.inl rfl⟩))) (fun z => hd _ (Or.inr (Or.inr ⟨i, hi, Or.inr ⟨rfl, hN _ z⟩⟩)) z), fun i hi q hq => hf _ _ (s4 i hi q hq) (hb _ _ (s4 i hi q hq)), s5, s6, s7, s8⟩
theorem rh_keep1 {P : gh_P} {G : gh_G} {R : rh_R} {last b : Nat} {e : va_E} (h : rh_ P G R last) (hd : ¬ rh_F P R b) (hb : ∀ v, G b ≠ some (gh_x v)) (hN : gh_N P ≤ b) : rh_ P (gh_up G b e) R last :=
  rh_keep (F := fun a => a = b) h (gh_fr_up rfl) (fun a ha z => by have z : a = b := z; rw [z] at ha; exact hd ha) (fun a v ha z => by have z : a = b := z; rw [z] at ha; exact hb v ha) (fun a z => by have z : a = b := z; rw [z]; exact hN)
theorem rh_keepL {P : gh_P} {G G1 : gh_G} {R : rh_R} {last : Nat} (h : rh_ P G R last) (hf : gh_le G G1) : rh_ P G1 R last :=
  rh_keep (F := fun _ => False) h (fun a e ha _ => hf a e ha) (fun _ _ z => z) (fun _ _ _ z => z) (fun _ z => z.elim)
theorem rh_notin {P : gh_P} {G : gh_G} {R : rh_R} {last b : Nat} {e : va_E} (h : rh_ P G R last) (hb : G b = some e) (h1 : ∀ fs, e ≠ gh_o 1 fs) (h3 : ∀ fs, e ≠ gh_o 3 fs) (hq : ∀ c n f, e ≠ gh_q c n f) : ¬ rh_F P R b := fun z => by
  obtain ⟨-, e', w, w2⟩ := rh_cls h z
  rw [hb] at w
  cases w
  rcases w2 with ⟨fs, w⟩ | ⟨fs, w⟩ | ⟨c, n, f, w⟩
  · exact h1 _ w
  · exact h3 _ w
  · exact hq _ _ _ w
theorem ks_nil {L : Nat → List (Nat × Nat)} (h : ∀ i, L i = []) : (rh_ks L).length = 0 := by
  cases q : rh_ks L with
  | nil => rfl
  | cons a l =>
    obtain ⟨i, -, y, hy, -⟩ := ks_mem.mp (by rw [q]; exact List.mem_cons_self : a ∈ rh_ks L)
    rw [h i] at hy
    cases hy
/-- the desk: object x, array of heaps fa, array of floors ff; heap r last gave lst r, the floors say fl r -/
def DK (P : gh_P) (G : gh_G) (x fa ff : Nat) (hs : Nat → rh_R) (lst fl : Nat → Nat) (puts : Nat) : Prop :=
  G x = some (gh_o 0 [.ref fa, .ref ff, .int (nI puts)]) ∧
  (∃ f, G fa = some (gh_q (gh_cH P) 4 f) ∧ ∀ r, r < 4 → f r = some (hs r).1) ∧
  (∃ g, G ff = some (gh_i (gh_cI P) 4 g) ∧ ∀ r, r < 4 → g r = nI (fl r)) ∧
  (∀ r, r < 4 → rh_ P G (hs r) (lst r)) ∧
  (∀ r r', r < 4 → r' < 4 → r ≠ r' → ∀ a, rh_F P (hs r) a → ¬ rh_F P (hs r') a) ∧
  (∀ r, r < 4 → ¬ rh_F P (hs r) fa) ∧ gh_N P ≤ x ∧ gh_N P ≤ fa ∧ gh_N P ≤ ff ∧
  (∀ r, r < 4 → (rh_ks (rh_L (hs r))).length ≤ puts) ∧ puts ≤ 64
/-- the desk's cells -/
def dk_F (P : gh_P) (x fa ff : Nat) (hs : Nat → rh_R) : Nat → Prop := fun a => a = x ∨ a = fa ∨ a = ff ∨ ∃ r, r < 4 ∧ rh_F P (hs r) a
theorem DK.nx {P : gh_P} {G : gh_G} {x fa ff puts : Nat} {hs : Nat → rh_R} {lst fl : Nat → Nat} (d : DK P G x fa ff hs lst fl puts) {r : Nat} (hr : r < 4) : ¬ rh_F P (hs r) x := rh_notin (d.2.2.2.1 r hr) d.1 (fun fs z => by cases z) (fun fs z => by cases z) (fun c n f z => by cases z)
theorem DK.nff {P : gh_P} {G : gh_G} {x fa ff puts : Nat} {hs : Nat → rh_R} {lst fl : Nat → Nat} (d : DK P G x fa ff hs lst fl puts) {r : Nat} (hr : r < 4) : ¬ rh_F P (hs r) ff := by
  obtain ⟨-, -, ⟨g, h, -⟩, d4, -⟩ := d
  exact rh_notin (d4 r hr) h (fun fs z => by cases z) (fun fs z => by cases z) (fun c n f z => by cases z)
/-- the desk stays under a change of cells that aren't its own -/
theorem DK.keep {P : gh_P} {G G1 : gh_G} {x fa ff puts : Nat} {hs : Nat → rh_R} {lst fl : Nat → Nat} {F : Nat → Prop} (d : DK P G x fa ff hs lst fl puts) (hf : gh_fr F G G1) (hd : ∀ a, dk_F P x fa ff hs a → ¬ F a) (hb : ∀ a v, G a = some (gh_x v) → ¬ F a) (hN : ∀ a, F a → gh_N P ≤ a) : DK P G1 x fa ff hs lst fl puts := by
  obtain ⟨d1, ⟨f, d2, d2'⟩, ⟨g, d3, d3'⟩, d4, d5, d6, d7⟩ := d
  exact ⟨hf _ _ d1 (hd _ (Or.inl rfl)), ⟨f, hf _ _ d2 (hd _ (Or.inr (Or.inl rfl))), d2'⟩, ⟨g, hf _ _ d3 (hd _ (Or.inr (Or.inr (Or.inl rfl)))), d3'⟩, fun r hr => rh_keep (d4 r hr) hf (fun a ha => hd a (Or.inr (Or.inr (Or.inr ⟨r, hr, ha⟩)))) hb hN, d5, d6, d7⟩
/-- the counter grows -/
theorem DK.up {P : gh_P} {G : gh_G} {x fa ff puts : Nat} {hs : Nat → rh_R} {lst fl : Nat → Nat} (d : DK P G x fa ff hs lst fl puts) (h : puts < 64) : DK P (gh_up G x (gh_o 0 [.ref fa, .ref ff, .int (nI (puts + 1))])) x fa ff hs lst fl (puts + 1) := by
  have hnx := fun r hr => d.nx (r := r) hr
  obtain ⟨d1, ⟨f, d2, d2'⟩, ⟨g, d3, d3'⟩, d4, d5, d6, d7, d8, d9, d10, d11⟩ := d
  exact ⟨gh_up_s _ _ _, ⟨f, by rw [gh_up_n _ _ (gh_ne d2 d1 (by simp))]; exact d2, d2'⟩, ⟨g, by rw [gh_up_n _ _ (gh_ne d3 d1 (by simp))]; exact d3, d3'⟩, fun r hr => rh_keep1 (d4 r hr) (hnx r hr) (fun v z => by rw [d1] at z; cases z) d7, d5, d6, d7, d8, d9, fun r hr => Nat.le_succ_of_le (d10 r hr), by omega⟩
/-- a floor is written -/
theorem DK.fl {P : gh_P} {G : gh_G} {x fa ff puts r0 k : Nat} {hs : Nat → rh_R} {lst fl : Nat → Nat} {g : Nat → Int32} (d : DK P G x fa ff hs lst fl puts) (hg : G ff = some (gh_i (gh_cI P) 4 g)) : DK P (gh_up G ff (gh_i (gh_cI P) 4 (upd g r0 (nI k)))) x fa ff hs lst (va_up fl r0 k) puts := by
  have hnx := fun r hr => d.nff (r := r) hr
  obtain ⟨d1, ⟨f, d2, d2'⟩, ⟨g', d3, d3'⟩, d4, d5, d6, d7, d8, d9, d10⟩ := d
  rw [hg] at d3
  cases d3
  refine ⟨by rw [gh_up_n _ _ (gh_ne d1 hg (by simp))]; exact d1, ⟨f, by rw [gh_up_n _ _ (gh_ne d2 hg (by simp))]; exact d2, d2'⟩, ⟨_, gh_up_s _ _ _, fun r hr => ?_⟩, fun r hr => rh_keep1 (d4 r hr) (hnx r hr) (fun v z => by rw [hg] at z; cases z) d9, d5, d6, d7, d8, d9, d10⟩
  by_cases z : r = r0
  · rw [z, pk_us, va_up_self]
  · rw [pk_un z, va_up_ne _ _ z]
    exact d3' r hr
/-- one heap's change -/
theorem DK.set {P : gh_P} {G G1 : gh_G} {x fa ff puts r k : Nat} {hs : Nat → rh_R} {lst fl : Nat → Nat} {R' : rh_R} (d : DK P G x fa ff hs lst fl puts) (hr : r < 4) (hf : gh_fr (rh_F P (hs r)) G G1) (hR : rh_ P G1 R' k) (h1 : R'.1 = (hs r).1) (hft : ∀ y, rh_F P R' y → rh_F P (hs r) y ∨ G y = none) (hlen : (rh_ks (rh_L R')).length ≤ puts) : DK P G1 x fa ff (va_up hs r R') (va_up lst r k) fl puts := by
  have hnx := d.nx hr
  have hnf := d.nff hr
  obtain ⟨d1, ⟨f, d2, d2'⟩, ⟨g, d3, d3'⟩, d4, d5, d6, d7, d8, d9, d10, d11⟩ := d
  have hno : ∀ r', r' < 4 → r' ≠ r → ∀ a, rh_F P (hs r') a → ¬ rh_F P R' a := fun r' hr' hn a ha z => by
    rcases hft a z with w | w
    · exact d5 r' r hr' hr hn a ha w
    · obtain ⟨-, e, q, -⟩ := rh_cls (d4 r' hr') ha
      rw [w] at q
      cases q
  refine ⟨hf _ _ d1 hnx, ⟨f, hf _ _ d2 (d6 r hr), fun j hj => ?_⟩, ⟨g, hf _ _ d3 hnf, d3'⟩, fun j hj => ?_, fun i j hi hj hij a ha => ?_, fun j hj => ?_, d7, d8, d9, fun j hj => ?_, d11⟩
  · by_cases z : j = r
    · rw [z, va_up_self, h1]
      exact d2' r hr
    · rw [va_up_ne _ _ z]
      exact d2' j hj
  · by_cases z : j = r
    · rw [z, va_up_self, va_up_self]
      exact hR
    · rw [va_up_ne _ _ z, va_up_ne _ _ z]
      exact rh_keep (d4 j hj) hf (fun a ha => d5 j r hj hr z a ha) (fun a v ha w => by
        obtain ⟨-, e, q, q2⟩ := rh_cls (d4 r hr) w
        rw [ha] at q
        cases q
        rcases q2 with ⟨_, q⟩ | ⟨_, q⟩ | ⟨_, _, _, q⟩ <;> cases q) (fun a w => (rh_cls (d4 r hr) w).1)
  · by_cases zi : i = r
    · have zj : j ≠ r := fun w => hij (zi.trans w.symm)
      rw [zi, va_up_self] at ha
      rw [va_up_ne _ _ zj]
      exact fun w => hno j hj zj a w ha
    · rw [va_up_ne _ _ zi] at ha
      by_cases zj : j = r
      · rw [zj, va_up_self]
        exact hno i hi zi a ha
      · rw [va_up_ne _ _ zj]
        exact d5 i j hi hj hij a ha
  · by_cases z : j = r
    · rw [z, va_up_self]
      intro w
      rcases hft fa w with q | q
      · exact d6 r hr q
      · rw [d2] at q
        cases q
    · rw [va_up_ne _ _ z]
      exact d6 j hj
  · by_cases z : j = r
    · rw [z, va_up_self]
      exact hlen
    · rw [va_up_ne _ _ z]
      exact d10 j hj
/-- a new heap takes another's place -/
theorem DK.new {P : gh_P} {G G1 : gh_G} {x fa ff puts r : Nat} {hs : Nat → rh_R} {lst fl : Nat → Nat} {R' : rh_R} {f : Nat → Option Nat} (d : DK P G x fa ff hs lst fl puts) (hr : r < 4) (hle : gh_le G G1) (hR : rh_ P G1 R' 0) (hL : ∀ i, rh_L R' i = []) (hft : ∀ y, rh_F P R' y → G y = none) (hfa : G fa = some (gh_q (gh_cH P) 4 f)) : DK P (gh_up G1 fa (gh_q (gh_cH P) 4 (va_up f r (some R'.1)))) x fa ff (va_up hs r R') (va_up lst r 0) fl puts := by
  obtain ⟨d1, ⟨f', d2, d2'⟩, ⟨g, d3, d3'⟩, d4, d5, d6, d7, d8, d9, d10, d11⟩ := d
  rw [hfa] at d2
  cases d2
  have hfa1 := hle _ _ hfa
  have hno : ∀ r', r' < 4 → ∀ a, rh_F P (hs r') a → ¬ rh_F P R' a := fun r' hr' a ha z => by
    have w := hft a z
    obtain ⟨-, e, q, -⟩ := rh_cls (d4 r' hr') ha
    rw [w] at q
    cases q
  have hRfa : ¬ rh_F P R' fa := fun z => by
    have w := hft fa z
    rw [hfa] at w
    cases w
  refine ⟨by rw [gh_up_n _ _ (gh_ne d1 hfa (by simp))]; exact hle _ _ d1, ⟨_, gh_up_s _ _ _, fun j hj => ?_⟩, ⟨g, by rw [gh_up_n _ _ (gh_ne d3 hfa (by simp))]; exact hle _ _ d3, d3'⟩, fun j hj => ?_, fun i j hi hj hij a ha => ?_, fun j hj => ?_, d7, d8, d9, fun j hj => ?_, d11⟩
  · by_cases z : j = r
    · rw [z, va_up_self, va_up_self]
    · rw [va_up_ne _ _ z, va_up_ne _ _ z]
      exact d2' j hj
  · by_cases z : j = r
    · rw [z, va_up_self, va_up_self]
      exact rh_keep1 hR hRfa (fun v w => by rw [hfa1] at w; cases w) d8
    · rw [va_up_ne _ _ z, va_up_ne _ _ z]
      exact rh_keep1 (rh_keepL (d4 j hj) hle) (d6 j hj) (fun v w => by rw [hfa1] at w; cases w) d8
  · by_cases zi : i = r
    · have zj : j ≠ r := fun w => hij (zi.trans w.symm)
      rw [zi, va_up_self] at ha
      rw [va_up_ne _ _ zj]
      exact fun w => hno j hj a w ha
    · rw [va_up_ne _ _ zi] at ha
      by_cases zj : j = r
      · rw [zj, va_up_self]
        exact hno i hi a ha
      · rw [va_up_ne _ _ zj]
        exact d5 i j hi hj hij a ha
  · by_cases z : j = r
    · rw [z, va_up_self]
      exact hRfa
    · rw [va_up_ne _ _ z]
      exact d6 j hj
  · by_cases z : j = r
    · rw [z, va_up_self, ks_nil hL]
      exact Nat.zero_le _
    · rw [va_up_ne _ _ z]
      exact d10 j hj
/-- the making's loop: i heaps made -/
def mk_ (P : gh_P) (G : gh_G) (fa i : Nat) (hs : Nat → rh_R) (G1 : gh_G) : Prop :=
  (∃ f, G1 fa = some (gh_q (gh_cH P) 4 f) ∧ ∀ r, r < i → f r = some (hs r).1) ∧ (∀ r, r < i → rh_ P G1 (hs r) 0 ∧ ∀ j, rh_L (hs r) j = []) ∧ (∀ r, r < i → ∀ a, rh_F P (hs r) a → G a = none ∧ a ≠ fa) ∧ (∀ r r', r < i → r' < i → r ≠ r' → ∀ a, rh_F P (hs r) a → ¬ rh_F P (hs r') a) ∧ gh_le G G1
theorem mk_s {P : gh_P} {G G1 G2 : gh_G} {fa i : Nat} {hs : Nat → rh_R} {R : rh_R} {f : Nat → Option Nat} (h : mk_ P G fa i hs G1) (hi : i < 4) (hfa : G1 fa = some (gh_q (gh_cH P) 4 f)) (hGfa : G fa = none) (hNfa : gh_N P ≤ fa) (hR : rh_ P G2 R 0) (hL : ∀ j, rh_L R j = []) (hle : gh_le G1 G2) (hft : ∀ a, rh_F P R a → G1 a = none) : mk_ P G fa (i + 1) (va_up hs i R) (gh_up G2 fa (gh_q (gh_cH P) 4 (va_up f i (some R.1)))) := by
  obtain ⟨⟨f', h1, h1'⟩, h2, h3, h4, h5⟩ := h
  rw [hfa] at h1
  cases h1
  have hfa2 := hle _ _ hfa
  have hRfa : ¬ rh_F P R fa := fun z => by
    have w := hft fa z
    rw [hfa] at w
    cases w
  have hno : ∀ r', r' < i → ∀ a, rh_F P (hs r') a → ¬ rh_F P R a := fun r' hr' a ha z => by
    have w := hft a z
    obtain ⟨-, e, q, -⟩ := rh_cls (h2 r' hr').1 ha
    rw [w] at q
    cases q
  refine ⟨⟨_, gh_up_s _ _ _, fun j hj => ?_⟩, fun j hj => ?_, fun j hj a ha => ?_, fun a b ha hb hab y hy => ?_, fun a e ha => ?_⟩
  · by_cases z : j = i
    · rw [z, va_up_self, va_up_self]
    · rw [va_up_ne _ _ z, va_up_ne _ _ z]
      exact h1' j (by omega)
  · by_cases z : j = i
    · rw [z, va_up_self]
      exact ⟨rh_keep1 hR hRfa (fun v w => by rw [hfa2] at w; cases w) hNfa, hL⟩
    · rw [va_up_ne _ _ z]
      have w := h2 j (by omega)
      exact ⟨rh_keep1 (rh_keepL w.1 hle) (fun q => (h3 j (by omega) fa q).2 rfl) (fun v q => by rw [hfa2] at q; cases q) hNfa, w.2⟩
  · by_cases z : j = i
    · rw [z, va_up_self] at ha
      refine ⟨?_, fun w => by rw [w] at ha; exact hRfa ha⟩
      cases q : G a with
      | none => rfl
      | some e =>
        have := h5 a e q
        rw [hft a ha] at this
        cases this
    · rw [va_up_ne _ _ z] at ha
      exact h3 j (by omega) a ha
  · by_cases za : a = i
    · have zb : b ≠ i := fun w => hab (za.trans w.symm)
      rw [za, va_up_self] at hy
      rw [va_up_ne _ _ zb]
      exact fun w => hno b (by omega) y w hy
    · rw [va_up_ne _ _ za] at hy
      by_cases zb : b = i
      · rw [zb, va_up_self]
        exact hno a (by omega) y hy
      · rw [va_up_ne _ _ zb]
        exact h4 a b (by omega) (by omega) hab y hy
  · rw [gh_up_n _ _ (gh_nf ha hGfa)]
    exact hle _ _ (h5 a e ha)
end
section
/-! The desk's methods -/
set_option maxRecDepth 100000
theorem rh_.I {P : gh_P} {G : gh_G} {R : rh_R} {last : Nat} (h : rh_ P G R last) : rh_I (rh_L R) last := by
  obtain ⟨_, _, _, _, _, _, _, _, _, _, _, h5, _⟩ := h
  exact h5
theorem rh_.cell {P : gh_P} {G : gh_G} {R : rh_R} {last : Nat} (h : rh_ P G R last) : ∃ fs, G R.1 = some (gh_o 1 fs) := by
  obtain ⟨ld, mn, mx, cm, cb, cp, mc, w, -⟩ := h
  exact ⟨_, w⟩
theorem DK.keepL {P : gh_P} {G G1 : gh_G} {x fa ff puts : Nat} {hs : Nat → rh_R} {lst fl : Nat → Nat} (d : DK P G x fa ff hs lst fl puts) (h : gh_le G G1) : DK P G1 x fa ff hs lst fl puts :=
  DK.keep (F := fun _ => False) d (fun a e ha _ => h a e ha) (fun _ _ z => z) (fun _ _ _ z => z) (fun _ z => z.elim)
/-- behind an insert -/
def dk_ins (P : gh_P) (G : gh_G) (x fa ff : Nat) (hs : Nat → rh_R) (lst : Nat → Nat) (puts f k : Nat) (G1 : gh_G) : Prop := ∃ R' : rh_R, DK P G1 x fa ff (va_up hs f R') lst lst (puts + 1) ∧ (∀ y, (rh_ks (rh_L R')).count y = (rh_ks (rh_L (hs f))).count y + [k].count y) ∧ (rh_ks (rh_L R')).length = (rh_ks (rh_L (hs f))).length + 1 ∧ gh_fr (dk_F P x fa ff hs) G G1
set_option maxHeartbeats 4000000 in
/-- told -/
theorem c_told (l : Launch) (P : gh_P) (G : gh_G) (v : Int32) : Met l yX0_told (ws_ yX0_told cX0_told 1 (some .int)) ({ frames := 0, cells := 0, slots := 0, locals := 0 }) (gh_Pc P G [.int v]) (gh_Qi P (fun r G1 => r = v &&& 1048575 ∧ G1 = G)) 0 0 (gh_A P) := by
  refine gh_met (plainFor_of_name (by decide)) (Nat.le_of_ble_eq_true rfl) ?_
  intro p e s m below meth c hx hb hr hlocks hml hown hin hts hE hG ls hl
  have hS : va_S (gh_A P) s.heap s.heap [] := va_S.rf
  have hl : lv_has ls 1 [(0, .int v)] := hl
  refine lv_iload_n hx hb dX0_told_0 rfl (lv_at hl 0 rfl) ?_
  refine lv_ldc (v := 1048575) hx hb hown (hts _ q49) dX0_told_1 ?_
  refine lv_iand hx hb dX0_told_3 ?_
  exact gh_iret hx hb hr hlocks rfl hG hS (⟨rfl, rfl⟩) (Nat.le_of_ble_eq_true rfl) (Nat.le_of_ble_eq_true rfl) dX0_told_4
set_option maxHeartbeats 4000000 in
theorem c_make_loop {p : Program} {l : Launch} {e : Env} {s : State} {m : MethodId} {args : Array Value} {below : List Frame} {meth : Method} {c : Code} {R : Room} {Q : State → Prop} {P : gh_P} {G0 : gh_G} {fa : Nat} (hx : p.tables.exec = Jvm.exec) (hb : c.code = cX0_make) (hml : c.maxLocals = 2) (hts : ∀ w ∈ lw_all, w.before args s = true) (hown : s.vm.findClass "IntegerRadixHeapDesk" = some m.cls) (hE : gh_E P s) (hR : 6 ≤ R.frames ∧ 110 ≤ R.cells ∧ 410 ≤ R.slots ∧ 120 ≤ R.locals) (hfa0 : G0 fa = none) (hN : gh_N P ≤ fa)
    (kk : ∀ (G : gh_G) (hs : Nat → rh_R) (H : Heap) (locs : List Loc) (ls : Array Slot), gh_H P G H → va_S (gh_A P) s.heap H locs → mk_ P G0 fa 4 hs G → lv_has ls 2 [(0, .ref fa)] → W p l e R s m args below meth c H locs (1 + 27 * 4) (4 + 99 * 4) Q (F0 m 24 ls [])) :
    ∀ (k i : Nat) (G : gh_G) (hs : Nat → rh_R) (H : Heap) (locs : List Loc) (ls : Array Slot), i ≤ 4 → 4 < i + k → gh_H P G H → va_S (gh_A P) s.heap H locs → mk_ P G0 fa i hs G → lv_has ls 2 [(1, .int (nI i)), (0, .ref fa)] → W p l e R s m args below meth c H locs (1 + 27 * i) (4 + 99 * i) Q (F0 m 7 ls []) := by
  intro k
  induction k with
  | zero =>
    intro i G hs H locs ls h1 h2
    exact absurd h2 (by omega)
  | succ k ih =>
    intro i G hs H locs ls hi hk hG hS hm hl
    refine lv_iload_n hx hb dX0_make_7 rfl (lv_at hl 0 rfl) ?_
    refine lv_iconst (v := 4) hx hb dX0_make_8 (by decide) ?_
    by_cases hi4 : i < 4
    · refine lv_icmp_ge (tgt := 24) hx hb dX0_make_9 (by decide) (fun c_9 => absurd c_9 (nI_ge (a := i) (b := 4) hi4 (by omega))) (fun _ => ?_)
      refine lv_aload_n hx hb dX0_make_12 rfl (lv_at hl 1 rfl) ?_
      refine lv_iload_n hx hb dX0_make_13 rfl (lv_at hl 0 rfl) ?_
      refine gh_callr (va_runS (As := []) (rest := [.int (nI i), .ref fa]) ⟨hx, hb, hml, hown, hts⟩ (c_fresh l P G) (va_cwS 0 hts (lw_S q45 q46 q8 q47) rfl rfl rfl (by decide +kernel) ⟨by show 5 + 1 ≤ R.frames; omega, by show 8 + (0 + 11) + 97 ≤ R.locals; omega⟩) (gh_preS hE hG hS) rfl rfl hl.1 rfl (lv_room (Nat.le_of_ble_eq_true rfl)) dX0_make_14 ⟨by omega, by omega⟩) hS (fun h G1 H locs hw hG hS => ?_)
      obtain ⟨R1, rfl, r2, r3, r4, r5⟩ := hw
      obtain ⟨fs9, hh9⟩ := r2.cell
      obtain ⟨⟨f, m1, m1'⟩, m2, m3, m4, m5⟩ := id hm
      refine gh_aast 3 rfl hx hb hE hG hS hN (r4 _ _ m1) (gh_any hE hG hh9 rfl vb_asgS) (vp_in_nI hi4 (by omega)) dX0_make_17 (fun H locs hG hS => ?_)
      rw [nI_clamp (by omega)] at hG
      refine lv_iinc (v := nI (i + 1)) (lv' := [(1, .int (nI (i + 1))), (0, .ref fa)]) hx hb dX0_make_18 hl (k := 0) rfl (nI_1 i) (by decide) rfl (fun ls hl => ?_)
      refine lv_goto (tgt := 7) hx hb dX0_make_21 (by decide) ?_
      refine W.cs (cells' := 1 + 27 * (i + 1)) (slots' := 4 + 99 * (i + 1)) (by omega) (by omega) ?_
      exact ih (i + 1) _ _ H locs ls hi4 (by omega) hG hS (mk_s hm hi4 m1 hfa0 hN r2 r3 r4 r5) hl
    · have hie : i = 4 := by omega
      subst hie
      refine lv_icmp_ge (tgt := 24) hx hb dX0_make_9 (by decide) (fun _ => ?_) (fun c_9 => absurd (nI_le (a := 4) (b := 4) (Nat.le_refl _) (by omega)) c_9)
      exact kk G hs H locs ls hG hS hm (lv_sub hl [1] rfl)
set_option maxHeartbeats 4000000 in
/-- make -/
theorem c_make (l : Launch) (P : gh_P) (G : gh_G)  : Met l yX0_make (ws_ yX0_make cX0_make 2 (some (.array (.object "IntegerRadixHeap")))) ({ frames := 6, cells := 110, slots := 410, locals := 120 }) (gh_Pc P G []) (gh_Qr P (fun fa G1 => G fa = none ∧ gh_N P ≤ fa ∧ ∃ hs : Nat → rh_R, mk_ P G fa 4 hs G1)) 110 410 (gh_A P) := by
  refine gh_met (plainFor_of_name (by decide)) (Nat.le_of_ble_eq_true rfl) ?_
  intro p e s m below meth c hx hb hr hlocks hml hown hin hts hE hG ls hl
  have hS : va_S (gh_A P) s.heap s.heap [] := va_S.rf
  have hl : lv_has ls 2 [] := hl
  refine lv_iconst (v := 4) hx hb dX0_make_0 (by decide) ?_
  refine gh_newq 3 rfl hx hb hts hown q43 hE.M.2.2.2.1 hE hG hS (by decide) (N' := 4) (by decide) (by decide) (Nat.le_of_ble_eq_true rfl) (Nat.le_of_ble_eq_true rfl) dX0_make_1 (fun fa H hN_q hf_q hG hS => ?_)
  refine lv_astore_n (lv' := [(0, .ref fa)]) hx hb dX0_make_4 rfl hl (by decide) rfl (fun ls hl => ?_)
  refine lv_iconst (v := 0) hx hb dX0_make_5 (by decide) ?_
  refine lv_istore_n (lv' := [(1, .int 0), (0, .ref fa)]) hx hb dX0_make_6 rfl hl (by decide) rfl (fun ls hl => ?_)
  have hl : lv_has ls 2 [(1, .int (nI 0)), (0, .ref fa)] := hl
  have hm0 : mk_ P G fa 0 (fun _ => (0, 0, (fun _ => 0), (fun _ => 0), fun _ => [])) (gh_up G fa (gh_q (gh_cH P) 4 (fun _ => none))) := ⟨⟨_, gh_up_s _ _ _, fun r hr => absurd hr (Nat.not_lt_zero r)⟩, fun r hr => absurd hr (Nat.not_lt_zero r), fun r hr => absurd hr (Nat.not_lt_zero r), fun r _ hr => absurd hr (Nat.not_lt_zero r), gh_le_new _ hf_q⟩
  refine c_make_loop hx hb hml hts hown hE ⟨Nat.le_of_ble_eq_true rfl, Nat.le_of_ble_eq_true rfl, Nat.le_of_ble_eq_true rfl, Nat.le_of_ble_eq_true rfl⟩ hf_q hN_q (fun G2 hs H locs ls hG hS hm hl => ?_) 5 0 _ _ H _ ls (by omega) (by omega) hG hS hm0 (lv_sub hl [0, 1] rfl)
  refine lv_aload_n hx hb dX0_make_24 rfl (lv_at hl 0 rfl) ?_
  exact gh_aret hx hb hr hlocks (Or.inr ⟨_, rfl⟩) hG hS (⟨hf_q, hN_q, hs, hm⟩) (Nat.le_of_ble_eq_true rfl) (Nat.le_of_ble_eq_true rfl) dX0_make_25
set_option maxHeartbeats 4000000 in
/-- the desk's constructor -/
theorem c_dinit (l : Launch) (P : gh_P) (G : gh_G) (x : Nat) (hh : G x = some (gh_o 0 [.null, .null, .int 0])) (hN : gh_N P ≤ x) : Met l yX0_init (ws_ yX0_init cX0_init 1 none) ({ frames := 7, cells := 120, slots := 420, locals := 150 }) (gh_Pc P G [.ref x]) (gh_Qv P (fun G1 => ∃ (fa ff : Nat) (hs : Nat → rh_R), DK P G1 x fa ff hs (fun _ => 0) (fun _ => 0) 0 ∧ (∀ r, r < 4 → (rh_ks (rh_L (hs r))).length = 0) ∧ gh_fr (fun a => a = x) G G1)) 120 420 (gh_A P) := by
  refine gh_met (plainFor_of_name (by decide)) (Nat.le_of_ble_eq_true rfl) ?_
  intro p e s m below meth c hx hb hr hlocks hml hown hin hts hE hG ls hl
  have hS : va_S (gh_A P) s.heap s.heap [] := va_S.rf
  have hl : lv_has ls 1 [(0, .ref x)] := hl
  refine lv_aload_n hx hb dX0_init_0 rfl (lv_at hl 0 rfl) ?_
  refine W.objInit hx hb hown (hts _ q37) (hts _ q38) (hts _ q39) rfl (by rw [hml]; exact hl.1) rfl dX0_init_1 (Nat.le_of_ble_eq_true rfl) (Nat.le_of_ble_eq_true rfl) ?_
  refine W.eq (g2 := F0 m 4 ls []) rfl ?_
  refine lv_aload_n hx hb dX0_init_4 rfl (lv_at hl 0 rfl) ?_
  refine gh_callr (va_runS (As := []) (rest := [.ref x]) ⟨hx, hb, hml, hown, hts⟩ (c_make l P G) (va_cwS 0 hts (lw_S q40 q41 q8 q42) rfl rfl rfl (by decide +kernel) ⟨Nat.le_of_ble_eq_true rfl, Nat.le_of_ble_eq_true rfl⟩) (gh_preS hE hG hS) rfl rfl hl.1 rfl (lv_room (Nat.le_of_ble_eq_true rfl)) dX0_init_5 ⟨Nat.le_of_ble_eq_true rfl, Nat.le_of_ble_eq_true rfl⟩) hS (fun fa G1 H locs hw hG hS => ?_)
  obtain ⟨hfn, hNfa, hs, ⟨f, m1, m1'⟩, m2, m3, m4, m5⟩ := hw
  have hx1 := m5 _ _ hh
  refine gh_putF (C := RX0) (T := TX0) (N := 3) (v := .ref fa) hx hb hts in_X0 tyX0 tyX0_ok nmX0 hown hE hG hS hN hx1 rfl 0 (by decide) q220 (fun _ h9 => h9) rfl hin rfl rfl rfl (Nat.le_of_ble_eq_true rfl) dX0_init_8 (fun H locs hG hS => ?_)
  have hG : gh_H P (gh_up G1 x (gh_o 0 [.ref fa, .null, .int 0])) H := hG
  obtain ⟨G2, hG2⟩ : ∃ g, g = gh_up G1 x (gh_o 0 [.ref fa, .null, .int 0]) := ⟨_, rfl⟩
  rw [← hG2] at hG
  have hx2 : G2 x = some (gh_o 0 [.ref fa, .null, .int 0]) := by rw [hG2, gh_up_s]
  refine lv_aload_n hx hb dX0_init_11 rfl (lv_at hl 0 rfl) ?_
  refine lv_iconst (v := 4) hx hb dX0_init_12 (by decide) ?_
  refine gh_newi hx hb hts hE hG hS (by decide) (N' := 4) (by decide) (by decide) (Nat.le_of_ble_eq_true rfl) (Nat.le_of_ble_eq_true rfl) dX0_init_13 (fun ff H hN_q hf_q hG hS => ?_)
  obtain ⟨G3, hG3⟩ : ∃ g, g = gh_up G2 ff (gh_i (gh_cI P) 4 (fun _ => 0)) := ⟨_, rfl⟩
  rw [← hG3] at hG
  have hx3 : G3 x = some (gh_o 0 [.ref fa, .null, .int 0]) := by rw [hG3, gh_up_n _ _ (gh_nf hx2 hf_q)]; exact hx2
  refine gh_putF (C := RX0) (T := TX0) (N := 3) (v := .ref ff) hx hb hts in_X0 tyX0 tyX0_ok nmX0 hown hE hG hS hN hx3 rfl 1 (by decide) q221 (fun _ h9 => h9) rfl hin rfl rfl rfl (Nat.le_of_ble_eq_true rfl) dX0_init_15 (fun H locs hG hS => ?_)
  have hG : gh_H P (gh_up G3 x (gh_o 0 [.ref fa, .ref ff, .int (nI 0)])) H := hG
  obtain ⟨G4, hG4⟩ : ∃ g, g = gh_up G3 x (gh_o 0 [.ref fa, .ref ff, .int (nI 0)]) := ⟨_, rfl⟩
  rw [← hG4] at hG
  have hx4 : G4 x = some (gh_o 0 [.ref fa, .ref ff, .int (nI 0)]) := by rw [hG4, gh_up_s]
  have hnx : ∀ r, r < 4 → ¬ rh_F P (hs r) x := fun r hr z => by
    have w := (m3 r hr x z).1
    rw [hh] at w
    cases w
  have hk1 : ∀ r, r < 4 → rh_ P G2 (hs r) 0 := fun r hr => by rw [hG2]; exact rh_keep1 (m2 r hr).1 (hnx r hr) (fun v w => by rw [hx1] at w; cases w) hN
  have hk2 : ∀ r, r < 4 → rh_ P G3 (hs r) 0 := fun r hr => by rw [hG3]; exact rh_keepL (hk1 r hr) (gh_le_new _ hf_q)
  have hk3 : ∀ r, r < 4 → rh_ P G4 (hs r) 0 := fun r hr => by rw [hG4]; exact rh_keep1 (hk2 r hr) (hnx r hr) (fun v w => by rw [hx3] at w; cases w) hN
  have hfx : fa ≠ x := fun z => by rw [z, hh] at hfn; cases hfn
  have hffx : ff ≠ x := fun z => by rw [z, hx2] at hf_q; cases hf_q
  have hm2 : G2 fa = some (gh_q (gh_cH P) 4 f) := by rw [hG2, gh_up_n _ _ hfx]; exact m1
  have hm4 : G4 fa = some (gh_q (gh_cH P) 4 f) := by rw [hG4, gh_up_n _ _ hfx, hG3, gh_up_n _ _ (gh_nf hm2 hf_q)]; exact hm2
  have hff4 : G4 ff = some (gh_i (gh_cI P) 4 (fun _ => 0)) := by rw [hG4, gh_up_n _ _ hffx, hG3, gh_up_s]
  exact gh_vret hx hb hr hlocks hG hS (⟨fa, ff, hs, ⟨hx4, ⟨f, hm4, m1'⟩, ⟨_, hff4, fun _ _ => rfl⟩, hk3, m4, fun r hr z => (m3 r hr fa z).2 rfl, hN, hNfa, hN_q, fun r hr => by rw [ks_nil (m2 r hr).2]; exact Nat.zero_le _, by omega⟩, fun r hr => ks_nil (m2 r hr).2, fun a e ha hn => by rw [hG4, gh_up_n _ _ hn, hG3, gh_up_n _ _ (gh_nf (show G2 a = some e by rw [hG2, gh_up_n _ _ hn]; exact m5 _ _ ha) hf_q), hG2, gh_up_n _ _ hn]; exact m5 _ _ ha⟩) (Nat.le_of_ble_eq_true rfl) (Nat.le_of_ble_eq_true rfl) dX0_init_18
set_option maxHeartbeats 4000000 in
/-- put -/
theorem c_dput (l : Launch) (P : gh_P) (G : gh_G) (x fa ff puts : Nat) (hs : Nat → rh_R) (lst : Nat → Nat) (d : DK P G x fa ff hs lst lst puts) (file : Int32) (f : Nat) (hf : f < 4) (hfe : file &&& 3 = nI f) (key : Int32) (k : Nat) (hk : k < 1048576) (hke : key &&& 1048575 = nI k) : Met l yX0_put (ws_ yX0_put cX0_put 5 (some .boolean)) ({ frames := 8, cells := 10, slots := 300, locals := 220 }) (gh_Pc P G [.ref x, .int file, .int key]) (gh_Qi P (fun r G1 => ((puts < 64 ∧ lst f ≤ k) ∧ r = 1 ∧ dk_ins P G x fa ff hs lst puts f k G1) ∨ (¬ (puts < 64 ∧ lst f ≤ k) ∧ r = 0 ∧ G1 = G))) 10 300 (gh_A P) := by
  refine gh_met (plainFor_of_name (by decide)) (Nat.le_of_ble_eq_true rfl) ?_
  intro p e s m below meth c hx hb hr hlocks hml hown hin hts hE hG ls hl
  have hS : va_S (gh_A P) s.heap s.heap [] := va_S.rf
  have hl : lv_has ls 5 [(0, .ref x), (1, .int file), (2, .int key)] := hl
  obtain ⟨d1, ⟨fv, d2, d2'⟩, ⟨gv, d3, d3'⟩, d4, d5, d6, d7, d8, d9, d10, d11⟩ := id d
  have hlf := (d4 f hf).I.1
  refine lv_iload_n hx hb dX0_put_0 rfl (lv_at hl 1 rfl) ?_
  refine lv_iconst (v := 3) hx hb dX0_put_1 (by decide) ?_
  refine lv_iand hx hb dX0_put_2 ?_
  refine lv_topi (fun z_0 ez_0 => ?_)
  obtain rfl : z_0 = nI f := ez_0.trans hfe
  refine lv_istore_n (lv' := [(3, .int (nI f)), (0, .ref x), (1, .int file), (2, .int key)]) hx hb dX0_put_3 rfl hl (by decide) rfl (fun ls hl => ?_)
  refine lv_iload_n hx hb dX0_put_4 rfl (lv_at hl 3 rfl) ?_
  refine gh_calli (va_runS (As := [.int key]) (rest := []) ⟨hx, hb, hml, hown, hts⟩ (c_told l P G key) (va_cwS 1 hts (lw_S q235 q236 q8 q237) rfl rfl rfl (by decide +kernel) ⟨Nat.le_of_ble_eq_true rfl, Nat.le_of_ble_eq_true rfl⟩) (gh_preS hE hG hS) rfl rfl hl.1 rfl (lv_room (Nat.le_of_ble_eq_true rfl)) dX0_put_5 ⟨Nat.le_of_ble_eq_true rfl, Nat.le_of_ble_eq_true rfl⟩) hS (fun r G_ H locs hw hG hS => ?_)
  rw [hw.1, hke]
  replace hG := hw.2 ▸ hG
  refine lv_istore (lv' := [(4, .int (nI k)), (3, .int (nI f)), (0, .ref x), (1, .int file), (2, .int key)]) hx hb dX0_put_8 hl (by decide) rfl (fun ls hl => ?_)
  refine lv_aload_n hx hb dX0_put_10 rfl (lv_at hl 2 rfl) ?_
  refine gh_get (C := RX0) (T := TX0) (N := 3) (v := .int (nI puts)) hx hb hts in_X0 hown hE hG d1 rfl 2 (by decide) q222 (fun _ h9 => h9) rfl dX0_put_11 ?_
  refine lv_bipush (v := 64) hx hb dX0_put_14 (by decide) ?_
  refine lv_icmp_ge (tgt := 30) hx hb dX0_put_16 (by decide) (fun c_1 => ?_) (fun c_1 => ?_)
  · refine lv_iconst (v := 0) hx hb dX0_put_30 (by decide) ?_
    exact gh_iret hx hb hr hlocks rfl hG hS (Or.inr ⟨fun z => absurd ((nI_leI (a := 64) (b := puts) (by omega) (by omega)).mp c_1) (by omega), rfl, rfl⟩) (Nat.le_of_ble_eq_true rfl) (Nat.le_of_ble_eq_true rfl) dX0_put_31
  · have hlt : puts < 64 := Nat.lt_of_not_le (fun z => c_1 (nI_le (a := 64) z (by omega)))
    refine lv_iload hx hb dX0_put_19 (lv_at hl 0 rfl) ?_
    refine lv_aload_n hx hb dX0_put_21 rfl (lv_at hl 2 rfl) ?_
    refine gh_get (C := RX0) (T := TX0) (N := 3) (v := .ref ff) hx hb hts in_X0 hown hE hG d1 rfl 1 (by decide) q221 (fun _ h9 => h9) rfl dX0_put_22 ?_
    refine lv_iload_n hx hb dX0_put_25 rfl (lv_at hl 1 rfl) ?_
    refine gh_iald hx hb hE hG d3 (vp_in_nI hf (by omega)) dX0_put_26 ?_
    rw [nI_clamp (by omega), d3' f hf]
    refine lv_icmp_ge (tgt := 32) hx hb dX0_put_27 (by decide) (fun c_2 => ?_) (fun c_2 => ?_)
    · have hlk : lst f ≤ k := (nI_leI (by omega) (by omega)).mp c_2
      have hc := hlk
      refine lv_aload_n hx hb dX0_put_32 rfl (lv_at hl 2 rfl) ?_
      refine lv_dup hx hb dX0_put_33 rfl ?_
      refine gh_get (C := RX0) (T := TX0) (N := 3) (v := .int (nI puts)) hx hb hts in_X0 hown hE hG d1 rfl 2 (by decide) q222 (fun _ h9 => h9) rfl dX0_put_34 ?_
      refine lv_iconst (v := 1) hx hb dX0_put_37 (by decide) ?_
      refine lv_iadd hx hb dX0_put_38 ?_
      refine lv_topi (fun z_1 ez_1 => ?_)
      obtain rfl : z_1 = nI (puts + 1) := ez_1.trans (nI_1 puts)
      refine gh_put (C := RX0) (T := TX0) (N := 3) (v := .int (nI (puts + 1))) hx hb hts in_X0 tyX0 tyX0_ok nmX0 hown hE hG hS d7 d1 rfl 2 (by decide) q222 (fun _ h9 => h9) rfl rfl rfl (Nat.le_of_ble_eq_true rfl) dX0_put_39 (fun H locs hG hS => ?_)
      have hG : gh_H P (gh_up G x (gh_o 0 [.ref fa, .ref ff, .int (nI (puts + 1))])) H := hG
      obtain ⟨G1, hG1⟩ : ∃ g, g = gh_up G x (gh_o 0 [.ref fa, .ref ff, .int (nI (puts + 1))]) := ⟨_, rfl⟩
      rw [← hG1] at hG
      have e0 : DK P G1 x fa ff hs lst lst (puts + 1) := by rw [hG1]; exact d.up hlt
      obtain ⟨e1, ⟨fw, e2, e2'⟩, -⟩ := id e0
      refine lv_aload_n hx hb dX0_put_42 rfl (lv_at hl 2 rfl) ?_
      refine gh_get (C := RX0) (T := TX0) (N := 3) (v := .ref fa) hx hb hts in_X0 hown hE hG e1 rfl 0 (by decide) q220 (fun _ h9 => h9) rfl dX0_put_43 ?_
      refine lv_iload_n hx hb dX0_put_46 rfl (lv_at hl 1 rfl) ?_
      refine gh_aald 3 rfl hx hb hE hG e2 (vp_in_nI hf (by omega)) (x := (hs f).1) (by rw [nI_clamp (by omega)]; exact e2' f hf) dX0_put_47 ?_
      refine lv_iload hx hb dX0_put_48 (lv_at hl 0 rfl) ?_
      refine gh_callr (va_runS (As := [.int (nI k)]) (rest := [.ref (hs f).1]) ⟨hx, hb, hml, hown, hts⟩ (c_int_valueOf l P G1 (nI k)) (va_cwS 1 hts (lw_S q238 q125 q16 q126) rfl rfl rfl (by decide +kernel) ⟨Nat.le_of_ble_eq_true rfl, Nat.le_of_ble_eq_true rfl⟩) (gh_preS hE hG hS) rfl rfl hl.1 rfl (lv_room (Nat.le_of_ble_eq_true rfl)) dX0_put_50 ⟨Nat.le_of_ble_eq_true rfl, Nat.le_of_ble_eq_true rfl⟩) hS (fun bx G2 H locs hw hG hS => ?_)
      obtain ⟨hle2, hbx⟩ := hw
      have e3 := e0.keepL hle2
      have hr3 := e3.2.2.2.1 f hf
      obtain ⟨fs9, hh9⟩ := hr3.cell
      refine gh_callv (va_runU (As := [.ref bx]) (rest := []) ⟨hx, hb, hml, hown, hts⟩ (c_insert l P G2 (hs f) (lst f) k bx hr3 hbx hk hlk (by have := d10 f hf; omega)) (va_cwU (C := "IntegerRadixHeap") (owner := "AbstractRadixHeap") 1 hts (lw_app (lw_five q239 q240 q242 q243 q9) (lw_meth q244)) rfl rfl rfl rfl (by decide +kernel) ⟨Nat.le_of_ble_eq_true rfl, Nat.le_of_ble_eq_true rfl⟩) (gh_preV hE hG hS (gh_recv hE hG hh9 rfl)) rfl rfl hl.1 rfl (lv_room (Nat.le_of_ble_eq_true rfl)) dX0_put_53 ⟨Nat.le_of_ble_eq_true rfl, Nat.le_of_ble_eq_true rfl⟩) hS (fun G3 H locs hw hG hS => ?_)
      obtain ⟨R', h1, hR', hcnt, hlen, hfr, hft⟩ := hw
      have e4 := e3.set hf hfr hR' h1 hft (by have := d10 f hf; omega)
      rw [up_id] at e4
      have hfr3 : gh_fr (dk_F P x fa ff hs) G G3 := fun a e ha hn => hfr a e (hle2 a e (by rw [hG1, gh_up_n _ _ (fun z => hn (Or.inl z))]; exact ha)) (fun z => hn (Or.inr (Or.inr (Or.inr ⟨f, hf, z⟩))))
      refine lv_iconst (v := 1) hx hb dX0_put_56 (by decide) ?_
      exact gh_iret hx hb hr hlocks rfl hG hS (Or.inl ⟨⟨hlt, hc⟩, rfl, R', e4, hcnt, hlen, hfr3⟩) (Nat.le_of_ble_eq_true rfl) (Nat.le_of_ble_eq_true rfl) dX0_put_57
    · refine lv_iconst (v := 0) hx hb dX0_put_30 (by decide) ?_
      exact gh_iret hx hb hr hlocks rfl hG hS (Or.inr ⟨fun z => c_2 (nI_le z.2 (by omega)), rfl, rfl⟩) (Nat.le_of_ble_eq_true rfl) (Nat.le_of_ble_eq_true rfl) dX0_put_31
set_option maxHeartbeats 4000000 in
/-- above -/
theorem c_dabove (l : Launch) (P : gh_P) (G : gh_G) (x fa ff puts : Nat) (hs : Nat → rh_R) (lst : Nat → Nat) (d : DK P G x fa ff hs lst lst puts) (file : Int32) (f : Nat) (hf : f < 4) (hfe : file &&& 3 = nI f) (key : Int32) (j k : Nat) (hj : j < 1024) (hje : key &&& 1023 = nI j) (hke : k = lst f + j) : Met l yX0_above (ws_ yX0_above cX0_above 5 (some .boolean)) ({ frames := 8, cells := 10, slots := 300, locals := 220 }) (gh_Pc P G [.ref x, .int file, .int key]) (gh_Qi P (fun r G1 => ((puts < 64 ∧ k ≤ 1048575) ∧ r = 1 ∧ dk_ins P G x fa ff hs lst puts f k G1) ∨ (¬ (puts < 64 ∧ k ≤ 1048575) ∧ r = 0 ∧ G1 = G))) 10 300 (gh_A P) := by
  refine gh_met (plainFor_of_name (by decide)) (Nat.le_of_ble_eq_true rfl) ?_
  intro p e s m below meth c hx hb hr hlocks hml hown hin hts hE hG ls hl
  have hS : va_S (gh_A P) s.heap s.heap [] := va_S.rf
  have hl : lv_has ls 5 [(0, .ref x), (1, .int file), (2, .int key)] := hl
  obtain ⟨d1, ⟨fv, d2, d2'⟩, ⟨gv, d3, d3'⟩, d4, d5, d6, d7, d8, d9, d10, d11⟩ := id d
  have hlf := (d4 f hf).I.1
  refine lv_iload_n hx hb dX0_above_0 rfl (lv_at hl 1 rfl) ?_
  refine lv_iconst (v := 3) hx hb dX0_above_1 (by decide) ?_
  refine lv_iand hx hb dX0_above_2 ?_
  refine lv_topi (fun z_0 ez_0 => ?_)
  obtain rfl : z_0 = nI f := ez_0.trans hfe
  refine lv_istore_n (lv' := [(3, .int (nI f)), (0, .ref x), (1, .int file), (2, .int key)]) hx hb dX0_above_3 rfl hl (by decide) rfl (fun ls hl => ?_)
  refine lv_aload_n hx hb dX0_above_4 rfl (lv_at hl 1 rfl) ?_
  refine gh_get (C := RX0) (T := TX0) (N := 3) (v := .ref ff) hx hb hts in_X0 hown hE hG d1 rfl 1 (by decide) q221 (fun _ h9 => h9) rfl dX0_above_5 ?_
  refine lv_iload_n hx hb dX0_above_8 rfl (lv_at hl 0 rfl) ?_
  refine gh_iald hx hb hE hG d3 (vp_in_nI hf (by omega)) dX0_above_9 ?_
  rw [nI_clamp (by omega), d3' f hf]
  refine lv_iload_n hx hb dX0_above_10 rfl (lv_at hl 3 rfl) ?_
  refine lv_sipush (v := 1023) hx hb dX0_above_11 (by decide) ?_
  refine lv_iand hx hb dX0_above_14 ?_
  refine lv_topi (fun z_1 ez_1 => ?_)
  obtain rfl : z_1 = nI j := ez_1.trans hje
  refine lv_iadd hx hb dX0_above_15 ?_
  refine lv_topi (fun z_2 ez_2 => ?_)
  obtain rfl : z_2 = nI k := ez_2.trans ((nI_add (lst f) j).trans (by rw [hke]))
  refine lv_istore (lv' := [(4, .int (nI k)), (3, .int (nI f)), (0, .ref x), (1, .int file), (2, .int key)]) hx hb dX0_above_16 hl (by decide) rfl (fun ls hl => ?_)
  refine lv_aload_n hx hb dX0_above_18 rfl (lv_at hl 2 rfl) ?_
  refine gh_get (C := RX0) (T := TX0) (N := 3) (v := .int (nI puts)) hx hb hts in_X0 hown hE hG d1 rfl 2 (by decide) q222 (fun _ h9 => h9) rfl dX0_above_19 ?_
  refine lv_bipush (v := 64) hx hb dX0_above_22 (by decide) ?_
  refine lv_icmp_ge (tgt := 34) hx hb dX0_above_24 (by decide) (fun c_1 => ?_) (fun c_1 => ?_)
  · refine lv_iconst (v := 0) hx hb dX0_above_34 (by decide) ?_
    exact gh_iret hx hb hr hlocks rfl hG hS (Or.inr ⟨fun z => absurd ((nI_leI (a := 64) (b := puts) (by omega) (by omega)).mp c_1) (by omega), rfl, rfl⟩) (Nat.le_of_ble_eq_true rfl) (Nat.le_of_ble_eq_true rfl) dX0_above_35
  · have hlt : puts < 64 := Nat.lt_of_not_le (fun z => c_1 (nI_le (a := 64) z (by omega)))
    refine lv_iload hx hb dX0_above_27 (lv_at hl 0 rfl) ?_
    refine lv_ldc (v := 1048575) hx hb hown (hts _ q49) dX0_above_29 ?_
    refine lv_icmp_le (tgt := 36) hx hb dX0_above_31 (by decide) (fun c_2 => ?_) (fun c_2 => ?_)
    · have hc : k ≤ 1048575 := (nI_leI (a := k) (b := 1048575) (by omega) (by omega)).mp c_2
      have hk : k < 1048576 := by omega
      have hlk : lst f ≤ k := by omega
      refine lv_aload_n hx hb dX0_above_36 rfl (lv_at hl 2 rfl) ?_
      refine lv_dup hx hb dX0_above_37 rfl ?_
      refine gh_get (C := RX0) (T := TX0) (N := 3) (v := .int (nI puts)) hx hb hts in_X0 hown hE hG d1 rfl 2 (by decide) q222 (fun _ h9 => h9) rfl dX0_above_38 ?_
      refine lv_iconst (v := 1) hx hb dX0_above_41 (by decide) ?_
      refine lv_iadd hx hb dX0_above_42 ?_
      refine lv_topi (fun z_3 ez_3 => ?_)
      obtain rfl : z_3 = nI (puts + 1) := ez_3.trans (nI_1 puts)
      refine gh_put (C := RX0) (T := TX0) (N := 3) (v := .int (nI (puts + 1))) hx hb hts in_X0 tyX0 tyX0_ok nmX0 hown hE hG hS d7 d1 rfl 2 (by decide) q222 (fun _ h9 => h9) rfl rfl rfl (Nat.le_of_ble_eq_true rfl) dX0_above_43 (fun H locs hG hS => ?_)
      have hG : gh_H P (gh_up G x (gh_o 0 [.ref fa, .ref ff, .int (nI (puts + 1))])) H := hG
      obtain ⟨G1, hG1⟩ : ∃ g, g = gh_up G x (gh_o 0 [.ref fa, .ref ff, .int (nI (puts + 1))]) := ⟨_, rfl⟩
      rw [← hG1] at hG
      have e0 : DK P G1 x fa ff hs lst lst (puts + 1) := by rw [hG1]; exact d.up hlt
      obtain ⟨e1, ⟨fw, e2, e2'⟩, -⟩ := id e0
      refine lv_aload_n hx hb dX0_above_46 rfl (lv_at hl 2 rfl) ?_
      refine gh_get (C := RX0) (T := TX0) (N := 3) (v := .ref fa) hx hb hts in_X0 hown hE hG e1 rfl 0 (by decide) q220 (fun _ h9 => h9) rfl dX0_above_47 ?_
      refine lv_iload_n hx hb dX0_above_50 rfl (lv_at hl 1 rfl) ?_
      refine gh_aald 3 rfl hx hb hE hG e2 (vp_in_nI hf (by omega)) (x := (hs f).1) (by rw [nI_clamp (by omega)]; exact e2' f hf) dX0_above_51 ?_
      refine lv_iload hx hb dX0_above_52 (lv_at hl 0 rfl) ?_
      refine gh_callr (va_runS (As := [.int (nI k)]) (rest := [.ref (hs f).1]) ⟨hx, hb, hml, hown, hts⟩ (c_int_valueOf l P G1 (nI k)) (va_cwS 1 hts (lw_S q238 q125 q16 q126) rfl rfl rfl (by decide +kernel) ⟨Nat.le_of_ble_eq_true rfl, Nat.le_of_ble_eq_true rfl⟩) (gh_preS hE hG hS) rfl rfl hl.1 rfl (lv_room (Nat.le_of_ble_eq_true rfl)) dX0_above_54 ⟨Nat.le_of_ble_eq_true rfl, Nat.le_of_ble_eq_true rfl⟩) hS (fun bx G2 H locs hw hG hS => ?_)
      obtain ⟨hle2, hbx⟩ := hw
      have e3 := e0.keepL hle2
      have hr3 := e3.2.2.2.1 f hf
      obtain ⟨fs9, hh9⟩ := hr3.cell
      refine gh_callv (va_runU (As := [.ref bx]) (rest := []) ⟨hx, hb, hml, hown, hts⟩ (c_insert l P G2 (hs f) (lst f) k bx hr3 hbx hk hlk (by have := d10 f hf; omega)) (va_cwU (C := "IntegerRadixHeap") (owner := "AbstractRadixHeap") 1 hts (lw_app (lw_five q239 q240 q242 q243 q9) (lw_meth q244)) rfl rfl rfl rfl (by decide +kernel) ⟨Nat.le_of_ble_eq_true rfl, Nat.le_of_ble_eq_true rfl⟩) (gh_preV hE hG hS (gh_recv hE hG hh9 rfl)) rfl rfl hl.1 rfl (lv_room (Nat.le_of_ble_eq_true rfl)) dX0_above_57 ⟨Nat.le_of_ble_eq_true rfl, Nat.le_of_ble_eq_true rfl⟩) hS (fun G3 H locs hw hG hS => ?_)
      obtain ⟨R', h1, hR', hcnt, hlen, hfr, hft⟩ := hw
      have e4 := e3.set hf hfr hR' h1 hft (by have := d10 f hf; omega)
      rw [up_id] at e4
      have hfr3 : gh_fr (dk_F P x fa ff hs) G G3 := fun a e ha hn => hfr a e (hle2 a e (by rw [hG1, gh_up_n _ _ (fun z => hn (Or.inl z))]; exact ha)) (fun z => hn (Or.inr (Or.inr (Or.inr ⟨f, hf, z⟩))))
      refine lv_iconst (v := 1) hx hb dX0_above_60 (by decide) ?_
      exact gh_iret hx hb hr hlocks rfl hG hS (Or.inl ⟨⟨hlt, hc⟩, rfl, R', e4, hcnt, hlen, hfr3⟩) (Nat.le_of_ble_eq_true rfl) (Nat.le_of_ble_eq_true rfl) dX0_above_61
    · refine lv_iconst (v := 0) hx hb dX0_above_34 (by decide) ?_
      exact gh_iret hx hb hr hlocks rfl hG hS (Or.inr ⟨fun z => c_2 (nI_le (a := k) (b := 1048575) z.2 (by omega)), rfl, rfl⟩) (Nat.le_of_ble_eq_true rfl) (Nat.le_of_ble_eq_true rfl) dX0_above_35
set_option maxHeartbeats 4000000 in
/-- least -/
theorem c_dleast (l : Launch) (P : gh_P) (G : gh_G) (x fa ff puts : Nat) (hs : Nat → rh_R) (lst : Nat → Nat) (d : DK P G x fa ff hs lst lst puts) (file : Int32) (f : Nat) (hf : f < 4) (hfe : file &&& 3 = nI f) : Met l yX0_least (ws_ yX0_least cX0_least 3 (some .int)) ({ frames := 8, cells := 10, slots := 300, locals := 220 }) (gh_Pc P G [.ref x, .int file]) (gh_Qi P (fun r G1 => G1 = G ∧ (((rh_ks (rh_L (hs f))).length = 0 ∧ r = -1) ∨ ∃ m, m ∈ rh_ks (rh_L (hs f)) ∧ (∀ y ∈ rh_ks (rh_L (hs f)), m ≤ y) ∧ m < 1048576 ∧ r = nI m))) 10 300 (gh_A P) := by
  refine gh_met (plainFor_of_name (by decide)) (Nat.le_of_ble_eq_true rfl) ?_
  intro p e s m below meth c hx hb hr hlocks hml hown hin hts hE hG ls hl
  have hS : va_S (gh_A P) s.heap s.heap [] := va_S.rf
  have hl : lv_has ls 3 [(0, .ref x), (1, .int file)] := hl
  obtain ⟨d1, ⟨fv, d2, d2'⟩, ⟨gv, d3, d3'⟩, d4, d5, d6, d7, d8, d9, d10, d11⟩ := id d
  obtain ⟨ld, mn, mx, cm, cb, cp, mc, hh, hld, hmx, hs0, hI, hC, h64, hN⟩ := id (d4 f hf)
  refine lv_aload_n hx hb dX0_least_0 rfl (lv_at hl 0 rfl) ?_
  refine gh_get (C := RX0) (T := TX0) (N := 3) (v := .ref fa) hx hb hts in_X0 hown hE hG d1 rfl 0 (by decide) q220 (fun _ h9 => h9) rfl dX0_least_1 ?_
  refine lv_iload_n hx hb dX0_least_4 rfl (lv_at hl 1 rfl) ?_
  refine lv_iconst (v := 3) hx hb dX0_least_5 (by decide) ?_
  refine lv_iand hx hb dX0_least_6 ?_
  refine lv_topi (fun z_0 ez_0 => ?_)
  obtain rfl : z_0 = nI f := ez_0.trans hfe
  refine gh_aald 3 rfl hx hb hE hG d2 (vp_in_nI hf (by omega)) (x := (hs f).1) (by rw [nI_clamp (by omega)]; exact d2' f hf) dX0_least_7 ?_
  refine lv_astore_n (lv' := [(2, .ref (hs f).1), (0, .ref x), (1, .int file)]) hx hb dX0_least_8 rfl hl (by decide) rfl (fun ls hl => ?_)
  refine lv_aload_n hx hb dX0_least_9 rfl (lv_at hl 0 rfl) ?_
  refine gh_calli (va_runU (As := []) (rest := []) ⟨hx, hb, hml, hown, hts⟩ (c_rempty l P G _ _ ld mn mx _ cm cb cp hh (by omega)) (va_cwU (C := "IntegerRadixHeap") (owner := "AbstractRadixHeap") 0 hts (lw_app (lw_five q366 q367 q369 q370 q9) (lw_meth q371)) rfl rfl rfl rfl (by decide +kernel) ⟨Nat.le_of_ble_eq_true rfl, Nat.le_of_ble_eq_true rfl⟩) (gh_preV hE hG hS (gh_recv hE hG hh rfl)) rfl rfl hl.1 rfl (lv_room (Nat.le_of_ble_eq_true rfl)) dX0_least_10 ⟨Nat.le_of_ble_eq_true rfl, Nat.le_of_ble_eq_true rfl⟩) hS (fun r G_ H locs hw hG hS => ?_)
  rw [hw.1]
  replace hG := hw.2 ▸ hG
  by_cases hn0 : (rh_ks (rh_L (hs f))).length = 0
  · rw [if_pos hn0]
    refine lv_if_eq (tgt := 20) hx hb dX0_least_13 (by decide) (fun c_9 => absurd c_9 (by decide)) (fun _ => ?_)
    refine lv_iconst (v := (-1)) hx hb dX0_least_16 (by decide) ?_
    refine lv_goto (tgt := 30) hx hb dX0_least_17 (by decide) ?_
    exact gh_iret hx hb hr hlocks rfl hG hS (⟨rfl, Or.inl ⟨hn0, rfl⟩⟩) (Nat.le_of_ble_eq_true rfl) (Nat.le_of_ble_eq_true rfl) dX0_least_30
  · rw [if_neg hn0]
    refine lv_if_eq (tgt := 20) hx hb dX0_least_13 (by decide) (fun _ => ?_) (fun c_9 => absurd (rfl) c_9)
    refine lv_aload_n hx hb dX0_least_20 rfl (lv_at hl 0 rfl) ?_
    rcases hC with ⟨z, -⟩ | ⟨b, p, q, hb22, hp, rfl, rfl, rfl, hmin⟩
    · exact absurd z hn0
    have hqm := List.mem_of_getElem? hp
    have hbx := hs0.2.2.1 b hb22 q hqm
    refine gh_callr (va_runU (As := []) (rest := []) ⟨hx, hb, hml, hown, hts⟩ (c_findMin l P G _ _ ld mn mx _ q.1 _ _ hh (by omega) (Nat.pos_of_ne_zero hn0)) (va_cwU (C := "IntegerRadixHeap") (owner := "AbstractRadixHeap") 0 hts (lw_app (lw_five q372 q373 q375 q376 q9) (lw_meth q377)) rfl rfl rfl rfl (by decide +kernel) ⟨Nat.le_of_ble_eq_true rfl, Nat.le_of_ble_eq_true rfl⟩) (gh_preV hE hG hS (gh_recv hE hG hh rfl)) rfl rfl hl.1 rfl (lv_room (Nat.le_of_ble_eq_true rfl)) dX0_least_21 ⟨Nat.le_of_ble_eq_true rfl, Nat.le_of_ble_eq_true rfl⟩) hS (fun y G_ H locs hw hG hS => ?_)
    obtain ⟨rfl, hG9⟩ := hw
    replace hG := hG9 ▸ hG
    refine va_castS (nm := "java/lang/Integer") hx hb hown (hts _ q399) (gh_at (ci := 5) hE rfl) (gh_recv hE hG hbx rfl) dX0_least_24 ?_
    refine gh_calli (va_runV (As := []) (rest := []) ⟨hx, hb, hml, hown, hts⟩ (c_int_intValue l P G q.1 (nI q.2) hbx) (cwV 0 hts (lw_V q400 q260 q261 q16 q262) rfl rfl rfl (by decide +kernel) ⟨Nat.le_of_ble_eq_true rfl, Nat.le_of_ble_eq_true rfl⟩) (gh_preV hE hG hS (gh_recv hE hG hbx rfl)) rfl rfl hl.1 rfl (lv_room (Nat.le_of_ble_eq_true rfl)) dX0_least_27 ⟨Nat.le_of_ble_eq_true rfl, Nat.le_of_ble_eq_true rfl⟩) hS (fun r G_ H locs hw hG hS => ?_)
    rw [hw.1]
    replace hG := hw.2 ▸ hG
    exact gh_iret hx hb hr hlocks rfl hG hS (⟨rfl, Or.inr ⟨q.2, ks_mem.mpr ⟨b, hb22, q, hqm, rfl⟩, fun y hy => (by obtain ⟨i, hi, q3, h3, rfl⟩ := ks_mem.mp hy; exact hmin i hi q3 h3), (hI.2 b hb22 q hqm).2.2, rfl⟩⟩) (Nat.le_of_ble_eq_true rfl) (Nat.le_of_ble_eq_true rfl) dX0_least_30
set_option maxHeartbeats 4000000 in
/-- takeLeast -/
theorem c_dtake (l : Launch) (P : gh_P) (G : gh_G) (x fa ff puts : Nat) (hs : Nat → rh_R) (lst : Nat → Nat) (d : DK P G x fa ff hs lst lst puts) (file : Int32) (f : Nat) (hf : f < 4) (hfe : file &&& 3 = nI f) : Met l yX0_takeLeast (ws_ yX0_takeLeast cX0_takeLeast 4 (some .int)) ({ frames := 8, cells := 80, slots := 13100, locals := 220 }) (gh_Pc P G [.ref x, .int file]) (gh_Qi P (fun r G1 => ((rh_ks (rh_L (hs f))).length = 0 ∧ r = -1 ∧ G1 = G) ∨ ∃ (R' : rh_R) (k : Nat), r = nI k ∧ k < 1048576 ∧ DK P G1 x fa ff (va_up hs f R') (va_up lst f k) (va_up lst f k) puts ∧ (∀ y, (rh_ks (rh_L (hs f))).count y = (rh_ks (rh_L R')).count y + [k].count y) ∧ (rh_ks (rh_L (hs f))).length = (rh_ks (rh_L R')).length + 1 ∧ (∀ y ∈ rh_ks (rh_L (hs f)), k ≤ y) ∧ gh_fr (dk_F P x fa ff hs) G G1)) 80 13100 (gh_A P) := by
  refine gh_met (plainFor_of_name (by decide)) (Nat.le_of_ble_eq_true rfl) ?_
  intro p e s m below meth c hx hb hr hlocks hml hown hin hts hE hG ls hl
  have hS : va_S (gh_A P) s.heap s.heap [] := va_S.rf
  have hl : lv_has ls 4 [(0, .ref x), (1, .int file)] := hl
  obtain ⟨d1, ⟨fv, d2, d2'⟩, ⟨gv, d3, d3'⟩, d4, d5, d6, d7, d8, d9, d10, d11⟩ := id d
  obtain ⟨ld, mn, mx, cm, cb, cp, mc, hh, hld, hmx, hs0, hI, hC, h64, hN⟩ := id (d4 f hf)
  refine lv_aload_n hx hb dX0_takeLeast_0 rfl (lv_at hl 0 rfl) ?_
  refine gh_get (C := RX0) (T := TX0) (N := 3) (v := .ref fa) hx hb hts in_X0 hown hE hG d1 rfl 0 (by decide) q220 (fun _ h9 => h9) rfl dX0_takeLeast_1 ?_
  refine lv_iload_n hx hb dX0_takeLeast_4 rfl (lv_at hl 1 rfl) ?_
  refine lv_iconst (v := 3) hx hb dX0_takeLeast_5 (by decide) ?_
  refine lv_iand hx hb dX0_takeLeast_6 ?_
  refine lv_topi (fun z_0 ez_0 => ?_)
  obtain rfl : z_0 = nI f := ez_0.trans hfe
  refine gh_aald 3 rfl hx hb hE hG d2 (vp_in_nI hf (by omega)) (x := (hs f).1) (by rw [nI_clamp (by omega)]; exact d2' f hf) dX0_takeLeast_7 ?_
  refine lv_astore_n (lv' := [(2, .ref (hs f).1), (0, .ref x), (1, .int file)]) hx hb dX0_takeLeast_8 rfl hl (by decide) rfl (fun ls hl => ?_)
  refine lv_aload_n hx hb dX0_takeLeast_9 rfl (lv_at hl 0 rfl) ?_
  refine gh_calli (va_runU (As := []) (rest := []) ⟨hx, hb, hml, hown, hts⟩ (c_rempty l P G _ _ ld mn mx _ cm cb cp hh (by omega)) (va_cwU (C := "IntegerRadixHeap") (owner := "AbstractRadixHeap") 0 hts (lw_app (lw_five q366 q367 q369 q370 q9) (lw_meth q371)) rfl rfl rfl rfl (by decide +kernel) ⟨Nat.le_of_ble_eq_true rfl, Nat.le_of_ble_eq_true rfl⟩) (gh_preV hE hG hS (gh_recv hE hG hh rfl)) rfl rfl hl.1 rfl (lv_room (Nat.le_of_ble_eq_true rfl)) dX0_takeLeast_10 ⟨Nat.le_of_ble_eq_true rfl, Nat.le_of_ble_eq_true rfl⟩) hS (fun r G_ H locs hw hG hS => ?_)
  rw [hw.1]
  replace hG := hw.2 ▸ hG
  by_cases hn0 : (rh_ks (rh_L (hs f))).length = 0
  · rw [if_pos hn0]
    refine lv_if_eq (tgt := 18) hx hb dX0_takeLeast_13 (by decide) (fun c_9 => absurd c_9 (by decide)) (fun _ => ?_)
    refine lv_iconst (v := (-1)) hx hb dX0_takeLeast_16 (by decide) ?_
    exact gh_iret hx hb hr hlocks rfl hG hS (Or.inl ⟨hn0, rfl, rfl⟩) (Nat.le_of_ble_eq_true rfl) (Nat.le_of_ble_eq_true rfl) dX0_takeLeast_17
  · rw [if_neg hn0]
    refine lv_if_eq (tgt := 18) hx hb dX0_takeLeast_13 (by decide) (fun _ => ?_) (fun c_9 => absurd (rfl) c_9)
    refine lv_aload_n hx hb dX0_takeLeast_18 rfl (lv_at hl 0 rfl) ?_
    refine gh_callr (va_runU (As := []) (rest := []) ⟨hx, hb, hml, hown, hts⟩ (c_deleteMin l P G (hs f) (lst f) (d4 f hf) (Nat.pos_of_ne_zero hn0)) (va_cwU (C := "IntegerRadixHeap") (owner := "AbstractRadixHeap") 0 hts (lw_app (lw_five q405 q406 q408 q409 q9) (lw_meth q410)) rfl rfl rfl rfl (by decide +kernel) ⟨Nat.le_of_ble_eq_true rfl, Nat.le_of_ble_eq_true rfl⟩) (gh_preV hE hG hS (gh_recv hE hG hh rfl)) rfl rfl hl.1 rfl (lv_room (Nat.le_of_ble_eq_true rfl)) dX0_takeLeast_19 ⟨Nat.le_of_ble_eq_true rfl, Nat.le_of_ble_eq_true rfl⟩) hS (fun y G1 H locs hw hG hS => ?_)
    obtain ⟨R', k, h1, hR', hbx, hcnt, hlen, hmin, hfr, hft⟩ := hw
    have e0 := d.set hf hfr hR' h1 hft (by have := d10 f hf; omega)
    obtain ⟨e1, -, ⟨gw, e3, -⟩, -, -, -, -, -, e9, -⟩ := id e0
    refine va_castS (nm := "java/lang/Integer") hx hb hown (hts _ q399) (gh_at (ci := 5) hE rfl) (gh_recv hE hG hbx rfl) dX0_takeLeast_22 ?_
    refine gh_calli (va_runV (As := []) (rest := []) ⟨hx, hb, hml, hown, hts⟩ (c_int_intValue l P G1 y (nI k) hbx) (cwV 0 hts (lw_V q400 q260 q261 q16 q262) rfl rfl rfl (by decide +kernel) ⟨Nat.le_of_ble_eq_true rfl, Nat.le_of_ble_eq_true rfl⟩) (gh_preV hE hG hS (gh_recv hE hG hbx rfl)) rfl rfl hl.1 rfl (lv_room (Nat.le_of_ble_eq_true rfl)) dX0_takeLeast_25 ⟨Nat.le_of_ble_eq_true rfl, Nat.le_of_ble_eq_true rfl⟩) hS (fun r G_ H locs hw hG hS => ?_)
    rw [hw.1]
    replace hG := hw.2 ▸ hG
    refine lv_istore_n (lv' := [(3, .int (nI k)), (2, .ref (hs f).1), (0, .ref x), (1, .int file)]) hx hb dX0_takeLeast_28 rfl hl (by decide) rfl (fun ls hl => ?_)
    refine lv_aload_n hx hb dX0_takeLeast_29 rfl (lv_at hl 2 rfl) ?_
    refine gh_get (C := RX0) (T := TX0) (N := 3) (v := .ref ff) hx hb hts in_X0 hown hE hG e1 rfl 1 (by decide) q221 (fun _ h9 => h9) rfl dX0_takeLeast_30 ?_
    refine lv_iload_n hx hb dX0_takeLeast_33 rfl (lv_at hl 3 rfl) ?_
    refine lv_iconst (v := 3) hx hb dX0_takeLeast_34 (by decide) ?_
    refine lv_iand hx hb dX0_takeLeast_35 ?_
    refine lv_topi (fun z_1 ez_1 => ?_)
    obtain rfl : z_1 = nI f := ez_1.trans hfe
    refine lv_iload_n hx hb dX0_takeLeast_36 rfl (lv_at hl 0 rfl) ?_
    refine gh_iast hx hb hE hG hS e9 e3 (vp_in_nI hf (by omega)) dX0_takeLeast_37 (fun H locs hG hS => ?_)
    rw [nI_clamp (by omega)] at hG
    refine lv_iload_n hx hb dX0_takeLeast_38 rfl (lv_at hl 0 rfl) ?_
    exact gh_iret hx hb hr hlocks rfl hG hS (Or.inr ⟨R', k, rfl, hR'.I.1, e0.fl e3, hcnt, hlen, hmin, fun a e ha hn => by rw [gh_up_n _ _ (fun z => hn (Or.inr (Or.inr (Or.inl z))))]; exact hfr a e ha (fun z => hn (Or.inr (Or.inr (Or.inr ⟨f, hf, z⟩))))⟩) (Nat.le_of_ble_eq_true rfl) (Nat.le_of_ble_eq_true rfl) dX0_takeLeast_39
set_option maxHeartbeats 4000000 in
/-- size -/
theorem c_dsize (l : Launch) (P : gh_P) (G : gh_G) (x fa ff puts : Nat) (hs : Nat → rh_R) (lst : Nat → Nat) (d : DK P G x fa ff hs lst lst puts) (file : Int32) (f : Nat) (hf : f < 4) (hfe : file &&& 3 = nI f) : Met l yX0_size (ws_ yX0_size cX0_size 2 (some .int)) ({ frames := 8, cells := 10, slots := 300, locals := 220 }) (gh_Pc P G [.ref x, .int file]) (gh_Qi P (fun r G1 => r = nI (rh_ks (rh_L (hs f))).length ∧ G1 = G)) 10 300 (gh_A P) := by
  refine gh_met (plainFor_of_name (by decide)) (Nat.le_of_ble_eq_true rfl) ?_
  intro p e s m below meth c hx hb hr hlocks hml hown hin hts hE hG ls hl
  have hS : va_S (gh_A P) s.heap s.heap [] := va_S.rf
  have hl : lv_has ls 2 [(0, .ref x), (1, .int file)] := hl
  obtain ⟨d1, ⟨fv, d2, d2'⟩, ⟨gv, d3, d3'⟩, d4, d5, d6, d7, d8, d9, d10, d11⟩ := id d
  obtain ⟨ld, mn, mx, cm, cb, cp, mc, hh, hld, hmx, hs0, hI, hC, h64, hN⟩ := id (d4 f hf)
  refine lv_aload_n hx hb dX0_size_0 rfl (lv_at hl 0 rfl) ?_
  refine gh_get (C := RX0) (T := TX0) (N := 3) (v := .ref fa) hx hb hts in_X0 hown hE hG d1 rfl 0 (by decide) q220 (fun _ h9 => h9) rfl dX0_size_1 ?_
  refine lv_iload_n hx hb dX0_size_4 rfl (lv_at hl 1 rfl) ?_
  refine lv_iconst (v := 3) hx hb dX0_size_5 (by decide) ?_
  refine lv_iand hx hb dX0_size_6 ?_
  refine lv_topi (fun z_0 ez_0 => ?_)
  obtain rfl : z_0 = nI f := ez_0.trans hfe
  refine gh_aald 3 rfl hx hb hE hG d2 (vp_in_nI hf (by omega)) (x := (hs f).1) (by rw [nI_clamp (by omega)]; exact d2' f hf) dX0_size_7 ?_
  refine gh_calll (va_runU (As := []) (rest := []) ⟨hx, hb, hml, hown, hts⟩ (c_rsize l P G _ _ ld mn mx _ cm cb cp hh) (va_cwU (C := "IntegerRadixHeap") (owner := "AbstractRadixHeap") 0 hts (lw_app (lw_five q508 q509 q511 q512 q9) (lw_meth q513)) rfl rfl rfl rfl (by decide +kernel) ⟨Nat.le_of_ble_eq_true rfl, Nat.le_of_ble_eq_true rfl⟩) (gh_preV hE hG hS (gh_recv hE hG hh rfl)) rfl rfl hl.1 rfl (lv_room (Nat.le_of_ble_eq_true rfl)) dX0_size_8 ⟨Nat.le_of_ble_eq_true rfl, Nat.le_of_ble_eq_true rfl⟩) hS (fun r G_ H locs hw hG hS => ?_)
  rw [hw.1]
  replace hG := hw.2 ▸ hG
  refine lv_l2i hx hb dX0_size_11 (lN_i _) ?_
  exact gh_iret hx hb hr hlocks rfl hG hS (⟨rfl, rfl⟩) (Nat.le_of_ble_eq_true rfl) (Nat.le_of_ble_eq_true rfl) dX0_size_12
set_option maxHeartbeats 4000000 in
/-- isEmpty -/
theorem c_dempty (l : Launch) (P : gh_P) (G : gh_G) (x fa ff puts : Nat) (hs : Nat → rh_R) (lst : Nat → Nat) (d : DK P G x fa ff hs lst lst puts) (file : Int32) (f : Nat) (hf : f < 4) (hfe : file &&& 3 = nI f) : Met l yX0_isEmpty (ws_ yX0_isEmpty cX0_isEmpty 2 (some .boolean)) ({ frames := 8, cells := 10, slots := 300, locals := 220 }) (gh_Pc P G [.ref x, .int file]) (gh_Qi P (fun r G1 => r = (if (rh_ks (rh_L (hs f))).length = 0 then 1 else 0) ∧ G1 = G)) 10 300 (gh_A P) := by
  refine gh_met (plainFor_of_name (by decide)) (Nat.le_of_ble_eq_true rfl) ?_
  intro p e s m below meth c hx hb hr hlocks hml hown hin hts hE hG ls hl
  have hS : va_S (gh_A P) s.heap s.heap [] := va_S.rf
  have hl : lv_has ls 2 [(0, .ref x), (1, .int file)] := hl
  obtain ⟨d1, ⟨fv, d2, d2'⟩, ⟨gv, d3, d3'⟩, d4, d5, d6, d7, d8, d9, d10, d11⟩ := id d
  obtain ⟨ld, mn, mx, cm, cb, cp, mc, hh, hld, hmx, hs0, hI, hC, h64, hN⟩ := id (d4 f hf)
  refine lv_aload_n hx hb dX0_isEmpty_0 rfl (lv_at hl 0 rfl) ?_
  refine gh_get (C := RX0) (T := TX0) (N := 3) (v := .ref fa) hx hb hts in_X0 hown hE hG d1 rfl 0 (by decide) q220 (fun _ h9 => h9) rfl dX0_isEmpty_1 ?_
  refine lv_iload_n hx hb dX0_isEmpty_4 rfl (lv_at hl 1 rfl) ?_
  refine lv_iconst (v := 3) hx hb dX0_isEmpty_5 (by decide) ?_
  refine lv_iand hx hb dX0_isEmpty_6 ?_
  refine lv_topi (fun z_0 ez_0 => ?_)
  obtain rfl : z_0 = nI f := ez_0.trans hfe
  refine gh_aald 3 rfl hx hb hE hG d2 (vp_in_nI hf (by omega)) (x := (hs f).1) (by rw [nI_clamp (by omega)]; exact d2' f hf) dX0_isEmpty_7 ?_
  refine gh_calli (va_runU (As := []) (rest := []) ⟨hx, hb, hml, hown, hts⟩ (c_rempty l P G _ _ ld mn mx _ cm cb cp hh (by omega)) (va_cwU (C := "IntegerRadixHeap") (owner := "AbstractRadixHeap") 0 hts (lw_app (lw_five q366 q367 q369 q370 q9) (lw_meth q371)) rfl rfl rfl rfl (by decide +kernel) ⟨Nat.le_of_ble_eq_true rfl, Nat.le_of_ble_eq_true rfl⟩) (gh_preV hE hG hS (gh_recv hE hG hh rfl)) rfl rfl hl.1 rfl (lv_room (Nat.le_of_ble_eq_true rfl)) dX0_isEmpty_8 ⟨Nat.le_of_ble_eq_true rfl, Nat.le_of_ble_eq_true rfl⟩) hS (fun r G_ H locs hw hG hS => ?_)
  rw [hw.1]
  replace hG := hw.2 ▸ hG
  by_cases hn0 : (rh_ks (rh_L (hs f))).length = 0
  · rw [if_pos hn0]
    exact gh_iret hx hb hr hlocks rfl hG hS (⟨rfl, rfl⟩) (Nat.le_of_ble_eq_true rfl) (Nat.le_of_ble_eq_true rfl) dX0_isEmpty_11
  · rw [if_neg hn0]
    exact gh_iret hx hb hr hlocks rfl hG hS (⟨rfl, rfl⟩) (Nat.le_of_ble_eq_true rfl) (Nat.le_of_ble_eq_true rfl) dX0_isEmpty_11
set_option maxHeartbeats 4000000 in
/-- renew -/
theorem c_drenew (l : Launch) (P : gh_P) (G : gh_G) (x fa ff puts : Nat) (hs : Nat → rh_R) (lst : Nat → Nat) (d : DK P G x fa ff hs lst lst puts) (file : Int32) (f : Nat) (hf : f < 4) (hfe : file &&& 3 = nI f) : Met l yX0_renew (ws_ yX0_renew cX0_renew 2 none) ({ frames := 8, cells := 40, slots := 300, locals := 220 }) (gh_Pc P G [.ref x, .int file]) (gh_Qv P (fun G1 => ∃ R' : rh_R, (rh_ks (rh_L R')).length = 0 ∧ DK P G1 x fa ff (va_up hs f R') (va_up lst f 0) (va_up lst f 0) puts ∧ gh_fr (dk_F P x fa ff hs) G G1)) 40 300 (gh_A P) := by
  refine gh_met (plainFor_of_name (by decide)) (Nat.le_of_ble_eq_true rfl) ?_
  intro p e s m below meth c hx hb hr hlocks hml hown hin hts hE hG ls hl
  have hS : va_S (gh_A P) s.heap s.heap [] := va_S.rf
  have hl : lv_has ls 2 [(0, .ref x), (1, .int file)] := hl
  obtain ⟨d1, ⟨fv, d2, d2'⟩, ⟨gv, d3, d3'⟩, d4, d5, d6, d7, d8, d9, d10, d11⟩ := id d
  refine lv_aload_n hx hb dX0_renew_0 rfl (lv_at hl 0 rfl) ?_
  refine gh_get (C := RX0) (T := TX0) (N := 3) (v := .ref fa) hx hb hts in_X0 hown hE hG d1 rfl 0 (by decide) q220 (fun _ h9 => h9) rfl dX0_renew_1 ?_
  refine lv_iload_n hx hb dX0_renew_4 rfl (lv_at hl 1 rfl) ?_
  refine lv_iconst (v := 3) hx hb dX0_renew_5 (by decide) ?_
  refine lv_iand hx hb dX0_renew_6 ?_
  refine lv_topi (fun z_0 ez_0 => ?_)
  obtain rfl : z_0 = nI f := ez_0.trans hfe
  refine gh_callr (va_runS (As := []) (rest := [.int (nI f), .ref fa]) ⟨hx, hb, hml, hown, hts⟩ (c_fresh l P G) (va_cwS 0 hts (lw_S q45 q46 q8 q47) rfl rfl rfl (by decide +kernel) ⟨Nat.le_of_ble_eq_true rfl, Nat.le_of_ble_eq_true rfl⟩) (gh_preS hE hG hS) rfl rfl hl.1 rfl (lv_room (Nat.le_of_ble_eq_true rfl)) dX0_renew_7 ⟨Nat.le_of_ble_eq_true rfl, Nat.le_of_ble_eq_true rfl⟩) hS (fun y G1 H locs hw hG hS => ?_)
  obtain ⟨R', rfl, r2, r3, r4, r5⟩ := hw
  obtain ⟨fs9, hh9⟩ := r2.cell
  refine gh_aast 3 rfl hx hb hE hG hS d8 (r4 _ _ d2) (gh_any hE hG hh9 rfl vb_asgS) (vp_in_nI hf (by omega)) dX0_renew_10 (fun H locs hG hS => ?_)
  rw [nI_clamp (by omega)] at hG
  have e0 := d.new hf r4 r2 r3 r5 d2
  obtain ⟨G2, hG2⟩ : ∃ z, z = gh_up G1 fa (gh_q (gh_cH P) 4 (va_up fv f (some R'.1))) := ⟨_, rfl⟩
  rw [← hG2] at hG e0
  obtain ⟨e1, -, ⟨gw, e3, -⟩, -, -, -, -, -, e9, -⟩ := id e0
  refine lv_aload_n hx hb dX0_renew_11 rfl (lv_at hl 0 rfl) ?_
  refine gh_get (C := RX0) (T := TX0) (N := 3) (v := .ref ff) hx hb hts in_X0 hown hE hG e1 rfl 1 (by decide) q221 (fun _ h9 => h9) rfl dX0_renew_12 ?_
  refine lv_iload_n hx hb dX0_renew_15 rfl (lv_at hl 1 rfl) ?_
  refine lv_iconst (v := 3) hx hb dX0_renew_16 (by decide) ?_
  refine lv_iand hx hb dX0_renew_17 ?_
  refine lv_topi (fun z_1 ez_1 => ?_)
  obtain rfl : z_1 = nI f := ez_1.trans hfe
  refine lv_iconst (v := 0) hx hb dX0_renew_18 (by decide) ?_
  refine gh_iast hx hb hE hG hS e9 e3 (vp_in_nI hf (by omega)) dX0_renew_19 (fun H locs hG hS => ?_)
  rw [nI_clamp (by omega)] at hG
  exact gh_vret hx hb hr hlocks hG hS (⟨R', ks_nil r3, e0.fl (k := 0) e3, fun a e ha hn => by rw [gh_up_n _ _ (fun z => hn (Or.inr (Or.inr (Or.inl z)))), hG2, gh_up_n _ _ (fun z => hn (Or.inr (Or.inl z)))]; exact r4 a e ha⟩) (Nat.le_of_ble_eq_true rfl) (Nat.le_of_ble_eq_true rfl) dX0_renew_20
end
section
/-! The model's cells and counts, in plain Lean -/
set_option maxRecDepth 100000
def cn_ (p : Nat → Bool) : Nat → Nat
  | 0 => 0
  | n + 1 => cn_ p n + if p n then 1 else 0
theorem cn_ext {p q : Nat → Bool} {n : Nat} (h : ∀ i, i < n → p i = q i) : cn_ p n = cn_ q n := by
  induction n with
  | zero => rfl
  | succ n ih => rw [cn_, cn_, ih (fun i hi => h i (by omega)), h n (by omega)]
theorem cn_off {p q : Nat → Bool} {n i0 : Nat} (h0 : i0 < n) (hp : p i0 = true) (hq : q i0 = false) (h : ∀ i, i ≠ i0 → q i = p i) : cn_ p n = cn_ q n + 1 := by
  induction n with
  | zero => exact absurd h0 (Nat.not_lt_zero _)
  | succ n ih =>
    rw [cn_, cn_]
    by_cases z : i0 = n
    · subst z
      rw [hp, hq, cn_ext (p := p) (q := q) (fun i hi => (h i (by omega)).symm)]
      rfl
    · rw [ih (by omega), h n (fun w => z w.symm)]
      omega
theorem cn_pos {p : Nat → Bool} {n i : Nat} (hi : i < n) (h : p i = true) : 0 < cn_ p n := by
  induction n with
  | zero => exact absurd hi (Nat.not_lt_zero _)
  | succ n ih =>
    rw [cn_]
    by_cases z : i = n
    · subst z
      rw [h]
      simp
    · have := ih (by omega)
      omega
theorem cn_zero {p : Nat → Bool} {n : Nat} (h : ∀ i, i < n → p i = false) : cn_ p n = 0 := by
  induction n with
  | zero => rfl
  | succ n ih => rw [cn_, ih (fun i hi => h i (by omega)), h n (by omega)]; rfl
theorem cn_ex {p : Nat → Bool} {n : Nat} (h : 0 < cn_ p n) : ∃ i, i < n ∧ p i = true := Classical.byContradiction (fun z => by
  rw [cn_zero (fun i hi => Bool.eq_false_iff.mpr (fun w => z ⟨i, hi, w⟩))] at h
  omega)
theorem cn_le (p : Nat → Bool) (n : Nat) : cn_ p n ≤ n := by
  induction n with
  | zero => exact Nat.le_refl _
  | succ n ih =>
    rw [cn_]
    split <;> omega
/-- how often file f holds the key x; how many it holds -/
def mp_ (K Hm : Nat → Nat) (f x : Nat) : Nat → Bool := fun i => decide (Hm i = 1 + f ∧ K i = x)
def mh_ (Hm : Nat → Nat) (f : Nat) : Nat → Bool := fun i => decide (Hm i = 1 + f)
/-- the model: object y, arrays ka, ha, ta -/
def MD (P : gh_P) (G : gh_G) (y ka ha ta : Nat) (K Hm T : Nat → Nat) (puts : Nat) : Prop :=
  G y = some (gh_o 2 [.ref ka, .ref ha, .ref ta, .int (nI puts)]) ∧
  (∃ g, G ka = some (gh_i (gh_cI P) 64 g) ∧ ∀ i, i < 64 → g i = nI (K i)) ∧
  (∃ g, G ha = some (gh_i (gh_cI P) 64 g) ∧ ∀ i, i < 64 → g i = nI (Hm i)) ∧
  (∃ g, G ta = some (gh_i (gh_cI P) 4 g) ∧ ∀ r, r < 4 → g r = nI (T r)) ∧
  (∀ i, i < 64 → K i < 1048576) ∧ (∀ i, i < 64 → Hm i ≤ 4) ∧ (∀ r, r < 4 → T r < 1048576) ∧ ka ≠ ha ∧ gh_N P ≤ y ∧ gh_N P ≤ ka ∧ gh_N P ≤ ha ∧ gh_N P ≤ ta ∧ puts ≤ 64
def md_F (y ka ha ta : Nat) : Nat → Prop := fun a => a = y ∨ a = ka ∨ a = ha ∨ a = ta
theorem MD.keep {P : gh_P} {G G1 : gh_G} {y ka ha ta puts : Nat} {K Hm T : Nat → Nat} {F : Nat → Prop} (d : MD P G y ka ha ta K Hm T puts) (hf : gh_fr F G G1) (hd : ∀ a, md_F y ka ha ta a → ¬ F a) : MD P G1 y ka ha ta K Hm T puts := by
  obtain ⟨d1, ⟨g1, d2, d2'⟩, ⟨g2, d3, d3'⟩, ⟨g3, d4, d4'⟩, d5⟩ := d
  exact ⟨hf _ _ d1 (hd _ (Or.inl rfl)), ⟨g1, hf _ _ d2 (hd _ (Or.inr (Or.inl rfl))), d2'⟩, ⟨g2, hf _ _ d3 (hd _ (Or.inr (Or.inr (Or.inl rfl)))), d3'⟩, ⟨g3, hf _ _ d4 (hd _ (Or.inr (Or.inr (Or.inr rfl)))), d4'⟩, d5⟩
theorem nI_i64 {P : gh_P} {g g' : Nat → Int32} : gh_i (gh_cI P) 64 g ≠ gh_i (gh_cI P) 4 g' := fun z => by
  have z2 := congrArg (fun e : va_E => match e with | .inl q => q.2.1 | .inr _ => 0) z
  have z3 : (64 : Nat) = 4 := z2
  exact absurd z3 (by decide)
theorem MD.home {P : gh_P} {G : gh_G} {y ka ha ta puts i0 v : Nat} {K Hm T : Nat → Nat} {g : Nat → Int32} (d : MD P G y ka ha ta K Hm T puts) (hh : G ha = some (gh_i (gh_cI P) 64 g)) (hv : v ≤ 4) : MD P (gh_up G ha (gh_i (gh_cI P) 64 (upd g i0 (nI v)))) y ka ha ta K (va_up Hm i0 v) T puts := by
  obtain ⟨d1, ⟨g1, d2, d2'⟩, ⟨g2, d3, d3'⟩, ⟨g3, d4, d4'⟩, d5, d6, d7, d8, d9⟩ := d
  rw [hh] at d3
  cases d3
  refine ⟨by rw [gh_up_n _ _ (gh_ne d1 hh (by simp))]; exact d1, ⟨g1, by rw [gh_up_n _ _ d8]; exact d2, d2'⟩, ⟨_, gh_up_s _ _ _, fun i hi => ?_⟩, ⟨g3, by rw [gh_up_n _ _ (gh_ne d4 hh (Ne.symm nI_i64))]; exact d4, d4'⟩, d5, fun i hi => ?_, d7, d8, d9⟩
  · by_cases z : i = i0
    · rw [z, pk_us, va_up_self]
    · rw [pk_un z, va_up_ne _ _ z]
      exact d3' i hi
  · by_cases z : i = i0
    · rw [z, va_up_self]
      exact hv
    · rw [va_up_ne _ _ z]
      exact d6 i hi
theorem MD.key {P : gh_P} {G : gh_G} {y ka ha ta puts i0 v : Nat} {K Hm T : Nat → Nat} {g : Nat → Int32} (d : MD P G y ka ha ta K Hm T puts) (hh : G ka = some (gh_i (gh_cI P) 64 g)) (hv : v < 1048576) : MD P (gh_up G ka (gh_i (gh_cI P) 64 (upd g i0 (nI v)))) y ka ha ta (va_up K i0 v) Hm T puts := by
  obtain ⟨d1, ⟨g1, d2, d2'⟩, ⟨g2, d3, d3'⟩, ⟨g3, d4, d4'⟩, d5, d6, d7, d8, d9⟩ := d
  rw [hh] at d2
  cases d2
  refine ⟨by rw [gh_up_n _ _ (gh_ne d1 hh (by simp))]; exact d1, ⟨_, gh_up_s _ _ _, fun i hi => ?_⟩, ⟨g2, by rw [gh_up_n _ _ (Ne.symm d8)]; exact d3, d3'⟩, ⟨g3, by rw [gh_up_n _ _ (gh_ne d4 hh (Ne.symm nI_i64))]; exact d4, d4'⟩, fun i hi => ?_, d6, d7, d8, d9⟩
  · by_cases z : i = i0
    · rw [z, pk_us, va_up_self]
    · rw [pk_un z, va_up_ne _ _ z]
      exact d2' i hi
  · by_cases z : i = i0
    · rw [z, va_up_self]
      exact hv
    · rw [va_up_ne _ _ z]
      exact d5 i hi
theorem MD.floor {P : gh_P} {G : gh_G} {y ka ha ta puts i0 v : Nat} {K Hm T : Nat → Nat} {g : Nat → Int32} (d : MD P G y ka ha ta K Hm T puts) (hh : G ta = some (gh_i (gh_cI P) 4 g)) (hv : v < 1048576) : MD P (gh_up G ta (gh_i (gh_cI P) 4 (upd g i0 (nI v)))) y ka ha ta K Hm (va_up T i0 v) puts := by
  obtain ⟨d1, ⟨g1, d2, d2'⟩, ⟨g2, d3, d3'⟩, ⟨g3, d4, d4'⟩, d5, d6, d7, d8, d9⟩ := d
  rw [hh] at d4
  cases d4
  refine ⟨by rw [gh_up_n _ _ (gh_ne d1 hh (by simp))]; exact d1, ⟨g1, by rw [gh_up_n _ _ (gh_ne d2 hh nI_i64)]; exact d2, d2'⟩, ⟨g2, by rw [gh_up_n _ _ (gh_ne d3 hh nI_i64)]; exact d3, d3'⟩, ⟨_, gh_up_s _ _ _, fun i hi => ?_⟩, d5, d6, fun i hi => ?_, d8, d9⟩
  · by_cases z : i = i0
    · rw [z, pk_us, va_up_self]
    · rw [pk_un z, va_up_ne _ _ z]
      exact d4' i hi
  · by_cases z : i = i0
    · rw [z, va_up_self]
      exact hv
    · rw [va_up_ne _ _ z]
      exact d7 i hi
theorem MD.up {P : gh_P} {G : gh_G} {y ka ha ta puts : Nat} {K Hm T : Nat → Nat} (d : MD P G y ka ha ta K Hm T puts) (h : puts < 64) : MD P (gh_up G y (gh_o 2 [.ref ka, .ref ha, .ref ta, .int (nI (puts + 1))])) y ka ha ta K Hm T (puts + 1) := by
  obtain ⟨d1, ⟨g1, d2, d2'⟩, ⟨g2, d3, d3'⟩, ⟨g3, d4, d4'⟩, d5, d6, d7, d8, d9, d10, d11, d12, d13⟩ := d
  exact ⟨gh_up_s _ _ _, ⟨g1, by rw [gh_up_n _ _ (gh_ne d2 d1 (by simp))]; exact d2, d2'⟩, ⟨g2, by rw [gh_up_n _ _ (gh_ne d3 d1 (by simp))]; exact d3, d3'⟩, ⟨g3, by rw [gh_up_n _ _ (gh_ne d4 d1 (by simp))]; exact d4, d4'⟩, d5, d6, d7, d8, d9, d10, d11, d12, by omega⟩
/-- the search for the least: i places read -/
def fs_ (K Hm : Nat → Nat) (f i : Nat) (v : Int32) : Prop := (v = -1 ∧ ∀ j, j < i → Hm j ≠ 1 + f) ∨ ∃ i0, i0 < i ∧ v = nI i0 ∧ Hm i0 = 1 + f ∧ ∀ j, j < i → Hm j = 1 + f → K i0 ≤ K j
theorem fs_skip {K Hm : Nat → Nat} {f i : Nat} {v : Int32} (h : fs_ K Hm f i v) (hn : Hm i ≠ 1 + f) : fs_ K Hm f (i + 1) v := by
  rcases h with ⟨h1, h2⟩ | ⟨i0, h1, h2, h3, h4⟩
  · exact Or.inl ⟨h1, fun j hj => by
      by_cases z : j = i
      · rw [z]; exact hn
      · exact h2 j (by omega)⟩
  · exact Or.inr ⟨i0, by omega, h2, h3, fun j hj hjf => by
      by_cases z : j = i
      · rw [z] at hjf; exact absurd hjf hn
      · exact h4 j (by omega) hjf⟩
theorem fs_keep {K Hm : Nat → Nat} {f i i0 : Nat} (h1 : i0 < i) (h3 : Hm i0 = 1 + f) (h4 : ∀ j, j < i → Hm j = 1 + f → K i0 ≤ K j) (hle : K i0 ≤ K i) : fs_ K Hm f (i + 1) (nI i0) := Or.inr ⟨i0, by omega, rfl, h3, fun j hj hjf => by
  by_cases z : j = i
  · rw [z]; exact hle
  · exact h4 j (by omega) hjf⟩
theorem fs_new {K Hm : Nat → Nat} {f i : Nat} (h3 : Hm i = 1 + f) (h4 : ∀ j, j < i → Hm j = 1 + f → K i ≤ K j) : fs_ K Hm f (i + 1) (nI i) := Or.inr ⟨i, by omega, rfl, h3, fun j hj hjf => by
  by_cases z : j = i
  · rw [z]; exact Nat.le_refl _
  · exact h4 j (by omega) hjf⟩
end
section
/-! The model's methods -/
set_option maxRecDepth 100000
set_option maxHeartbeats 4000000 in
/-- the model's constructor -/
theorem c_minit (l : Launch) (P : gh_P) (G : gh_G) (y : Nat) (hh : G y = some (gh_o 2 [.null, .null, .null, .int 0])) (hN : gh_N P ≤ y) : Met l yX3_init (ws_ yX3_init cX3_init 1 none) ({ frames := 2, cells := 10, slots := 200, locals := 50 }) (gh_Pc P G [.ref y]) (gh_Qv P (fun G1 => ∃ ka ha ta : Nat, MD P G1 y ka ha ta (fun _ => 0) (fun _ => 0) (fun _ => 0) 0 ∧ gh_fr (fun a => a = y) G G1 ∧ G ka = none ∧ G ha = none ∧ G ta = none)) 10 200 (gh_A P) := by
  refine gh_met (plainFor_of_name (by decide)) (Nat.le_of_ble_eq_true rfl) ?_
  intro p e s m below meth c hx hb hr hlocks hml hown hin hts hE hG ls hl
  have hS : va_S (gh_A P) s.heap s.heap [] := va_S.rf
  have hl : lv_has ls 1 [(0, .ref y)] := hl
  refine lv_aload_n hx hb dX3_init_0 rfl (lv_at hl 0 rfl) ?_
  refine W.objInit hx hb hown (hts _ q527) (hts _ q38) (hts _ q39) rfl (by rw [hml]; exact hl.1) rfl dX3_init_1 (Nat.le_of_ble_eq_true rfl) (Nat.le_of_ble_eq_true rfl) ?_
  refine W.eq (g2 := F0 m 4 ls []) rfl ?_
  refine lv_aload_n hx hb dX3_init_4 rfl (lv_at hl 0 rfl) ?_
  refine lv_bipush (v := 64) hx hb dX3_init_5 (by decide) ?_
  refine gh_newi hx hb hts hE hG hS (by decide) (N' := 64) (by decide) (by decide) (Nat.le_of_ble_eq_true rfl) (Nat.le_of_ble_eq_true rfl) dX3_init_7 (fun ka H hN_ka hf_ka hG hS => ?_)
  obtain ⟨G1, hG1⟩ : ∃ z, z = gh_up G ka (gh_i (gh_cI P) 64 (fun _ => 0)) := ⟨_, rfl⟩
  rw [← hG1] at hG
  have hh1 : G1 y = some (gh_o 2 [.null, .null, .null, .int 0]) := by rw [hG1, gh_up_n _ _ (gh_nf hh hf_ka)]; exact hh
  refine gh_putF (C := RX3) (T := TX3) (N := 4) (v := .ref ka) hx hb hts in_X3 tyX3 tyX3_ok nmX3 hown hE hG hS hN hh1 rfl 0 (by decide) q528 (fun _ h9 => h9) rfl hin rfl rfl rfl (Nat.le_of_ble_eq_true rfl) dX3_init_9 (fun H locs hG hS => ?_)
  have hG : gh_H P (gh_up G1 y (gh_o 2 [.ref ka, .null, .null, .int 0])) H := hG
  obtain ⟨G2, hG2⟩ : ∃ g, g = gh_up G1 y (gh_o 2 [.ref ka, .null, .null, .int 0]) := ⟨_, rfl⟩
  rw [← hG2] at hG
  have hh2 : G2 y = some (gh_o 2 [.ref ka, .null, .null, .int 0]) := by rw [hG2, gh_up_s]
  have hne_ka : ka ≠ y := fun z => by rw [z, hh] at hf_ka; cases hf_ka
  have hst2 : ∀ a e, G a = some e → a ≠ y → G2 a = some e := fun a e ha hn => by rw [hG2, gh_up_n _ _ hn, hG1, gh_up_n _ _ (gh_nf ha hf_ka)]; exact ha
  have ha_ka : G2 ka = some (gh_i (gh_cI P) 64 (fun _ => 0)) := by rw [hG2, gh_up_n _ _ hne_ka, hG1, gh_up_s]
  refine lv_aload_n hx hb dX3_init_12 rfl (lv_at hl 0 rfl) ?_
  refine lv_bipush (v := 64) hx hb dX3_init_13 (by decide) ?_
  refine gh_newi hx hb hts hE hG hS (by decide) (N' := 64) (by decide) (by decide) (Nat.le_of_ble_eq_true rfl) (Nat.le_of_ble_eq_true rfl) dX3_init_15 (fun ha H hN_ha hf_ha hG hS => ?_)
  obtain ⟨G3, hG3⟩ : ∃ z, z = gh_up G2 ha (gh_i (gh_cI P) 64 (fun _ => 0)) := ⟨_, rfl⟩
  rw [← hG3] at hG
  have hh3 : G3 y = some (gh_o 2 [.ref ka, .null, .null, .int 0]) := by rw [hG3, gh_up_n _ _ (gh_nf hh2 hf_ha)]; exact hh2
  refine gh_putF (C := RX3) (T := TX3) (N := 4) (v := .ref ha) hx hb hts in_X3 tyX3 tyX3_ok nmX3 hown hE hG hS hN hh3 rfl 1 (by decide) q529 (fun _ h9 => h9) rfl hin rfl rfl rfl (Nat.le_of_ble_eq_true rfl) dX3_init_17 (fun H locs hG hS => ?_)
  have hG : gh_H P (gh_up G3 y (gh_o 2 [.ref ka, .ref ha, .null, .int 0])) H := hG
  obtain ⟨G4, hG4⟩ : ∃ g, g = gh_up G3 y (gh_o 2 [.ref ka, .ref ha, .null, .int 0]) := ⟨_, rfl⟩
  rw [← hG4] at hG
  have hh4 : G4 y = some (gh_o 2 [.ref ka, .ref ha, .null, .int 0]) := by rw [hG4, gh_up_s]
  have hne_ha : ha ≠ y := fun z => by rw [z, hh2] at hf_ha; cases hf_ha
  have hst4 : ∀ a e, G2 a = some e → a ≠ y → G4 a = some e := fun a e ha hn => by rw [hG4, gh_up_n _ _ hn, hG3, gh_up_n _ _ (gh_nf ha hf_ha)]; exact ha
  have ha_ha : G4 ha = some (gh_i (gh_cI P) 64 (fun _ => 0)) := by rw [hG4, gh_up_n _ _ hne_ha, hG3, gh_up_s]
  refine lv_aload_n hx hb dX3_init_20 rfl (lv_at hl 0 rfl) ?_
  refine lv_iconst (v := 4) hx hb dX3_init_21 (by decide) ?_
  refine gh_newi hx hb hts hE hG hS (by decide) (N' := 4) (by decide) (by decide) (Nat.le_of_ble_eq_true rfl) (Nat.le_of_ble_eq_true rfl) dX3_init_22 (fun ta H hN_ta hf_ta hG hS => ?_)
  obtain ⟨G5, hG5⟩ : ∃ z, z = gh_up G4 ta (gh_i (gh_cI P) 4 (fun _ => 0)) := ⟨_, rfl⟩
  rw [← hG5] at hG
  have hh5 : G5 y = some (gh_o 2 [.ref ka, .ref ha, .null, .int 0]) := by rw [hG5, gh_up_n _ _ (gh_nf hh4 hf_ta)]; exact hh4
  refine gh_putF (C := RX3) (T := TX3) (N := 4) (v := .ref ta) hx hb hts in_X3 tyX3 tyX3_ok nmX3 hown hE hG hS hN hh5 rfl 2 (by decide) q530 (fun _ h9 => h9) rfl hin rfl rfl rfl (Nat.le_of_ble_eq_true rfl) dX3_init_24 (fun H locs hG hS => ?_)
  have hG : gh_H P (gh_up G5 y (gh_o 2 [.ref ka, .ref ha, .ref ta, .int (nI 0)])) H := hG
  obtain ⟨G6, hG6⟩ : ∃ g, g = gh_up G5 y (gh_o 2 [.ref ka, .ref ha, .ref ta, .int (nI 0)]) := ⟨_, rfl⟩
  rw [← hG6] at hG
  have hh6 : G6 y = some (gh_o 2 [.ref ka, .ref ha, .ref ta, .int (nI 0)]) := by rw [hG6, gh_up_s]
  have hne_ta : ta ≠ y := fun z => by rw [z, hh4] at hf_ta; cases hf_ta
  have hst6 : ∀ a e, G4 a = some e → a ≠ y → G6 a = some e := fun a e ha hn => by rw [hG6, gh_up_n _ _ hn, hG5, gh_up_n _ _ (gh_nf ha hf_ta)]; exact ha
  have ha_ta : G6 ta = some (gh_i (gh_cI P) 4 (fun _ => 0)) := by rw [hG6, gh_up_n _ _ hne_ta, hG5, gh_up_s]
  have hst4' : ∀ a e, G a = some e → a ≠ y → G4 a = some e := fun a e ha hn => hst4 a e (hst2 a e ha hn) hn
  have hka6 := hst6 _ _ (hst4 _ _ ha_ka hne_ka) hne_ka
  have hha6 := hst6 _ _ ha_ha hne_ha
  have hkh : ka ≠ ha := gh_nf ha_ka hf_ha
  have hfh : G ha = none := by
    cases q : G ha with
    | none => rfl
    | some e =>
      have := hst2 _ _ q hne_ha
      rw [hf_ha] at this
      cases this
  have hft : G ta = none := by
    cases q : G ta with
    | none => rfl
    | some e =>
      have := hst4' _ _ q hne_ta
      rw [hf_ta] at this
      cases this
  exact gh_vret hx hb hr hlocks hG hS (⟨ka, ha, ta, ⟨hh6, ⟨_, hka6, fun _ _ => rfl⟩, ⟨_, hha6, fun _ _ => rfl⟩, ⟨_, ha_ta, fun _ _ => rfl⟩, fun _ _ => Nat.le_of_ble_eq_true rfl, fun _ _ => Nat.le_of_ble_eq_true rfl, fun _ _ => Nat.le_of_ble_eq_true rfl, hkh, hN, hN_ka, hN_ha, hN_ta, by omega⟩, fun a e ha hn => hst6 a e (hst4' a e ha hn) hn, hf_ka, hfh, hft⟩) (Nat.le_of_ble_eq_true rfl) (Nat.le_of_ble_eq_true rfl) dX3_init_27
set_option maxHeartbeats 4000000 in
/-- lay -/
theorem c_mlay (l : Launch) (P : gh_P) (G : gh_G) (y ka ha ta puts : Nat) (K Hm T : Nat → Nat) (d : MD P G y ka ha ta K Hm T puts) (file : Int32) (f : Nat) (hf : f < 4) (hfe : file &&& 3 = nI f) (k : Nat) (hk : k < 2147483648) : Met l yX3_lay (ws_ yX3_lay cX3_lay 3 (some .boolean)) ({ frames := 1, cells := 1, slots := 1, locals := 50 }) (gh_Pc P G [.ref y, .int file, .int (nI k)]) (gh_Qi P (fun r G1 => ((puts < 64 ∧ T f ≤ k ∧ k < 1048576) ∧ r = 1 ∧ MD P G1 y ka ha ta (va_up K puts k) (va_up Hm puts (1 + f)) T (puts + 1) ∧ gh_fr (md_F y ka ha ta) G G1) ∨ (¬ (puts < 64 ∧ T f ≤ k ∧ k < 1048576) ∧ r = 0 ∧ G1 = G))) 1 1 (gh_A P) := by
  refine gh_met (plainFor_of_name (by decide)) (Nat.le_of_ble_eq_true rfl) ?_
  intro p e s m below meth c hx hb hr hlocks hml hown hin hts hE hG ls hl
  have hS : va_S (gh_A P) s.heap s.heap [] := va_S.rf
  have hl : lv_has ls 3 [(0, .ref y), (1, .int file), (2, .int (nI k))] := hl
  obtain ⟨d1, ⟨g1, d2, d2'⟩, ⟨g2, d3, d3'⟩, ⟨g3, d4, d4'⟩, d5, d6, d7, d8, d9, d10, d11, d12, d13⟩ := id d
  refine lv_aload_n hx hb dX3_lay_0 rfl (lv_at hl 0 rfl) ?_
  refine gh_get (C := RX3) (T := TX3) (N := 4) (v := .int (nI puts)) hx hb hts in_X3 hown hE hG d1 rfl 3 (by decide) q531 (fun _ h9 => h9) rfl dX3_lay_1 ?_
  refine lv_bipush (v := 64) hx hb dX3_lay_4 (by decide) ?_
  refine lv_icmp_eq (tgt := 27) hx hb dX3_lay_6 (by decide) (fun c_1 => ?_) (fun c_1 => ?_)
  · refine lv_iconst (v := 0) hx hb dX3_lay_27 (by decide) ?_
    exact gh_iret hx hb hr hlocks rfl hG hS (Or.inr ⟨fun z => absurd ((nI_eq (a := puts) (b := 64) (by omega) (by omega)).mp c_1) (by omega), rfl, rfl⟩) (Nat.le_of_ble_eq_true rfl) (Nat.le_of_ble_eq_true rfl) dX3_lay_28
  · have hlt : puts < 64 := by have z : puts ≠ 64 := fun z => c_1 (by rw [z]; rfl); omega
    refine lv_iload_n hx hb dX3_lay_9 rfl (lv_at hl 2 rfl) ?_
    refine lv_aload_n hx hb dX3_lay_10 rfl (lv_at hl 0 rfl) ?_
    refine gh_get (C := RX3) (T := TX3) (N := 4) (v := .ref ta) hx hb hts in_X3 hown hE hG d1 rfl 2 (by decide) q530 (fun _ h9 => h9) rfl dX3_lay_11 ?_
    refine lv_iload_n hx hb dX3_lay_14 rfl (lv_at hl 1 rfl) ?_
    refine lv_iconst (v := 3) hx hb dX3_lay_15 (by decide) ?_
    refine lv_iand hx hb dX3_lay_16 ?_
    refine lv_topi (fun z_0 ez_0 => ?_)
    obtain rfl : z_0 = nI f := ez_0.trans hfe
    refine gh_iald hx hb hE hG d4 (vp_in_nI hf (by omega)) dX3_lay_17 ?_
    rw [nI_clamp (by omega), d4' f hf]
    have hT := d7 f hf
    refine lv_icmp_lt (tgt := 27) hx hb dX3_lay_18 (by decide) (fun c_2 => ?_) (fun c_2 => ?_)
    · refine lv_iconst (v := 0) hx hb dX3_lay_27 (by decide) ?_
      exact gh_iret hx hb hr hlocks rfl hG hS (Or.inr ⟨fun z => absurd ((nI_ltI (by omega) (by omega)).mp c_2) (by omega), rfl, rfl⟩) (Nat.le_of_ble_eq_true rfl) (Nat.le_of_ble_eq_true rfl) dX3_lay_28
    · have hle : T f ≤ k := Nat.le_of_not_lt (fun z => c_2 (nI_lt z (by omega)))
      refine lv_iload_n hx hb dX3_lay_21 rfl (lv_at hl 2 rfl) ?_
      refine lv_ldc (v := 1048576) hx hb hown (hts _ q550) dX3_lay_22 ?_
      refine lv_icmp_lt (tgt := 29) hx hb dX3_lay_24 (by decide) (fun c_3 => ?_) (fun c_3 => ?_)
      · have hk2 : k < 1048576 := (nI_ltI (a := k) (b := 1048576) (by omega) (by omega)).mp c_3
        refine lv_aload_n hx hb dX3_lay_29 rfl (lv_at hl 0 rfl) ?_
        refine gh_get (C := RX3) (T := TX3) (N := 4) (v := .ref ka) hx hb hts in_X3 hown hE hG d1 rfl 0 (by decide) q528 (fun _ h9 => h9) rfl dX3_lay_30 ?_
        refine lv_aload_n hx hb dX3_lay_33 rfl (lv_at hl 0 rfl) ?_
        refine gh_get (C := RX3) (T := TX3) (N := 4) (v := .int (nI puts)) hx hb hts in_X3 hown hE hG d1 rfl 3 (by decide) q531 (fun _ h9 => h9) rfl dX3_lay_34 ?_
        refine lv_iload_n hx hb dX3_lay_37 rfl (lv_at hl 2 rfl) ?_
        refine gh_iast hx hb hE hG hS d10 d2 (vp_in_nI hlt (by omega)) dX3_lay_38 (fun H locs hG hS => ?_)
        rw [nI_clamp (by omega)] at hG
        have e0 := d.key (i0 := puts) d2 hk2
        obtain ⟨G2, hG2⟩ : ∃ z, z = gh_up G ka (gh_i (gh_cI P) 64 (upd g1 puts (nI k))) := ⟨_, rfl⟩
        rw [← hG2] at hG e0
        obtain ⟨e1, -, ⟨g4, e3, e3'⟩, -⟩ := id e0
        refine lv_aload_n hx hb dX3_lay_39 rfl (lv_at hl 0 rfl) ?_
        refine gh_get (C := RX3) (T := TX3) (N := 4) (v := .ref ha) hx hb hts in_X3 hown hE hG e1 rfl 1 (by decide) q529 (fun _ h9 => h9) rfl dX3_lay_40 ?_
        refine lv_aload_n hx hb dX3_lay_43 rfl (lv_at hl 0 rfl) ?_
        refine gh_get (C := RX3) (T := TX3) (N := 4) (v := .int (nI puts)) hx hb hts in_X3 hown hE hG e1 rfl 3 (by decide) q531 (fun _ h9 => h9) rfl dX3_lay_44 ?_
        refine lv_iconst (v := 1) hx hb dX3_lay_47 (by decide) ?_
        refine lv_iload_n hx hb dX3_lay_48 rfl (lv_at hl 1 rfl) ?_
        refine lv_iconst (v := 3) hx hb dX3_lay_49 (by decide) ?_
        refine lv_iand hx hb dX3_lay_50 ?_
        refine lv_topi (fun z_1 ez_1 => ?_)
        obtain rfl : z_1 = nI f := ez_1.trans hfe
        refine lv_iadd hx hb dX3_lay_51 ?_
        refine lv_topi (fun z_2 ez_2 => ?_)
        obtain rfl : z_2 = nI (1 + f) := ez_2.trans (nI_add 1 f)
        refine gh_iast hx hb hE hG hS d11 e3 (vp_in_nI hlt (by omega)) dX3_lay_52 (fun H locs hG hS => ?_)
        rw [nI_clamp (by omega)] at hG
        have t0 := e0.home (i0 := puts) (v := 1 + f) e3 (by omega)
        obtain ⟨G3, hG3⟩ : ∃ z, z = gh_up G2 ha (gh_i (gh_cI P) 64 (upd g4 puts (nI (1 + f)))) := ⟨_, rfl⟩
        rw [← hG3] at hG t0
        have t1 := t0.1
        refine lv_aload_n hx hb dX3_lay_53 rfl (lv_at hl 0 rfl) ?_
        refine lv_aload_n hx hb dX3_lay_54 rfl (lv_at hl 0 rfl) ?_
        refine gh_get (C := RX3) (T := TX3) (N := 4) (v := .int (nI puts)) hx hb hts in_X3 hown hE hG t1 rfl 3 (by decide) q531 (fun _ h9 => h9) rfl dX3_lay_55 ?_
        refine lv_iconst (v := 1) hx hb dX3_lay_58 (by decide) ?_
        refine lv_iadd hx hb dX3_lay_59 ?_
        refine lv_topi (fun z_3 ez_3 => ?_)
        obtain rfl : z_3 = nI (puts + 1) := ez_3.trans (nI_1 puts)
        refine gh_put (C := RX3) (T := TX3) (N := 4) (v := .int (nI (puts + 1))) hx hb hts in_X3 tyX3 tyX3_ok nmX3 hown hE hG hS d9 t1 rfl 3 (by decide) q531 (fun _ h9 => h9) rfl rfl rfl (Nat.le_of_ble_eq_true rfl) dX3_lay_60 (fun H locs hG hS => ?_)
        have hG : gh_H P (gh_up G3 y (gh_o 2 [.ref ka, .ref ha, .ref ta, .int (nI (puts + 1))])) H := hG
        obtain ⟨G4, hG4⟩ : ∃ g, g = gh_up G3 y (gh_o 2 [.ref ka, .ref ha, .ref ta, .int (nI (puts + 1))]) := ⟨_, rfl⟩
        rw [← hG4] at hG
        refine lv_iconst (v := 1) hx hb dX3_lay_63 (by decide) ?_
        exact gh_iret hx hb hr hlocks rfl hG hS (Or.inl ⟨⟨hlt, hle, hk2⟩, rfl, by rw [hG4]; exact t0.up hlt, fun a e ha hn => by rw [hG4, gh_up_n _ _ (fun z => hn (Or.inl z)), hG3, gh_up_n _ _ (fun z => hn (Or.inr (Or.inr (Or.inl z)))), hG2, gh_up_n _ _ (fun z => hn (Or.inr (Or.inl z)))]; exact ha⟩) (Nat.le_of_ble_eq_true rfl) (Nat.le_of_ble_eq_true rfl) dX3_lay_64
      · refine lv_iconst (v := 0) hx hb dX3_lay_27 (by decide) ?_
        exact gh_iret hx hb hr hlocks rfl hG hS (Or.inr ⟨fun z => c_3 (nI_lt (a := k) (b := 1048576) z.2.2 (by omega)), rfl, rfl⟩) (Nat.le_of_ble_eq_true rfl) (Nat.le_of_ble_eq_true rfl) dX3_lay_28
set_option maxHeartbeats 4000000 in
/-- put -/
theorem c_mput (l : Launch) (P : gh_P) (G : gh_G) (y ka ha ta puts : Nat) (K Hm T : Nat → Nat) (d : MD P G y ka ha ta K Hm T puts) (file : Int32) (f : Nat) (hf : f < 4) (hfe : file &&& 3 = nI f) (key : Int32) (k : Nat) (hk : k < 1048576) (hke : key &&& 1048575 = nI k) : Met l yX3_put (ws_ yX3_put cX3_put 3 (some .boolean)) ({ frames := 2, cells := 1, slots := 1, locals := 80 }) (gh_Pc P G [.ref y, .int file, .int key]) (gh_Qi P (fun r G1 => ((puts < 64 ∧ T f ≤ k ∧ k < 1048576) ∧ r = 1 ∧ MD P G1 y ka ha ta (va_up K puts k) (va_up Hm puts (1 + f)) T (puts + 1) ∧ gh_fr (md_F y ka ha ta) G G1) ∨ (¬ (puts < 64 ∧ T f ≤ k ∧ k < 1048576) ∧ r = 0 ∧ G1 = G))) 1 1 (gh_A P) := by
  refine gh_met (plainFor_of_name (by decide)) (Nat.le_of_ble_eq_true rfl) ?_
  intro p e s m below meth c hx hb hr hlocks hml hown hin hts hE hG ls hl
  have hS : va_S (gh_A P) s.heap s.heap [] := va_S.rf
  have hl : lv_has ls 3 [(0, .ref y), (1, .int file), (2, .int key)] := hl
  refine lv_aload_n hx hb dX3_put_0 rfl (lv_at hl 0 rfl) ?_
  refine lv_iload_n hx hb dX3_put_1 rfl (lv_at hl 1 rfl) ?_
  refine lv_iload_n hx hb dX3_put_2 rfl (lv_at hl 2 rfl) ?_
  refine lv_ldc (v := 1048575) hx hb hown (hts _ q545) dX3_put_3 ?_
  refine lv_iand hx hb dX3_put_5 ?_
  refine lv_topi (fun z_0 ez_0 => ?_)
  obtain rfl : z_0 = nI k := ez_0.trans hke
  refine gh_calli (va_runV (As := [.int file, .int (nI k)]) (rest := []) ⟨hx, hb, hml, hown, hts⟩ (c_mlay l P G y ka ha ta puts K Hm T d file f hf hfe k (by omega)) (cwV 2 hts (lw_V q546 q548 qs5 q21 q549) rfl rfl rfl (by decide +kernel) ⟨Nat.le_of_ble_eq_true rfl, Nat.le_of_ble_eq_true rfl⟩) (gh_preV hE hG hS (gh_recv hE hG d.1 rfl)) rfl rfl hl.1 rfl (lv_room (Nat.le_of_ble_eq_true rfl)) dX3_put_6 ⟨Nat.le_of_ble_eq_true rfl, Nat.le_of_ble_eq_true rfl⟩) hS (fun r G1 H locs hw hG hS => ?_)
  rcases hw with ⟨c1, rfl, w⟩ | ⟨c1, rfl, hG9⟩
  · exact gh_iret hx hb hr hlocks rfl hG hS (Or.inl ⟨c1, rfl, w⟩) (Nat.le_of_ble_eq_true rfl) (Nat.le_of_ble_eq_true rfl) dX3_put_9
  · replace hG := hG9 ▸ hG
    exact gh_iret hx hb hr hlocks rfl hG hS (Or.inr ⟨c1, rfl, rfl⟩) (Nat.le_of_ble_eq_true rfl) (Nat.le_of_ble_eq_true rfl) dX3_put_9
set_option maxHeartbeats 4000000 in
/-- above -/
theorem c_mabove (l : Launch) (P : gh_P) (G : gh_G) (y ka ha ta puts : Nat) (K Hm T : Nat → Nat) (d : MD P G y ka ha ta K Hm T puts) (file : Int32) (f : Nat) (hf : f < 4) (hfe : file &&& 3 = nI f) (key : Int32) (j k : Nat) (hj : j < 1024) (hje : key &&& 1023 = nI j) (hke : k = T f + j) : Met l yX3_above (ws_ yX3_above cX3_above 3 (some .boolean)) ({ frames := 2, cells := 1, slots := 1, locals := 80 }) (gh_Pc P G [.ref y, .int file, .int key]) (gh_Qi P (fun r G1 => ((puts < 64 ∧ T f ≤ k ∧ k < 1048576) ∧ r = 1 ∧ MD P G1 y ka ha ta (va_up K puts k) (va_up Hm puts (1 + f)) T (puts + 1) ∧ gh_fr (md_F y ka ha ta) G G1) ∨ (¬ (puts < 64 ∧ T f ≤ k ∧ k < 1048576) ∧ r = 0 ∧ G1 = G))) 1 1 (gh_A P) := by
  refine gh_met (plainFor_of_name (by decide)) (Nat.le_of_ble_eq_true rfl) ?_
  intro p e s m below meth c hx hb hr hlocks hml hown hin hts hE hG ls hl
  have hS : va_S (gh_A P) s.heap s.heap [] := va_S.rf
  have hl : lv_has ls 3 [(0, .ref y), (1, .int file), (2, .int key)] := hl
  obtain ⟨d1, ⟨g1, d2, d2'⟩, ⟨g2, d3, d3'⟩, ⟨g3, d4, d4'⟩, d5, d6, d7, d8, d9, d10, d11, d12, d13⟩ := id d
  have hT := d7 f hf
  refine lv_aload_n hx hb dX3_above_0 rfl (lv_at hl 0 rfl) ?_
  refine lv_iload_n hx hb dX3_above_1 rfl (lv_at hl 1 rfl) ?_
  refine lv_aload_n hx hb dX3_above_2 rfl (lv_at hl 0 rfl) ?_
  refine gh_get (C := RX3) (T := TX3) (N := 4) (v := .ref ta) hx hb hts in_X3 hown hE hG d1 rfl 2 (by decide) q530 (fun _ h9 => h9) rfl dX3_above_3 ?_
  refine lv_iload_n hx hb dX3_above_6 rfl (lv_at hl 1 rfl) ?_
  refine lv_iconst (v := 3) hx hb dX3_above_7 (by decide) ?_
  refine lv_iand hx hb dX3_above_8 ?_
  refine lv_topi (fun z_0 ez_0 => ?_)
  obtain rfl : z_0 = nI f := ez_0.trans hfe
  refine gh_iald hx hb hE hG d4 (vp_in_nI hf (by omega)) dX3_above_9 ?_
  rw [nI_clamp (by omega), d4' f hf]
  refine lv_iload_n hx hb dX3_above_10 rfl (lv_at hl 2 rfl) ?_
  refine lv_sipush (v := 1023) hx hb dX3_above_11 (by decide) ?_
  refine lv_iand hx hb dX3_above_14 ?_
  refine lv_topi (fun z_1 ez_1 => ?_)
  obtain rfl : z_1 = nI j := ez_1.trans hje
  refine lv_iadd hx hb dX3_above_15 ?_
  refine lv_topi (fun z_2 ez_2 => ?_)
  obtain rfl : z_2 = nI k := ez_2.trans ((nI_add (T f) j).trans (by rw [hke]))
  refine gh_calli (va_runV (As := [.int file, .int (nI k)]) (rest := []) ⟨hx, hb, hml, hown, hts⟩ (c_mlay l P G y ka ha ta puts K Hm T d file f hf hfe k (by omega)) (cwV 2 hts (lw_V q546 q548 qs5 q21 q549) rfl rfl rfl (by decide +kernel) ⟨Nat.le_of_ble_eq_true rfl, Nat.le_of_ble_eq_true rfl⟩) (gh_preV hE hG hS (gh_recv hE hG d1 rfl)) rfl rfl hl.1 rfl (lv_room (Nat.le_of_ble_eq_true rfl)) dX3_above_16 ⟨Nat.le_of_ble_eq_true rfl, Nat.le_of_ble_eq_true rfl⟩) hS (fun r G1 H locs hw hG hS => ?_)
  rcases hw with ⟨c1, rfl, w⟩ | ⟨c1, rfl, hG9⟩
  · exact gh_iret hx hb hr hlocks rfl hG hS (Or.inl ⟨c1, rfl, w⟩) (Nat.le_of_ble_eq_true rfl) (Nat.le_of_ble_eq_true rfl) dX3_above_19
  · replace hG := hG9 ▸ hG
    exact gh_iret hx hb hr hlocks rfl hG hS (Or.inr ⟨c1, rfl, rfl⟩) (Nat.le_of_ble_eq_true rfl) (Nat.le_of_ble_eq_true rfl) dX3_above_19
set_option maxHeartbeats 4000000 in
theorem c_first_loop {p : Program} {l : Launch} {e : Env} {s : State} {m : MethodId} {args : Array Value} {below : List Frame} {meth : Method} {c : Code} {R : Room} {Q : State → Prop} {P : gh_P} {H : Heap} {locs : List Loc} {cells slots : Nat} (hx : p.tables.exec = Jvm.exec) (hb : c.code = cX3_first) (hml : c.maxLocals = 4) (hts : ∀ w ∈ lw_all, w.before args s = true) (hown : s.vm.findClass "IntegerRadixHeapDeskModel" = some m.cls) (hE : gh_E P s) {G : gh_G} {y ka ha ta puts : Nat} {K Hm T : Nat → Nat} (d : MD P G y ka ha ta K Hm T puts) {file : Int32} {f : Nat} (hf : f < 4) (hfe : file &&& 3 = nI f) (hG : gh_H P G H)
    (kk : ∀ (v : Int32) (ls : Array Slot), fs_ K Hm f puts v → lv_has ls 4 [(2, .int v)] → W p l e R s m args below meth c H locs cells slots Q (F0 m 53 ls [])) :
    ∀ (k i : Nat) (v : Int32) (ls : Array Slot), i ≤ puts → puts < i + k → fs_ K Hm f i v → lv_has ls 4 [(3, .int (nI i)), (2, .int v), (1, .int file), (0, .ref y)] → W p l e R s m args below meth c H locs cells slots Q (F0 m 4 ls []) := by
  obtain ⟨d1, ⟨g1, d2, d2'⟩, ⟨g2, d3, d3'⟩, ⟨g3, d4, d4'⟩, d5, d6, d7, d8, d9, d10, d11, d12, d13⟩ := id d
  intro k
  induction k with
  | zero =>
    intro i v ls h1 h2
    exact absurd h2 (by omega)
  | succ k ih =>
    intro i v ls hi hk hfs hl
    refine lv_iload_n hx hb dX3_first_4 rfl (lv_at hl 0 rfl) ?_
    refine lv_aload_n hx hb dX3_first_5 rfl (lv_at hl 3 rfl) ?_
    refine gh_get (C := RX3) (T := TX3) (N := 4) (v := .int (nI puts)) hx hb hts in_X3 hown hE hG d1 rfl 3 (by decide) q531 (fun _ h9 => h9) rfl dX3_first_6 ?_
    by_cases hlt : i < puts
    · have hi64 : i < 64 := by omega
      refine lv_icmp_ge (tgt := 53) hx hb dX3_first_9 (by decide) (fun c_9 => absurd c_9 (nI_ge hlt (by omega))) (fun _ => ?_)
      refine lv_aload_n hx hb dX3_first_12 rfl (lv_at hl 3 rfl) ?_
      refine gh_get (C := RX3) (T := TX3) (N := 4) (v := .ref ha) hx hb hts in_X3 hown hE hG d1 rfl 1 (by decide) q529 (fun _ h9 => h9) rfl dX3_first_13 ?_
      refine lv_iload_n hx hb dX3_first_16 rfl (lv_at hl 0 rfl) ?_
      refine gh_iald hx hb hE hG d3 (vp_in_nI hi64 (by omega)) dX3_first_17 ?_
      rw [nI_clamp (by omega), d3' i hi64]
      refine lv_iconst (v := 1) hx hb dX3_first_18 (by decide) ?_
      refine lv_iload_n hx hb dX3_first_19 rfl (lv_at hl 2 rfl) ?_
      refine lv_iconst (v := 3) hx hb dX3_first_20 (by decide) ?_
      refine lv_iand hx hb dX3_first_21 ?_
      refine lv_topi (fun z_0 ez_0 => ?_)
      obtain rfl : z_0 = nI f := ez_0.trans hfe
      refine lv_iadd hx hb dX3_first_22 ?_
      refine lv_topi (fun z_1 ez_1 => ?_)
      obtain rfl : z_1 = nI (1 + f) := ez_1.trans (nI_add 1 f)
      have hH := d6 i hi64
      refine lv_icmp_ne (tgt := 47) hx hb dX3_first_23 (by decide) (fun c_1 => ?_) (fun c_1 => ?_)
      · refine lv_iinc (v := nI (i + 1)) (lv' := [(3, .int (nI (i + 1))), (2, .int v), (1, .int file), (0, .ref y)]) hx hb dX3_first_47 hl (k := 0) rfl (nI_1 i) (by decide) rfl (fun ls hl => ?_)
        refine lv_goto (tgt := 4) hx hb dX3_first_50 (by decide) ?_
        exact ih (i + 1) v ls hlt (by omega) (fs_skip hfs (fun z => c_1 (by rw [z]))) (lv_sub hl [0, 1, 2, 3] rfl)
      · have hHf : Hm i = 1 + f := (nI_eq (by omega) (by omega)).mp c_1
        refine lv_iload_n hx hb dX3_first_26 rfl (lv_at hl 1 rfl) ?_
        rcases hfs with ⟨rfl, hno⟩ | ⟨i0, hi0, rfl, h3, h4⟩
        · refine lv_if_lt (tgt := 45) hx hb dX3_first_27 (by decide) (fun _ => ?_) (fun c_9 => absurd (by decide) c_9)
          refine lv_iload_n hx hb dX3_first_45 rfl (lv_at hl 0 rfl) ?_
          refine lv_istore_n (lv' := [(2, .int (nI i)), (3, .int (nI i)), (1, .int file), (0, .ref y)]) hx hb dX3_first_46 rfl hl (by decide) rfl (fun ls hl => ?_)
          refine lv_iinc (v := nI (i + 1)) (lv' := [(3, .int (nI (i + 1))), (2, .int (nI i)), (1, .int file), (0, .ref y)]) hx hb dX3_first_47 hl (k := 1) rfl (nI_1 i) (by decide) rfl (fun ls hl => ?_)
          refine lv_goto (tgt := 4) hx hb dX3_first_50 (by decide) ?_
          exact ih (i + 1) (nI i) ls hlt (by omega) (fs_new hHf (fun j hj hjf => absurd hjf (hno j hj))) (lv_sub hl [0, 1, 2, 3] rfl)
        · refine lv_if_lt (tgt := 45) hx hb dX3_first_27 (by decide) (fun c_9 => absurd c_9 (nI_pos (by omega))) (fun _ => ?_)
          have hi064 : i0 < 64 := by omega
          have hK1 := d5 i hi64
          have hK0 := d5 i0 hi064
          refine lv_aload_n hx hb dX3_first_30 rfl (lv_at hl 3 rfl) ?_
          refine gh_get (C := RX3) (T := TX3) (N := 4) (v := .ref ka) hx hb hts in_X3 hown hE hG d1 rfl 0 (by decide) q528 (fun _ h9 => h9) rfl dX3_first_31 ?_
          refine lv_iload_n hx hb dX3_first_34 rfl (lv_at hl 0 rfl) ?_
          refine gh_iald hx hb hE hG d2 (vp_in_nI hi64 (by omega)) dX3_first_35 ?_
          rw [nI_clamp (by omega), d2' i hi64]
          refine lv_aload_n hx hb dX3_first_36 rfl (lv_at hl 3 rfl) ?_
          refine gh_get (C := RX3) (T := TX3) (N := 4) (v := .ref ka) hx hb hts in_X3 hown hE hG d1 rfl 0 (by decide) q528 (fun _ h9 => h9) rfl dX3_first_37 ?_
          refine lv_iload_n hx hb dX3_first_40 rfl (lv_at hl 1 rfl) ?_
          refine gh_iald hx hb hE hG d2 (vp_in_nI hi064 (by omega)) dX3_first_41 ?_
          rw [nI_clamp (by omega), d2' i0 hi064]
          refine lv_icmp_ge (tgt := 47) hx hb dX3_first_42 (by decide) (fun c_2 => ?_) (fun c_2 => ?_)
          · refine lv_iinc (v := nI (i + 1)) (lv' := [(3, .int (nI (i + 1))), (2, .int (nI i0)), (1, .int file), (0, .ref y)]) hx hb dX3_first_47 hl (k := 0) rfl (nI_1 i) (by decide) rfl (fun ls hl => ?_)
            refine lv_goto (tgt := 4) hx hb dX3_first_50 (by decide) ?_
            exact ih (i + 1) (nI i0) ls hlt (by omega) (fs_keep hi0 h3 h4 ((nI_leI (by omega) (by omega)).mp c_2)) (lv_sub hl [0, 1, 2, 3] rfl)
          · have hlt2 : K i < K i0 := Nat.lt_of_not_le (fun z => c_2 (nI_le z (by omega)))
            refine lv_iload_n hx hb dX3_first_45 rfl (lv_at hl 0 rfl) ?_
            refine lv_istore_n (lv' := [(2, .int (nI i)), (3, .int (nI i)), (1, .int file), (0, .ref y)]) hx hb dX3_first_46 rfl hl (by decide) rfl (fun ls hl => ?_)
            refine lv_iinc (v := nI (i + 1)) (lv' := [(3, .int (nI (i + 1))), (2, .int (nI i)), (1, .int file), (0, .ref y)]) hx hb dX3_first_47 hl (k := 1) rfl (nI_1 i) (by decide) rfl (fun ls hl => ?_)
            refine lv_goto (tgt := 4) hx hb dX3_first_50 (by decide) ?_
            exact ih (i + 1) (nI i) ls hlt (by omega) (fs_new hHf (fun j hj hjf => Nat.le_trans (Nat.le_of_lt hlt2) (h4 j hj hjf))) (lv_sub hl [0, 1, 2, 3] rfl)
    · have hie : i = puts := by omega
      subst hie
      refine lv_icmp_ge (tgt := 53) hx hb dX3_first_9 (by decide) (fun _ => ?_) (fun c_9 => absurd (nI_le (Nat.le_refl i) (by omega)) c_9)
      exact kk v ls hfs (lv_sub hl [1] rfl)
set_option maxHeartbeats 4000000 in
/-- first -/
theorem c_mfirst (l : Launch) (P : gh_P) (G : gh_G) (y ka ha ta puts : Nat) (K Hm T : Nat → Nat) (d : MD P G y ka ha ta K Hm T puts) (file : Int32) (f : Nat) (hf : f < 4) (hfe : file &&& 3 = nI f) : Met l yX3_first (ws_ yX3_first cX3_first 4 (some .int)) ({ frames := 0, cells := 0, slots := 0, locals := 0 }) (gh_Pc P G [.ref y, .int file]) (gh_Qi P (fun r G1 => G1 = G ∧ fs_ K Hm f puts r)) 0 0 (gh_A P) := by
  refine gh_met (plainFor_of_name (by decide)) (Nat.le_of_ble_eq_true rfl) ?_
  intro p e s m below meth c hx hb hr hlocks hml hown hin hts hE hG ls hl
  have hS : va_S (gh_A P) s.heap s.heap [] := va_S.rf
  have hl : lv_has ls 4 [(0, .ref y), (1, .int file)] := hl
  refine lv_iconst (v := (-1)) hx hb dX3_first_0 (by decide) ?_
  refine lv_istore_n (lv' := [(2, .int (-1)), (0, .ref y), (1, .int file)]) hx hb dX3_first_1 rfl hl (by decide) rfl (fun ls hl => ?_)
  refine lv_iconst (v := 0) hx hb dX3_first_2 (by decide) ?_
  refine lv_istore_n (lv' := [(3, .int 0), (2, .int (-1)), (0, .ref y), (1, .int file)]) hx hb dX3_first_3 rfl hl (by decide) rfl (fun ls hl => ?_)
  have hl : lv_has ls 4 [(3, .int (nI 0)), (2, .int (-1)), (0, .ref y), (1, .int file)] := hl
  refine c_first_loop hx hb hml hts hown hE d hf hfe hG (fun v ls hfs hl => ?_) (puts + 1) 0 _ ls (Nat.zero_le _) (by omega) (Or.inl ⟨rfl, fun j hj => absurd hj (Nat.not_lt_zero j)⟩) (lv_sub hl [0, 1, 3, 2] rfl)
  refine lv_iload_n hx hb dX3_first_53 rfl (lv_at hl 0 rfl) ?_
  exact gh_iret hx hb hr hlocks rfl hG hS (⟨rfl, hfs⟩) (Nat.le_of_ble_eq_true rfl) (Nat.le_of_ble_eq_true rfl) dX3_first_54
end
section
/-! The model's methods: what they answer -/
set_option maxRecDepth 100000
set_option maxHeartbeats 4000000 in
/-- least -/
theorem c_mleast (l : Launch) (P : gh_P) (G : gh_G) (y ka ha ta puts : Nat) (K Hm T : Nat → Nat) (d : MD P G y ka ha ta K Hm T puts) (file : Int32) (f : Nat) (hf : f < 4) (hfe : file &&& 3 = nI f) : Met l yX3_least (ws_ yX3_least cX3_least 3 (some .int)) ({ frames := 1, cells := 1, slots := 1, locals := 50 }) (gh_Pc P G [.ref y, .int file]) (gh_Qi P (fun r G1 => G1 = G ∧ ((r = -1 ∧ ∀ j, j < puts → Hm j ≠ 1 + f) ∨ ∃ i0, i0 < puts ∧ r = nI (K i0) ∧ Hm i0 = 1 + f ∧ ∀ j, j < puts → Hm j = 1 + f → K i0 ≤ K j))) 1 1 (gh_A P) := by
  refine gh_met (plainFor_of_name (by decide)) (Nat.le_of_ble_eq_true rfl) ?_
  intro p e s m below meth c hx hb hr hlocks hml hown hin hts hE hG ls hl
  have hS : va_S (gh_A P) s.heap s.heap [] := va_S.rf
  have hl : lv_has ls 3 [(0, .ref y), (1, .int file)] := hl
  obtain ⟨d1, ⟨g1, d2, d2'⟩, ⟨g2, d3, d3'⟩, ⟨g3, d4, d4'⟩, d5, d6, d7, d8, d9, d10, d11, d12, d13⟩ := id d
  refine lv_aload_n hx hb dX3_least_0 rfl (lv_at hl 0 rfl) ?_
  refine lv_iload_n hx hb dX3_least_1 rfl (lv_at hl 1 rfl) ?_
  refine gh_calli (va_runV (As := [.int file]) (rest := []) ⟨hx, hb, hml, hown, hts⟩ (c_mfirst l P G y ka ha ta puts K Hm T d file f hf hfe) (cwV 1 hts (lw_V q559 q561 qs6 q21 q562) rfl rfl rfl (by decide +kernel) ⟨Nat.le_of_ble_eq_true rfl, Nat.le_of_ble_eq_true rfl⟩) (gh_preV hE hG hS (gh_recv hE hG d.1 rfl)) rfl rfl hl.1 rfl (lv_room (Nat.le_of_ble_eq_true rfl)) dX3_least_2 ⟨Nat.le_of_ble_eq_true rfl, Nat.le_of_ble_eq_true rfl⟩) hS (fun v G_ H locs hw hG hS => ?_)
  obtain ⟨hG9, hfs⟩ := hw
  replace hG := hG9 ▸ hG
  refine lv_istore_n (lv' := [(2, .int v), (0, .ref y), (1, .int file)]) hx hb dX3_least_5 rfl hl (by decide) rfl (fun ls hl => ?_)
  refine lv_iload_n hx hb dX3_least_6 rfl (lv_at hl 0 rfl) ?_
  rcases hfs with ⟨rfl, hno⟩ | ⟨i0, hi0, rfl, h3, h4⟩
  · refine lv_if_ge (tgt := 14) hx hb dX3_least_7 (by decide) (fun c_9 => absurd c_9 (by decide)) (fun _ => ?_)
    refine lv_iconst (v := (-1)) hx hb dX3_least_10 (by decide) ?_
    refine lv_goto (tgt := 20) hx hb dX3_least_11 (by decide) ?_
    exact gh_iret hx hb hr hlocks rfl hG hS (⟨rfl, Or.inl ⟨rfl, hno⟩⟩) (Nat.le_of_ble_eq_true rfl) (Nat.le_of_ble_eq_true rfl) dX3_least_20
  · refine lv_if_ge (tgt := 14) hx hb dX3_least_7 (by decide) (fun _ => ?_) (fun c_9 => absurd (nI_pos' (by omega)) c_9)
    have hi64 : i0 < 64 := by omega
    refine lv_aload_n hx hb dX3_least_14 rfl (lv_at hl 1 rfl) ?_
    refine gh_get (C := RX3) (T := TX3) (N := 4) (v := .ref ka) hx hb hts in_X3 hown hE hG d1 rfl 0 (by decide) q528 (fun _ h9 => h9) rfl dX3_least_15 ?_
    refine lv_iload_n hx hb dX3_least_18 rfl (lv_at hl 0 rfl) ?_
    refine gh_iald hx hb hE hG d2 (vp_in_nI hi64 (by omega)) dX3_least_19 ?_
    rw [nI_clamp (by omega), d2' i0 hi64]
    exact gh_iret hx hb hr hlocks rfl hG hS (⟨rfl, Or.inr ⟨i0, hi0, rfl, h3, h4⟩⟩) (Nat.le_of_ble_eq_true rfl) (Nat.le_of_ble_eq_true rfl) dX3_least_20
set_option maxHeartbeats 4000000 in
/-- takeLeast -/
theorem c_mtake (l : Launch) (P : gh_P) (G : gh_G) (y ka ha ta puts : Nat) (K Hm T : Nat → Nat) (d : MD P G y ka ha ta K Hm T puts) (file : Int32) (f : Nat) (hf : f < 4) (hfe : file &&& 3 = nI f) : Met l yX3_takeLeast (ws_ yX3_takeLeast cX3_takeLeast 3 (some .int)) ({ frames := 1, cells := 1, slots := 1, locals := 50 }) (gh_Pc P G [.ref y, .int file]) (gh_Qi P (fun r G1 => (r = -1 ∧ G1 = G ∧ ∀ j, j < puts → Hm j ≠ 1 + f) ∨ ∃ i0, i0 < puts ∧ r = nI (K i0) ∧ Hm i0 = 1 + f ∧ (∀ j, j < puts → Hm j = 1 + f → K i0 ≤ K j) ∧ MD P G1 y ka ha ta K (va_up Hm i0 0) (va_up T f (K i0)) puts ∧ gh_fr (md_F y ka ha ta) G G1)) 1 1 (gh_A P) := by
  refine gh_met (plainFor_of_name (by decide)) (Nat.le_of_ble_eq_true rfl) ?_
  intro p e s m below meth c hx hb hr hlocks hml hown hin hts hE hG ls hl
  have hS : va_S (gh_A P) s.heap s.heap [] := va_S.rf
  have hl : lv_has ls 3 [(0, .ref y), (1, .int file)] := hl
  obtain ⟨d1, ⟨g1, d2, d2'⟩, ⟨g2, d3, d3'⟩, ⟨g3, d4, d4'⟩, d5, d6, d7, d8, d9, d10, d11, d12, d13⟩ := id d
  refine lv_aload_n hx hb dX3_takeLeast_0 rfl (lv_at hl 0 rfl) ?_
  refine lv_iload_n hx hb dX3_takeLeast_1 rfl (lv_at hl 1 rfl) ?_
  refine gh_calli (va_runV (As := [.int file]) (rest := []) ⟨hx, hb, hml, hown, hts⟩ (c_mfirst l P G y ka ha ta puts K Hm T d file f hf hfe) (cwV 1 hts (lw_V q559 q561 qs6 q21 q562) rfl rfl rfl (by decide +kernel) ⟨Nat.le_of_ble_eq_true rfl, Nat.le_of_ble_eq_true rfl⟩) (gh_preV hE hG hS (gh_recv hE hG d.1 rfl)) rfl rfl hl.1 rfl (lv_room (Nat.le_of_ble_eq_true rfl)) dX3_takeLeast_2 ⟨Nat.le_of_ble_eq_true rfl, Nat.le_of_ble_eq_true rfl⟩) hS (fun v G_ H locs hw hG hS => ?_)
  obtain ⟨hG9, hfs⟩ := hw
  replace hG := hG9 ▸ hG
  refine lv_istore_n (lv' := [(2, .int v), (0, .ref y), (1, .int file)]) hx hb dX3_takeLeast_5 rfl hl (by decide) rfl (fun ls hl => ?_)
  refine lv_iload_n hx hb dX3_takeLeast_6 rfl (lv_at hl 0 rfl) ?_
  rcases hfs with ⟨rfl, hno⟩ | ⟨i0, hi0, rfl, h3, h4⟩
  · refine lv_if_ge (tgt := 12) hx hb dX3_takeLeast_7 (by decide) (fun c_9 => absurd c_9 (by decide)) (fun _ => ?_)
    refine lv_iconst (v := (-1)) hx hb dX3_takeLeast_10 (by decide) ?_
    exact gh_iret hx hb hr hlocks rfl hG hS (Or.inl ⟨rfl, rfl, hno⟩) (Nat.le_of_ble_eq_true rfl) (Nat.le_of_ble_eq_true rfl) dX3_takeLeast_11
  · refine lv_if_ge (tgt := 12) hx hb dX3_takeLeast_7 (by decide) (fun _ => ?_) (fun c_9 => absurd (nI_pos' (by omega)) c_9)
    have hi64 : i0 < 64 := by omega
    refine lv_aload_n hx hb dX3_takeLeast_12 rfl (lv_at hl 1 rfl) ?_
    refine gh_get (C := RX3) (T := TX3) (N := 4) (v := .ref ha) hx hb hts in_X3 hown hE hG d1 rfl 1 (by decide) q529 (fun _ h9 => h9) rfl dX3_takeLeast_13 ?_
    refine lv_iload_n hx hb dX3_takeLeast_16 rfl (lv_at hl 0 rfl) ?_
    refine lv_iconst (v := 0) hx hb dX3_takeLeast_17 (by decide) ?_
    refine gh_iast hx hb hE hG hS d11 d3 (vp_in_nI hi64 (by omega)) dX3_takeLeast_18 (fun H locs hG hS => ?_)
    rw [nI_clamp (by omega)] at hG
    have e0 := d.home (i0 := i0) (v := 0) d3 (by omega)
    obtain ⟨G2, hG2⟩ : ∃ z, z = gh_up G ha (gh_i (gh_cI P) 64 (upd g2 i0 (nI 0))) := ⟨_, rfl⟩
    rw [← hG2] at e0
    replace hG : gh_H P G2 H := hG2 ▸ hG
    obtain ⟨e1, ⟨g4, e2, e2'⟩, -, ⟨g5, e4, e4'⟩, -⟩ := id e0
    refine lv_aload_n hx hb dX3_takeLeast_19 rfl (lv_at hl 1 rfl) ?_
    refine gh_get (C := RX3) (T := TX3) (N := 4) (v := .ref ta) hx hb hts in_X3 hown hE hG e1 rfl 2 (by decide) q530 (fun _ h9 => h9) rfl dX3_takeLeast_20 ?_
    refine lv_iload_n hx hb dX3_takeLeast_23 rfl (lv_at hl 2 rfl) ?_
    refine lv_iconst (v := 3) hx hb dX3_takeLeast_24 (by decide) ?_
    refine lv_iand hx hb dX3_takeLeast_25 ?_
    refine lv_topi (fun z_0 ez_0 => ?_)
    obtain rfl : z_0 = nI f := ez_0.trans hfe
    refine lv_aload_n hx hb dX3_takeLeast_26 rfl (lv_at hl 1 rfl) ?_
    refine gh_get (C := RX3) (T := TX3) (N := 4) (v := .ref ka) hx hb hts in_X3 hown hE hG e1 rfl 0 (by decide) q528 (fun _ h9 => h9) rfl dX3_takeLeast_27 ?_
    refine lv_iload_n hx hb dX3_takeLeast_30 rfl (lv_at hl 0 rfl) ?_
    refine gh_iald hx hb hE hG e2 (vp_in_nI hi64 (by omega)) dX3_takeLeast_31 ?_
    rw [nI_clamp (by omega), e2' i0 hi64]
    refine gh_iast hx hb hE hG hS d12 e4 (vp_in_nI hf (by omega)) dX3_takeLeast_32 (fun H locs hG hS => ?_)
    rw [nI_clamp (by omega)] at hG
    have t0 := e0.floor (i0 := f) e4 (d5 i0 hi64)
    obtain ⟨G3, hG3⟩ : ∃ z, z = gh_up G2 ta (gh_i (gh_cI P) 4 (upd g5 f (nI (K i0)))) := ⟨_, rfl⟩
    rw [← hG3] at hG t0
    obtain ⟨t1, ⟨g6, t2, t2'⟩, -⟩ := id t0
    refine lv_aload_n hx hb dX3_takeLeast_33 rfl (lv_at hl 1 rfl) ?_
    refine gh_get (C := RX3) (T := TX3) (N := 4) (v := .ref ka) hx hb hts in_X3 hown hE hG t1 rfl 0 (by decide) q528 (fun _ h9 => h9) rfl dX3_takeLeast_34 ?_
    refine lv_iload_n hx hb dX3_takeLeast_37 rfl (lv_at hl 0 rfl) ?_
    refine gh_iald hx hb hE hG t2 (vp_in_nI hi64 (by omega)) dX3_takeLeast_38 ?_
    rw [nI_clamp (by omega), t2' i0 hi64]
    exact gh_iret hx hb hr hlocks rfl hG hS (Or.inr ⟨i0, hi0, rfl, h3, h4, t0, fun a e ha hn => by rw [hG3, gh_up_n _ _ (fun z => hn (Or.inr (Or.inr (Or.inr z)))), hG2, gh_up_n _ _ (fun z => hn (Or.inr (Or.inr (Or.inl z))))]; exact ha⟩) (Nat.le_of_ble_eq_true rfl) (Nat.le_of_ble_eq_true rfl) dX3_takeLeast_39
set_option maxHeartbeats 4000000 in
/-- isEmpty -/
theorem c_mempty (l : Launch) (P : gh_P) (G : gh_G) (y ka ha ta puts : Nat) (K Hm T : Nat → Nat) (d : MD P G y ka ha ta K Hm T puts) (file : Int32) (f : Nat) (hf : f < 4) (hfe : file &&& 3 = nI f) : Met l yX3_isEmpty (ws_ yX3_isEmpty cX3_isEmpty 2 (some .boolean)) ({ frames := 1, cells := 1, slots := 1, locals := 50 }) (gh_Pc P G [.ref y, .int file]) (gh_Qi P (fun r G1 => G1 = G ∧ ((r = 1 ∧ ∀ j, j < puts → Hm j ≠ 1 + f) ∨ (r = 0 ∧ ∃ j, j < puts ∧ Hm j = 1 + f)))) 1 1 (gh_A P) := by
  refine gh_met (plainFor_of_name (by decide)) (Nat.le_of_ble_eq_true rfl) ?_
  intro p e s m below meth c hx hb hr hlocks hml hown hin hts hE hG ls hl
  have hS : va_S (gh_A P) s.heap s.heap [] := va_S.rf
  have hl : lv_has ls 2 [(0, .ref y), (1, .int file)] := hl
  obtain ⟨d1, ⟨g1, d2, d2'⟩, ⟨g2, d3, d3'⟩, ⟨g3, d4, d4'⟩, d5, d6, d7, d8, d9, d10, d11, d12, d13⟩ := id d
  refine lv_aload_n hx hb dX3_isEmpty_0 rfl (lv_at hl 0 rfl) ?_
  refine lv_iload_n hx hb dX3_isEmpty_1 rfl (lv_at hl 1 rfl) ?_
  refine gh_calli (va_runV (As := [.int file]) (rest := []) ⟨hx, hb, hml, hown, hts⟩ (c_mfirst l P G y ka ha ta puts K Hm T d file f hf hfe) (cwV 1 hts (lw_V q559 q561 qs6 q21 q562) rfl rfl rfl (by decide +kernel) ⟨Nat.le_of_ble_eq_true rfl, Nat.le_of_ble_eq_true rfl⟩) (gh_preV hE hG hS (gh_recv hE hG d.1 rfl)) rfl rfl hl.1 rfl (lv_room (Nat.le_of_ble_eq_true rfl)) dX3_isEmpty_2 ⟨Nat.le_of_ble_eq_true rfl, Nat.le_of_ble_eq_true rfl⟩) hS (fun v G_ H locs hw hG hS => ?_)
  obtain ⟨hG9, hfs⟩ := hw
  replace hG := hG9 ▸ hG
  rcases hfs with ⟨rfl, hno⟩ | ⟨i0, hi0, rfl, h3, h4⟩
  · refine lv_if_ge (tgt := 12) hx hb dX3_isEmpty_5 (by decide) (fun c_9 => absurd c_9 (by decide)) (fun _ => ?_)
    refine lv_iconst (v := 1) hx hb dX3_isEmpty_8 (by decide) ?_
    refine lv_goto (tgt := 13) hx hb dX3_isEmpty_9 (by decide) ?_
    exact gh_iret hx hb hr hlocks rfl hG hS (⟨rfl, Or.inl ⟨rfl, hno⟩⟩) (Nat.le_of_ble_eq_true rfl) (Nat.le_of_ble_eq_true rfl) dX3_isEmpty_13
  · refine lv_if_ge (tgt := 12) hx hb dX3_isEmpty_5 (by decide) (fun _ => ?_) (fun c_9 => absurd (nI_pos' (by omega)) c_9)
    refine lv_iconst (v := 0) hx hb dX3_isEmpty_12 (by decide) ?_
    exact gh_iret hx hb hr hlocks rfl hG hS (⟨rfl, Or.inr ⟨rfl, i0, hi0, h3⟩⟩) (Nat.le_of_ble_eq_true rfl) (Nat.le_of_ble_eq_true rfl) dX3_isEmpty_13
set_option maxHeartbeats 4000000 in
theorem c_msize_loop {p : Program} {l : Launch} {e : Env} {s : State} {m : MethodId} {args : Array Value} {below : List Frame} {meth : Method} {c : Code} {R : Room} {Q : State → Prop} {P : gh_P} {H : Heap} {locs : List Loc} {cells slots : Nat} (hx : p.tables.exec = Jvm.exec) (hb : c.code = cX3_size) (hml : c.maxLocals = 4) (hts : ∀ w ∈ lw_all, w.before args s = true) (hown : s.vm.findClass "IntegerRadixHeapDeskModel" = some m.cls) (hE : gh_E P s) {G : gh_G} {y ka ha ta puts : Nat} {K Hm T : Nat → Nat} (d : MD P G y ka ha ta K Hm T puts) {file : Int32} {f : Nat} (hf : f < 4) (hfe : file &&& 3 = nI f) (hG : gh_H P G H)
    (kk : ∀ (ls : Array Slot), lv_has ls 4 [(2, .int (nI (cn_ (mh_ Hm f) puts)))] → W p l e R s m args below meth c H locs cells slots Q (F0 m 40 ls [])) :
    ∀ (k i : Nat) (ls : Array Slot), i ≤ puts → puts < i + k → lv_has ls 4 [(3, .int (nI i)), (2, .int (nI (cn_ (mh_ Hm f) i))), (1, .int file), (0, .ref y)] → W p l e R s m args below meth c H locs cells slots Q (F0 m 4 ls []) := by
  obtain ⟨d1, ⟨g1, d2, d2'⟩, ⟨g2, d3, d3'⟩, ⟨g3, d4, d4'⟩, d5, d6, d7, d8, d9, d10, d11, d12, d13⟩ := id d
  intro k
  induction k with
  | zero =>
    intro i ls h1 h2
    exact absurd h2 (by omega)
  | succ k ih =>
    intro i ls hi hk hl
    refine lv_iload_n hx hb dX3_size_4 rfl (lv_at hl 0 rfl) ?_
    refine lv_aload_n hx hb dX3_size_5 rfl (lv_at hl 3 rfl) ?_
    refine gh_get (C := RX3) (T := TX3) (N := 4) (v := .int (nI puts)) hx hb hts in_X3 hown hE hG d1 rfl 3 (by decide) q531 (fun _ h9 => h9) rfl dX3_size_6 ?_
    by_cases hlt : i < puts
    · have hi64 : i < 64 := by omega
      refine lv_icmp_ge (tgt := 40) hx hb dX3_size_9 (by decide) (fun c_9 => absurd c_9 (nI_ge hlt (by omega))) (fun _ => ?_)
      refine lv_iload_n hx hb dX3_size_12 rfl (lv_at hl 1 rfl) ?_
      refine lv_aload_n hx hb dX3_size_13 rfl (lv_at hl 3 rfl) ?_
      refine gh_get (C := RX3) (T := TX3) (N := 4) (v := .ref ha) hx hb hts in_X3 hown hE hG d1 rfl 1 (by decide) q529 (fun _ h9 => h9) rfl dX3_size_14 ?_
      refine lv_iload_n hx hb dX3_size_17 rfl (lv_at hl 0 rfl) ?_
      refine gh_iald hx hb hE hG d3 (vp_in_nI hi64 (by omega)) dX3_size_18 ?_
      rw [nI_clamp (by omega), d3' i hi64]
      refine lv_iconst (v := 1) hx hb dX3_size_19 (by decide) ?_
      refine lv_iload_n hx hb dX3_size_20 rfl (lv_at hl 2 rfl) ?_
      refine lv_iconst (v := 3) hx hb dX3_size_21 (by decide) ?_
      refine lv_iand hx hb dX3_size_22 ?_
      refine lv_topi (fun z_0 ez_0 => ?_)
      obtain rfl : z_0 = nI f := ez_0.trans hfe
      refine lv_iadd hx hb dX3_size_23 ?_
      refine lv_topi (fun z_1 ez_1 => ?_)
      obtain rfl : z_1 = nI (1 + f) := ez_1.trans (nI_add 1 f)
      have hH := d6 i hi64
      refine lv_icmp_ne (tgt := 31) hx hb dX3_size_24 (by decide) (fun c_1 => ?_) (fun c_1 => ?_)
      · have hf0 : mh_ Hm f i = false := decide_eq_false (fun z => c_1 (by rw [z]))
        refine lv_iconst (v := 0) hx hb dX3_size_31 (by decide) ?_
        refine lv_iadd hx hb dX3_size_32 ?_
        refine lv_topi (fun z_2 ez_2 => ?_)
        obtain rfl : z_2 = nI (cn_ (mh_ Hm f) (i + 1)) := ez_2.trans (by rw [cn_, hf0]; exact nI_add _ 0)
        refine lv_istore_n (lv' := [(2, .int (nI (cn_ (mh_ Hm f) (i + 1)))), (3, .int (nI i)), (1, .int file), (0, .ref y)]) hx hb dX3_size_33 rfl hl (by decide) rfl (fun ls hl => ?_)
        refine lv_iinc (v := nI (i + 1)) (lv' := [(3, .int (nI (i + 1))), (2, .int (nI (cn_ (mh_ Hm f) (i + 1)))), (1, .int file), (0, .ref y)]) hx hb dX3_size_34 hl (k := 1) rfl (nI_1 i) (by decide) rfl (fun ls hl => ?_)
        refine lv_goto (tgt := 4) hx hb dX3_size_37 (by decide) ?_
        exact ih (i + 1) ls hlt (by omega) (lv_sub hl [0, 1, 2, 3] rfl)
      · have hf1 : mh_ Hm f i = true := decide_eq_true ((nI_eq (by omega) (by omega)).mp c_1)
        refine lv_iconst (v := 1) hx hb dX3_size_27 (by decide) ?_
        refine lv_goto (tgt := 32) hx hb dX3_size_28 (by decide) ?_
        refine lv_iadd hx hb dX3_size_32 ?_
        refine lv_topi (fun z_3 ez_3 => ?_)
        obtain rfl : z_3 = nI (cn_ (mh_ Hm f) (i + 1)) := ez_3.trans (by rw [cn_, hf1]; exact nI_add _ 1)
        refine lv_istore_n (lv' := [(2, .int (nI (cn_ (mh_ Hm f) (i + 1)))), (3, .int (nI i)), (1, .int file), (0, .ref y)]) hx hb dX3_size_33 rfl hl (by decide) rfl (fun ls hl => ?_)
        refine lv_iinc (v := nI (i + 1)) (lv' := [(3, .int (nI (i + 1))), (2, .int (nI (cn_ (mh_ Hm f) (i + 1)))), (1, .int file), (0, .ref y)]) hx hb dX3_size_34 hl (k := 1) rfl (nI_1 i) (by decide) rfl (fun ls hl => ?_)
        refine lv_goto (tgt := 4) hx hb dX3_size_37 (by decide) ?_
        exact ih (i + 1) ls hlt (by omega) (lv_sub hl [0, 1, 2, 3] rfl)
    · have hie : i = puts := by omega
      subst hie
      refine lv_icmp_ge (tgt := 40) hx hb dX3_size_9 (by decide) (fun _ => ?_) (fun c_9 => absurd (nI_le (Nat.le_refl i) (by omega)) c_9)
      exact kk ls (lv_sub hl [1] rfl)
set_option maxHeartbeats 4000000 in
/-- size -/
theorem c_msize (l : Launch) (P : gh_P) (G : gh_G) (y ka ha ta puts : Nat) (K Hm T : Nat → Nat) (d : MD P G y ka ha ta K Hm T puts) (file : Int32) (f : Nat) (hf : f < 4) (hfe : file &&& 3 = nI f) : Met l yX3_size (ws_ yX3_size cX3_size 4 (some .int)) ({ frames := 0, cells := 0, slots := 0, locals := 0 }) (gh_Pc P G [.ref y, .int file]) (gh_Qi P (fun r G1 => r = nI (cn_ (mh_ Hm f) puts) ∧ G1 = G)) 0 0 (gh_A P) := by
  refine gh_met (plainFor_of_name (by decide)) (Nat.le_of_ble_eq_true rfl) ?_
  intro p e s m below meth c hx hb hr hlocks hml hown hin hts hE hG ls hl
  have hS : va_S (gh_A P) s.heap s.heap [] := va_S.rf
  have hl : lv_has ls 4 [(0, .ref y), (1, .int file)] := hl
  refine lv_iconst (v := 0) hx hb dX3_size_0 (by decide) ?_
  refine lv_istore_n (lv' := [(2, .int 0), (0, .ref y), (1, .int file)]) hx hb dX3_size_1 rfl hl (by decide) rfl (fun ls hl => ?_)
  refine lv_iconst (v := 0) hx hb dX3_size_2 (by decide) ?_
  refine lv_istore_n (lv' := [(3, .int 0), (2, .int 0), (0, .ref y), (1, .int file)]) hx hb dX3_size_3 rfl hl (by decide) rfl (fun ls hl => ?_)
  have hl : lv_has ls 4 [(3, .int (nI 0)), (2, .int (nI (cn_ (mh_ Hm f) 0))), (0, .ref y), (1, .int file)] := hl
  refine c_msize_loop hx hb hml hts hown hE d hf hfe hG (fun ls hl => ?_) (puts + 1) 0 ls (Nat.zero_le _) (by omega) (lv_sub hl [0, 1, 3, 2] rfl)
  refine lv_iload_n hx hb dX3_size_40 rfl (lv_at hl 0 rfl) ?_
  exact gh_iret hx hb hr hlocks rfl hG hS (⟨rfl, rfl⟩) (Nat.le_of_ble_eq_true rfl) (Nat.le_of_ble_eq_true rfl) dX3_size_41
theorem rn_skip {Hm Hc : Nat → Nat} {f i : Nat} (h : ∀ j, Hc j = if j < i ∧ Hm j = 1 + f then 0 else Hm j) (hn : Hm i ≠ 1 + f) : ∀ j, Hc j = if j < i + 1 ∧ Hm j = 1 + f then 0 else Hm j := fun j => by
  rw [h j]
  by_cases z : Hm j = 1 + f
  · have hne : j ≠ i := fun w => hn (by rw [← w]; exact z)
    by_cases w : j < i
    · rw [if_pos ⟨w, z⟩, if_pos ⟨by omega, z⟩]
    · rw [if_neg (fun q => w q.1), if_neg (fun q => by have := q.1; omega)]
  · rw [if_neg (fun q => z q.2), if_neg (fun q => z q.2)]
theorem rn_set {Hm Hc : Nat → Nat} {f i : Nat} (h : ∀ j, Hc j = if j < i ∧ Hm j = 1 + f then 0 else Hm j) (hn : Hm i = 1 + f) : ∀ j, va_up Hc i 0 j = if j < i + 1 ∧ Hm j = 1 + f then 0 else Hm j := fun j => by
  by_cases w : j = i
  · rw [w, va_up_self, if_pos ⟨by omega, hn⟩]
  · rw [va_up_ne _ _ w, h j]
    by_cases z : Hm j = 1 + f
    · by_cases q : j < i
      · rw [if_pos ⟨q, z⟩, if_pos ⟨by omega, z⟩]
      · rw [if_neg (fun v => q v.1), if_neg (fun v => by have := v.1; omega)]
    · rw [if_neg (fun q => z q.2), if_neg (fun q => z q.2)]
set_option maxHeartbeats 4000000 in
theorem c_renew_loop {p : Program} {l : Launch} {e : Env} {s : State} {m : MethodId} {args : Array Value} {below : List Frame} {meth : Method} {c : Code} {R : Room} {Q : State → Prop} {P : gh_P} {cells slots : Nat} (hx : p.tables.exec = Jvm.exec) (hb : c.code = cX3_renew) (hml : c.maxLocals = 3) (hts : ∀ w ∈ lw_all, w.before args s = true) (hown : s.vm.findClass "IntegerRadixHeapDeskModel" = some m.cls) (hE : gh_E P s) {G0 : gh_G} {y ka ha ta puts : Nat} {K Hm T : Nat → Nat} {file : Int32} {f : Nat} (hf : f < 4) (hfe : file &&& 3 = nI f)
    (kk : ∀ (G : gh_G) (Hc : Nat → Nat) (H : Heap) (locs : List Loc) (ls : Array Slot), gh_H P G H → va_S (gh_A P) s.heap H locs → MD P G y ka ha ta K Hc T puts → (∀ j, Hc j = if j < puts ∧ Hm j = 1 + f then 0 else Hm j) → gh_fr (md_F y ka ha ta) G0 G → lv_has ls 3 [(1, .int file), (0, .ref y)] → W p l e R s m args below meth c H locs cells slots Q (F0 m 37 ls [])) :
    ∀ (k i : Nat) (G : gh_G) (Hc : Nat → Nat) (H : Heap) (locs : List Loc) (ls : Array Slot), i ≤ puts → puts < i + k → gh_H P G H → va_S (gh_A P) s.heap H locs → MD P G y ka ha ta K Hc T puts → (∀ j, Hc j = if j < i ∧ Hm j = 1 + f then 0 else Hm j) → gh_fr (md_F y ka ha ta) G0 G → lv_has ls 3 [(2, .int (nI i)), (1, .int file), (0, .ref y)] → W p l e R s m args below meth c H locs cells slots Q (F0 m 2 ls []) := by
  intro k
  induction k with
  | zero =>
    intro i G Hc H locs ls h1 h2
    exact absurd h2 (by omega)
  | succ k ih =>
    intro i G Hc H locs ls hi hk hG hS d hHc hfr hl
    obtain ⟨d1, ⟨g1, d2, d2'⟩, ⟨g2, d3, d3'⟩, ⟨g3, d4, d4'⟩, d5, d6, d7, d8, d9, d10, d11, d12, d13⟩ := id d
    refine lv_iload_n hx hb dX3_renew_2 rfl (lv_at hl 0 rfl) ?_
    refine lv_aload_n hx hb dX3_renew_3 rfl (lv_at hl 2 rfl) ?_
    refine gh_get (C := RX3) (T := TX3) (N := 4) (v := .int (nI puts)) hx hb hts in_X3 hown hE hG d1 rfl 3 (by decide) q531 (fun _ h9 => h9) rfl dX3_renew_4 ?_
    by_cases hlt : i < puts
    · have hi64 : i < 64 := by omega
      refine lv_icmp_ge (tgt := 37) hx hb dX3_renew_7 (by decide) (fun c_9 => absurd c_9 (nI_ge hlt (by omega))) (fun _ => ?_)
      refine lv_aload_n hx hb dX3_renew_10 rfl (lv_at hl 2 rfl) ?_
      refine gh_get (C := RX3) (T := TX3) (N := 4) (v := .ref ha) hx hb hts in_X3 hown hE hG d1 rfl 1 (by decide) q529 (fun _ h9 => h9) rfl dX3_renew_11 ?_
      refine lv_iload_n hx hb dX3_renew_14 rfl (lv_at hl 0 rfl) ?_
      refine gh_iald hx hb hE hG d3 (vp_in_nI hi64 (by omega)) dX3_renew_15 ?_
      rw [nI_clamp (by omega), d3' i hi64]
      refine lv_iconst (v := 1) hx hb dX3_renew_16 (by decide) ?_
      refine lv_iload_n hx hb dX3_renew_17 rfl (lv_at hl 1 rfl) ?_
      refine lv_iconst (v := 3) hx hb dX3_renew_18 (by decide) ?_
      refine lv_iand hx hb dX3_renew_19 ?_
      refine lv_topi (fun z_0 ez_0 => ?_)
      obtain rfl : z_0 = nI f := ez_0.trans hfe
      refine lv_iadd hx hb dX3_renew_20 ?_
      refine lv_topi (fun z_1 ez_1 => ?_)
      obtain rfl : z_1 = nI (1 + f) := ez_1.trans (nI_add 1 f)
      have hH := d6 i hi64
      have hHi : Hc i = Hm i := by rw [hHc i, if_neg (by omega)]
      refine lv_icmp_ne (tgt := 31) hx hb dX3_renew_21 (by decide) (fun c_1 => ?_) (fun c_1 => ?_)
      · refine lv_iinc (v := nI (i + 1)) (lv' := [(2, .int (nI (i + 1))), (1, .int file), (0, .ref y)]) hx hb dX3_renew_31 hl (k := 0) rfl (nI_1 i) (by decide) rfl (fun ls hl => ?_)
        refine lv_goto (tgt := 2) hx hb dX3_renew_34 (by decide) ?_
        exact ih (i + 1) G Hc H locs ls hlt (by omega) hG hS d (rn_skip hHc (fun z => c_1 (by rw [hHi, z]))) hfr (lv_sub hl [0, 1, 2] rfl)
      · have hHf : Hm i = 1 + f := by rw [← hHi]; exact (nI_eq (by omega) (by omega)).mp c_1
        refine lv_aload_n hx hb dX3_renew_24 rfl (lv_at hl 2 rfl) ?_
        refine gh_get (C := RX3) (T := TX3) (N := 4) (v := .ref ha) hx hb hts in_X3 hown hE hG d1 rfl 1 (by decide) q529 (fun _ h9 => h9) rfl dX3_renew_25 ?_
        refine lv_iload_n hx hb dX3_renew_28 rfl (lv_at hl 0 rfl) ?_
        refine lv_iconst (v := 0) hx hb dX3_renew_29 (by decide) ?_
        refine gh_iast hx hb hE hG hS d11 d3 (vp_in_nI hi64 (by omega)) dX3_renew_30 (fun H locs hG hS => ?_)
        rw [nI_clamp (by omega)] at hG
        refine lv_iinc (v := nI (i + 1)) (lv' := [(2, .int (nI (i + 1))), (1, .int file), (0, .ref y)]) hx hb dX3_renew_31 hl (k := 0) rfl (nI_1 i) (by decide) rfl (fun ls hl => ?_)
        refine lv_goto (tgt := 2) hx hb dX3_renew_34 (by decide) ?_
        exact ih (i + 1) _ (va_up Hc i 0) H locs ls hlt (by omega) hG hS (d.home (i0 := i) (v := 0) d3 (by omega)) (rn_set hHc hHf) (gh_fr_tr hfr (gh_fr_up (Or.inr (Or.inr (Or.inl rfl))))) (lv_sub hl [0, 1, 2] rfl)
    · have hie : i = puts := by omega
      rw [hie] at hHc
      refine lv_icmp_ge (tgt := 37) hx hb dX3_renew_7 (by decide) (fun _ => ?_) (fun c_9 => absurd (nI_le (a := puts) (b := i) (by omega) (by omega)) c_9)
      exact kk G Hc H locs ls hG hS d hHc hfr (lv_sub hl [1, 2] rfl)
set_option maxHeartbeats 4000000 in
/-- renew -/
theorem c_mrenew (l : Launch) (P : gh_P) (G : gh_G) (y ka ha ta puts : Nat) (K Hm T : Nat → Nat) (d : MD P G y ka ha ta K Hm T puts) (file : Int32) (f : Nat) (hf : f < 4) (hfe : file &&& 3 = nI f) : Met l yX3_renew (ws_ yX3_renew cX3_renew 3 none) ({ frames := 0, cells := 0, slots := 0, locals := 0 }) (gh_Pc P G [.ref y, .int file]) (gh_Qv P (fun G1 => ∃ Hc : Nat → Nat, MD P G1 y ka ha ta K Hc (va_up T f 0) puts ∧ (∀ j, Hc j = if j < puts ∧ Hm j = 1 + f then 0 else Hm j) ∧ gh_fr (md_F y ka ha ta) G G1)) 0 0 (gh_A P) := by
  refine gh_met (plainFor_of_name (by decide)) (Nat.le_of_ble_eq_true rfl) ?_
  intro p e s m below meth c hx hb hr hlocks hml hown hin hts hE hG ls hl
  have hS : va_S (gh_A P) s.heap s.heap [] := va_S.rf
  have hl : lv_has ls 3 [(0, .ref y), (1, .int file)] := hl
  refine lv_iconst (v := 0) hx hb dX3_renew_0 (by decide) ?_
  refine lv_istore_n (lv' := [(2, .int 0), (0, .ref y), (1, .int file)]) hx hb dX3_renew_1 rfl hl (by decide) rfl (fun ls hl => ?_)
  have hl : lv_has ls 3 [(2, .int (nI 0)), (0, .ref y), (1, .int file)] := hl
  refine c_renew_loop (Hm := Hm) (G0 := G) hx hb hml hts hown hE hf hfe (fun G2 Hc H locs ls hG hS d2 hHc hfr hl => ?_) (puts + 1) 0 G Hm _ _ ls (Nat.zero_le _) (by omega) hG hS d (fun j => by rw [if_neg (fun q => absurd q.1 (Nat.not_lt_zero j))]) (fun _ _ z _ => z) (lv_sub hl [0, 2, 1] rfl)
  obtain ⟨e1, -, -, ⟨g5, e4, e4'⟩, -, -, -, -, -, -, -, e12, -⟩ := id d2
  refine lv_aload_n hx hb dX3_renew_37 rfl (lv_at hl 1 rfl) ?_
  refine gh_get (C := RX3) (T := TX3) (N := 4) (v := .ref ta) hx hb hts in_X3 hown hE hG e1 rfl 2 (by decide) q530 (fun _ h9 => h9) rfl dX3_renew_38 ?_
  refine lv_iload_n hx hb dX3_renew_41 rfl (lv_at hl 0 rfl) ?_
  refine lv_iconst (v := 3) hx hb dX3_renew_42 (by decide) ?_
  refine lv_iand hx hb dX3_renew_43 ?_
  refine lv_topi (fun z_0 ez_0 => ?_)
  obtain rfl : z_0 = nI f := ez_0.trans hfe
  refine lv_iconst (v := 0) hx hb dX3_renew_44 (by decide) ?_
  refine gh_iast hx hb hE hG hS e12 e4 (vp_in_nI hf (by omega)) dX3_renew_45 (fun H locs hG hS => ?_)
  rw [nI_clamp (by omega)] at hG
  exact gh_vret hx hb hr hlocks hG hS (⟨Hc, d2.floor (i0 := f) (v := 0) e4 (by omega), hHc, gh_fr_tr hfr (gh_fr_up (Or.inr (Or.inr (Or.inr rfl))))⟩) (Nat.le_of_ble_eq_true rfl) (Nat.le_of_ble_eq_true rfl) dX3_renew_46
end
section
/-! The start: what the tables and the premise say, as the ghost heap's rows -/
set_option maxRecDepth 100000
theorem st_arrO {args : Array Value} {s : State} {C : String} (h : (Cond.arrayOver (.object C)).before args s = true) : ∃ cA : ClassId, ArrOfT s cA (.object C) ∧ va_RA s cA (.object C) := by
  obtain ⟨comp, c, k, h1, -, h3, h4, h5⟩ := Cond.arrayOver_spec (args := args) (first := s) (o := none) (s := s) (idx := []) h
  exact ⟨c, fun n z => ⟨fun q w => (by cases w), k, h3, comp, h4⟩, k, comp, h3, h4, h1, h5⟩
theorem st_arrI {args : Array Value} {s : State} (h : (Cond.arrayClass .int).before args s = true) : ∃ cA : ClassId, ArrOfT s cA .int ∧ va_RA s cA .int := by
  obtain ⟨c, k, comp, h1, h2, h3⟩ := Cond.arrayClass_spec (args := args) (first := s) (o := none) (s := s) (idx := []) h
  exact ⟨c, fun n z => ⟨fun q w => (by cases w), k, h2, comp, h3⟩, h1⟩
theorem st_sel {args : Array Value} {s : State} (hts : ∀ w ∈ lw_tbl, w.before args s = true) : (Cond.selects "IntegerRadixHeap" ⟨"AbstractRadixHeap", "findAndCacheMinimum", "(I)V"⟩ ⟨"AbstractRadixHeap", "findAndCacheMinimum", "(I)V"⟩).before args s = true := by
  obtain ⟨c, k, hc, -⟩ := Cond.instantiable_spec (hts _ (lw_all_tbl q48))
  obtain ⟨mk, methM, hnamed, hmethM, -, -⟩ := Cond.instanceMethod_spec (hts _ (lw_all_tbl q433))
  have hfound := State.methodFound?_of_named hnamed (by decide)
  obtain ⟨c2, r2, m2, -, -, hn2, -, mk2, hmk2, hni⟩ := Cond.selects_spec (args := args) (first := s) (o := none) (s := s) (idx := []) (hts _ (lw_all_tbl q268))
  have hc1 : s.vm.findClass "AbstractRadixHeap" = some mk.cls := findClass_of_methodNamed hnamed
  have hc2 : s.vm.findClass "AbstractRadixHeap" = some m2.cls := findClass_of_methodNamed hn2
  have hcls : mk.cls = m2.cls := Option.some.inj (hc1.symm.trans hc2)
  have hsel : selectMethod {} s.vm c mk = .method mk := selectMethod_private hmethM (Cond.privateMethod_at (hts _ q432) mk methM hnamed hmethM)
  simp only [Cond.before, Cond.holds, Cond.value, hc, hfound, hnamed, hsel, hcls, hmk2]
  simp
  exact hni
/-- the cache's boxes, untouched -/
theorem st_boxes {args : Array Value} {s : State} {st : Term} (hc : st.closed = true) (hlen : (Term.length st).eval args s none [] s = some (.int (Int32.ofNat 256)))
    (hall : (Cond.all st (.and (.and (.exactly (.elem st (.index 0)) "java/lang/Integer") (.untouched (.elem st (.index 0)))) (.eq (.field (.elem st (.index 0)) "java/lang/Integer" "value" "I") (.sub (.index 0) (.int 128))))).before args s = true) :
    ∃ ad : Nat → Nat, ∀ k : Nat, k < 256 → (Term.elem st (.int (Int32.ofNat k))).eval args s none [] s = some (.ref (ad k)) ∧ ∃ (cf : ClassId) (kf : Class) (fi : Nat) (f : Field) (cell : Cell), s.fieldFound? "java/lang/Integer" "value" "I" = some (cf, kf, fi, f) ∧ s.heap[ad k]? = some cell ∧ s.vm.findClass "java/lang/Integer" = some cell.cls ∧ cell.vm = .none ∧ cell.slots[f.slot]? = some (.int (vb_c k)) := by
  obtain ⟨b, cell, ht, hat, -⟩ := Term.length_spec hlen
  have each := Cond.all_elim ht hat (by simpa [Cond.before, Cond.holds] using hall)
  have hEF : (Cond.all st (.and (.exactly (.elem st (.index 0)) "java/lang/Integer") (.eq (.field (.elem st (.index 0)) "java/lang/Integer" "value" "I") (.sub (.index 0) (.int 128))))).before args s = true := by
    have w := Cond.all_intro (c := .and (.exactly (.elem st (.index 0)) "java/lang/Integer") (.eq (.field (.elem st (.index 0)) "java/lang/Integer" "value" "I") (.sub (.index 0) (.int 128)))) ht hat (fun i hi => by
      obtain ⟨w1, w2⟩ := va_andE (each i hi)
      have w3 := (va_andE w1).1
      simp only [Cond.value] at w2 w3 ⊢
      rw [w2, w3])
    simpa [Cond.before, Cond.holds] using w
  obtain ⟨ad, ⟨hO, hF⟩, hel⟩ := vb_Cof (A := fun _ => False) hc hlen hEF (fun _ _ h => h)
  refine ⟨ad, fun k hk => ⟨hel k hk, ?_⟩⟩
  obtain ⟨c1, o1, -, o3, -⟩ := hO k hk
  obtain ⟨cf, kf, fi, f, c2, f1, -, f3, -, f5, -⟩ := hF k hk
  cases o1.symm.trans f3
  have hlt : k < cell.slots.size := by
    obtain ⟨b2, j, cell2, e1, e2, e3, e4, -⟩ := Term.elem_spec (hel k hk)
    cases ht.symm.trans e1
    cases hat.symm.trans e3
    have e2 : some (Value.int (Int32.ofNat k)) = some (.int j) := e2
    cases e2
    rw [show (Int32.ofNat k).toNatClampNeg = k from nI_clamp (by omega)] at e4
    omega
  obtain ⟨a2, c3, u1, u2, -, -, u5⟩ := Cond.untouched_spec (args := args) (first := s) (o := none) (s := s) (idx := [k]) (t := .elem st (.index 0)) (by simp [Cond.holds, (va_andE (va_andE (each k hlt)).1).2])
  have hsame : (Term.elem st (.int (Int32.ofNat k))).eval args s none [] s = (Term.elem st (.index 0)).eval args s none [k] s := by
    simp only [Term.eval, Term.eval_closed none [k] st s hc]
    rfl
  cases (hel k hk).symm.trans (hsame.trans u1)
  cases o1.symm.trans u2
  exact ⟨cf, kf, fi, f, c1, f1, o1, o3, u5, f5⟩
/-- the empty array -/
theorem st_empty {args : Array Value} {s : State} {st : Term} {nm : String} (hex : (Cond.exactly st nm).before args s = true) (hun : (Cond.untouched st).before args s = true) (hlen : (Cond.eq (.length st) (.int 0)).before args s = true) : ∃ (a : Nat) (cA : ClassId), st.eval args s none [] s = some (.ref a) ∧ s.vm.findClass nm = some cA ∧ s.heap[a]? = some (vp_cell cA (0, .inr (.inr (.inr (.inr (fun _ => none)))))) := by
  obtain ⟨a, c, cell, k, q1, q2, q3, q4, q5, q6, -⟩ := Cond.exactly_spec (args := args) (first := s) (o := none) (s := s) (idx := []) hex
  obtain ⟨a2, cell2, u1, u2, u3, u4, u5⟩ := Cond.untouched_spec (args := args) (first := s) (o := none) (s := s) (idx := []) hun
  cases q1.symm.trans u1
  cases q3.symm.trans u2
  have hv := va_eqv (v := .int 0) hlen rfl
  obtain ⟨a3, cell3, t1, t2, t3⟩ := Term.length_spec hv
  cases q1.symm.trans t1
  obtain ⟨hc3, -⟩ := State.arrayAt?_spec t2
  cases q3.symm.trans hc3
  have hsz : cell.slots.size < 2 ^ 31 := by
    simp only [Term.eval, q1, t2, Option.bind_eq_bind, Option.bind_some] at hv
    by_cases hlt : cell.slots.size < 2147483648
    · exact hlt
    · simp [hlt] at hv
  have h0 : cell.slots.size = 0 := by
    have e : Int32.ofNat 0 = Int32.ofNat cell.slots.size := Value.int.inj t3
    have h1 : (Int32.ofNat cell.slots.size).toNatClampNeg = cell.slots.size := Int32.toNatClampNeg_ofNat_of_lt (by omega)
    rw [← e] at h1
    exact h1.symm
  refine ⟨a, c, q1, q2, ?_⟩
  rw [q3]
  congr 1
  obtain ⟨ccls, cslots, cmon, chash, cvm⟩ := cell
  simp only at u3 u4 u5 h0 q6
  subst u3 u4 u5 q6
  have : cslots = #[] := Array.eq_empty_of_size_eq_zero h0
  subst this
  rfl
theorem st_fw {args : Array Value} {s : State} (hts : ∀ w ∈ lw_tbl, w.before args s = true) : ∀ q ∈ gh_fw, va_Fw q.1 q.2.1 q.2.2 s := by
  intro q hq
  simp only [gh_fw, List.mem_cons, List.not_mem_nil, or_false] at hq
  rcases hq with rfl | rfl | rfl | rfl | rfl | rfl | rfl | rfl
  · exact va_Fw.of (hts _ q293) (hts _ q292) (hts _ q298) (hts _ q296) (hts _ q294)
  · exact va_Fw.of (hts _ q352) (hts _ q351) (hts _ q356) (hts _ q354) (hts _ q294)
  · exact va_Fw.of (hts _ q414) (hts _ q413) (hts _ q418) (hts _ q416) (hts _ q294)
  · exact va_Fw.of (hts _ q438) (hts _ q437) (hts _ q442) (hts _ q440) (hts _ q294)
  · exact va_Fw.of (hts _ q447) (hts _ q446) (hts _ q451) (hts _ q449) (hts _ q294)
  · exact va_Fw.of (hts _ q498) (hts _ q497) (hts _ q502) (hts _ q500) (hts _ q294)
  · exact va_Fw.of (hts _ q475) (hts _ q474) (hts _ q480) (hts _ q478) (hts _ q476)
  · exact va_Fw.of (hts _ q485) (hts _ q484) (hts _ q489) (hts _ q487) (hts _ q476)
theorem st_ws {args : Array Value} {s : State} (hts : ∀ w ∈ lw_tbl, w.before args s = true) : ∀ w ∈ gh_ws, va_Nw w s := by
  intro q hq
  simp only [gh_ws, List.mem_cons, List.not_mem_nil, or_false] at hq
  rcases hq with rfl | rfl | rfl | rfl | rfl | rfl
  · exact va_Nw.of rfl (hts _ q294)
  · exact va_Nw.of rfl (hts _ q586)
  · exact va_Nw.of rfl (hts _ q249)
  · exact va_Nw.of rfl (hts _ q271)
  · exact va_Nw.of rfl (hts _ q171)
  · exact va_Nw.of rfl (st_sel hts)
/-- the start's ghost heap: the empty array and the boxes -/
theorem st_Gex {cO aE : Nat} {ad : Nat → Nat} (hinj : ∀ k k', k < 256 → k' < 256 → ad k = ad k' → vb_c k = vb_c k') (hne : ∀ k, k < 256 → ad k ≠ aE) : ∃ G : gh_G, G aE = some (gh_q cO 0 (fun _ => none)) ∧ (∀ k, k < 256 → G (ad k) = some (gh_o 5 [.int (vb_c k)])) ∧ ∀ a e, G a = some e → (a = aE ∧ e = gh_q cO 0 (fun _ => none)) ∨ ∃ k, k < 256 ∧ ad k = a ∧ e = gh_o 5 [.int (vb_c k)] := by
  have h0 : ∀ a : Nat, ∃ o : Option va_E, (a = aE → o = some (gh_q cO 0 (fun _ => none))) ∧ (∀ k, k < 256 → ad k = a → o = some (gh_o 5 [.int (vb_c k)])) ∧ ∀ e, o = some e → (a = aE ∧ e = gh_q cO 0 (fun _ => none)) ∨ ∃ k, k < 256 ∧ ad k = a ∧ e = gh_o 5 [.int (vb_c k)] := by
    intro a
    by_cases h1 : a = aE
    · exact ⟨some (gh_q cO 0 (fun _ => none)), fun _ => rfl, fun k hk e => absurd (e.trans h1) (hne k hk), fun e he => Or.inl ⟨h1, (Option.some.inj he).symm⟩⟩
    · by_cases h2 : ∃ k, k < 256 ∧ ad k = a
      · obtain ⟨j, hj, e⟩ := h2
        exact ⟨some (gh_o 5 [.int (vb_c j)]), fun z => absurd z h1, fun k hk ek => by rw [hinj k j hk hj (ek.trans e.symm)], fun e' he => Or.inr ⟨j, hj, e, (Option.some.inj he).symm⟩⟩
      · exact ⟨none, fun z => absurd z h1, fun k hk ek => absurd ⟨k, hk, ek⟩ h2, fun e he => by cases he⟩
  exact ⟨fun a => Classical.choose (h0 a), (Classical.choose_spec (h0 aE)).1 rfl, fun k hk => (Classical.choose_spec (h0 (ad k))).2.1 k hk rfl, fun a e h => (Classical.choose_spec (h0 a)).2.2 e h⟩
abbrev st_cache : Term := .static "java/lang/Integer$IntegerCache" "cache" "[Ljava/lang/Integer;"
abbrev st_dcap : Term := .static "java/util/ArrayList" "DEFAULTCAPACITY_EMPTY_ELEMENTDATA" "[Ljava/lang/Object;"
set_option maxHeartbeats 4000000 in
theorem st_start {args : Array Value} {s : State} (hts : ∀ w ∈ lw_tbl, w.before args s = true) (hg : (Jvm.Cond.and given_1 narrow_1).before args s = true) : ∃ (P : gh_P) (G0 : gh_G), gh_N P = s.heap.size ∧ gh_E P s ∧ gh_H P G0 s.heap ∧ ∀ a e, G0 a = some e → a < s.heap.size := by
  have hf := flat_of_before _ hg
  have hta : ∀ w ∈ lw_all, w.before args s = true := fun w h => hts w (lw_all_tbl h)
  obtain ⟨c0, i0, k0⟩ := u_known (C := RX0) (T := TX0) (N := 3) hta in_X0 (hta _ q33)
  obtain ⟨c1, i1, k1⟩ := u_known (C := RX2) (T := TX2) (N := 8) hta in_X2 (hta _ q48)
  obtain ⟨c2, i2, k2⟩ := u_known (C := RX3) (T := TX3) (N := 4) hta in_X3 (hta _ q523)
  obtain ⟨c3, i3, k3⟩ := u_known (C := RJ8) (T := TJ8) (N := 3) hta in_J8 (hta _ q156)
  obtain ⟨c4, i4, k4⟩ := u_known (C := RJ15) (T := TJ15) (N := 4) hta in_J15 (hta _ q454)
  obtain ⟨c5, i5, k5⟩ := u_known (C := RJ5) (T := TJ5) (N := 1) hta in_J5 (hta _ q132)
  obtain ⟨cI, aI1, aI2⟩ := st_arrI (hta _ q230)
  obtain ⟨cO, aO1, aO2⟩ := st_arrO (hts _ q341)
  obtain ⟨cL, aL1, aL2⟩ := st_arrO (hts _ q154)
  obtain ⟨cH, aH1, aH2⟩ := st_arrO (hts _ q44)
  have hA : ∀ a : Nat, a < s.heap.size → ¬ (fun q => s.heap.size ≤ q) a := fun a h1 h2 => absurd h1 (Nat.not_lt.mpr h2)
  have hZ1 := va_Zof (hts _ q128) (hta _ q17) (va_eqi (z := 127) (hf _ (by decide +kernel))) hA
  have hlen : (Term.length st_cache).eval args s none [] s = some (.int (Int32.ofNat 256)) := va_eqv (t := .length st_cache) (u := .int 256) (hf _ (by decide +kernel)) rfl
  obtain ⟨ad, had⟩ := st_boxes (args := args) (s := s) (st := st_cache) rfl hlen (hf _ (by decide +kernel))
  obtain ⟨aT, hT1, hT2⟩ := va_Tof (tm := st_cache) (ty := .object "java/lang/Integer") (N := 256) (f := fun k => .ref (ad k)) (by decide) (hf _ (by decide +kernel)) hlen (fun j hj => (had j hj).1) hA
  have hZ2 := va_Zof (hts _ q130) (hta _ q17) hT1 hA
  obtain ⟨aE, cE, hE1, hE2, hE3⟩ := st_empty (args := args) (s := s) (st := st_dcap) (nm := "[Ljava/lang/Object;") (hf _ (by decide +kernel)) (hf _ (by decide +kernel)) (hf _ (by decide +kernel))
  have hZ3 := va_Zof (hts _ q168) (hta _ q20) hE1 hA
  obtain ⟨mi, hmi⟩ := va_Mi.of (args := args) (s := s) (C := "[Ljava/lang/Object;") (hf _ (by decide +kernel))
  have hcE : cE = cO := by
    obtain ⟨_, _, _, _, _, w⟩ := aO2
    exact Option.some.inj (hE2.symm.trans w)
  subst hcE
  have hEl : aE < s.heap.size := (Array.getElem?_eq_some_iff.mp hE3).1
  have hbl : ∀ k, k < 256 → ad k < s.heap.size := fun k hk => by
    obtain ⟨-, _, _, _, _, _, -, w, -⟩ := had k hk
    exact (Array.getElem?_eq_some_iff.mp w).1
  have hOB : ∀ k, k < 256 → t_OB (ad k) c5 1 i5 s.heap (vp_V [.int (vb_c k)]) := fun k hk => by
    obtain ⟨-, cf, kf, fi, f, cell, w1, w2, w3, w4, w5⟩ := had k hk
    refine ⟨cell, w2, Option.some.inj (w3.symm.trans k5.2.1), w4, fun j hj => ?_⟩
    have hj0 : j = 0 := by omega
    subst hj0
    obtain ⟨cf2, kf2, fi2, fd2, v1, v2⟩ := k5.1 0 (by decide)
    have v1 : s.fieldFound? "java/lang/Integer" "value" "I" = some (cf2, kf2, fi2, fd2) := v1
    cases w1.symm.trans v1
    rw [← v2]
    exact w5
  have hinj : ∀ k k', k < 256 → k' < 256 → ad k = ad k' → vb_c k = vb_c k' := fun k k' hk hk' e => by
    obtain ⟨-, cf, kf, fi, f, cell, w1, w2, w3, w4, w5⟩ := had k hk
    obtain ⟨-, cf', kf', fi', f', cell', v1, v2, v3, v4, v5⟩ := had k' hk'
    rw [e] at w2
    cases w2.symm.trans v2
    cases w1.symm.trans v1
    rw [w5] at v5
    exact Value.int.inj (Option.some.inj v5)
  have hne : ∀ k, k < 256 → ad k ≠ aE := fun k hk e => by
    obtain ⟨-, cf, kf, fi, f, cell, w1, w2, w3, w4, w5⟩ := had k hk
    rw [e] at w2
    cases w2.symm.trans hE3
    have z : (vp_cell cE (0, .inr (.inr (.inr (.inr (fun _ => none)))))).slots = #[] := rfl
    rw [z] at w5
    simp at w5
  obtain ⟨G0, g1, g2, g3⟩ := st_Gex (cO := cE) hinj hne
  refine ⟨((fun c => match c with | 0 => c0 | 1 => c1 | 2 => c2 | 3 => c3 | 4 => c4 | _ => c5, fun c => match c with | 0 => i0 | 1 => i1 | 2 => i2 | 3 => i3 | 4 => i4 | _ => i5), (fun k => match k with | 0 => s.heap.size | 1 => cI | 2 => cE | 3 => cL | 4 => cH | 5 => aE | 6 => aT | _ => mi), ad), G0, rfl, ⟨Nat.le_refl _, ⟨fun c q hq => ?_, fun k q hk => ?_⟩, ⟨hZ1, hZ2, hT2, hZ3⟩, ⟨hmi, va_Dc.of (hts _ q595), va_AO.of (hts _ q154), va_AO.of (hts _ q44), va_AO.of (hts _ q341)⟩, st_ws hts, st_fw hts⟩, ⟨⟨fun k hk => ⟨hbl k hk, g2 k hk⟩, hEl, g1⟩, fun a e ha => ?_⟩, fun a e ha => ?_⟩
  · match c, hq with
    | 0, hq => cases hq; exact k0
    | 1, hq => cases hq; exact k1
    | 2, hq => cases hq; exact k2
    | 3, hq => cases hq; exact k3
    | 4, hq => cases hq; exact k4
    | 5, hq => cases hq; exact k5
    | n + 6, hq => exact absurd hq (by simp)
  · match k, hk with
    | 0, hk => cases hk; exact ⟨aI1, aI2⟩
    | 1, hk => cases hk; exact ⟨aO1, aO2⟩
    | 2, hk => cases hk; exact ⟨aL1, aL2⟩
    | 3, hk => cases hk; exact ⟨aH1, aH2⟩
    | n + 4, hk => exact absurd hk (by simp [gh_tys])
  · rcases g3 a e ha with ⟨rfl, rfl⟩ | ⟨k, hk, rfl, rfl⟩
    · exact hE3
    · exact ⟨_, rfl, hOB k hk⟩
  · rcases g3 a e ha with ⟨rfl, rfl⟩ | ⟨k, hk, rfl, rfl⟩
    · exact hEl
    · exact hbl k hk
end
section
/-! The plain law: what the desk holds and what the model counts answer alike -/
set_option maxRecDepth 100000
/-- file r's keys, as the desk has them, against the model's rows -/
def rel_ (X : Nat → List Nat) (K Hm : Nat → Nat) (puts : Nat) : Prop := ∀ r, r < 4 → (∀ y, (X r).count y = cn_ (mp_ K Hm r y) puts) ∧ (X r).length = cn_ (mh_ Hm r) puts
theorem one_count (k y : Nat) : [k].count y = if k = y then 1 else 0 := by
  rw [List.count_singleton]
  by_cases h : k = y
  · simp [h]
  · simp [h]
theorem rel_0 {X : Nat → List Nat} {K Hm : Nat → Nat} (h : ∀ r, r < 4 → (X r).length = 0) : rel_ X K Hm 0 := fun r hr => by
  have e : X r = [] := List.length_eq_zero_iff.mp (h r hr)
  rw [e]
  exact ⟨fun y => rfl, rfl⟩
theorem rel_ins {X : Nat → List Nat} {K Hm : Nat → Nat} {puts f k : Nat} {Y : List Nat} (h : rel_ X K Hm puts) (hf : f < 4) (hc : ∀ y, Y.count y = (X f).count y + [k].count y) (hl : Y.length = (X f).length + 1) : rel_ (va_up X f Y) (va_up K puts k) (va_up Hm puts (1 + f)) (puts + 1) := fun r hr => by
  have e1 : ∀ y, cn_ (mp_ (va_up K puts k) (va_up Hm puts (1 + f)) r y) puts = cn_ (mp_ K Hm r y) puts := fun y => cn_ext (fun i hi => by unfold mp_; rw [va_up_ne _ _ (by omega), va_up_ne _ _ (by omega)])
  have e2 : cn_ (mh_ (va_up Hm puts (1 + f)) r) puts = cn_ (mh_ Hm r) puts := cn_ext (fun i hi => by unfold mh_; rw [va_up_ne _ _ (by omega)])
  by_cases hrf : r = f
  · subst hrf
    rw [va_up_self]
    refine ⟨fun y => ?_, ?_⟩
    · rw [cn_, e1, hc, (h r hr).1, one_count]
      unfold mp_
      rw [va_up_self, va_up_self]
      by_cases z : k = y
      · simp [z]
      · simp [z]
    · rw [cn_, e2, hl, (h r hr).2]
      unfold mh_
      rw [va_up_self]
      simp
  · rw [va_up_ne _ _ hrf]
    have hne : ¬ 1 + f = 1 + r := by omega
    refine ⟨fun y => ?_, ?_⟩
    · rw [cn_, e1, (h r hr).1]
      unfold mp_
      rw [va_up_self, va_up_self, decide_eq_false (fun q => hne q.1)]
      rfl
    · rw [cn_, e2, (h r hr).2]
      unfold mh_
      rw [va_up_self, decide_eq_false hne]
      rfl
theorem rel_mem {X : Nat → List Nat} {K Hm : Nat → Nat} {puts f k : Nat} (h : rel_ X K Hm puts) (hf : f < 4) : k ∈ X f ↔ ∃ i, i < puts ∧ Hm i = 1 + f ∧ K i = k := by
  rw [← List.count_pos_iff, (h f hf).1 k]
  constructor
  · intro q
    obtain ⟨i, h1, h2⟩ := cn_ex q
    have h2 := of_decide_eq_true h2
    exact ⟨i, h1, h2.1, h2.2⟩
  · rintro ⟨i, h1, h2, h3⟩
    exact cn_pos h1 (decide_eq_true ⟨h2, h3⟩)
theorem rel_none {X : Nat → List Nat} {K Hm : Nat → Nat} {puts f : Nat} (h : rel_ X K Hm puts) (hf : f < 4) : (X f).length = 0 ↔ ∀ j, j < puts → Hm j ≠ 1 + f := by
  constructor
  · intro q j hj e
    have := (rel_mem h hf).mpr ⟨j, hj, e, rfl⟩
    rw [List.length_eq_zero_iff.mp q] at this
    cases this
  · intro q
    rw [(h f hf).2]
    exact cn_zero (fun i hi => decide_eq_false (q i hi))
theorem rel_min {X : Nat → List Nat} {K Hm : Nat → Nat} {puts f m i0 : Nat} (h : rel_ X K Hm puts) (hf : f < 4) (hm : m ∈ X f) (hmin : ∀ y ∈ X f, m ≤ y) (hi : i0 < puts) (h3 : Hm i0 = 1 + f) (h4 : ∀ j, j < puts → Hm j = 1 + f → K i0 ≤ K j) : m = K i0 := by
  obtain ⟨i, q1, q2, q3⟩ := (rel_mem h hf).mp hm
  have a := h4 i q1 q2
  have b := hmin _ ((rel_mem h hf).mpr ⟨i0, hi, h3, rfl⟩)
  omega
theorem rel_take {X : Nat → List Nat} {K Hm : Nat → Nat} {puts f k i0 : Nat} {Y : List Nat} (h : rel_ X K Hm puts) (hf : f < 4) (hc : ∀ y, (X f).count y = Y.count y + [k].count y) (hl : (X f).length = Y.length + 1) (hi : i0 < puts) (h3 : Hm i0 = 1 + f) (hk : k = K i0) : rel_ (va_up X f Y) K (va_up Hm i0 0) puts := fun r hr => by
  by_cases hrf : r = f
  · subst hrf
    rw [va_up_self]
    refine ⟨fun y => ?_, ?_⟩
    · have c := hc y
      rw [(h r hr).1, one_count] at c
      by_cases z : k = y
      · rw [if_pos z, cn_off (q := mp_ K (va_up Hm i0 0) r y) hi (decide_eq_true ⟨h3, hk.symm.trans z⟩) (decide_eq_false (fun q => by have := q.1; rw [va_up_self] at this; omega)) (fun i hne => by unfold mp_; rw [va_up_ne _ _ hne])] at c
        omega
      · rw [if_neg z, Nat.add_zero] at c
        rw [← c]
        exact cn_ext (fun i _ => by
          by_cases w : i = i0
          · unfold mp_
            rw [w, va_up_self, decide_eq_false (fun q => z (hk.trans q.2)), decide_eq_false (fun q => by have := q.1; omega)]
          · unfold mp_
            rw [va_up_ne _ _ w])
    · have c := hl
      rw [(h r hr).2, cn_off (q := mh_ (va_up Hm i0 0) r) hi (decide_eq_true h3) (decide_eq_false (fun q => by rw [va_up_self] at q; omega)) (fun i hne => by unfold mh_; rw [va_up_ne _ _ hne])] at c
      omega
  · rw [va_up_ne _ _ hrf]
    refine ⟨fun y => ?_, ?_⟩
    · rw [(h r hr).1]
      exact cn_ext (fun i _ => by
        by_cases w : i = i0
        · unfold mp_
          rw [w, va_up_self, decide_eq_false (fun q => by have := q.1; omega), decide_eq_false (fun q => by have := q.1; omega)]
        · unfold mp_
          rw [va_up_ne _ _ w])
    · rw [(h r hr).2]
      exact cn_ext (fun i _ => by
        by_cases w : i = i0
        · unfold mh_
          rw [w, va_up_self, decide_eq_false (fun q => by omega), decide_eq_false (fun q => by omega)]
        · unfold mh_
          rw [va_up_ne _ _ w])
theorem rel_renew {X : Nat → List Nat} {K Hm Hc : Nat → Nat} {puts f : Nat} {Y : List Nat} (h : rel_ X K Hm puts) (hY : Y.length = 0) (hHc : ∀ j, Hc j = if j < puts ∧ Hm j = 1 + f then 0 else Hm j) : rel_ (va_up X f Y) K Hc puts := fun r hr => by
  by_cases hrf : r = f
  · subst hrf
    rw [va_up_self, List.length_eq_zero_iff.mp hY]
    have hno : ∀ i, i < puts → Hc i ≠ 1 + r := fun i hi e => by
      rw [hHc i] at e
      by_cases z : Hm i = 1 + r
      · rw [if_pos ⟨hi, z⟩] at e
        omega
      · rw [if_neg (fun q => z q.2)] at e
        exact z e
    exact ⟨fun y => (cn_zero (fun i hi => decide_eq_false (fun q => hno i hi q.1))).symm, (cn_zero (fun i hi => decide_eq_false (hno i hi))).symm⟩
  · rw [va_up_ne _ _ hrf]
    have hiff : ∀ i, Hc i = 1 + r ↔ Hm i = 1 + r := fun i => by
      rw [hHc i]
      by_cases z : i < puts ∧ Hm i = 1 + f
      · rw [if_pos z]
        have := z.2
        omega
      · rw [if_neg z]
    refine ⟨fun y => ?_, ?_⟩
    · rw [(h r hr).1]
      exact cn_ext (fun i _ => by unfold mp_; rw [decide_eq_decide, hiff i])
    · rw [(h r hr).2]
      exact cn_ext (fun i _ => by unfold mh_; rw [decide_eq_decide, hiff i])
/-- the desk and the model, side by side -/
def lk_X (hs : Nat → rh_R) : Nat → List Nat := fun r => rh_ks (rh_L (hs r))
theorem lk_X_up (hs : Nat → rh_R) (f : Nat) (R : rh_R) : lk_X (va_up hs f R) = va_up (lk_X hs) f (rh_ks (rh_L R)) := by
  funext r
  unfold lk_X va_up
  by_cases h : r = f <;> simp [h]
def law_ (P : gh_P) (x fa ff y ka ha ta : Nat) (G : gh_G) : Prop := ∃ (hs : Nat → rh_R) (lst K Hm T : Nat → Nat) (puts : Nat), DK P G x fa ff hs lst lst puts ∧ MD P G y ka ha ta K Hm T puts ∧ (∀ r, r < 4 → T r = lst r) ∧ rel_ (lk_X hs) K Hm puts
theorem md_dk {P : gh_P} {G : gh_G} {x fa ff y ka ha ta puts puts' : Nat} {hs : Nat → rh_R} {lst fl K Hm T : Nat → Nat} (d : DK P G x fa ff hs lst fl puts) (e : MD P G y ka ha ta K Hm T puts') (hne : ta ≠ ff) : ∀ a, md_F y ka ha ta a → ¬ dk_F P x fa ff hs a := by
  obtain ⟨d1, ⟨fv, d2, -⟩, ⟨gv, d3, -⟩, d4, -⟩ := d
  obtain ⟨e1, ⟨g1, e2, -⟩, ⟨g2, e3, -⟩, ⟨g3, e4, -⟩, -⟩ := e
  have hi : ∀ a n g, G a = some (gh_i (gh_cI P) n g) → a ≠ ff → ¬ dk_F P x fa ff hs a := fun a n g ha hn z => by
    rcases z with z | z | z | ⟨r, hr, z⟩
    · rw [z, d1] at ha
      cases ha
    · rw [z, d2] at ha
      simp at ha
    · exact hn z
    · exact rh_notin (d4 r hr) ha (fun fs w => by cases w) (fun fs w => by cases w) (fun c n f w => by cases w) z
  intro a hz
  rcases hz with hz | hz | hz | hz
  · rw [hz]
    rintro (z | z | z | ⟨r, hr, z⟩)
    · rw [z, d1] at e1
      cases e1
    · rw [z, d2] at e1
      cases e1
    · rw [z, d3] at e1
      cases e1
    · exact rh_notin (d4 r hr) e1 (fun fs w => by cases w) (fun fs w => by cases w) (fun c n f w => by cases w) z
  · rw [hz]
    exact hi ka _ _ e2 (gh_ne e2 d3 nI_i64)
  · rw [hz]
    exact hi ha _ _ e3 (gh_ne e3 d3 nI_i64)
  · rw [hz]
    exact hi ta _ _ e4 hne
/-- the desk's step leaves the model; the model's step leaves the desk -/
theorem md_after {P : gh_P} {G G1 : gh_G} {x fa ff y ka ha ta puts : Nat} {hs : Nat → rh_R} {lst fl K Hm T : Nat → Nat} (d : DK P G x fa ff hs lst fl puts) (e : MD P G y ka ha ta K Hm T puts) (hne : ta ≠ ff) (hf : gh_fr (dk_F P x fa ff hs) G G1) : MD P G1 y ka ha ta K Hm T puts := e.keep hf (md_dk d e hne)
theorem dk_after {P : gh_P} {G G1 : gh_G} {x fa ff y ka ha ta puts puts' : Nat} {hs : Nat → rh_R} {lst fl K Hm T : Nat → Nat} (d : DK P G x fa ff hs lst fl puts') (e : MD P G y ka ha ta K Hm T puts) (hne : ta ≠ ff) (hf : gh_fr (md_F y ka ha ta) G G1) : DK P G1 x fa ff hs lst fl puts' := by
  refine d.keep hf (fun a ha z => md_dk d e hne a z ha) ?_ ?_
  · obtain ⟨e1, ⟨g1, e2, -⟩, ⟨g2, e3, -⟩, ⟨g3, e4, -⟩, -⟩ := e
    rintro a v hz (z | z | z | z)
    · rw [z, e1] at hz
      cases hz
    · rw [z, e2] at hz
      cases hz
    · rw [z, e3] at hz
      cases hz
    · rw [z, e4] at hz
      cases hz
  · obtain ⟨-, -, -, -, -, -, -, -, n1, n2, n3, n4, -⟩ := e
    rintro a (z | z | z | z) <;> rw [z] <;> assumption
end
section
/-! The law's loop -/
set_option maxRecDepth 100000
set_option maxHeartbeats 4000000 in
theorem lp_put {p : Program} {l : Launch} {e : Env} {s : State} {m : MethodId} {args : Array Value} {below : List Frame} {meth : Method} {c : Code} {R : Room} {Q : State → Prop} {P : gh_P} (hx : p.tables.exec = Jvm.exec) (hb : c.code = cL_law) (hml : c.maxLocals = 4) (hts : ∀ w ∈ lw_all, w.before args s = true) (hown : s.vm.findClass "IntegerRadixHeapDeskLaw" = some m.cls) (hE : gh_E P s) (hR : 10 ≤ R.frames ∧ 7000 ≤ R.cells ∧ 1000000 ≤ R.slots ∧ 300 ≤ R.locals) {x fa ff y ka ha ta b L : Nat} {xs : Nat → Int32} (hL : L ≤ 384) (hX : va_X b L xs s s.heap) (hbl : b < s.heap.size) (hbA : ¬ gh_A P b) (hne : ta ≠ ff) {i n : Nat} {G : gh_G} {H : Heap} {locs : List Loc} {ls : Array Slot} (hi : i + 6 ≤ L) (hn : i = 6 * n) (hG : gh_H P G H) (hS : va_S (gh_A P) s.heap H locs) (hlaw : law_ P x fa ff y ka ha ta G) (hl : lv_has ls 4 [(3, .int (nI i)), (1, .ref x), (2, .ref y), (0, .ref b)])
    (kk : ∀ (G : gh_G) (H : Heap) (locs : List Loc) (ls : Array Slot), gh_H P G H → va_S (gh_A P) s.heap H locs → law_ P x fa ff y ka ha ta G → lv_has ls 4 [(3, .int (nI i)), (1, .ref x), (2, .ref y), (0, .ref b)] → W p l e R s m args below meth c H locs (200 + 100 * (n + 1)) (1000 + 14000 * (n + 1)) Q (F0 m 255 ls [])) : W p l e R s m args below meth c H locs (200 + 100 * n) (1000 + 14000 * n) Q (F0 m 76 ls []) := by
  obtain ⟨hs, lst, K, Hm, T, puts, d, e, hTl, hrel⟩ := hlaw
  obtain ⟨f, hf, hfe⟩ := pk_andE (xs (i + 1)) (m := 3) 2 (by decide)
  have hf : f < 4 := hf
  obtain ⟨k, hk, hke⟩ := pk_andE (xs (i + 2)) (m := 1048575) 20 (by decide)
  have hk : k < 1048576 := hk
  have hT := hTl f hf
  refine lv_aload_n hx hb dL_law_76 rfl (lv_at hl 1 rfl) ?_
  refine lv_aload_n hx hb dL_law_77 rfl (lv_at hl 3 rfl) ?_
  refine lv_iload_n hx hb dL_law_78 rfl (lv_at hl 0 rfl) ?_
  refine lv_iconst (v := 1) hx hb dL_law_79 (by decide) ?_
  refine lv_iadd hx hb dL_law_80 ?_
  refine lv_topi (fun z_0 ez_0 => ?_)
  obtain rfl : z_0 = nI (i + 1) := ez_0.trans (nI_add i 1)
  refine va_sld hx hb hX hbl hbA hS (vp_in_nI (show i + 1 < L by omega) (by omega)) dL_law_81 ?_
  rw [nI_clamp (show i + 1 < 2 ^ 31 by omega)]
  refine lv_aload_n hx hb dL_law_82 rfl (lv_at hl 3 rfl) ?_
  refine lv_iload_n hx hb dL_law_83 rfl (lv_at hl 0 rfl) ?_
  refine lv_iconst (v := 2) hx hb dL_law_84 (by decide) ?_
  refine lv_iadd hx hb dL_law_85 ?_
  refine lv_topi (fun z_1 ez_1 => ?_)
  obtain rfl : z_1 = nI (i + 2) := ez_1.trans (nI_add i 2)
  refine va_sld hx hb hX hbl hbA hS (vp_in_nI (show i + 2 < L by omega) (by omega)) dL_law_86 ?_
  rw [nI_clamp (show i + 2 < 2 ^ 31 by omega)]
  refine gh_calli (va_runV (As := [.int (xs (i + 1)), .int (xs (i + 2))]) (rest := []) ⟨hx, hb, hml, hown, hts⟩ (c_dput l P G x fa ff puts hs lst d (xs (i + 1)) f hf hfe (xs (i + 2)) k hk hke) (cwV 2 hts (lw_V q231 q232 q233 q8 q234) rfl rfl rfl (by decide +kernel) ⟨by show 8 + 1 ≤ R.frames; omega, by show 8 + (5 + 11) + 220 ≤ R.locals; omega⟩) (gh_preV hE hG hS (gh_recv hE hG d.1 rfl)) rfl rfl hl.1 rfl (lv_room (Nat.le_of_ble_eq_true rfl)) dL_law_87 ⟨by omega, by omega⟩) hS (fun r1 G1 H locs hw hG hS => ?_)
  rcases hw with ⟨⟨h1, h2⟩, rfl, R', d1, hc, hlen, hfr⟩ | ⟨hno, rfl, hG9⟩
  · have e1 := md_after d e hne hfr
    refine lv_aload_n hx hb dL_law_90 rfl (lv_at hl 2 rfl) ?_
    refine lv_aload_n hx hb dL_law_91 rfl (lv_at hl 3 rfl) ?_
    refine lv_iload_n hx hb dL_law_92 rfl (lv_at hl 0 rfl) ?_
    refine lv_iconst (v := 1) hx hb dL_law_93 (by decide) ?_
    refine lv_iadd hx hb dL_law_94 ?_
    refine lv_topi (fun z_2 ez_2 => ?_)
    obtain rfl : z_2 = nI (i + 1) := ez_2.trans (nI_add i 1)
    refine va_sld hx hb hX hbl hbA hS (vp_in_nI (show i + 1 < L by omega) (by omega)) dL_law_95 ?_
    rw [nI_clamp (show i + 1 < 2 ^ 31 by omega)]
    refine lv_aload_n hx hb dL_law_96 rfl (lv_at hl 3 rfl) ?_
    refine lv_iload_n hx hb dL_law_97 rfl (lv_at hl 0 rfl) ?_
    refine lv_iconst (v := 2) hx hb dL_law_98 (by decide) ?_
    refine lv_iadd hx hb dL_law_99 ?_
    refine lv_topi (fun z_3 ez_3 => ?_)
    obtain rfl : z_3 = nI (i + 2) := ez_3.trans (nI_add i 2)
    refine va_sld hx hb hX hbl hbA hS (vp_in_nI (show i + 2 < L by omega) (by omega)) dL_law_100 ?_
    rw [nI_clamp (show i + 2 < 2 ^ 31 by omega)]
    refine gh_calli (va_runV (As := [.int (xs (i + 1)), .int (xs (i + 2))]) (rest := [.int 1]) ⟨hx, hb, hml, hown, hts⟩ (c_mput l P G1 y ka ha ta puts K Hm T e1 (xs (i + 1)) f hf hfe (xs (i + 2)) k hk hke) (cwV 2 hts (lw_V q541 q542 q543 q21 q544) rfl rfl rfl (by decide +kernel) ⟨by show 2 + 1 ≤ R.frames; omega, by show 8 + (3 + 11) + 80 ≤ R.locals; omega⟩) (gh_preV hE hG hS (gh_recv hE hG (e1).1 rfl)) rfl rfl hl.1 rfl (lv_room (Nat.le_of_ble_eq_true rfl)) dL_law_101 ⟨by omega, by omega⟩) hS (fun r2 G2 H locs hw hG hS => ?_)
    rcases hw with ⟨c1, rfl, e2, hfr2⟩ | ⟨c1, -, -⟩
    · have d2 := dk_after d1 e1 hne hfr2
      refine lv_icmp_eq (tgt := 255) hx hb dL_law_104 (by decide) (fun _ => ?_) (fun c_9 => absurd (rfl) c_9)
      refine W.widen (k := 200 + 100 * (n + 1)) (n := 1000 + 14000 * (n + 1)) (by omega) (by omega) ?_
      exact kk G2 H locs ls hG hS (⟨va_up hs f R', lst, va_up K puts k, va_up Hm puts (1 + f), T, puts + 1, d2, e2, hTl, by rw [lk_X_up]; exact rel_ins hrel hf hc hlen⟩) hl
    · exact absurd ⟨h1, by omega, hk⟩ c1
  · replace hG := hG9 ▸ hG
    refine lv_aload_n hx hb dL_law_90 rfl (lv_at hl 2 rfl) ?_
    refine lv_aload_n hx hb dL_law_91 rfl (lv_at hl 3 rfl) ?_
    refine lv_iload_n hx hb dL_law_92 rfl (lv_at hl 0 rfl) ?_
    refine lv_iconst (v := 1) hx hb dL_law_93 (by decide) ?_
    refine lv_iadd hx hb dL_law_94 ?_
    refine lv_topi (fun z_4 ez_4 => ?_)
    obtain rfl : z_4 = nI (i + 1) := ez_4.trans (nI_add i 1)
    refine va_sld hx hb hX hbl hbA hS (vp_in_nI (show i + 1 < L by omega) (by omega)) dL_law_95 ?_
    rw [nI_clamp (show i + 1 < 2 ^ 31 by omega)]
    refine lv_aload_n hx hb dL_law_96 rfl (lv_at hl 3 rfl) ?_
    refine lv_iload_n hx hb dL_law_97 rfl (lv_at hl 0 rfl) ?_
    refine lv_iconst (v := 2) hx hb dL_law_98 (by decide) ?_
    refine lv_iadd hx hb dL_law_99 ?_
    refine lv_topi (fun z_5 ez_5 => ?_)
    obtain rfl : z_5 = nI (i + 2) := ez_5.trans (nI_add i 2)
    refine va_sld hx hb hX hbl hbA hS (vp_in_nI (show i + 2 < L by omega) (by omega)) dL_law_100 ?_
    rw [nI_clamp (show i + 2 < 2 ^ 31 by omega)]
    refine gh_calli (va_runV (As := [.int (xs (i + 1)), .int (xs (i + 2))]) (rest := [.int 0]) ⟨hx, hb, hml, hown, hts⟩ (c_mput l P G y ka ha ta puts K Hm T e (xs (i + 1)) f hf hfe (xs (i + 2)) k hk hke) (cwV 2 hts (lw_V q541 q542 q543 q21 q544) rfl rfl rfl (by decide +kernel) ⟨by show 2 + 1 ≤ R.frames; omega, by show 8 + (3 + 11) + 80 ≤ R.locals; omega⟩) (gh_preV hE hG hS (gh_recv hE hG (e).1 rfl)) rfl rfl hl.1 rfl (lv_room (Nat.le_of_ble_eq_true rfl)) dL_law_101 ⟨by omega, by omega⟩) hS (fun r2 G2 H locs hw hG hS => ?_)
    rcases hw with ⟨⟨c1, c2, c3⟩, -, -, -⟩ | ⟨c1, rfl, hG8⟩
    · exact absurd ⟨c1, by omega⟩ hno
    · replace hG := hG8 ▸ hG
      refine lv_icmp_eq (tgt := 255) hx hb dL_law_104 (by decide) (fun _ => ?_) (fun c_9 => absurd (rfl) c_9)
      refine W.widen (k := 200 + 100 * (n + 1)) (n := 1000 + 14000 * (n + 1)) (by omega) (by omega) ?_
      exact kk G H locs ls hG hS (⟨hs, lst, K, Hm, T, puts, d, e, hTl, hrel⟩) hl
set_option maxHeartbeats 4000000 in
theorem lp_above {p : Program} {l : Launch} {e : Env} {s : State} {m : MethodId} {args : Array Value} {below : List Frame} {meth : Method} {c : Code} {R : Room} {Q : State → Prop} {P : gh_P} (hx : p.tables.exec = Jvm.exec) (hb : c.code = cL_law) (hml : c.maxLocals = 4) (hts : ∀ w ∈ lw_all, w.before args s = true) (hown : s.vm.findClass "IntegerRadixHeapDeskLaw" = some m.cls) (hE : gh_E P s) (hR : 10 ≤ R.frames ∧ 7000 ≤ R.cells ∧ 1000000 ≤ R.slots ∧ 300 ≤ R.locals) {x fa ff y ka ha ta b L : Nat} {xs : Nat → Int32} (hL : L ≤ 384) (hX : va_X b L xs s s.heap) (hbl : b < s.heap.size) (hbA : ¬ gh_A P b) (hne : ta ≠ ff) {i n : Nat} {G : gh_G} {H : Heap} {locs : List Loc} {ls : Array Slot} (hi : i + 6 ≤ L) (hn : i = 6 * n) (hG : gh_H P G H) (hS : va_S (gh_A P) s.heap H locs) (hlaw : law_ P x fa ff y ka ha ta G) (hl : lv_has ls 4 [(3, .int (nI i)), (1, .ref x), (2, .ref y), (0, .ref b)])
    (kk : ∀ (G : gh_G) (H : Heap) (locs : List Loc) (ls : Array Slot), gh_H P G H → va_S (gh_A P) s.heap H locs → law_ P x fa ff y ka ha ta G → lv_has ls 4 [(3, .int (nI i)), (1, .ref x), (2, .ref y), (0, .ref b)] → W p l e R s m args below meth c H locs (200 + 100 * (n + 1)) (1000 + 14000 * (n + 1)) Q (F0 m 255 ls [])) : W p l e R s m args below meth c H locs (200 + 100 * n) (1000 + 14000 * n) Q (F0 m 109 ls []) := by
  obtain ⟨hs, lst, K, Hm, T, puts, d, e, hTl, hrel⟩ := hlaw
  obtain ⟨f, hf, hfe⟩ := pk_andE (xs (i + 1)) (m := 3) 2 (by decide)
  have hf : f < 4 := hf
  obtain ⟨j, hj, hje⟩ := pk_andE (xs (i + 2)) (m := 1023) 10 (by decide)
  have hj : j < 1024 := hj
  have hT := hTl f hf
  obtain ⟨k, hke⟩ : ∃ k, k = lst f + j := ⟨_, rfl⟩
  have hke2 : k = T f + j := by omega
  refine lv_aload_n hx hb dL_law_109 rfl (lv_at hl 1 rfl) ?_
  refine lv_aload_n hx hb dL_law_110 rfl (lv_at hl 3 rfl) ?_
  refine lv_iload_n hx hb dL_law_111 rfl (lv_at hl 0 rfl) ?_
  refine lv_iconst (v := 1) hx hb dL_law_112 (by decide) ?_
  refine lv_iadd hx hb dL_law_113 ?_
  refine lv_topi (fun z_0 ez_0 => ?_)
  obtain rfl : z_0 = nI (i + 1) := ez_0.trans (nI_add i 1)
  refine va_sld hx hb hX hbl hbA hS (vp_in_nI (show i + 1 < L by omega) (by omega)) dL_law_114 ?_
  rw [nI_clamp (show i + 1 < 2 ^ 31 by omega)]
  refine lv_aload_n hx hb dL_law_115 rfl (lv_at hl 3 rfl) ?_
  refine lv_iload_n hx hb dL_law_116 rfl (lv_at hl 0 rfl) ?_
  refine lv_iconst (v := 2) hx hb dL_law_117 (by decide) ?_
  refine lv_iadd hx hb dL_law_118 ?_
  refine lv_topi (fun z_1 ez_1 => ?_)
  obtain rfl : z_1 = nI (i + 2) := ez_1.trans (nI_add i 2)
  refine va_sld hx hb hX hbl hbA hS (vp_in_nI (show i + 2 < L by omega) (by omega)) dL_law_119 ?_
  rw [nI_clamp (show i + 2 < 2 ^ 31 by omega)]
  refine gh_calli (va_runV (As := [.int (xs (i + 1)), .int (xs (i + 2))]) (rest := []) ⟨hx, hb, hml, hown, hts⟩ (c_dabove l P G x fa ff puts hs lst d (xs (i + 1)) f hf hfe (xs (i + 2)) j k hj hje hke) (cwV 2 hts (lw_V q358 q359 q360 q8 q361) rfl rfl rfl (by decide +kernel) ⟨by show 8 + 1 ≤ R.frames; omega, by show 8 + (5 + 11) + 220 ≤ R.locals; omega⟩) (gh_preV hE hG hS (gh_recv hE hG d.1 rfl)) rfl rfl hl.1 rfl (lv_room (Nat.le_of_ble_eq_true rfl)) dL_law_120 ⟨by omega, by omega⟩) hS (fun r1 G1 H locs hw hG hS => ?_)
  rcases hw with ⟨⟨h1, h2⟩, rfl, R', d1, hc, hlen, hfr⟩ | ⟨hno, rfl, hG9⟩
  · have e1 := md_after d e hne hfr
    refine lv_aload_n hx hb dL_law_123 rfl (lv_at hl 2 rfl) ?_
    refine lv_aload_n hx hb dL_law_124 rfl (lv_at hl 3 rfl) ?_
    refine lv_iload_n hx hb dL_law_125 rfl (lv_at hl 0 rfl) ?_
    refine lv_iconst (v := 1) hx hb dL_law_126 (by decide) ?_
    refine lv_iadd hx hb dL_law_127 ?_
    refine lv_topi (fun z_2 ez_2 => ?_)
    obtain rfl : z_2 = nI (i + 1) := ez_2.trans (nI_add i 1)
    refine va_sld hx hb hX hbl hbA hS (vp_in_nI (show i + 1 < L by omega) (by omega)) dL_law_128 ?_
    rw [nI_clamp (show i + 1 < 2 ^ 31 by omega)]
    refine lv_aload_n hx hb dL_law_129 rfl (lv_at hl 3 rfl) ?_
    refine lv_iload_n hx hb dL_law_130 rfl (lv_at hl 0 rfl) ?_
    refine lv_iconst (v := 2) hx hb dL_law_131 (by decide) ?_
    refine lv_iadd hx hb dL_law_132 ?_
    refine lv_topi (fun z_3 ez_3 => ?_)
    obtain rfl : z_3 = nI (i + 2) := ez_3.trans (nI_add i 2)
    refine va_sld hx hb hX hbl hbA hS (vp_in_nI (show i + 2 < L by omega) (by omega)) dL_law_133 ?_
    rw [nI_clamp (show i + 2 < 2 ^ 31 by omega)]
    refine gh_calli (va_runV (As := [.int (xs (i + 1)), .int (xs (i + 2))]) (rest := [.int 1]) ⟨hx, hb, hml, hown, hts⟩ (c_mabove l P G1 y ka ha ta puts K Hm T e1 (xs (i + 1)) f hf hfe (xs (i + 2)) j k hj hje hke2) (cwV 2 hts (lw_V q551 q552 q553 q21 q554) rfl rfl rfl (by decide +kernel) ⟨by show 2 + 1 ≤ R.frames; omega, by show 8 + (3 + 11) + 80 ≤ R.locals; omega⟩) (gh_preV hE hG hS (gh_recv hE hG (e1).1 rfl)) rfl rfl hl.1 rfl (lv_room (Nat.le_of_ble_eq_true rfl)) dL_law_134 ⟨by omega, by omega⟩) hS (fun r2 G2 H locs hw hG hS => ?_)
    rcases hw with ⟨c1, rfl, e2, hfr2⟩ | ⟨c1, -, -⟩
    · have d2 := dk_after d1 e1 hne hfr2
      refine lv_icmp_eq (tgt := 255) hx hb dL_law_137 (by decide) (fun _ => ?_) (fun c_9 => absurd (rfl) c_9)
      refine W.widen (k := 200 + 100 * (n + 1)) (n := 1000 + 14000 * (n + 1)) (by omega) (by omega) ?_
      exact kk G2 H locs ls hG hS (⟨va_up hs f R', lst, va_up K puts k, va_up Hm puts (1 + f), T, puts + 1, d2, e2, hTl, by rw [lk_X_up]; exact rel_ins hrel hf hc hlen⟩) hl
    · exact absurd ⟨h1, by omega, by omega⟩ c1
  · replace hG := hG9 ▸ hG
    refine lv_aload_n hx hb dL_law_123 rfl (lv_at hl 2 rfl) ?_
    refine lv_aload_n hx hb dL_law_124 rfl (lv_at hl 3 rfl) ?_
    refine lv_iload_n hx hb dL_law_125 rfl (lv_at hl 0 rfl) ?_
    refine lv_iconst (v := 1) hx hb dL_law_126 (by decide) ?_
    refine lv_iadd hx hb dL_law_127 ?_
    refine lv_topi (fun z_4 ez_4 => ?_)
    obtain rfl : z_4 = nI (i + 1) := ez_4.trans (nI_add i 1)
    refine va_sld hx hb hX hbl hbA hS (vp_in_nI (show i + 1 < L by omega) (by omega)) dL_law_128 ?_
    rw [nI_clamp (show i + 1 < 2 ^ 31 by omega)]
    refine lv_aload_n hx hb dL_law_129 rfl (lv_at hl 3 rfl) ?_
    refine lv_iload_n hx hb dL_law_130 rfl (lv_at hl 0 rfl) ?_
    refine lv_iconst (v := 2) hx hb dL_law_131 (by decide) ?_
    refine lv_iadd hx hb dL_law_132 ?_
    refine lv_topi (fun z_5 ez_5 => ?_)
    obtain rfl : z_5 = nI (i + 2) := ez_5.trans (nI_add i 2)
    refine va_sld hx hb hX hbl hbA hS (vp_in_nI (show i + 2 < L by omega) (by omega)) dL_law_133 ?_
    rw [nI_clamp (show i + 2 < 2 ^ 31 by omega)]
    refine gh_calli (va_runV (As := [.int (xs (i + 1)), .int (xs (i + 2))]) (rest := [.int 0]) ⟨hx, hb, hml, hown, hts⟩ (c_mabove l P G y ka ha ta puts K Hm T e (xs (i + 1)) f hf hfe (xs (i + 2)) j k hj hje hke2) (cwV 2 hts (lw_V q551 q552 q553 q21 q554) rfl rfl rfl (by decide +kernel) ⟨by show 2 + 1 ≤ R.frames; omega, by show 8 + (3 + 11) + 80 ≤ R.locals; omega⟩) (gh_preV hE hG hS (gh_recv hE hG (e).1 rfl)) rfl rfl hl.1 rfl (lv_room (Nat.le_of_ble_eq_true rfl)) dL_law_134 ⟨by omega, by omega⟩) hS (fun r2 G2 H locs hw hG hS => ?_)
    rcases hw with ⟨⟨c1, c2, c3⟩, -, -, -⟩ | ⟨c1, rfl, hG8⟩
    · exact absurd ⟨c1, by omega⟩ hno
    · replace hG := hG8 ▸ hG
      refine lv_icmp_eq (tgt := 255) hx hb dL_law_137 (by decide) (fun _ => ?_) (fun c_9 => absurd (rfl) c_9)
      refine W.widen (k := 200 + 100 * (n + 1)) (n := 1000 + 14000 * (n + 1)) (by omega) (by omega) ?_
      exact kk G H locs ls hG hS (⟨hs, lst, K, Hm, T, puts, d, e, hTl, hrel⟩) hl
set_option maxHeartbeats 4000000 in
theorem lp_least {p : Program} {l : Launch} {e : Env} {s : State} {m : MethodId} {args : Array Value} {below : List Frame} {meth : Method} {c : Code} {R : Room} {Q : State → Prop} {P : gh_P} (hx : p.tables.exec = Jvm.exec) (hb : c.code = cL_law) (hml : c.maxLocals = 4) (hts : ∀ w ∈ lw_all, w.before args s = true) (hown : s.vm.findClass "IntegerRadixHeapDeskLaw" = some m.cls) (hE : gh_E P s) (hR : 10 ≤ R.frames ∧ 7000 ≤ R.cells ∧ 1000000 ≤ R.slots ∧ 300 ≤ R.locals) {x fa ff y ka ha ta b L : Nat} {xs : Nat → Int32} (hL : L ≤ 384) (hX : va_X b L xs s s.heap) (hbl : b < s.heap.size) (hbA : ¬ gh_A P b) (hne : ta ≠ ff) {i n : Nat} {G : gh_G} {H : Heap} {locs : List Loc} {ls : Array Slot} (hi : i + 6 ≤ L) (hn : i = 6 * n) (hG : gh_H P G H) (hS : va_S (gh_A P) s.heap H locs) (hlaw : law_ P x fa ff y ka ha ta G) (hl : lv_has ls 4 [(3, .int (nI i)), (1, .ref x), (2, .ref y), (0, .ref b)])
    (kk : ∀ (G : gh_G) (H : Heap) (locs : List Loc) (ls : Array Slot), gh_H P G H → va_S (gh_A P) s.heap H locs → law_ P x fa ff y ka ha ta G → lv_has ls 4 [(3, .int (nI i)), (1, .ref x), (2, .ref y), (0, .ref b)] → W p l e R s m args below meth c H locs (200 + 100 * (n + 1)) (1000 + 14000 * (n + 1)) Q (F0 m 255 ls [])) : W p l e R s m args below meth c H locs (200 + 100 * n) (1000 + 14000 * n) Q (F0 m 142 ls []) := by
  obtain ⟨hs, lst, K, Hm, T, puts, d, e, hTl, hrel⟩ := hlaw
  obtain ⟨f, hf, hfe⟩ := pk_andE (xs (i + 1)) (m := 3) 2 (by decide)
  have hf : f < 4 := hf
  refine lv_aload_n hx hb dL_law_142 rfl (lv_at hl 1 rfl) ?_
  refine lv_aload_n hx hb dL_law_143 rfl (lv_at hl 3 rfl) ?_
  refine lv_iload_n hx hb dL_law_144 rfl (lv_at hl 0 rfl) ?_
  refine lv_iconst (v := 1) hx hb dL_law_145 (by decide) ?_
  refine lv_iadd hx hb dL_law_146 ?_
  refine lv_topi (fun z_0 ez_0 => ?_)
  obtain rfl : z_0 = nI (i + 1) := ez_0.trans (nI_add i 1)
  refine va_sld hx hb hX hbl hbA hS (vp_in_nI (show i + 1 < L by omega) (by omega)) dL_law_147 ?_
  rw [nI_clamp (show i + 1 < 2 ^ 31 by omega)]
  refine gh_calli (va_runV (As := [.int (xs (i + 1))]) (rest := []) ⟨hx, hb, hml, hown, hts⟩ (c_dleast l P G x fa ff puts hs lst d (xs (i + 1)) f hf hfe) (cwV 1 hts (lw_V q362 q363 q364 q8 q365) rfl rfl rfl (by decide +kernel) ⟨by show 8 + 1 ≤ R.frames; omega, by show 8 + (3 + 11) + 220 ≤ R.locals; omega⟩) (gh_preV hE hG hS (gh_recv hE hG d.1 rfl)) rfl rfl hl.1 rfl (lv_room (Nat.le_of_ble_eq_true rfl)) dL_law_148 ⟨by omega, by omega⟩) hS (fun r1 G1 H locs hw hG hS => ?_)
  obtain ⟨hG9, hw1⟩ := hw
  replace hG := hG9 ▸ hG
  refine lv_aload_n hx hb dL_law_151 rfl (lv_at hl 2 rfl) ?_
  refine lv_aload_n hx hb dL_law_152 rfl (lv_at hl 3 rfl) ?_
  refine lv_iload_n hx hb dL_law_153 rfl (lv_at hl 0 rfl) ?_
  refine lv_iconst (v := 1) hx hb dL_law_154 (by decide) ?_
  refine lv_iadd hx hb dL_law_155 ?_
  refine lv_topi (fun z_1 ez_1 => ?_)
  obtain rfl : z_1 = nI (i + 1) := ez_1.trans (nI_add i 1)
  refine va_sld hx hb hX hbl hbA hS (vp_in_nI (show i + 1 < L by omega) (by omega)) dL_law_156 ?_
  rw [nI_clamp (show i + 1 < 2 ^ 31 by omega)]
  refine gh_calli (va_runV (As := [.int (xs (i + 1))]) (rest := [.int r1]) ⟨hx, hb, hml, hown, hts⟩ (c_mleast l P G y ka ha ta puts K Hm T e (xs (i + 1)) f hf hfe) (cwV 1 hts (lw_V q555 q556 q557 q21 q558) rfl rfl rfl (by decide +kernel) ⟨by show 1 + 1 ≤ R.frames; omega, by show 8 + (3 + 11) + 50 ≤ R.locals; omega⟩) (gh_preV hE hG hS (gh_recv hE hG (e).1 rfl)) rfl rfl hl.1 rfl (lv_room (Nat.le_of_ble_eq_true rfl)) dL_law_157 ⟨by omega, by omega⟩) hS (fun r2 G2 H locs hw hG hS => ?_)
  obtain ⟨hG8, hw2⟩ := hw
  replace hG := hG8 ▸ hG
  have hr : r1 = r2 := by
    rcases hw1 with ⟨h1, q1⟩ | ⟨mm, h1, h2, -, q1⟩
    · rcases hw2 with ⟨q2, -⟩ | ⟨i0, h5, -, h6, -⟩
      · rw [q1, q2]
      · exact absurd h6 ((rel_none hrel hf).mp h1 i0 h5)
    · rcases hw2 with ⟨-, h5⟩ | ⟨i0, h5, q2, h6, h7⟩
      · have z := (rel_none hrel hf).mpr h5
        have z2 : mm ∈ lk_X hs f := h1
        rw [List.length_eq_zero_iff.mp z] at z2
        cases z2
      · rw [q1, q2, rel_min hrel hf h1 h2 h5 h6 h7]
  refine lv_icmp_eq (tgt := 255) hx hb dL_law_160 (by decide) (fun _ => ?_) (fun c_9 => absurd (hr) c_9)
  refine W.widen (k := 200 + 100 * (n + 1)) (n := 1000 + 14000 * (n + 1)) (by omega) (by omega) ?_
  exact kk G H locs ls hG hS (⟨hs, lst, K, Hm, T, puts, d, e, hTl, hrel⟩) hl
set_option maxHeartbeats 4000000 in
theorem lp_take {p : Program} {l : Launch} {e : Env} {s : State} {m : MethodId} {args : Array Value} {below : List Frame} {meth : Method} {c : Code} {R : Room} {Q : State → Prop} {P : gh_P} (hx : p.tables.exec = Jvm.exec) (hb : c.code = cL_law) (hml : c.maxLocals = 4) (hts : ∀ w ∈ lw_all, w.before args s = true) (hown : s.vm.findClass "IntegerRadixHeapDeskLaw" = some m.cls) (hE : gh_E P s) (hR : 10 ≤ R.frames ∧ 7000 ≤ R.cells ∧ 1000000 ≤ R.slots ∧ 300 ≤ R.locals) {x fa ff y ka ha ta b L : Nat} {xs : Nat → Int32} (hL : L ≤ 384) (hX : va_X b L xs s s.heap) (hbl : b < s.heap.size) (hbA : ¬ gh_A P b) (hne : ta ≠ ff) {i n : Nat} {G : gh_G} {H : Heap} {locs : List Loc} {ls : Array Slot} (hi : i + 6 ≤ L) (hn : i = 6 * n) (hG : gh_H P G H) (hS : va_S (gh_A P) s.heap H locs) (hlaw : law_ P x fa ff y ka ha ta G) (hl : lv_has ls 4 [(3, .int (nI i)), (1, .ref x), (2, .ref y), (0, .ref b)])
    (kk : ∀ (G : gh_G) (H : Heap) (locs : List Loc) (ls : Array Slot), gh_H P G H → va_S (gh_A P) s.heap H locs → law_ P x fa ff y ka ha ta G → lv_has ls 4 [(3, .int (nI i)), (1, .ref x), (2, .ref y), (0, .ref b)] → W p l e R s m args below meth c H locs (200 + 100 * (n + 1)) (1000 + 14000 * (n + 1)) Q (F0 m 255 ls [])) : W p l e R s m args below meth c H locs (200 + 100 * n) (1000 + 14000 * n) Q (F0 m 165 ls []) := by
  obtain ⟨hs, lst, K, Hm, T, puts, d, e, hTl, hrel⟩ := hlaw
  obtain ⟨f, hf, hfe⟩ := pk_andE (xs (i + 1)) (m := 3) 2 (by decide)
  have hf : f < 4 := hf
  refine lv_aload_n hx hb dL_law_165 rfl (lv_at hl 1 rfl) ?_
  refine lv_aload_n hx hb dL_law_166 rfl (lv_at hl 3 rfl) ?_
  refine lv_iload_n hx hb dL_law_167 rfl (lv_at hl 0 rfl) ?_
  refine lv_iconst (v := 1) hx hb dL_law_168 (by decide) ?_
  refine lv_iadd hx hb dL_law_169 ?_
  refine lv_topi (fun z_0 ez_0 => ?_)
  obtain rfl : z_0 = nI (i + 1) := ez_0.trans (nI_add i 1)
  refine va_sld hx hb hX hbl hbA hS (vp_in_nI (show i + 1 < L by omega) (by omega)) dL_law_170 ?_
  rw [nI_clamp (show i + 1 < 2 ^ 31 by omega)]
  refine gh_calli (va_runV (As := [.int (xs (i + 1))]) (rest := []) ⟨hx, hb, hml, hown, hts⟩ (c_dtake l P G x fa ff puts hs lst d (xs (i + 1)) f hf hfe) (cwV 1 hts (lw_V q401 q402 q403 q8 q404) rfl rfl rfl (by decide +kernel) ⟨by show 8 + 1 ≤ R.frames; omega, by show 8 + (4 + 11) + 220 ≤ R.locals; omega⟩) (gh_preV hE hG hS (gh_recv hE hG d.1 rfl)) rfl rfl hl.1 rfl (lv_room (Nat.le_of_ble_eq_true rfl)) dL_law_171 ⟨by omega, by omega⟩) hS (fun r1 G1 H locs hw hG hS => ?_)
  rcases hw with ⟨h1, rfl, hG9⟩ | ⟨R', k, rfl, hk, d1, hc, hlen, hmin, hfr⟩
  · replace hG := hG9 ▸ hG
    refine lv_aload_n hx hb dL_law_174 rfl (lv_at hl 2 rfl) ?_
    refine lv_aload_n hx hb dL_law_175 rfl (lv_at hl 3 rfl) ?_
    refine lv_iload_n hx hb dL_law_176 rfl (lv_at hl 0 rfl) ?_
    refine lv_iconst (v := 1) hx hb dL_law_177 (by decide) ?_
    refine lv_iadd hx hb dL_law_178 ?_
    refine lv_topi (fun z_1 ez_1 => ?_)
    obtain rfl : z_1 = nI (i + 1) := ez_1.trans (nI_add i 1)
    refine va_sld hx hb hX hbl hbA hS (vp_in_nI (show i + 1 < L by omega) (by omega)) dL_law_179 ?_
    rw [nI_clamp (show i + 1 < 2 ^ 31 by omega)]
    refine gh_calli (va_runV (As := [.int (xs (i + 1))]) (rest := [.int (-1)]) ⟨hx, hb, hml, hown, hts⟩ (c_mtake l P G y ka ha ta puts K Hm T e (xs (i + 1)) f hf hfe) (cwV 1 hts (lw_V q563 q564 q565 q21 q566) rfl rfl rfl (by decide +kernel) ⟨by show 1 + 1 ≤ R.frames; omega, by show 8 + (3 + 11) + 50 ≤ R.locals; omega⟩) (gh_preV hE hG hS (gh_recv hE hG (e).1 rfl)) rfl rfl hl.1 rfl (lv_room (Nat.le_of_ble_eq_true rfl)) dL_law_180 ⟨by omega, by omega⟩) hS (fun r2 G2 H locs hw hG hS => ?_)
    rcases hw with ⟨rfl, hG8, -⟩ | ⟨i0, h5, -, h6, -⟩
    · replace hG := hG8 ▸ hG
      refine lv_icmp_eq (tgt := 255) hx hb dL_law_183 (by decide) (fun _ => ?_) (fun c_9 => absurd (rfl) c_9)
      refine W.widen (k := 200 + 100 * (n + 1)) (n := 1000 + 14000 * (n + 1)) (by omega) (by omega) ?_
      exact kk G H locs ls hG hS (⟨hs, lst, K, Hm, T, puts, d, e, hTl, hrel⟩) hl
    · exact absurd h6 ((rel_none hrel hf).mp h1 i0 h5)
  · have e1 := md_after d e hne hfr
    have hkm : k ∈ lk_X hs f := List.count_pos_iff.mp (by have z := hc k; rw [one_count, if_pos rfl] at z; show 0 < (rh_ks (rh_L (hs f))).count k; omega)
    refine lv_aload_n hx hb dL_law_174 rfl (lv_at hl 2 rfl) ?_
    refine lv_aload_n hx hb dL_law_175 rfl (lv_at hl 3 rfl) ?_
    refine lv_iload_n hx hb dL_law_176 rfl (lv_at hl 0 rfl) ?_
    refine lv_iconst (v := 1) hx hb dL_law_177 (by decide) ?_
    refine lv_iadd hx hb dL_law_178 ?_
    refine lv_topi (fun z_2 ez_2 => ?_)
    obtain rfl : z_2 = nI (i + 1) := ez_2.trans (nI_add i 1)
    refine va_sld hx hb hX hbl hbA hS (vp_in_nI (show i + 1 < L by omega) (by omega)) dL_law_179 ?_
    rw [nI_clamp (show i + 1 < 2 ^ 31 by omega)]
    refine gh_calli (va_runV (As := [.int (xs (i + 1))]) (rest := [.int (nI k)]) ⟨hx, hb, hml, hown, hts⟩ (c_mtake l P G1 y ka ha ta puts K Hm T e1 (xs (i + 1)) f hf hfe) (cwV 1 hts (lw_V q563 q564 q565 q21 q566) rfl rfl rfl (by decide +kernel) ⟨by show 1 + 1 ≤ R.frames; omega, by show 8 + (3 + 11) + 50 ≤ R.locals; omega⟩) (gh_preV hE hG hS (gh_recv hE hG (e1).1 rfl)) rfl rfl hl.1 rfl (lv_room (Nat.le_of_ble_eq_true rfl)) dL_law_180 ⟨by omega, by omega⟩) hS (fun r2 G2 H locs hw hG hS => ?_)
    rcases hw with ⟨-, -, h5⟩ | ⟨i0, h5, rfl, h6, h7, e2, hfr2⟩
    · have z := (rel_none hrel hf).mpr h5
      rw [List.length_eq_zero_iff.mp z] at hkm
      cases hkm
    · have hk9 := rel_min hrel hf hkm hmin h5 h6 h7
      have d2 := dk_after d1 e1 hne hfr2
      have hT2 : ∀ r, r < 4 → va_up T f (K i0) r = va_up lst f k r := fun r hr => by
        by_cases z : r = f
        · rw [z, va_up_self, va_up_self, hk9]
        · rw [va_up_ne _ _ z, va_up_ne _ _ z]
          exact hTl r hr
      refine lv_icmp_eq (tgt := 255) hx hb dL_law_183 (by decide) (fun _ => ?_) (fun c_9 => absurd (by rw [hk9]) c_9)
      refine W.widen (k := 200 + 100 * (n + 1)) (n := 1000 + 14000 * (n + 1)) (by omega) (by omega) ?_
      exact kk G2 H locs ls hG hS (⟨va_up hs f R', va_up lst f k, K, va_up Hm i0 0, va_up T f (K i0), puts, d2, e2, hT2, by rw [lk_X_up]; exact rel_take hrel hf hc hlen h5 h6 hk9⟩) hl
set_option maxHeartbeats 4000000 in
theorem lp_size {p : Program} {l : Launch} {e : Env} {s : State} {m : MethodId} {args : Array Value} {below : List Frame} {meth : Method} {c : Code} {R : Room} {Q : State → Prop} {P : gh_P} (hx : p.tables.exec = Jvm.exec) (hb : c.code = cL_law) (hml : c.maxLocals = 4) (hts : ∀ w ∈ lw_all, w.before args s = true) (hown : s.vm.findClass "IntegerRadixHeapDeskLaw" = some m.cls) (hE : gh_E P s) (hR : 10 ≤ R.frames ∧ 7000 ≤ R.cells ∧ 1000000 ≤ R.slots ∧ 300 ≤ R.locals) {x fa ff y ka ha ta b L : Nat} {xs : Nat → Int32} (hL : L ≤ 384) (hX : va_X b L xs s s.heap) (hbl : b < s.heap.size) (hbA : ¬ gh_A P b) (hne : ta ≠ ff) {i n : Nat} {G : gh_G} {H : Heap} {locs : List Loc} {ls : Array Slot} (hi : i + 6 ≤ L) (hn : i = 6 * n) (hG : gh_H P G H) (hS : va_S (gh_A P) s.heap H locs) (hlaw : law_ P x fa ff y ka ha ta G) (hl : lv_has ls 4 [(3, .int (nI i)), (1, .ref x), (2, .ref y), (0, .ref b)])
    (kk : ∀ (G : gh_G) (H : Heap) (locs : List Loc) (ls : Array Slot), gh_H P G H → va_S (gh_A P) s.heap H locs → law_ P x fa ff y ka ha ta G → lv_has ls 4 [(3, .int (nI i)), (1, .ref x), (2, .ref y), (0, .ref b)] → W p l e R s m args below meth c H locs (200 + 100 * (n + 1)) (1000 + 14000 * (n + 1)) Q (F0 m 255 ls [])) : W p l e R s m args below meth c H locs (200 + 100 * n) (1000 + 14000 * n) Q (F0 m 188 ls []) := by
  obtain ⟨hs, lst, K, Hm, T, puts, d, e, hTl, hrel⟩ := hlaw
  obtain ⟨f, hf, hfe⟩ := pk_andE (xs (i + 1)) (m := 3) 2 (by decide)
  have hf : f < 4 := hf
  refine lv_aload_n hx hb dL_law_188 rfl (lv_at hl 1 rfl) ?_
  refine lv_aload_n hx hb dL_law_189 rfl (lv_at hl 3 rfl) ?_
  refine lv_iload_n hx hb dL_law_190 rfl (lv_at hl 0 rfl) ?_
  refine lv_iconst (v := 1) hx hb dL_law_191 (by decide) ?_
  refine lv_iadd hx hb dL_law_192 ?_
  refine lv_topi (fun z_0 ez_0 => ?_)
  obtain rfl : z_0 = nI (i + 1) := ez_0.trans (nI_add i 1)
  refine va_sld hx hb hX hbl hbA hS (vp_in_nI (show i + 1 < L by omega) (by omega)) dL_law_193 ?_
  rw [nI_clamp (show i + 1 < 2 ^ 31 by omega)]
  refine gh_calli (va_runV (As := [.int (xs (i + 1))]) (rest := []) ⟨hx, hb, hml, hown, hts⟩ (c_dsize l P G x fa ff puts hs lst d (xs (i + 1)) f hf hfe) (cwV 1 hts (lw_V q504 q505 q506 q8 q507) rfl rfl rfl (by decide +kernel) ⟨by show 8 + 1 ≤ R.frames; omega, by show 8 + (2 + 11) + 220 ≤ R.locals; omega⟩) (gh_preV hE hG hS (gh_recv hE hG d.1 rfl)) rfl rfl hl.1 rfl (lv_room (Nat.le_of_ble_eq_true rfl)) dL_law_194 ⟨by omega, by omega⟩) hS (fun r1 G1 H locs hw hG hS => ?_)
  obtain ⟨q1, hG9⟩ := hw
  replace hG := hG9 ▸ hG
  refine lv_aload_n hx hb dL_law_197 rfl (lv_at hl 2 rfl) ?_
  refine lv_aload_n hx hb dL_law_198 rfl (lv_at hl 3 rfl) ?_
  refine lv_iload_n hx hb dL_law_199 rfl (lv_at hl 0 rfl) ?_
  refine lv_iconst (v := 1) hx hb dL_law_200 (by decide) ?_
  refine lv_iadd hx hb dL_law_201 ?_
  refine lv_topi (fun z_1 ez_1 => ?_)
  obtain rfl : z_1 = nI (i + 1) := ez_1.trans (nI_add i 1)
  refine va_sld hx hb hX hbl hbA hS (vp_in_nI (show i + 1 < L by omega) (by omega)) dL_law_202 ?_
  rw [nI_clamp (show i + 1 < 2 ^ 31 by omega)]
  refine gh_calli (va_runV (As := [.int (xs (i + 1))]) (rest := [.int r1]) ⟨hx, hb, hml, hown, hts⟩ (c_msize l P G y ka ha ta puts K Hm T e (xs (i + 1)) f hf hfe) (cwV 1 hts (lw_V q567 q568 q569 q21 q570) rfl rfl rfl (by decide +kernel) ⟨by show 0 + 1 ≤ R.frames; omega, by show 8 + (4 + 11) + 0 ≤ R.locals; omega⟩) (gh_preV hE hG hS (gh_recv hE hG (e).1 rfl)) rfl rfl hl.1 rfl (lv_room (Nat.le_of_ble_eq_true rfl)) dL_law_203 ⟨by omega, by omega⟩) hS (fun r2 G2 H locs hw hG hS => ?_)
  obtain ⟨q2, hG8⟩ := hw
  replace hG := hG8 ▸ hG
  have hr : r1 = r2 := by
    have z : (rh_ks (rh_L (hs f))).length = cn_ (mh_ Hm f) puts := (hrel f hf).2
    rw [q1, q2, z]
  refine lv_icmp_eq (tgt := 255) hx hb dL_law_206 (by decide) (fun _ => ?_) (fun c_9 => absurd (hr) c_9)
  refine W.widen (k := 200 + 100 * (n + 1)) (n := 1000 + 14000 * (n + 1)) (by omega) (by omega) ?_
  exact kk G H locs ls hG hS (⟨hs, lst, K, Hm, T, puts, d, e, hTl, hrel⟩) hl
set_option maxHeartbeats 4000000 in
theorem lp_empty {p : Program} {l : Launch} {e : Env} {s : State} {m : MethodId} {args : Array Value} {below : List Frame} {meth : Method} {c : Code} {R : Room} {Q : State → Prop} {P : gh_P} (hx : p.tables.exec = Jvm.exec) (hb : c.code = cL_law) (hml : c.maxLocals = 4) (hts : ∀ w ∈ lw_all, w.before args s = true) (hown : s.vm.findClass "IntegerRadixHeapDeskLaw" = some m.cls) (hE : gh_E P s) (hR : 10 ≤ R.frames ∧ 7000 ≤ R.cells ∧ 1000000 ≤ R.slots ∧ 300 ≤ R.locals) {x fa ff y ka ha ta b L : Nat} {xs : Nat → Int32} (hL : L ≤ 384) (hX : va_X b L xs s s.heap) (hbl : b < s.heap.size) (hbA : ¬ gh_A P b) (hne : ta ≠ ff) {i n : Nat} {G : gh_G} {H : Heap} {locs : List Loc} {ls : Array Slot} (hi : i + 6 ≤ L) (hn : i = 6 * n) (hG : gh_H P G H) (hS : va_S (gh_A P) s.heap H locs) (hlaw : law_ P x fa ff y ka ha ta G) (hl : lv_has ls 4 [(3, .int (nI i)), (1, .ref x), (2, .ref y), (0, .ref b)])
    (kk : ∀ (G : gh_G) (H : Heap) (locs : List Loc) (ls : Array Slot), gh_H P G H → va_S (gh_A P) s.heap H locs → law_ P x fa ff y ka ha ta G → lv_has ls 4 [(3, .int (nI i)), (1, .ref x), (2, .ref y), (0, .ref b)] → W p l e R s m args below meth c H locs (200 + 100 * (n + 1)) (1000 + 14000 * (n + 1)) Q (F0 m 255 ls [])) : W p l e R s m args below meth c H locs (200 + 100 * n) (1000 + 14000 * n) Q (F0 m 211 ls []) := by
  obtain ⟨hs, lst, K, Hm, T, puts, d, e, hTl, hrel⟩ := hlaw
  obtain ⟨f, hf, hfe⟩ := pk_andE (xs (i + 1)) (m := 3) 2 (by decide)
  have hf : f < 4 := hf
  refine lv_aload_n hx hb dL_law_211 rfl (lv_at hl 1 rfl) ?_
  refine lv_aload_n hx hb dL_law_212 rfl (lv_at hl 3 rfl) ?_
  refine lv_iload_n hx hb dL_law_213 rfl (lv_at hl 0 rfl) ?_
  refine lv_iconst (v := 1) hx hb dL_law_214 (by decide) ?_
  refine lv_iadd hx hb dL_law_215 ?_
  refine lv_topi (fun z_0 ez_0 => ?_)
  obtain rfl : z_0 = nI (i + 1) := ez_0.trans (nI_add i 1)
  refine va_sld hx hb hX hbl hbA hS (vp_in_nI (show i + 1 < L by omega) (by omega)) dL_law_216 ?_
  rw [nI_clamp (show i + 1 < 2 ^ 31 by omega)]
  refine gh_calli (va_runV (As := [.int (xs (i + 1))]) (rest := []) ⟨hx, hb, hml, hown, hts⟩ (c_dempty l P G x fa ff puts hs lst d (xs (i + 1)) f hf hfe) (cwV 1 hts (lw_V q514 q515 q516 q8 q517) rfl rfl rfl (by decide +kernel) ⟨by show 8 + 1 ≤ R.frames; omega, by show 8 + (2 + 11) + 220 ≤ R.locals; omega⟩) (gh_preV hE hG hS (gh_recv hE hG d.1 rfl)) rfl rfl hl.1 rfl (lv_room (Nat.le_of_ble_eq_true rfl)) dL_law_217 ⟨by omega, by omega⟩) hS (fun r1 G1 H locs hw hG hS => ?_)
  obtain ⟨q1, hG9⟩ := hw
  replace hG := hG9 ▸ hG
  refine lv_aload_n hx hb dL_law_220 rfl (lv_at hl 2 rfl) ?_
  refine lv_aload_n hx hb dL_law_221 rfl (lv_at hl 3 rfl) ?_
  refine lv_iload_n hx hb dL_law_222 rfl (lv_at hl 0 rfl) ?_
  refine lv_iconst (v := 1) hx hb dL_law_223 (by decide) ?_
  refine lv_iadd hx hb dL_law_224 ?_
  refine lv_topi (fun z_1 ez_1 => ?_)
  obtain rfl : z_1 = nI (i + 1) := ez_1.trans (nI_add i 1)
  refine va_sld hx hb hX hbl hbA hS (vp_in_nI (show i + 1 < L by omega) (by omega)) dL_law_225 ?_
  rw [nI_clamp (show i + 1 < 2 ^ 31 by omega)]
  refine gh_calli (va_runV (As := [.int (xs (i + 1))]) (rest := [.int r1]) ⟨hx, hb, hml, hown, hts⟩ (c_mempty l P G y ka ha ta puts K Hm T e (xs (i + 1)) f hf hfe) (cwV 1 hts (lw_V q571 q572 q573 q21 q574) rfl rfl rfl (by decide +kernel) ⟨by show 1 + 1 ≤ R.frames; omega, by show 8 + (2 + 11) + 50 ≤ R.locals; omega⟩) (gh_preV hE hG hS (gh_recv hE hG (e).1 rfl)) rfl rfl hl.1 rfl (lv_room (Nat.le_of_ble_eq_true rfl)) dL_law_226 ⟨by omega, by omega⟩) hS (fun r2 G2 H locs hw hG hS => ?_)
  obtain ⟨hG8, q2⟩ := hw
  replace hG := hG8 ▸ hG
  have hr : r1 = r2 := by
    rcases q2 with ⟨q2, h5⟩ | ⟨q2, j, h5, h6⟩
    · have z : (rh_ks (rh_L (hs f))).length = 0 := (rel_none hrel hf).mpr h5
      rw [q1, q2, if_pos z]
    · have z : ¬ (rh_ks (rh_L (hs f))).length = 0 := fun z => (rel_none hrel hf).mp z j h5 h6
      rw [q1, q2, if_neg z]
  refine lv_icmp_eq (tgt := 255) hx hb dL_law_229 (by decide) (fun _ => ?_) (fun c_9 => absurd (hr) c_9)
  refine W.widen (k := 200 + 100 * (n + 1)) (n := 1000 + 14000 * (n + 1)) (by omega) (by omega) ?_
  exact kk G H locs ls hG hS (⟨hs, lst, K, Hm, T, puts, d, e, hTl, hrel⟩) hl
set_option maxHeartbeats 4000000 in
theorem lp_renew {p : Program} {l : Launch} {e : Env} {s : State} {m : MethodId} {args : Array Value} {below : List Frame} {meth : Method} {c : Code} {R : Room} {Q : State → Prop} {P : gh_P} (hx : p.tables.exec = Jvm.exec) (hb : c.code = cL_law) (hml : c.maxLocals = 4) (hts : ∀ w ∈ lw_all, w.before args s = true) (hown : s.vm.findClass "IntegerRadixHeapDeskLaw" = some m.cls) (hE : gh_E P s) (hR : 10 ≤ R.frames ∧ 7000 ≤ R.cells ∧ 1000000 ≤ R.slots ∧ 300 ≤ R.locals) {x fa ff y ka ha ta b L : Nat} {xs : Nat → Int32} (hL : L ≤ 384) (hX : va_X b L xs s s.heap) (hbl : b < s.heap.size) (hbA : ¬ gh_A P b) (hne : ta ≠ ff) {i n : Nat} {G : gh_G} {H : Heap} {locs : List Loc} {ls : Array Slot} (hi : i + 6 ≤ L) (hn : i = 6 * n) (hG : gh_H P G H) (hS : va_S (gh_A P) s.heap H locs) (hlaw : law_ P x fa ff y ka ha ta G) (hl : lv_has ls 4 [(3, .int (nI i)), (1, .ref x), (2, .ref y), (0, .ref b)])
    (kk : ∀ (G : gh_G) (H : Heap) (locs : List Loc) (ls : Array Slot), gh_H P G H → va_S (gh_A P) s.heap H locs → law_ P x fa ff y ka ha ta G → lv_has ls 4 [(3, .int (nI i)), (1, .ref x), (2, .ref y), (0, .ref b)] → W p l e R s m args below meth c H locs (200 + 100 * (n + 1)) (1000 + 14000 * (n + 1)) Q (F0 m 255 ls [])) : W p l e R s m args below meth c H locs (200 + 100 * n) (1000 + 14000 * n) Q (F0 m 234 ls []) := by
  obtain ⟨hs, lst, K, Hm, T, puts, d, e, hTl, hrel⟩ := hlaw
  obtain ⟨f, hf, hfe⟩ := pk_andE (xs (i + 1)) (m := 3) 2 (by decide)
  have hf : f < 4 := hf
  refine lv_aload_n hx hb dL_law_234 rfl (lv_at hl 1 rfl) ?_
  refine lv_aload_n hx hb dL_law_235 rfl (lv_at hl 3 rfl) ?_
  refine lv_iload_n hx hb dL_law_236 rfl (lv_at hl 0 rfl) ?_
  refine lv_iconst (v := 1) hx hb dL_law_237 (by decide) ?_
  refine lv_iadd hx hb dL_law_238 ?_
  refine lv_topi (fun z_0 ez_0 => ?_)
  obtain rfl : z_0 = nI (i + 1) := ez_0.trans (nI_add i 1)
  refine va_sld hx hb hX hbl hbA hS (vp_in_nI (show i + 1 < L by omega) (by omega)) dL_law_239 ?_
  rw [nI_clamp (show i + 1 < 2 ^ 31 by omega)]
  refine gh_callv (va_runV (As := [.int (xs (i + 1))]) (rest := []) ⟨hx, hb, hml, hown, hts⟩ (c_drenew l P G x fa ff puts hs lst d (xs (i + 1)) f hf hfe) (cwV 1 hts (lw_V q518 q519 q520 q8 q521) rfl rfl rfl (by decide +kernel) ⟨by show 8 + 1 ≤ R.frames; omega, by show 8 + (2 + 11) + 220 ≤ R.locals; omega⟩) (gh_preV hE hG hS (gh_recv hE hG d.1 rfl)) rfl rfl hl.1 rfl (lv_room (Nat.le_of_ble_eq_true rfl)) dL_law_240 ⟨by omega, by omega⟩) hS (fun G1 H locs hw hG hS => ?_)
  obtain ⟨R', hz, d1, hfr⟩ := hw
  have e1 := md_after d e hne hfr
  refine lv_aload_n hx hb dL_law_243 rfl (lv_at hl 2 rfl) ?_
  refine lv_aload_n hx hb dL_law_244 rfl (lv_at hl 3 rfl) ?_
  refine lv_iload_n hx hb dL_law_245 rfl (lv_at hl 0 rfl) ?_
  refine lv_iconst (v := 1) hx hb dL_law_246 (by decide) ?_
  refine lv_iadd hx hb dL_law_247 ?_
  refine lv_topi (fun z_1 ez_1 => ?_)
  obtain rfl : z_1 = nI (i + 1) := ez_1.trans (nI_add i 1)
  refine va_sld hx hb hX hbl hbA hS (vp_in_nI (show i + 1 < L by omega) (by omega)) dL_law_248 ?_
  rw [nI_clamp (show i + 1 < 2 ^ 31 by omega)]
  refine gh_callv (va_runV (As := [.int (xs (i + 1))]) (rest := []) ⟨hx, hb, hml, hown, hts⟩ (c_mrenew l P G1 y ka ha ta puts K Hm T e1 (xs (i + 1)) f hf hfe) (cwV 1 hts (lw_V q575 q576 q577 q21 q578) rfl rfl rfl (by decide +kernel) ⟨by show 0 + 1 ≤ R.frames; omega, by show 8 + (3 + 11) + 0 ≤ R.locals; omega⟩) (gh_preV hE hG hS (gh_recv hE hG (e1).1 rfl)) rfl rfl hl.1 rfl (lv_room (Nat.le_of_ble_eq_true rfl)) dL_law_249 ⟨by omega, by omega⟩) hS (fun G2 H locs hw hG hS => ?_)
  obtain ⟨Hc, e2, hHc, hfr2⟩ := hw
  have d2 := dk_after d1 e1 hne hfr2
  have hT2 : ∀ r, r < 4 → va_up T f 0 r = va_up lst f 0 r := fun r hr => by
    by_cases z : r = f
    · rw [z, va_up_self, va_up_self]
    · rw [va_up_ne _ _ z, va_up_ne _ _ z]
      exact hTl r hr
  refine lv_goto (tgt := 255) hx hb dL_law_252 (by decide) ?_
  refine W.widen (k := 200 + 100 * (n + 1)) (n := 1000 + 14000 * (n + 1)) (by omega) (by omega) ?_
  exact kk G2 H locs ls hG hS (⟨va_up hs f R', va_up lst f 0, K, Hc, va_up T f 0, puts, d2, e2, hT2, by rw [lk_X_up]; exact rel_renew hrel hz hHc⟩) hl
end
section
/-! The law's loop, the whole -/
set_option maxRecDepth 100000
set_option maxHeartbeats 4000000 in
theorem lp_loop {p : Program} {l : Launch} {e : Env} {s : State} {m : MethodId} {args : Array Value} {below : List Frame} {meth : Method} {c : Code} {R : Room} {Q : State → Prop} {P : gh_P} (hx : p.tables.exec = Jvm.exec) (hb : c.code = cL_law) (hml : c.maxLocals = 4) (hts : ∀ w ∈ lw_all, w.before args s = true) (hown : s.vm.findClass "IntegerRadixHeapDeskLaw" = some m.cls) (hE : gh_E P s) (hR : 10 ≤ R.frames ∧ 7000 ≤ R.cells ∧ 1000000 ≤ R.slots ∧ 300 ≤ R.locals) {x fa ff y ka ha ta b L : Nat} {xs : Nat → Int32} (hL : L ≤ 384) (hX : va_X b L xs s s.heap) (hbl : b < s.heap.size) (hbA : ¬ gh_A P b) (hne : ta ≠ ff)
    (kk : ∀ (H : Heap) (locs : List Loc) (ls : Array Slot), va_S (gh_A P) s.heap H locs → W p l e R s m args below meth c H locs (200 + 100 * 65) (1000 + 14000 * 65) Q (F0 m 261 ls [])) :
    ∀ (k n i : Nat) (G : gh_G) (H : Heap) (locs : List Loc) (ls : Array Slot), n ≤ 64 → 64 < n + k → i = 6 * n → gh_H P G H → va_S (gh_A P) s.heap H locs → law_ P x fa ff y ka ha ta G → lv_has ls 4 [(3, .int (nI i)), (1, .ref x), (2, .ref y), (0, .ref b)] → W p l e R s m args below meth c H locs (200 + 100 * n) (1000 + 14000 * n) Q (F0 m 18 ls []) := by
  intro k
  induction k with
  | zero =>
    intro n i G H locs ls h1 h2
    exact absurd h2 (by omega)
  | succ k ih =>
    intro n i G H locs ls hn hk hi hG hS hlaw hl
    refine lv_iload_n hx hb dL_law_18 rfl (lv_at hl 0 rfl) ?_
    refine lv_aload_n hx hb dL_law_19 rfl (lv_at hl 3 rfl) ?_
    refine va_slen hx hb hX hbl hbA hS dL_law_20 ?_
    refine lv_bipush (v := 6) hx hb dL_law_21 (by decide) ?_
    refine lv_isub hx hb dL_law_23 ?_
    have h6 : (Int32.ofNat L - 6).toInt = (L : Int) - 6 := pk_sub_toInt (a := L) (b := 6) (by omega) (by omega)
    have h7 : (nI i).toInt = (i : Int) := nI_toInt (by omega)
    refine lv_icmp_gt (tgt := 261) hx hb dL_law_24 (by decide) (fun c_1 => ?_) (fun c_1 => ?_)
    · refine W.widen (k := 200 + 100 * 65) (n := 1000 + 14000 * 65) (by omega) (by omega) ?_
      exact kk H locs ls hS
    · have hi6 : i + 6 ≤ L := by
        have z : ¬ ((Int32.ofNat L - 6).toInt < (nI i).toInt) := fun q => c_1 (Int32.lt_iff_toInt_lt.mpr q)
        rw [h6, h7] at z
        omega
      refine lv_aload_n hx hb dL_law_27 rfl (lv_at hl 3 rfl) ?_
      refine lv_iload_n hx hb dL_law_28 rfl (lv_at hl 0 rfl) ?_
      refine va_sld hx hb hX hbl hbA hS (vp_in_nI (show i < L by omega) (by omega)) dL_law_29 ?_
      rw [nI_clamp (show i < 2 ^ 31 by omega)]
      obtain ⟨o, ho, hoe⟩ := pk_andE (xs i) (m := 15) 4 (by decide)
      refine lv_bipush (v := 15) hx hb dL_law_30 (by decide) ?_
      refine lv_iand hx hb dL_law_32 ?_
      refine lv_topi (fun z_0 ez_0 => ?_)
      obtain rfl : z_0 = nI o := ez_0.trans hoe
      have next : ∀ (G : gh_G) (H : Heap) (locs : List Loc) (ls : Array Slot), gh_H P G H → va_S (gh_A P) s.heap H locs → law_ P x fa ff y ka ha ta G → lv_has ls 4 [(3, .int (nI i)), (1, .ref x), (2, .ref y), (0, .ref b)] → W p l e R s m args below meth c H locs (200 + 100 * (n + 1)) (1000 + 14000 * (n + 1)) Q (F0 m 255 ls []) := by
        intro G H locs ls hG hS hlaw hl
        refine lv_iinc (v := nI (i + 6)) (lv' := [(3, .int (nI (i + 6))), (1, .ref x), (2, .ref y), (0, .ref b)]) hx hb dL_law_255 hl (k := 0) rfl (nI_add i 6) (by decide) rfl (fun ls hl => ?_)
        refine lv_goto (tgt := 18) hx hb dL_law_258 (by decide) ?_
        exact ih (n + 1) (i + 6) G H locs ls (by omega) (by omega) (by omega) hG hS hlaw hl
      have hl : lv_has ls 4 [(3, .int (nI i)), (1, .ref x), (2, .ref y), (0, .ref b)] := lv_sub hl [0, 1, 2, 3] rfl
      rcases (show o = 0 ∨ o = 1 ∨ o = 2 ∨ o = 3 ∨ o = 4 ∨ o = 5 ∨ o = 6 ∨ 6 < o by omega) with rfl | rfl | rfl | rfl | rfl | rfl | rfl | ho6
      · refine lv_tableIn (off := 43) (tgt := 76) hx hb dL_law_33 (by decide) (by decide) (by decide) (by decide) ?_
        exact lp_put hx hb hml hts hown hE hR hL hX hbl hbA hne hi6 hi hG hS hlaw hl next
      · refine lv_tableIn (off := 76) (tgt := 109) hx hb dL_law_33 (by decide) (by decide) (by decide) (by decide) ?_
        exact lp_above hx hb hml hts hown hE hR hL hX hbl hbA hne hi6 hi hG hS hlaw hl next
      · refine lv_tableIn (off := 109) (tgt := 142) hx hb dL_law_33 (by decide) (by decide) (by decide) (by decide) ?_
        exact lp_least hx hb hml hts hown hE hR hL hX hbl hbA hne hi6 hi hG hS hlaw hl next
      · refine lv_tableIn (off := 132) (tgt := 165) hx hb dL_law_33 (by decide) (by decide) (by decide) (by decide) ?_
        exact lp_take hx hb hml hts hown hE hR hL hX hbl hbA hne hi6 hi hG hS hlaw hl next
      · refine lv_tableIn (off := 155) (tgt := 188) hx hb dL_law_33 (by decide) (by decide) (by decide) (by decide) ?_
        exact lp_size hx hb hml hts hown hE hR hL hX hbl hbA hne hi6 hi hG hS hlaw hl next
      · refine lv_tableIn (off := 178) (tgt := 211) hx hb dL_law_33 (by decide) (by decide) (by decide) (by decide) ?_
        exact lp_empty hx hb hml hts hown hE hR hL hX hbl hbA hne hi6 hi hG hS hlaw hl next
      · refine lv_tableIn (off := 201) (tgt := 234) hx hb dL_law_33 (by decide) (by decide) (by decide) (by decide) ?_
        exact lp_renew hx hb hml hts hown hE hR hL hX hbl hbA hne hi6 hi hG hS hlaw hl next
      · refine lv_tableOut (tgt := 255) hx hb dL_law_33 (Or.inr (by rw [nI_toInt (by omega)]; omega)) (by decide) ?_
        refine W.widen (k := 200 + 100 * (n + 1)) (n := 1000 + 14000 * (n + 1)) (by omega) (by omega) ?_
        exact next G H locs ls hG hS hlaw hl
end
section
set_option maxRecDepth 100000
/-! THE CLAIM OUT OF ONE WALK OF THE LAW'S BODY. Your part is whole_start (and what it stands on); all else here is the same for every law, but numbers. -/
def R_law : String := "IntegerRadixHeapDeskLaw"
def lw_P (b : Addr) (xs : List Int32) (args : Array Value) (s : State) : Prop := args = #[.ref b] ∧ s.IntsAt b xs ∧ xs.length ≤ 384 ∧ (Jvm.Cond.and given_1 narrow_1).before args s = true
def lw_Q (_ : Array Value) (s : State) (o : Outcome) (t : State) : Prop := o = .returned (some (.int 1)) ∧ Framed s o t [] 1200128 5501098
def lw_Z (below : List Frame) (a : Array Value) (s : State) : State → Prop := fun t => ∃ o, t.status = .running ∧ Ended t below o ∧ lw_Q a s o t
/-- the law's own end, with 1 on the stack, nothing written that was there before, its room as the claim has it -/
theorem lw_ret {p : Program} {l : Launch} {e : Env} {s : State} {m : MethodId} {below : List Frame} {meth : Method} {c : Code} {b : Nat} (hx : p.tables.exec = Jvm.exec) (hb : c.code = code) (hr : meth.sig.returnType = ret) (hlocks : meth.locks = false) {pc : Nat} {H : Heap} {ls : Array Slot} (hdg : decode code pc = .ok (.ireturn, 1)) : W p l e room_1 s m #[Value.ref b] below meth c H [] 1200128 5501098 (lw_Z below #[Value.ref b] s) (F0 m pc ls [.int 1]) := by
  intro T hT X
  obtain ⟨fs, hret, hrun, hended, hW, hframe⟩ := X.leave (v := some (.int 1)) (hlocks := hlocks) (fun h => by rw [hr] at h; cases h)
  have hmeth' : T.vm.method? m = some meth := X.method'
  refine ⟨T.setFrames fs, ?_, .returned (some (.int 1)), hrun, hended, rfl, ⟨_, rfl⟩, hW, hframe⟩
  jvm_step X.here [X.here.top, hx, hb, hdg, hmeth', hr, ret, narrow_b1]
  (try refine ⟨rfl, ?_⟩); (try refine ⟨rfl, ?_⟩)
  first | (intro acts; rw [hret _ acts rfl rfl rfl]) | rw [hret _ _ rfl rfl rfl]
  exact Steps.refl _
/-- what holds at the law's entry: the machine, the code, the tables' words (any of lw_tbl by 'hts w (by decide +kernel)'), the script of L ints xs at the cell b, what the Statement gives of the start (any of its parts by flat_of_before) -/
def lw_At (p : Program) (s : State) (m : MethodId) (meth : Method) (c : Code) (b L : Nat) (xs : Nat → Int32) : Prop :=
  p.tables.exec = Jvm.exec ∧ c.code = code ∧ meth.sig.returnType = ret ∧ c.maxLocals = 4 ∧ s.vm.findClass R_law = some m.cls ∧ (∀ w ∈ lw_tbl, w.before #[Value.ref b] s = true) ∧ va_X b L xs s s.heap ∧ b < s.heap.size ∧ meth.locks = false ∧ (Jvm.Cond.and given_1 narrow_1).before #[Value.ref b] s = true
set_option maxHeartbeats 4000000 in
theorem whole_start {p : Program} {e : Env} {s : State} {m : MethodId} {below : List Frame} {meth : Method} {c : Code} (l : Launch) (hflags : l.flags = flags0) {b L : Nat} {xs : Nat → Int32} (hL : L ≤ 384) (C0 : lw_At p s m meth c b L xs) : W p l e room_1 s m #[Value.ref b] below meth c s.heap [] 0 0 (lw_Z below #[Value.ref b] s) (entryFrame m ([Value.ref b] : List Value).toArray 4) := by
  obtain ⟨hx, hb, hr, hml, hown, hts0, hX, hbl, hlocks, hgv⟩ := id C0
  have hts : ∀ w ∈ lw_all, w.before #[Value.ref b] s = true := fun w h => hts0 w (lw_all_tbl h)
  have hown : s.vm.findClass "IntegerRadixHeapDeskLaw" = some m.cls := hown
  obtain ⟨P, G0, hNs, hE, hG, hlt⟩ := st_start hts0 hgv
  have hS : va_S (gh_A P) s.heap s.heap [] := va_S.rf
  have hbA : ¬ gh_A P b := fun z => by
    have z : gh_N P ≤ b := z
    omega
  have hl := lv_entry ([.ref b]) (n := 4) (Nat.le_of_ble_eq_true rfl)
  rw [lg_entry_eq]
  generalize (lg_sl ([.ref b]) ++ List.replicate (4 - (lg_sl ([.ref b])).length) Slot.unset).toArray = ls at hl ⊢
  have hl : lv_has ls 4 [(0, .ref b)] := hl
  refine gh_new (ci := 0) (fs := [.null, .null, .int 0]) (C := RX0) (T := TX0) (N := 3) hx hb hts in_X0 tyX0 tyX0_ok hown q32 q33 q8 hE hG hS rfl (fun j hj => by rcases (show j = 0 ∨ j = 1 ∨ j = 2 by omega) with rfl | rfl | rfl <;> rfl) (Nat.le_of_ble_eq_true rfl) (Nat.le_of_ble_eq_true rfl) dL_law_0 (fun x H hN_x hf_x hG hS => ?_)
  obtain ⟨G1, hG1⟩ : ∃ z, z = gh_up G0 x (gh_o 0 [.null, .null, .int 0]) := ⟨_, rfl⟩
  rw [← hG1] at hG
  have hx1 : G1 x = some (gh_o 0 [.null, .null, .int 0]) := by rw [hG1, gh_up_s]
  refine lv_dup hx hb dL_law_3 rfl ?_
  refine gh_callv (va_runI (As := []) (rest := [.ref x]) ⟨hx, hb, hml, hown, hts⟩ (c_dinit l P G1 x hx1 hN_x) (cwI 0 hts (lw_meth q36) rfl rfl rfl (hts _ q8) (hts _ q34) (hts _ q35) rfl (by decide +kernel) ⟨Nat.le_of_ble_eq_true rfl, Nat.le_of_ble_eq_true rfl⟩) (gh_preS hE hG hS) rfl rfl hl.1 rfl (lv_room (Nat.le_of_ble_eq_true rfl)) dL_law_4 ⟨Nat.le_of_ble_eq_true rfl, Nat.le_of_ble_eq_true rfl⟩) hS (fun G2 H locs hw hG hS => ?_)
  obtain ⟨fa, ff, hs, d, hz, -⟩ := hw
  refine lv_astore_n (lv' := [(1, .ref x), (0, .ref b)]) hx hb dL_law_7 rfl hl (by decide) rfl (fun ls hl => ?_)
  refine gh_new (ci := 2) (fs := [.null, .null, .null, .int 0]) (C := RX3) (T := TX3) (N := 4) hx hb hts in_X3 tyX3 tyX3_ok hown q522 q523 q21 hE hG hS rfl (fun j hj => by rcases (show j = 0 ∨ j = 1 ∨ j = 2 ∨ j = 3 by omega) with rfl | rfl | rfl | rfl <;> rfl) (Nat.le_of_ble_eq_true rfl) (Nat.le_of_ble_eq_true rfl) dL_law_8 (fun y H hN_y hf_y hG hS => ?_)
  obtain ⟨G3, hG3⟩ : ∃ z, z = gh_up G2 y (gh_o 2 [.null, .null, .null, .int 0]) := ⟨_, rfl⟩
  rw [← hG3] at hG
  have hy3 : G3 y = some (gh_o 2 [.null, .null, .null, .int 0]) := by rw [hG3, gh_up_s]
  have d3 : DK P G3 x fa ff hs (fun _ => 0) (fun _ => 0) 0 := by rw [hG3]; exact d.keepL (gh_le_new _ hf_y)
  refine lv_dup hx hb dL_law_11 rfl ?_
  refine gh_callv (va_runI (As := []) (rest := [.ref y]) ⟨hx, hb, hml, hown, hts⟩ (c_minit l P G3 y hy3 hN_y) (cwI 0 hts (lw_meth q526) rfl rfl rfl (hts _ q21) (hts _ q524) (hts _ q525) rfl (by decide +kernel) ⟨Nat.le_of_ble_eq_true rfl, Nat.le_of_ble_eq_true rfl⟩) (gh_preS hE hG hS) rfl rfl hl.1 rfl (lv_room (Nat.le_of_ble_eq_true rfl)) dL_law_12 ⟨Nat.le_of_ble_eq_true rfl, Nat.le_of_ble_eq_true rfl⟩) hS (fun G4 H locs hw hG hS => ?_)
  obtain ⟨ka, ha, ta, e, hfr, -, -, hta⟩ := hw
  have hne : ta ≠ ff := fun z => by
    obtain ⟨-, -, ⟨gv, w, -⟩, -⟩ := d3
    rw [z, w] at hta
    cases hta
  have hdy : ∀ a, dk_F P x fa ff hs a → ¬ a = y := fun a ha z => by
    obtain ⟨d1, ⟨fv, w2, -⟩, ⟨gv, w3, -⟩, w4, -⟩ := d
    rw [z] at ha
    rcases ha with w | w | w | ⟨r, hr, w⟩
    · rw [w, d1] at hf_y
      cases hf_y
    · rw [w, w2] at hf_y
      cases hf_y
    · rw [w, w3] at hf_y
      cases hf_y
    · obtain ⟨-, e', q, -⟩ := rh_cls (w4 r hr) w
      rw [hf_y] at q
      cases q
  have d4 : DK P G4 x fa ff hs (fun _ => 0) (fun _ => 0) 0 := d3.keep hfr hdy (fun a v hz z => by have z : a = y := z; rw [z, hy3] at hz; cases hz) (fun a z => by have z : a = y := z; rw [z]; exact hN_y)
  have hlaw : law_ P x fa ff y ka ha ta G4 := ⟨hs, fun _ => 0, fun _ => 0, fun _ => 0, fun _ => 0, 0, d4, e, fun _ _ => rfl, rel_0 hz⟩
  refine lv_astore_n (lv' := [(2, .ref y), (1, .ref x), (0, .ref b)]) hx hb dL_law_15 rfl hl (by decide) rfl (fun ls hl => ?_)
  refine lv_iconst (v := 0) hx hb dL_law_16 (by decide) ?_
  refine lv_istore_n (lv' := [(3, .int 0), (2, .ref y), (1, .ref x), (0, .ref b)]) hx hb dL_law_17 rfl hl (by decide) rfl (fun ls hl => ?_)
  have hl : lv_has ls 4 [(3, .int (nI 0)), (2, .ref y), (1, .ref x), (0, .ref b)] := hl
  refine W.widen (k := 200 + 100 * 0) (n := 1000 + 14000 * 0) (Nat.le_of_ble_eq_true rfl) (Nat.le_of_ble_eq_true rfl) ?_
  refine lp_loop hx hb hml hts hown hE ⟨Nat.le_of_ble_eq_true rfl, Nat.le_of_ble_eq_true rfl, Nat.le_of_ble_eq_true rfl, Nat.le_of_ble_eq_true rfl⟩ hL hX hbl hbA hne (fun H locs ls hS => ?_) 65 0 0 G4 H locs ls (Nat.zero_le _) (by omega) rfl hG hS hlaw (lv_sub hl [0, 2, 1, 3] rfl)
  refine va_forget (fun q hq => ?_) ?_
  · have z : gh_N P ≤ q.base := hS.2.2 q hq
    omega
  refine W.widen (k := 1200128) (n := 5501098) (Nat.le_of_ble_eq_true rfl) (Nat.le_of_ble_eq_true rfl) ?_
  refine lv_iconst (v := 1) hx hb dL_law_261 (by decide) ?_
  exact lw_ret hx hb hr hlocks dL_law_262
set_option maxHeartbeats 4000000 in
theorem lw_walk (l : Launch) (hflags : l.flags = flags0) (b : Addr) (xs : List Int32) : MetFree l x (headSpec (Jvm.Cond.code x code maxLocals ret :: tables_1) room_1) (lw_P b xs) (fun _ _ _ _ _ => True) lw_Q := by
  refine MetFree.of_bodyS (code := code) (maxLocals := maxLocals) (ret := ret) (by decide) ?_ ?_
  · intro args s m h hn
    obtain ⟨meth, c, h1, h2, h3, h4, h5, h6, -, -⟩ := Cond.code_spec hn (atoms_spec (ws := Jvm.Cond.code x code maxLocals ret :: tables_1) h _ List.mem_cons_self)
    exact ⟨meth, c, h1, h2, h3, h4, h5, h6⟩
  · intro p e s m args below meth c s₁ B hml0 hP _
    obtain ⟨rfl, hx, hbd, hgv⟩ := hP
    obtain ⟨scr, harrAt, hlist, hof, hsmall⟩ := hx
    obtain ⟨hcb, hkn, -, -⟩ := State.arrayAt?_spec harrAt
    have hown : s.vm.findClass R_law = some m.cls := findClass_of_methodNamed B.named
    have hts0 : ∀ c ∈ (Jvm.Cond.code x code maxLocals ret :: tables_1), c.before #[Value.ref b] s = true := atoms_spec (ws := Jvm.Cond.code x code maxLocals ret :: tables_1) B.pre
    have hts : ∀ w ∈ lw_tbl, w.before #[Value.ref b] s = true := k2_hts_sels lw_privs (fun w hw => hts0 w (List.mem_cons_of_mem _ hw)) lw_privs_ok
    have hml : c.maxLocals = 4 := B.maxLocals_eq (hts0 _ List.mem_cons_self)
    have X₀ : Stand p l e room_1 s m #[Value.ref b] below meth c s₁ [] 0 0 := Stand.of_body B
    have hh0 : s₁.heap = s.heap := by rw [B.state]; rfl
    have hsz : scr.slots.size = xs.length := by rw [← Array.length_toList, hlist, List.length_map]
    have hval : ∀ j : Nat, j < xs.length → scr.slots[j]? = some (.int (xs.getD j 0)) := fun j hj => by
      rw [← Array.getElem?_toList, hlist]
      simp [hj]
    have hbl : b < s.heap.size := (Array.getElem?_eq_some_iff.mp hcb).1
    have hX : va_X b xs.length (fun j => xs.getD j 0) s s.heap := ⟨scr, hcb, hof, hkn, hsz, hval⟩
    have K : W p l e room_1 s m #[Value.ref b] below meth c s₁.heap [] 0 0 (lw_Z below #[Value.ref b] s) (entryFrame m ([Value.ref b] : List Value).toArray 4) := by
      rw [hh0]
      exact whole_start l hflags hbd ⟨B.exec, B.bytes, B.returns, hml, hown, hts, hX, hbl, B.notSynchronized, hgv⟩
    obtain ⟨t, a1, o, b1, b2, b3⟩ := K s₁ rfl X₀
    exact ⟨t, o, a1, b1, b2, b3⟩
theorem lw_pre_spec {args : Array Value} {s : State} (h : (Jvm.Cond.and given_1 narrow_1).before args s = true) (hr : rest_1_c.before args s = true) : ∃ (b : Addr) (xs : List Int32), lw_P b xs args s := by
  have hs := flat_of_before _ h
  have hq := flat_of_before _ hr
  have hc : (Cond.count 1).before args s = true := hs _ (by decide +kernel)
  have harr : (Cond.arrayOf (.arg 0) .int).before args s = true := hs _ (by decide +kernel)
  have hle : (Cond.le (.length (.arg 0)) (.int 384)).before args s = true := hs _ (by decide +kernel)
  have hlen : (Cond.isInt (.length (.arg 0))).before args s = true := hq _ (by decide +kernel)
  have hall : (Cond.all (.arg 0) (.isInt (.elem (.arg 0) (.index 0)))).before args s = true := hq _ (by decide +kernel)
  obtain ⟨b, xs, hb, hx⟩ := State.ints_of_pre rfl harr hlen hall
  have hsm : xs.length < 2 ^ 31 := hx.choose_spec.2.2.2
  have hev : (Term.length (.arg 0)).eval args s none [] s = some (.int xs.length.toInt32) := hx.length_eval hb
  have hv := Cond.le_ints hev (show (Term.int 384).eval args s none [] s = some (.int 384) from rfl)
  have hd : xs.length.toInt32 ≤ 384 := by
    simpa [Cond.before, Cond.holds, hv] using hle
  have hN : xs.length ≤ 384 := (Int32.ofNat_le_ofNat hsm (by decide)).mp (show Int32.ofNat xs.length ≤ Int32.ofNat 384 from hd)
  exact ⟨b, xs, Cond.one_arg hc (show args[0]? = some (.ref b) from hb), hx, hN, h⟩
theorem lw_comes (l : Launch) (hflags : l.flags = flags0) : Comes l x (Jvm.Cond.code x code maxLocals ret :: tables_1) room_1 (fun tb e args s => Calls_1 tb e args s ∧ rest_1 tb e args s ∧ Pre_1 tb e args s)
    (fun _ _ args s o t => lw_Q args s o t) := by
  intro p e ha hc hk s m args below hf hfit hheap happ hpre
  obtain ⟨b, xs, hP⟩ := lw_pre_spec hpre.2.2 hpre.2.1
  obtain ⟨k, o, h1, h2, h3, hQ⟩ := lw_walk l hflags b xs p e ha hc hk s m args below hf ((Spec.applies_iff_loose hf).mp happ).1 hP trivial
  exact ⟨k, o, h1, h2, h3, hQ⟩
theorem lw_frame {s t : State} {o : Outcome} {args : Array Value} (h : Framed s o t [] 1200128 5501098) :
    Framed s o t (fieldLocs frame_1_writes args s ++ arrayLocs frame_1_arrays args s ++ staticLocs frame_1_statics s) 1200128 5501098 := h
theorem lw_limb (L : Cond) (hL : ∀ (args : Array Value) (s t : State), L.after args s (.returned (some (.int 1))) t = true) :
    ArmFor flags0 classFile x code maxLocals ret World_1 tables_1 room_1 Calls_1 rest_1 Pre_1
      (fun tb e a s o t => postC L tb e a s o t ∧ Framed s o t (fieldLocs frame_1_writes a s ++ arrayLocs frame_1_arrays a s ++ staticLocs frame_1_statics s) 1200128 5501098) := by
  intro l hflags _ _ p e ha hc hk s m args below hf hfit hheap happ hpre
  obtain ⟨k, o, h1, h2, h3, rfl, hF⟩ := lw_comes l hflags p e ha hc hk s m args below hf hfit hheap happ hpre
  exact ⟨k, _, h1, h2, h3, hL args s _, lw_frame hF⟩
theorem i_vc : Claimed_1_1 ∧ Claimed_1_2 := ⟨lw_limb limb_1_1 (fun args s t => by simp [limb_1_1, Cond.after, Cond.holds, Cond.value]), lw_limb limb_1_2 (fun args s t => Cond.after_iff.mpr (by
  first | (rw [show limb_1_2 = Cond.eq .result (.int 1) from rfl, Cond.eq_ints (x := 1) (y := 1) rfl rfl]; simp; done) | (simp [limb_1_2, Cond.value, Term.eval]; done)))⟩
end
