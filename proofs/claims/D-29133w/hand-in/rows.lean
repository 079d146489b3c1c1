section
-- ===== PART A: goes FIRST, ahead of the names: the tables' words, and 'selects' of the private methods out of them =====
/-- a private method of a class that the tables say can be made, by its rows of tables_1 -/
def lw_okq (q : MethodName × Nat) : Prop := (q.1.cls ≠ "java/lang/invoke/MethodHandle" ∧ q.1.cls ≠ "java/lang/invoke/VarHandle") ∧ Cond.instantiable q.1.cls q.2 ∈ tables_1 ∧ Cond.privateMethod q.1 ∈ tables_1 ∧ Cond.instanceMethod q.1 ∈ tables_1
set_option maxRecDepth 100000
theorem lw_t1 {w : Cond} (h : w ∈ tables_1_1) : w ∈ tables_1 := List.mem_append_left _ h
theorem lw_t2 {w : Cond} (h : w ∈ tables_1_2) : w ∈ tables_1 := List.mem_append_right _ (List.mem_append_left _ h)
theorem lw_t3 {w : Cond} (h : w ∈ tables_1_3) : w ∈ tables_1 := List.mem_append_right _ (List.mem_append_right _ h)
theorem lw_p0 : lw_okq (⟨"java/lang/Throwable", "fillInStackTrace", "(I)Ljava/lang/Throwable;"⟩, 6) := ⟨⟨by decide +kernel, by decide +kernel⟩, lw_t1 (List.mem_of_getElem? (i := 95) rfl), lw_t1 (List.mem_of_getElem? (i := 93) rfl), lw_t1 (List.mem_of_getElem? (i := 94) rfl)⟩
theorem lw_p1 : lw_okq (⟨"YearMonth", "with", "(II)LYearMonth;"⟩, 2) := ⟨⟨by decide +kernel, by decide +kernel⟩, lw_t1 (List.mem_of_getElem? (i := 127) rfl), lw_t1 (List.mem_of_getElem? (i := 186) rfl), lw_t1 (List.mem_of_getElem? (i := 187) rfl)⟩
def lw_privs_1 : List (MethodName × Nat) := [(⟨"java/lang/Throwable", "fillInStackTrace", "(I)Ljava/lang/Throwable;"⟩, 6), (⟨"YearMonth", "with", "(II)LYearMonth;"⟩, 2)]
theorem lw_r1 : ∀ q ∈ lw_privs_1, lw_okq q := List.forall_mem_cons.mpr ⟨lw_p0, List.forall_mem_cons.mpr ⟨lw_p1, fun _ h => absurd h List.not_mem_nil⟩⟩
def lw_privs : List (MethodName × Nat) := lw_privs_1
def lw_tbl : List Cond := k2_sels lw_privs ++ tables_1
theorem lw_privs_ok : ∀ q ∈ lw_privs, lw_okq q := lw_r1
-- ===== ONE list of words for every method: the tables' words that hold all through a run =====
def lw_all : List Cond := lw_tbl.filter goodWord
/-- a word of the tables by its place: claim/WORDS.tsv -/
theorem lw_w {w : Cond} (i : Nat) (h : lw_tbl[i]? = some w) (g : goodWord w = true) : w ∈ lw_all := List.mem_filter.mpr ⟨List.mem_of_getElem? h, g⟩
theorem lw_all_tbl {w : Cond} (h : w ∈ lw_all) : w ∈ lw_tbl := (List.mem_filter.mp h).1
theorem lw_self : GoodIn lw_all lw_all := fun w h => ⟨h, good_of_word (List.mem_filter.mp h).2⟩
/-- a class's field words, by their places -/
theorem lw_in (ws : List Cond) (ps : List Nat) (hp : ws = ps.filterMap (fun i => lw_tbl[i]?)) (hg : ws.all goodWord = true) : ∀ w ∈ ws, w ∈ lw_all := by
  intro w h
  have h1 := List.all_eq_true.mp hg w h
  rw [hp] at h
  obtain ⟨i, -, hi⟩ := List.mem_filterMap.mp h
  exact lw_w i hi h1
/-- the words of a contract for the method y with code b, L locals, answer r -/
abbrev ws_ (y : MethodName) (b : ByteArray) (L : Nat) (r : Option FieldType) : List Cond := Cond.code y b L r :: lw_all
theorem lw_meth {y : MethodName} {b : ByteArray} {L : Nat} {r : Option FieldType} (h : Cond.code y b L r ∈ lw_all) : GoodIn lw_all (ws_ y b L r) := by
  intro w hw
  rcases List.mem_cons.mp hw with e | e
  · rw [e]
    exact lw_self _ h
  · exact lw_self _ e
theorem lw_app {a c : List Cond} (ha : ∀ w ∈ a, w ∈ lw_all) (hc : GoodIn lw_all c) : GoodIn lw_all (a ++ c) := by
  intro w hw
  rcases List.mem_append.mp hw with e | e
  · exact lw_self w (ha w e)
  · exact hc w e
/-- what a call through an object asks: cwV n hts (lw_V ..) -/
theorem lw_V {own : String} {idx : Nat} {C : String} {y : MethodName} {b : ByteArray} {L : Nat} {r : Option FieldType} (h1 : Cond.methodLink own idx y ∈ lw_all) (h2 : Cond.instanceMethod y ∈ lw_all) (h3 : Cond.selects C y y ∈ lw_all) (h4 : Cond.initialized C ∈ lw_all) (h5 : Cond.code y b L r ∈ lw_all) : GoodIn lw_all (wsV own idx C y (ws_ y b L r)) := by
  refine lw_app ?_ (lw_meth h5)
  intro w hw
  simp only [List.mem_cons, List.not_mem_nil, or_false] at hw
  rcases hw with e | e | e | e
  · rw [e]; exact h1
  · rw [e]; exact h2
  · rw [e]; exact h3
  · rw [e]; exact h4
/-- what a static call asks: va_cwS n hts (lw_S ..) -/
theorem lw_S {own : String} {idx : Nat} {y : MethodName} {b : ByteArray} {L : Nat} {r : Option FieldType} (h1 : Cond.methodLink own idx y ∈ lw_all) (h2 : Cond.static y ∈ lw_all) (h3 : Cond.initialized y.cls ∈ lw_all) (h4 : Cond.code y b L r ∈ lw_all) : GoodIn lw_all (va_wsS own idx y (ws_ y b L r)) := by
  refine lw_app ?_ (lw_meth h4)
  intro w hw
  simp only [List.mem_cons, List.not_mem_nil, or_false] at hw
  rcases hw with e | e | e
  · rw [e]; exact h1
  · rw [e]; exact h2
  · rw [e]; exact h3
/-- the words of a contract for a method WITH HANDLERS (hh: its table) -/
abbrev wsW_ (y : MethodName) (b : ByteArray) (L : Nat) (r : Option FieldType) (hh : List (Nat × Nat × Nat × Nat)) : List Cond := Cond.codeWith y b L r hh :: lw_all
theorem lw_methW {y : MethodName} {b : ByteArray} {L : Nat} {r : Option FieldType} {hh : List (Nat × Nat × Nat × Nat)} (h : Cond.codeWith y b L r hh ∈ lw_all) : GoodIn lw_all (wsW_ y b L r hh) := by
  intro w hw
  rcases List.mem_cons.mp hw with e | e
  · rw [e]
    exact lw_self _ h
  · exact lw_self _ e
/-- any list of words by their places (lw_in), good -/
theorem lw_good {ws : List Cond} (h : ∀ w ∈ ws, w ∈ lw_all) : GoodIn lw_all ws := fun w hw => lw_self w (h w hw)
/-- what a call of a method with handlers asks: vx_cwVW n hts (lw_VW ..), vx_cwSW n hts (lw_SW ..) -/
theorem lw_VW {own : String} {idx : Nat} {C : String} {y : MethodName} {b : ByteArray} {L : Nat} {r : Option FieldType} {hh : List (Nat × Nat × Nat × Nat)} (h1 : Cond.methodLink own idx y ∈ lw_all) (h2 : Cond.instanceMethod y ∈ lw_all) (h3 : Cond.selects C y y ∈ lw_all) (h4 : Cond.initialized C ∈ lw_all) (h5 : Cond.codeWith y b L r hh ∈ lw_all) : GoodIn lw_all (wsV own idx C y (wsW_ y b L r hh)) := by
  refine lw_app ?_ (lw_methW h5)
  intro w hw
  simp only [List.mem_cons, List.not_mem_nil, or_false] at hw
  rcases hw with e | e | e | e
  · rw [e]; exact h1
  · rw [e]; exact h2
  · rw [e]; exact h3
  · rw [e]; exact h4
theorem lw_SW {own : String} {idx : Nat} {y : MethodName} {b : ByteArray} {L : Nat} {r : Option FieldType} {hh : List (Nat × Nat × Nat × Nat)} (h1 : Cond.methodLink own idx y ∈ lw_all) (h2 : Cond.static y ∈ lw_all) (h3 : Cond.initialized y.cls ∈ lw_all) (h4 : Cond.codeWith y b L r hh ∈ lw_all) : GoodIn lw_all (va_wsS own idx y (wsW_ y b L r hh)) := by
  refine lw_app ?_ (lw_methW h4)
  intro w hw
  simp only [List.mem_cons, List.not_mem_nil, or_false] at hw
  rcases hw with e | e | e
  · rw [e]; exact h1
  · rw [e]; exact h2
  · rw [e]; exact h3
/-- a word by its place in its run of the tables -/
theorem lw_at {r : List Cond} (hr : ∀ w ∈ r, w ∈ lw_tbl) {w : Cond} (i : Nat) (h : r[i]? = some w) : w ∈ lw_tbl := hr w (List.mem_of_getElem? h)
theorem lw_g {w : Cond} (h : w ∈ lw_tbl) (g : goodWord w = true) : w ∈ lw_all := List.mem_filter.mpr ⟨h, g⟩
theorem lw_ms : ∀ w ∈ k2_sels lw_privs, w ∈ lw_tbl := fun w h => show w ∈ k2_sels lw_privs ++ tables_1 from List.mem_append_left _ h
theorem lw_m1 : ∀ w ∈ tables_1_1, w ∈ lw_tbl := fun w h => show w ∈ k2_sels lw_privs ++ tables_1 from List.mem_append_right (k2_sels lw_privs) (show w ∈ tables_1 from List.mem_append_left _ h)
theorem lw_m2 : ∀ w ∈ tables_1_2, w ∈ lw_tbl := fun w h => show w ∈ k2_sels lw_privs ++ tables_1 from List.mem_append_right (k2_sels lw_privs) (show w ∈ tables_1 from List.mem_append_right _ (List.mem_append_left _ h))
theorem lw_m3 : ∀ w ∈ tables_1_3, w ∈ lw_tbl := fun w h => show w ∈ k2_sels lw_privs ++ tables_1 from List.mem_append_right (k2_sels lw_privs) (show w ∈ tables_1 from List.mem_append_right _ (List.mem_append_right _ h))
theorem qs0 : (Cond.selects "java/lang/Throwable" ⟨"java/lang/Throwable", "fillInStackTrace", "(I)Ljava/lang/Throwable;"⟩ ⟨"java/lang/Throwable", "fillInStackTrace", "(I)Ljava/lang/Throwable;"⟩) ∈ lw_all := lw_g (lw_at lw_ms 0 rfl) rfl
theorem qs1 : (Cond.selects "YearMonth" ⟨"YearMonth", "with", "(II)LYearMonth;"⟩ ⟨"YearMonth", "with", "(II)LYearMonth;"⟩) ∈ lw_all := lw_g (lw_at lw_ms 1 rfl) rfl
/-! DECODE ROWS BY BYTES: one lemma an opcode; a method's code is cut into short pieces once, and a row reads its own piece alone. -/
set_option maxRecDepth 100000
/-- the code has just these bytes from pc on -/
def DkAt (code : ByteArray) (pc : Nat) (bs : List UInt8) : Prop := ∀ (j : Nat) (b : UInt8), bs[j]? = some b → code.data.toList[pc + j]? = some b
/-- the piece W has the bytes bs from its place j on -/
def dkIn (W : List UInt8) (j : Nat) (bs : List UInt8) : Bool := decide ((W.drop j).take bs.length = bs)
theorem dk_seg {l W T : List UInt8} {o o2 : Nat} (h : l.drop o = W ++ T) (n : Nat) (hn : W.length = n) (ho : o + n = o2) : l.drop o2 = T := by
  subst ho
  rw [← List.drop_drop, h, List.drop_left' hn]
theorem dk_at {code : ByteArray} {W T bs : List UInt8} {o pc : Nat} (h : code.data.toList.drop o = W ++ T) (j : Nat) (hp : o + j = pc) (hw : dkIn W j bs = true) : DkAt code pc bs := by
  subst hp
  intro i b e
  have h1 := of_decide_eq_true hw
  have h2 : i < bs.length := (List.getElem?_eq_some_iff.mp e).1
  have h3 : W[j + i]? = some b := by
    rw [← h1, List.getElem?_take, if_pos h2, List.getElem?_drop] at e
    exact e
  have h4 : j + i < W.length := (List.getElem?_eq_some_iff.mp h3).1
  have h5 : (code.data.toList.drop o)[j + i]? = some b := by
    rw [h, List.getElem?_append_left h4]
    exact h3
  rw [List.getElem?_drop, ← Nat.add_assoc] at h5
  exact h5
theorem dk_u1 {A : ByteArray} {p : Nat} {b : UInt8} (h : A.data.toList[p]? = some b) : (Reader.u1 : Reader DecodeError Nat) A p = .ok (b.toNat, p + 1) := by
  obtain ⟨h1, h2⟩ := List.getElem?_eq_some_iff.mp h
  have h3 : p < A.size := by simpa using h1
  have h4 : A[p]'h3 = b := h2
  have e : (Reader.u1 : Reader DecodeError Nat) A p = (if h : p < A.size then .ok (A[p].toNat, p + 1) else .error (HasTruncated.truncated p)) := by
    show (do if h : p < A.size then do set (p + 1); Pure.pure A[p].toNat else MonadExcept.throw (HasTruncated.truncated p) : Reader DecodeError Nat) A p = _
    by_cases hi : p < A.size
    · rw [dif_pos hi, dif_pos hi]; rfl
    · rw [dif_neg hi, dif_neg hi]; rfl
  rw [e, dif_pos h3, h4]
theorem dk_bind {α β : Type} {r : Reader DecodeError α} {f : α → Reader DecodeError β} {A : ByteArray} {p s : Nat} {a : α} (h : r A p = .ok (a, s)) : (r >>= f) A p = f a A s := by
  show (do let (a, s) ← r A p; f a A s : Except DecodeError (β × Nat)) = _
  rw [h]
  rfl
theorem dk_map {α β : Type} {r : Reader DecodeError α} {g : α → β} {A : ByteArray} {p s : Nat} {a : α} (h : r A p = .ok (a, s)) : (g <$> r) A p = .ok (g a, s) := by
  show (do let (a, s) ← r A p; .ok (g a, s) : Except DecodeError (β × Nat)) = _
  rw [h]
  rfl
theorem dk_u2 {A : ByteArray} {p : Nat} {a b : UInt8} (h : A.data.toList[p]? = some a) (h2 : A.data.toList[p + 1]? = some b) : (Reader.u2 : Reader DecodeError Nat) A p = .ok (a.toNat * 256 + b.toNat, p + 2) := by
  show (Reader.u1 >>= fun hi => Reader.u1 >>= fun lo => Pure.pure (hi * 256 + lo) : Reader DecodeError Nat) A p = _
  rw [dk_bind (dk_u1 h), dk_bind (dk_u1 h2)]
  rfl
theorem dk_of {code : ByteArray} {pc n : Nat} {i : Instr} (h : Decoder.instr pc code pc = .ok (i, pc + n)) : decode code pc = .ok (i, n) := by
  have e : decode code pc = (match Decoder.instr pc code pc with | .error x => .error x | .ok (j, s) => .ok (j, s - pc)) := by
    show (do let (j, s) ← Decoder.instr pc code pc; Pure.pure (j, s - pc) : Except DecodeError (Instr × Nat)) = _
    cases Decoder.instr pc code pc <;> rfl
  rw [e, h]
  show Except.ok (i, pc + n - pc) = _
  rw [Nat.add_sub_cancel_left]
theorem dk_2 {code : ByteArray} {pc : Nat} (h : DkAt code pc [2]) : decode code pc = .ok (.iconst (-1), 1) := dk_of ((dk_bind (dk_u1 (h 0 _ rfl))).trans rfl)
theorem dk_3 {code : ByteArray} {pc : Nat} (h : DkAt code pc [3]) : decode code pc = .ok (.iconst 0, 1) := dk_of ((dk_bind (dk_u1 (h 0 _ rfl))).trans rfl)
theorem dk_4 {code : ByteArray} {pc : Nat} (h : DkAt code pc [4]) : decode code pc = .ok (.iconst 1, 1) := dk_of ((dk_bind (dk_u1 (h 0 _ rfl))).trans rfl)
theorem dk_5 {code : ByteArray} {pc : Nat} (h : DkAt code pc [5]) : decode code pc = .ok (.iconst 2, 1) := dk_of ((dk_bind (dk_u1 (h 0 _ rfl))).trans rfl)
theorem dk_6 {code : ByteArray} {pc : Nat} (h : DkAt code pc [6]) : decode code pc = .ok (.iconst 3, 1) := dk_of ((dk_bind (dk_u1 (h 0 _ rfl))).trans rfl)
theorem dk_7 {code : ByteArray} {pc : Nat} (h : DkAt code pc [7]) : decode code pc = .ok (.iconst 4, 1) := dk_of ((dk_bind (dk_u1 (h 0 _ rfl))).trans rfl)
theorem dk_9 {code : ByteArray} {pc : Nat} (h : DkAt code pc [9]) : decode code pc = .ok (.lconst 0, 1) := dk_of ((dk_bind (dk_u1 (h 0 _ rfl))).trans rfl)
theorem dk_10 {code : ByteArray} {pc : Nat} (h : DkAt code pc [10]) : decode code pc = .ok (.lconst 1, 1) := dk_of ((dk_bind (dk_u1 (h 0 _ rfl))).trans rfl)
theorem dk_16 {code : ByteArray} {pc : Nat} (a : UInt8) (h : DkAt code pc [16, a]) : decode code pc = .ok (.bipush (Reader.signed 8 a.toNat), 2) := dk_of ((dk_bind (dk_u1 (h 0 _ rfl))).trans ((dk_bind (dk_map (dk_u1 (h 1 _ rfl)))).trans rfl))
theorem dk_17 {code : ByteArray} {pc : Nat} (a b : UInt8) (h : DkAt code pc [17, a, b]) : decode code pc = .ok (.sipush (Reader.signed 16 (a.toNat * 256 + b.toNat)), 3) := dk_of ((dk_bind (dk_u1 (h 0 _ rfl))).trans ((dk_bind (dk_map (dk_u2 (h 1 _ rfl) (h 2 _ rfl)))).trans rfl))
theorem dk_18 {code : ByteArray} {pc : Nat} (a : UInt8) (h : DkAt code pc [18, a]) : decode code pc = .ok (.ldc a.toNat, 2) := dk_of ((dk_bind (dk_u1 (h 0 _ rfl))).trans ((dk_bind (dk_u1 (h 1 _ rfl))).trans rfl))
theorem dk_20 {code : ByteArray} {pc : Nat} (a b : UInt8) (h : DkAt code pc [20, a, b]) : decode code pc = .ok (.ldc2_w (a.toNat * 256 + b.toNat), 3) := dk_of ((dk_bind (dk_u1 (h 0 _ rfl))).trans ((dk_bind (dk_u2 (h 1 _ rfl) (h 2 _ rfl))).trans rfl))
theorem dk_21 {code : ByteArray} {pc : Nat} (a : UInt8) (h : DkAt code pc [21, a]) : decode code pc = .ok (.iload a.toNat, 2) := dk_of ((dk_bind (dk_u1 (h 0 _ rfl))).trans ((dk_bind (dk_u1 (h 1 _ rfl))).trans rfl))
theorem dk_22 {code : ByteArray} {pc : Nat} (a : UInt8) (h : DkAt code pc [22, a]) : decode code pc = .ok (.lload a.toNat, 2) := dk_of ((dk_bind (dk_u1 (h 0 _ rfl))).trans ((dk_bind (dk_u1 (h 1 _ rfl))).trans rfl))
theorem dk_26 {code : ByteArray} {pc : Nat} (h : DkAt code pc [26]) : decode code pc = .ok (.iload_n 0, 1) := dk_of ((dk_bind (dk_u1 (h 0 _ rfl))).trans rfl)
theorem dk_27 {code : ByteArray} {pc : Nat} (h : DkAt code pc [27]) : decode code pc = .ok (.iload_n 1, 1) := dk_of ((dk_bind (dk_u1 (h 0 _ rfl))).trans rfl)
theorem dk_28 {code : ByteArray} {pc : Nat} (h : DkAt code pc [28]) : decode code pc = .ok (.iload_n 2, 1) := dk_of ((dk_bind (dk_u1 (h 0 _ rfl))).trans rfl)
theorem dk_29 {code : ByteArray} {pc : Nat} (h : DkAt code pc [29]) : decode code pc = .ok (.iload_n 3, 1) := dk_of ((dk_bind (dk_u1 (h 0 _ rfl))).trans rfl)
theorem dk_30 {code : ByteArray} {pc : Nat} (h : DkAt code pc [30]) : decode code pc = .ok (.lload_n 0, 1) := dk_of ((dk_bind (dk_u1 (h 0 _ rfl))).trans rfl)
theorem dk_31 {code : ByteArray} {pc : Nat} (h : DkAt code pc [31]) : decode code pc = .ok (.lload_n 1, 1) := dk_of ((dk_bind (dk_u1 (h 0 _ rfl))).trans rfl)
theorem dk_32 {code : ByteArray} {pc : Nat} (h : DkAt code pc [32]) : decode code pc = .ok (.lload_n 2, 1) := dk_of ((dk_bind (dk_u1 (h 0 _ rfl))).trans rfl)
theorem dk_33 {code : ByteArray} {pc : Nat} (h : DkAt code pc [33]) : decode code pc = .ok (.lload_n 3, 1) := dk_of ((dk_bind (dk_u1 (h 0 _ rfl))).trans rfl)
theorem dk_42 {code : ByteArray} {pc : Nat} (h : DkAt code pc [42]) : decode code pc = .ok (.aload_n 0, 1) := dk_of ((dk_bind (dk_u1 (h 0 _ rfl))).trans rfl)
theorem dk_43 {code : ByteArray} {pc : Nat} (h : DkAt code pc [43]) : decode code pc = .ok (.aload_n 1, 1) := dk_of ((dk_bind (dk_u1 (h 0 _ rfl))).trans rfl)
theorem dk_44 {code : ByteArray} {pc : Nat} (h : DkAt code pc [44]) : decode code pc = .ok (.aload_n 2, 1) := dk_of ((dk_bind (dk_u1 (h 0 _ rfl))).trans rfl)
theorem dk_45 {code : ByteArray} {pc : Nat} (h : DkAt code pc [45]) : decode code pc = .ok (.aload_n 3, 1) := dk_of ((dk_bind (dk_u1 (h 0 _ rfl))).trans rfl)
theorem dk_46 {code : ByteArray} {pc : Nat} (h : DkAt code pc [46]) : decode code pc = .ok (.iaload, 1) := dk_of ((dk_bind (dk_u1 (h 0 _ rfl))).trans rfl)
theorem dk_50 {code : ByteArray} {pc : Nat} (h : DkAt code pc [50]) : decode code pc = .ok (.aaload, 1) := dk_of ((dk_bind (dk_u1 (h 0 _ rfl))).trans rfl)
theorem dk_54 {code : ByteArray} {pc : Nat} (a : UInt8) (h : DkAt code pc [54, a]) : decode code pc = .ok (.istore a.toNat, 2) := dk_of ((dk_bind (dk_u1 (h 0 _ rfl))).trans ((dk_bind (dk_u1 (h 1 _ rfl))).trans rfl))
theorem dk_55 {code : ByteArray} {pc : Nat} (a : UInt8) (h : DkAt code pc [55, a]) : decode code pc = .ok (.lstore a.toNat, 2) := dk_of ((dk_bind (dk_u1 (h 0 _ rfl))).trans ((dk_bind (dk_u1 (h 1 _ rfl))).trans rfl))
theorem dk_60 {code : ByteArray} {pc : Nat} (h : DkAt code pc [60]) : decode code pc = .ok (.istore_n 1, 1) := dk_of ((dk_bind (dk_u1 (h 0 _ rfl))).trans rfl)
theorem dk_61 {code : ByteArray} {pc : Nat} (h : DkAt code pc [61]) : decode code pc = .ok (.istore_n 2, 1) := dk_of ((dk_bind (dk_u1 (h 0 _ rfl))).trans rfl)
theorem dk_62 {code : ByteArray} {pc : Nat} (h : DkAt code pc [62]) : decode code pc = .ok (.istore_n 3, 1) := dk_of ((dk_bind (dk_u1 (h 0 _ rfl))).trans rfl)
theorem dk_64 {code : ByteArray} {pc : Nat} (h : DkAt code pc [64]) : decode code pc = .ok (.lstore_n 1, 1) := dk_of ((dk_bind (dk_u1 (h 0 _ rfl))).trans rfl)
theorem dk_65 {code : ByteArray} {pc : Nat} (h : DkAt code pc [65]) : decode code pc = .ok (.lstore_n 2, 1) := dk_of ((dk_bind (dk_u1 (h 0 _ rfl))).trans rfl)
theorem dk_66 {code : ByteArray} {pc : Nat} (h : DkAt code pc [66]) : decode code pc = .ok (.lstore_n 3, 1) := dk_of ((dk_bind (dk_u1 (h 0 _ rfl))).trans rfl)
theorem dk_76 {code : ByteArray} {pc : Nat} (h : DkAt code pc [76]) : decode code pc = .ok (.astore_n 1, 1) := dk_of ((dk_bind (dk_u1 (h 0 _ rfl))).trans rfl)
theorem dk_77 {code : ByteArray} {pc : Nat} (h : DkAt code pc [77]) : decode code pc = .ok (.astore_n 2, 1) := dk_of ((dk_bind (dk_u1 (h 0 _ rfl))).trans rfl)
theorem dk_79 {code : ByteArray} {pc : Nat} (h : DkAt code pc [79]) : decode code pc = .ok (.iastore, 1) := dk_of ((dk_bind (dk_u1 (h 0 _ rfl))).trans rfl)
theorem dk_83 {code : ByteArray} {pc : Nat} (h : DkAt code pc [83]) : decode code pc = .ok (.aastore, 1) := dk_of ((dk_bind (dk_u1 (h 0 _ rfl))).trans rfl)
theorem dk_87 {code : ByteArray} {pc : Nat} (h : DkAt code pc [87]) : decode code pc = .ok (.pop, 1) := dk_of ((dk_bind (dk_u1 (h 0 _ rfl))).trans rfl)
theorem dk_88 {code : ByteArray} {pc : Nat} (h : DkAt code pc [88]) : decode code pc = .ok (.pop2, 1) := dk_of ((dk_bind (dk_u1 (h 0 _ rfl))).trans rfl)
theorem dk_89 {code : ByteArray} {pc : Nat} (h : DkAt code pc [89]) : decode code pc = .ok (.dup, 1) := dk_of ((dk_bind (dk_u1 (h 0 _ rfl))).trans rfl)
theorem dk_96 {code : ByteArray} {pc : Nat} (h : DkAt code pc [96]) : decode code pc = .ok (.iadd, 1) := dk_of ((dk_bind (dk_u1 (h 0 _ rfl))).trans rfl)
theorem dk_97 {code : ByteArray} {pc : Nat} (h : DkAt code pc [97]) : decode code pc = .ok (.ladd, 1) := dk_of ((dk_bind (dk_u1 (h 0 _ rfl))).trans rfl)
theorem dk_100 {code : ByteArray} {pc : Nat} (h : DkAt code pc [100]) : decode code pc = .ok (.isub, 1) := dk_of ((dk_bind (dk_u1 (h 0 _ rfl))).trans rfl)
theorem dk_101 {code : ByteArray} {pc : Nat} (h : DkAt code pc [101]) : decode code pc = .ok (.lsub, 1) := dk_of ((dk_bind (dk_u1 (h 0 _ rfl))).trans rfl)
theorem dk_105 {code : ByteArray} {pc : Nat} (h : DkAt code pc [105]) : decode code pc = .ok (.lmul, 1) := dk_of ((dk_bind (dk_u1 (h 0 _ rfl))).trans rfl)
theorem dk_109 {code : ByteArray} {pc : Nat} (h : DkAt code pc [109]) : decode code pc = .ok (.ldiv, 1) := dk_of ((dk_bind (dk_u1 (h 0 _ rfl))).trans rfl)
theorem dk_112 {code : ByteArray} {pc : Nat} (h : DkAt code pc [112]) : decode code pc = .ok (.irem, 1) := dk_of ((dk_bind (dk_u1 (h 0 _ rfl))).trans rfl)
theorem dk_113 {code : ByteArray} {pc : Nat} (h : DkAt code pc [113]) : decode code pc = .ok (.lrem, 1) := dk_of ((dk_bind (dk_u1 (h 0 _ rfl))).trans rfl)
theorem dk_126 {code : ByteArray} {pc : Nat} (h : DkAt code pc [126]) : decode code pc = .ok (.iand, 1) := dk_of ((dk_bind (dk_u1 (h 0 _ rfl))).trans rfl)
theorem dk_127 {code : ByteArray} {pc : Nat} (h : DkAt code pc [127]) : decode code pc = .ok (.land, 1) := dk_of ((dk_bind (dk_u1 (h 0 _ rfl))).trans rfl)
theorem dk_132 {code : ByteArray} {pc : Nat} (a b : UInt8) (h : DkAt code pc [132, a, b]) : decode code pc = .ok (.iinc a.toNat (Reader.signed 8 b.toNat), 3) := dk_of ((dk_bind (dk_u1 (h 0 _ rfl))).trans ((dk_bind (dk_u1 (h 1 _ rfl))).trans ((dk_bind (dk_map (dk_u1 (h 2 _ rfl)))).trans rfl)))
theorem dk_133 {code : ByteArray} {pc : Nat} (h : DkAt code pc [133]) : decode code pc = .ok (.i2l, 1) := dk_of ((dk_bind (dk_u1 (h 0 _ rfl))).trans rfl)
theorem dk_136 {code : ByteArray} {pc : Nat} (h : DkAt code pc [136]) : decode code pc = .ok (.l2i, 1) := dk_of ((dk_bind (dk_u1 (h 0 _ rfl))).trans rfl)
theorem dk_147 {code : ByteArray} {pc : Nat} (h : DkAt code pc [147]) : decode code pc = .ok (.i2s, 1) := dk_of ((dk_bind (dk_u1 (h 0 _ rfl))).trans rfl)
theorem dk_148 {code : ByteArray} {pc : Nat} (h : DkAt code pc [148]) : decode code pc = .ok (.lcmp, 1) := dk_of ((dk_bind (dk_u1 (h 0 _ rfl))).trans rfl)
theorem dk_153 {code : ByteArray} {pc : Nat} (a b : UInt8) (h : DkAt code pc [153, a, b]) : decode code pc = .ok (.ifCond .eq (Reader.signed 16 (a.toNat * 256 + b.toNat)), 3) := dk_of ((dk_bind (dk_u1 (h 0 _ rfl))).trans ((dk_bind (dk_map (dk_u2 (h 1 _ rfl) (h 2 _ rfl)))).trans rfl))
theorem dk_154 {code : ByteArray} {pc : Nat} (a b : UInt8) (h : DkAt code pc [154, a, b]) : decode code pc = .ok (.ifCond .ne (Reader.signed 16 (a.toNat * 256 + b.toNat)), 3) := dk_of ((dk_bind (dk_u1 (h 0 _ rfl))).trans ((dk_bind (dk_map (dk_u2 (h 1 _ rfl) (h 2 _ rfl)))).trans rfl))
theorem dk_155 {code : ByteArray} {pc : Nat} (a b : UInt8) (h : DkAt code pc [155, a, b]) : decode code pc = .ok (.ifCond .lt (Reader.signed 16 (a.toNat * 256 + b.toNat)), 3) := dk_of ((dk_bind (dk_u1 (h 0 _ rfl))).trans ((dk_bind (dk_map (dk_u2 (h 1 _ rfl) (h 2 _ rfl)))).trans rfl))
theorem dk_156 {code : ByteArray} {pc : Nat} (a b : UInt8) (h : DkAt code pc [156, a, b]) : decode code pc = .ok (.ifCond .ge (Reader.signed 16 (a.toNat * 256 + b.toNat)), 3) := dk_of ((dk_bind (dk_u1 (h 0 _ rfl))).trans ((dk_bind (dk_map (dk_u2 (h 1 _ rfl) (h 2 _ rfl)))).trans rfl))
theorem dk_157 {code : ByteArray} {pc : Nat} (a b : UInt8) (h : DkAt code pc [157, a, b]) : decode code pc = .ok (.ifCond .gt (Reader.signed 16 (a.toNat * 256 + b.toNat)), 3) := dk_of ((dk_bind (dk_u1 (h 0 _ rfl))).trans ((dk_bind (dk_map (dk_u2 (h 1 _ rfl) (h 2 _ rfl)))).trans rfl))
theorem dk_158 {code : ByteArray} {pc : Nat} (a b : UInt8) (h : DkAt code pc [158, a, b]) : decode code pc = .ok (.ifCond .le (Reader.signed 16 (a.toNat * 256 + b.toNat)), 3) := dk_of ((dk_bind (dk_u1 (h 0 _ rfl))).trans ((dk_bind (dk_map (dk_u2 (h 1 _ rfl) (h 2 _ rfl)))).trans rfl))
theorem dk_159 {code : ByteArray} {pc : Nat} (a b : UInt8) (h : DkAt code pc [159, a, b]) : decode code pc = .ok (.if_icmp .eq (Reader.signed 16 (a.toNat * 256 + b.toNat)), 3) := dk_of ((dk_bind (dk_u1 (h 0 _ rfl))).trans ((dk_bind (dk_map (dk_u2 (h 1 _ rfl) (h 2 _ rfl)))).trans rfl))
theorem dk_160 {code : ByteArray} {pc : Nat} (a b : UInt8) (h : DkAt code pc [160, a, b]) : decode code pc = .ok (.if_icmp .ne (Reader.signed 16 (a.toNat * 256 + b.toNat)), 3) := dk_of ((dk_bind (dk_u1 (h 0 _ rfl))).trans ((dk_bind (dk_map (dk_u2 (h 1 _ rfl) (h 2 _ rfl)))).trans rfl))
theorem dk_161 {code : ByteArray} {pc : Nat} (a b : UInt8) (h : DkAt code pc [161, a, b]) : decode code pc = .ok (.if_icmp .lt (Reader.signed 16 (a.toNat * 256 + b.toNat)), 3) := dk_of ((dk_bind (dk_u1 (h 0 _ rfl))).trans ((dk_bind (dk_map (dk_u2 (h 1 _ rfl) (h 2 _ rfl)))).trans rfl))
theorem dk_162 {code : ByteArray} {pc : Nat} (a b : UInt8) (h : DkAt code pc [162, a, b]) : decode code pc = .ok (.if_icmp .ge (Reader.signed 16 (a.toNat * 256 + b.toNat)), 3) := dk_of ((dk_bind (dk_u1 (h 0 _ rfl))).trans ((dk_bind (dk_map (dk_u2 (h 1 _ rfl) (h 2 _ rfl)))).trans rfl))
theorem dk_163 {code : ByteArray} {pc : Nat} (a b : UInt8) (h : DkAt code pc [163, a, b]) : decode code pc = .ok (.if_icmp .gt (Reader.signed 16 (a.toNat * 256 + b.toNat)), 3) := dk_of ((dk_bind (dk_u1 (h 0 _ rfl))).trans ((dk_bind (dk_map (dk_u2 (h 1 _ rfl) (h 2 _ rfl)))).trans rfl))
theorem dk_164 {code : ByteArray} {pc : Nat} (a b : UInt8) (h : DkAt code pc [164, a, b]) : decode code pc = .ok (.if_icmp .le (Reader.signed 16 (a.toNat * 256 + b.toNat)), 3) := dk_of ((dk_bind (dk_u1 (h 0 _ rfl))).trans ((dk_bind (dk_map (dk_u2 (h 1 _ rfl) (h 2 _ rfl)))).trans rfl))
theorem dk_167 {code : ByteArray} {pc : Nat} (a b : UInt8) (h : DkAt code pc [167, a, b]) : decode code pc = .ok (.goto (Reader.signed 16 (a.toNat * 256 + b.toNat)), 3) := dk_of ((dk_bind (dk_u1 (h 0 _ rfl))).trans ((dk_bind (dk_map (dk_u2 (h 1 _ rfl) (h 2 _ rfl)))).trans rfl))
theorem dk_172 {code : ByteArray} {pc : Nat} (h : DkAt code pc [172]) : decode code pc = .ok (.ireturn, 1) := dk_of ((dk_bind (dk_u1 (h 0 _ rfl))).trans rfl)
theorem dk_173 {code : ByteArray} {pc : Nat} (h : DkAt code pc [173]) : decode code pc = .ok (.lreturn, 1) := dk_of ((dk_bind (dk_u1 (h 0 _ rfl))).trans rfl)
theorem dk_176 {code : ByteArray} {pc : Nat} (h : DkAt code pc [176]) : decode code pc = .ok (.areturn, 1) := dk_of ((dk_bind (dk_u1 (h 0 _ rfl))).trans rfl)
theorem dk_177 {code : ByteArray} {pc : Nat} (h : DkAt code pc [177]) : decode code pc = .ok (.return_, 1) := dk_of ((dk_bind (dk_u1 (h 0 _ rfl))).trans rfl)
theorem dk_178 {code : ByteArray} {pc : Nat} (a b : UInt8) (h : DkAt code pc [178, a, b]) : decode code pc = .ok (.getstatic (a.toNat * 256 + b.toNat), 3) := dk_of ((dk_bind (dk_u1 (h 0 _ rfl))).trans ((dk_bind (dk_u2 (h 1 _ rfl) (h 2 _ rfl))).trans rfl))
theorem dk_180 {code : ByteArray} {pc : Nat} (a b : UInt8) (h : DkAt code pc [180, a, b]) : decode code pc = .ok (.getfield (a.toNat * 256 + b.toNat), 3) := dk_of ((dk_bind (dk_u1 (h 0 _ rfl))).trans ((dk_bind (dk_u2 (h 1 _ rfl) (h 2 _ rfl))).trans rfl))
theorem dk_181 {code : ByteArray} {pc : Nat} (a b : UInt8) (h : DkAt code pc [181, a, b]) : decode code pc = .ok (.putfield (a.toNat * 256 + b.toNat), 3) := dk_of ((dk_bind (dk_u1 (h 0 _ rfl))).trans ((dk_bind (dk_u2 (h 1 _ rfl) (h 2 _ rfl))).trans rfl))
theorem dk_182 {code : ByteArray} {pc : Nat} (a b : UInt8) (h : DkAt code pc [182, a, b]) : decode code pc = .ok (.invokevirtual (a.toNat * 256 + b.toNat), 3) := dk_of ((dk_bind (dk_u1 (h 0 _ rfl))).trans ((dk_bind (dk_u2 (h 1 _ rfl) (h 2 _ rfl))).trans rfl))
theorem dk_183 {code : ByteArray} {pc : Nat} (a b : UInt8) (h : DkAt code pc [183, a, b]) : decode code pc = .ok (.invokespecial (a.toNat * 256 + b.toNat), 3) := dk_of ((dk_bind (dk_u1 (h 0 _ rfl))).trans ((dk_bind (dk_u2 (h 1 _ rfl) (h 2 _ rfl))).trans rfl))
theorem dk_184 {code : ByteArray} {pc : Nat} (a b : UInt8) (h : DkAt code pc [184, a, b]) : decode code pc = .ok (.invokestatic (a.toNat * 256 + b.toNat), 3) := dk_of ((dk_bind (dk_u1 (h 0 _ rfl))).trans ((dk_bind (dk_u2 (h 1 _ rfl) (h 2 _ rfl))).trans rfl))
theorem dk_187 {code : ByteArray} {pc : Nat} (a b : UInt8) (h : DkAt code pc [187, a, b]) : decode code pc = .ok (.new (a.toNat * 256 + b.toNat), 3) := dk_of ((dk_bind (dk_u1 (h 0 _ rfl))).trans ((dk_bind (dk_u2 (h 1 _ rfl) (h 2 _ rfl))).trans rfl))
theorem dk_188_10 {code : ByteArray} {pc : Nat} (h : DkAt code pc [188, 10]) : decode code pc = .ok (.newarray .int, 2) := dk_of ((dk_bind (dk_u1 (h 0 _ rfl))).trans ((dk_bind (dk_u1 (h 1 _ rfl))).trans rfl))
theorem dk_189 {code : ByteArray} {pc : Nat} (a b : UInt8) (h : DkAt code pc [189, a, b]) : decode code pc = .ok (.anewarray (a.toNat * 256 + b.toNat), 3) := dk_of ((dk_bind (dk_u1 (h 0 _ rfl))).trans ((dk_bind (dk_u2 (h 1 _ rfl) (h 2 _ rfl))).trans rfl))
theorem dk_190 {code : ByteArray} {pc : Nat} (h : DkAt code pc [190]) : decode code pc = .ok (.arraylength, 1) := dk_of ((dk_bind (dk_u1 (h 0 _ rfl))).trans rfl)
theorem dk_191 {code : ByteArray} {pc : Nat} (h : DkAt code pc [191]) : decode code pc = .ok (.athrow, 1) := dk_of ((dk_bind (dk_u1 (h 0 _ rfl))).trans rfl)
theorem dk_198 {code : ByteArray} {pc : Nat} (a b : UInt8) (h : DkAt code pc [198, a, b]) : decode code pc = .ok (.ifnull (Reader.signed 16 (a.toNat * 256 + b.toNat)), 3) := dk_of ((dk_bind (dk_u1 (h 0 _ rfl))).trans ((dk_bind (dk_map (dk_u2 (h 1 _ rfl) (h 2 _ rfl)))).trans rfl))
/-! ValueRange -/
set_option maxRecDepth 100000
def RX12 : String := "ValueRange"
abbrev cX12_checkValidValue : ByteArray := prog_18_method_10_code
def yX12_checkValidValue : MethodName := ⟨RX12, "checkValidValue", "(JLTemporalField;)J"⟩
def dkwX12_checkValidValue_1 : List UInt8 := [187, 0, 61, 89, 18, 63, 183, 0, 65, 191, 31, 173]
abbrev dktX12_checkValidValue_1 : List UInt8 := dkwX12_checkValidValue_1 ++ []
def dkwX12_checkValidValue_0 : List UInt8 := [42, 31, 182, 0, 57, 154, 0, 27, 45, 198, 0, 13, 187, 0, 61, 89, 18, 63, 183, 0, 65, 191]
abbrev dktX12_checkValidValue_0 : List UInt8 := dkwX12_checkValidValue_0 ++ dktX12_checkValidValue_1
theorem dksX12_checkValidValue_0 : cX12_checkValidValue.data.toList.drop 0 = dktX12_checkValidValue_0 := by decide +kernel
theorem dksX12_checkValidValue_1 : cX12_checkValidValue.data.toList.drop 22 = dktX12_checkValidValue_1 := dk_seg dksX12_checkValidValue_0 22 rfl rfl
theorem dX12_checkValidValue_0 : decode cX12_checkValidValue 0 = .ok (.aload_n 0, 1) := dk_42 (dk_at dksX12_checkValidValue_0 0 rfl rfl)
theorem dX12_checkValidValue_1 : decode cX12_checkValidValue 1 = .ok (.lload_n 1, 1) := dk_31 (dk_at dksX12_checkValidValue_0 1 rfl rfl)
theorem dX12_checkValidValue_2 : decode cX12_checkValidValue 2 = .ok (.invokevirtual 57, 3) := dk_182 0 57 (dk_at dksX12_checkValidValue_0 2 rfl rfl)
theorem dX12_checkValidValue_5 : decode cX12_checkValidValue 5 = .ok (.ifCond .ne 27, 3) := dk_154 0 27 (dk_at dksX12_checkValidValue_0 5 rfl rfl)
theorem dX12_checkValidValue_8 : decode cX12_checkValidValue 8 = .ok (.aload_n 3, 1) := dk_45 (dk_at dksX12_checkValidValue_0 8 rfl rfl)
theorem dX12_checkValidValue_9 : decode cX12_checkValidValue 9 = .ok (.ifnull 13, 3) := dk_198 0 13 (dk_at dksX12_checkValidValue_0 9 rfl rfl)
theorem dX12_checkValidValue_12 : decode cX12_checkValidValue 12 = .ok (.new 61, 3) := dk_187 0 61 (dk_at dksX12_checkValidValue_0 12 rfl rfl)
theorem dX12_checkValidValue_15 : decode cX12_checkValidValue 15 = .ok (.dup, 1) := dk_89 (dk_at dksX12_checkValidValue_0 15 rfl rfl)
theorem dX12_checkValidValue_16 : decode cX12_checkValidValue 16 = .ok (.ldc 63, 2) := dk_18 63 (dk_at dksX12_checkValidValue_0 16 rfl rfl)
theorem dX12_checkValidValue_18 : decode cX12_checkValidValue 18 = .ok (.invokespecial 65, 3) := dk_183 0 65 (dk_at dksX12_checkValidValue_0 18 rfl rfl)
theorem dX12_checkValidValue_21 : decode cX12_checkValidValue 21 = .ok (.athrow, 1) := dk_191 (dk_at dksX12_checkValidValue_0 21 rfl rfl)
theorem dX12_checkValidValue_22 : decode cX12_checkValidValue 22 = .ok (.new 61, 3) := dk_187 0 61 (dk_at dksX12_checkValidValue_1 0 rfl rfl)
theorem dX12_checkValidValue_25 : decode cX12_checkValidValue 25 = .ok (.dup, 1) := dk_89 (dk_at dksX12_checkValidValue_1 3 rfl rfl)
theorem dX12_checkValidValue_26 : decode cX12_checkValidValue 26 = .ok (.ldc 63, 2) := dk_18 63 (dk_at dksX12_checkValidValue_1 4 rfl rfl)
theorem dX12_checkValidValue_28 : decode cX12_checkValidValue 28 = .ok (.invokespecial 65, 3) := dk_183 0 65 (dk_at dksX12_checkValidValue_1 6 rfl rfl)
theorem dX12_checkValidValue_31 : decode cX12_checkValidValue 31 = .ok (.athrow, 1) := dk_191 (dk_at dksX12_checkValidValue_1 9 rfl rfl)
theorem dX12_checkValidValue_32 : decode cX12_checkValidValue 32 = .ok (.lload_n 1, 1) := dk_31 (dk_at dksX12_checkValidValue_1 10 rfl rfl)
theorem dX12_checkValidValue_33 : decode cX12_checkValidValue 33 = .ok (.lreturn, 1) := dk_173 (dk_at dksX12_checkValidValue_1 11 rfl rfl)
abbrev cX12_isValidValue : ByteArray := prog_18_method_8_code
def yX12_isValidValue : MethodName := ⟨RX12, "isValidValue", "(J)Z"⟩
def dkwX12_isValidValue_0 : List UInt8 := [31, 42, 182, 0, 40, 148, 155, 0, 16, 31, 42, 182, 0, 48, 148, 157, 0, 7, 4, 167, 0, 4, 3, 172]
abbrev dktX12_isValidValue_0 : List UInt8 := dkwX12_isValidValue_0 ++ []
theorem dksX12_isValidValue_0 : cX12_isValidValue.data.toList.drop 0 = dktX12_isValidValue_0 := by decide +kernel
theorem dX12_isValidValue_0 : decode cX12_isValidValue 0 = .ok (.lload_n 1, 1) := dk_31 (dk_at dksX12_isValidValue_0 0 rfl rfl)
theorem dX12_isValidValue_1 : decode cX12_isValidValue 1 = .ok (.aload_n 0, 1) := dk_42 (dk_at dksX12_isValidValue_0 1 rfl rfl)
theorem dX12_isValidValue_2 : decode cX12_isValidValue 2 = .ok (.invokevirtual 40, 3) := dk_182 0 40 (dk_at dksX12_isValidValue_0 2 rfl rfl)
theorem dX12_isValidValue_5 : decode cX12_isValidValue 5 = .ok (.lcmp, 1) := dk_148 (dk_at dksX12_isValidValue_0 5 rfl rfl)
theorem dX12_isValidValue_6 : decode cX12_isValidValue 6 = .ok (.ifCond .lt 16, 3) := dk_155 0 16 (dk_at dksX12_isValidValue_0 6 rfl rfl)
theorem dX12_isValidValue_9 : decode cX12_isValidValue 9 = .ok (.lload_n 1, 1) := dk_31 (dk_at dksX12_isValidValue_0 9 rfl rfl)
theorem dX12_isValidValue_10 : decode cX12_isValidValue 10 = .ok (.aload_n 0, 1) := dk_42 (dk_at dksX12_isValidValue_0 10 rfl rfl)
theorem dX12_isValidValue_11 : decode cX12_isValidValue 11 = .ok (.invokevirtual 48, 3) := dk_182 0 48 (dk_at dksX12_isValidValue_0 11 rfl rfl)
theorem dX12_isValidValue_14 : decode cX12_isValidValue 14 = .ok (.lcmp, 1) := dk_148 (dk_at dksX12_isValidValue_0 14 rfl rfl)
theorem dX12_isValidValue_15 : decode cX12_isValidValue 15 = .ok (.ifCond .gt 7, 3) := dk_157 0 7 (dk_at dksX12_isValidValue_0 15 rfl rfl)
theorem dX12_isValidValue_18 : decode cX12_isValidValue 18 = .ok (.iconst 1, 1) := dk_4 (dk_at dksX12_isValidValue_0 18 rfl rfl)
theorem dX12_isValidValue_19 : decode cX12_isValidValue 19 = .ok (.goto 4, 3) := dk_167 0 4 (dk_at dksX12_isValidValue_0 19 rfl rfl)
theorem dX12_isValidValue_22 : decode cX12_isValidValue 22 = .ok (.iconst 0, 1) := dk_3 (dk_at dksX12_isValidValue_0 22 rfl rfl)
theorem dX12_isValidValue_23 : decode cX12_isValidValue 23 = .ok (.ireturn, 1) := dk_172 (dk_at dksX12_isValidValue_0 23 rfl rfl)
abbrev cX12_getMinimum : ByteArray := prog_18_method_5_code
def yX12_getMinimum : MethodName := ⟨RX12, "getMinimum", "()J"⟩
theorem dX12_getMinimum_0 : decode cX12_getMinimum 0 = .ok (.aload_n 0, 1) := by decide +kernel
theorem dX12_getMinimum_1 : decode cX12_getMinimum 1 = .ok (.getfield 27, 3) := by decide +kernel
theorem dX12_getMinimum_4 : decode cX12_getMinimum 4 = .ok (.lreturn, 1) := by decide +kernel
abbrev cX12_getMaximum : ByteArray := prog_18_method_6_code
def yX12_getMaximum : MethodName := ⟨RX12, "getMaximum", "()J"⟩
theorem dX12_getMaximum_0 : decode cX12_getMaximum 0 = .ok (.aload_n 0, 1) := by decide +kernel
theorem dX12_getMaximum_1 : decode cX12_getMaximum 1 = .ok (.getfield 37, 3) := by decide +kernel
theorem dX12_getMaximum_4 : decode cX12_getMaximum 4 = .ok (.lreturn, 1) := by decide +kernel
abbrev cX12_checkValidIntValue : ByteArray := prog_18_method_11_code
def yX12_checkValidIntValue : MethodName := ⟨RX12, "checkValidIntValue", "(JLTemporalField;)I"⟩
def dkwX12_checkValidIntValue_0 : List UInt8 := [42, 31, 182, 0, 66, 154, 0, 13, 187, 0, 61, 89, 18, 63, 183, 0, 65, 191, 31, 136, 172]
abbrev dktX12_checkValidIntValue_0 : List UInt8 := dkwX12_checkValidIntValue_0 ++ []
theorem dksX12_checkValidIntValue_0 : cX12_checkValidIntValue.data.toList.drop 0 = dktX12_checkValidIntValue_0 := by decide +kernel
theorem dX12_checkValidIntValue_0 : decode cX12_checkValidIntValue 0 = .ok (.aload_n 0, 1) := dk_42 (dk_at dksX12_checkValidIntValue_0 0 rfl rfl)
theorem dX12_checkValidIntValue_1 : decode cX12_checkValidIntValue 1 = .ok (.lload_n 1, 1) := dk_31 (dk_at dksX12_checkValidIntValue_0 1 rfl rfl)
theorem dX12_checkValidIntValue_2 : decode cX12_checkValidIntValue 2 = .ok (.invokevirtual 66, 3) := dk_182 0 66 (dk_at dksX12_checkValidIntValue_0 2 rfl rfl)
theorem dX12_checkValidIntValue_5 : decode cX12_checkValidIntValue 5 = .ok (.ifCond .ne 13, 3) := dk_154 0 13 (dk_at dksX12_checkValidIntValue_0 5 rfl rfl)
theorem dX12_checkValidIntValue_8 : decode cX12_checkValidIntValue 8 = .ok (.new 61, 3) := dk_187 0 61 (dk_at dksX12_checkValidIntValue_0 8 rfl rfl)
theorem dX12_checkValidIntValue_11 : decode cX12_checkValidIntValue 11 = .ok (.dup, 1) := dk_89 (dk_at dksX12_checkValidIntValue_0 11 rfl rfl)
theorem dX12_checkValidIntValue_12 : decode cX12_checkValidIntValue 12 = .ok (.ldc 63, 2) := dk_18 63 (dk_at dksX12_checkValidIntValue_0 12 rfl rfl)
theorem dX12_checkValidIntValue_14 : decode cX12_checkValidIntValue 14 = .ok (.invokespecial 65, 3) := dk_183 0 65 (dk_at dksX12_checkValidIntValue_0 14 rfl rfl)
theorem dX12_checkValidIntValue_17 : decode cX12_checkValidIntValue 17 = .ok (.athrow, 1) := dk_191 (dk_at dksX12_checkValidIntValue_0 17 rfl rfl)
theorem dX12_checkValidIntValue_18 : decode cX12_checkValidIntValue 18 = .ok (.lload_n 1, 1) := dk_31 (dk_at dksX12_checkValidIntValue_0 18 rfl rfl)
theorem dX12_checkValidIntValue_19 : decode cX12_checkValidIntValue 19 = .ok (.l2i, 1) := dk_136 (dk_at dksX12_checkValidIntValue_0 19 rfl rfl)
theorem dX12_checkValidIntValue_20 : decode cX12_checkValidIntValue 20 = .ok (.ireturn, 1) := dk_172 (dk_at dksX12_checkValidIntValue_0 20 rfl rfl)
abbrev cX12_isValidIntValue : ByteArray := prog_18_method_9_code
def yX12_isValidIntValue : MethodName := ⟨RX12, "isValidIntValue", "(J)Z"⟩
def dkwX12_isValidIntValue_0 : List UInt8 := [42, 182, 0, 53, 153, 0, 15, 42, 31, 182, 0, 57, 153, 0, 7, 4, 167, 0, 4, 3, 172]
abbrev dktX12_isValidIntValue_0 : List UInt8 := dkwX12_isValidIntValue_0 ++ []
theorem dksX12_isValidIntValue_0 : cX12_isValidIntValue.data.toList.drop 0 = dktX12_isValidIntValue_0 := by decide +kernel
theorem dX12_isValidIntValue_0 : decode cX12_isValidIntValue 0 = .ok (.aload_n 0, 1) := dk_42 (dk_at dksX12_isValidIntValue_0 0 rfl rfl)
theorem dX12_isValidIntValue_1 : decode cX12_isValidIntValue 1 = .ok (.invokevirtual 53, 3) := dk_182 0 53 (dk_at dksX12_isValidIntValue_0 1 rfl rfl)
theorem dX12_isValidIntValue_4 : decode cX12_isValidIntValue 4 = .ok (.ifCond .eq 15, 3) := dk_153 0 15 (dk_at dksX12_isValidIntValue_0 4 rfl rfl)
theorem dX12_isValidIntValue_7 : decode cX12_isValidIntValue 7 = .ok (.aload_n 0, 1) := dk_42 (dk_at dksX12_isValidIntValue_0 7 rfl rfl)
theorem dX12_isValidIntValue_8 : decode cX12_isValidIntValue 8 = .ok (.lload_n 1, 1) := dk_31 (dk_at dksX12_isValidIntValue_0 8 rfl rfl)
theorem dX12_isValidIntValue_9 : decode cX12_isValidIntValue 9 = .ok (.invokevirtual 57, 3) := dk_182 0 57 (dk_at dksX12_isValidIntValue_0 9 rfl rfl)
theorem dX12_isValidIntValue_12 : decode cX12_isValidIntValue 12 = .ok (.ifCond .eq 7, 3) := dk_153 0 7 (dk_at dksX12_isValidIntValue_0 12 rfl rfl)
theorem dX12_isValidIntValue_15 : decode cX12_isValidIntValue 15 = .ok (.iconst 1, 1) := dk_4 (dk_at dksX12_isValidIntValue_0 15 rfl rfl)
theorem dX12_isValidIntValue_16 : decode cX12_isValidIntValue 16 = .ok (.goto 4, 3) := dk_167 0 4 (dk_at dksX12_isValidIntValue_0 16 rfl rfl)
theorem dX12_isValidIntValue_19 : decode cX12_isValidIntValue 19 = .ok (.iconst 0, 1) := dk_3 (dk_at dksX12_isValidIntValue_0 19 rfl rfl)
theorem dX12_isValidIntValue_20 : decode cX12_isValidIntValue 20 = .ok (.ireturn, 1) := dk_172 (dk_at dksX12_isValidIntValue_0 20 rfl rfl)
abbrev cX12_isIntValue : ByteArray := prog_18_method_7_code
def yX12_isIntValue : MethodName := ⟨RX12, "isIntValue", "()Z"⟩
def dkwX12_isIntValue_1 : List UInt8 := [167, 0, 4, 3, 172]
abbrev dktX12_isIntValue_1 : List UInt8 := dkwX12_isIntValue_1 ++ []
def dkwX12_isIntValue_0 : List UInt8 := [42, 182, 0, 40, 20, 0, 46, 148, 155, 0, 18, 42, 182, 0, 48, 20, 0, 51, 148, 157, 0, 7, 4]
abbrev dktX12_isIntValue_0 : List UInt8 := dkwX12_isIntValue_0 ++ dktX12_isIntValue_1
theorem dksX12_isIntValue_0 : cX12_isIntValue.data.toList.drop 0 = dktX12_isIntValue_0 := by decide +kernel
theorem dksX12_isIntValue_1 : cX12_isIntValue.data.toList.drop 23 = dktX12_isIntValue_1 := dk_seg dksX12_isIntValue_0 23 rfl rfl
theorem dX12_isIntValue_0 : decode cX12_isIntValue 0 = .ok (.aload_n 0, 1) := dk_42 (dk_at dksX12_isIntValue_0 0 rfl rfl)
theorem dX12_isIntValue_1 : decode cX12_isIntValue 1 = .ok (.invokevirtual 40, 3) := dk_182 0 40 (dk_at dksX12_isIntValue_0 1 rfl rfl)
theorem dX12_isIntValue_4 : decode cX12_isIntValue 4 = .ok (.ldc2_w 46, 3) := dk_20 0 46 (dk_at dksX12_isIntValue_0 4 rfl rfl)
theorem dX12_isIntValue_7 : decode cX12_isIntValue 7 = .ok (.lcmp, 1) := dk_148 (dk_at dksX12_isIntValue_0 7 rfl rfl)
theorem dX12_isIntValue_8 : decode cX12_isIntValue 8 = .ok (.ifCond .lt 18, 3) := dk_155 0 18 (dk_at dksX12_isIntValue_0 8 rfl rfl)
theorem dX12_isIntValue_11 : decode cX12_isIntValue 11 = .ok (.aload_n 0, 1) := dk_42 (dk_at dksX12_isIntValue_0 11 rfl rfl)
theorem dX12_isIntValue_12 : decode cX12_isIntValue 12 = .ok (.invokevirtual 48, 3) := dk_182 0 48 (dk_at dksX12_isIntValue_0 12 rfl rfl)
theorem dX12_isIntValue_15 : decode cX12_isIntValue 15 = .ok (.ldc2_w 51, 3) := dk_20 0 51 (dk_at dksX12_isIntValue_0 15 rfl rfl)
theorem dX12_isIntValue_18 : decode cX12_isIntValue 18 = .ok (.lcmp, 1) := dk_148 (dk_at dksX12_isIntValue_0 18 rfl rfl)
theorem dX12_isIntValue_19 : decode cX12_isIntValue 19 = .ok (.ifCond .gt 7, 3) := dk_157 0 7 (dk_at dksX12_isIntValue_0 19 rfl rfl)
theorem dX12_isIntValue_22 : decode cX12_isIntValue 22 = .ok (.iconst 1, 1) := dk_4 (dk_at dksX12_isIntValue_0 22 rfl rfl)
theorem dX12_isIntValue_23 : decode cX12_isIntValue 23 = .ok (.goto 4, 3) := dk_167 0 4 (dk_at dksX12_isIntValue_1 0 rfl rfl)
theorem dX12_isIntValue_26 : decode cX12_isIntValue 26 = .ok (.iconst 0, 1) := dk_3 (dk_at dksX12_isIntValue_1 3 rfl rfl)
theorem dX12_isIntValue_27 : decode cX12_isIntValue 27 = .ok (.ireturn, 1) := dk_172 (dk_at dksX12_isIntValue_1 4 rfl rfl)
theorem q44 : (Jvm.Cond.instanceMethod ({ cls := "ValueRange", name := "checkValidValue", desc := "(JLTemporalField;)J" } : Jvm.MethodName)) ∈ lw_all := lw_g (lw_at lw_m1 42 rfl) rfl
theorem q45 : (Jvm.Cond.selects "ValueRange" ({ cls := "ValueRange", name := "checkValidValue", desc := "(JLTemporalField;)J" } : Jvm.MethodName) ({ cls := "ValueRange", name := "checkValidValue", desc := "(JLTemporalField;)J" } : Jvm.MethodName)) ∈ lw_all := lw_g (lw_at lw_m1 43 rfl) rfl
theorem q46 : (Jvm.Cond.code ({ cls := "ValueRange", name := "checkValidValue", desc := "(JLTemporalField;)J" } : Jvm.MethodName) prog_18_method_10_code (4 : Nat) (Option.some Jvm.ClassFile.FieldType.long)) ∈ lw_all := lw_g (lw_at lw_m1 44 rfl) rfl
theorem q47 : (Jvm.Cond.methodLink "ValueRange" (57 : Nat) ({ cls := "ValueRange", name := "isValidValue", desc := "(J)Z" } : Jvm.MethodName)) ∈ lw_all := lw_g (lw_at lw_m1 45 rfl) rfl
theorem q48 : (Jvm.Cond.instanceMethod ({ cls := "ValueRange", name := "isValidValue", desc := "(J)Z" } : Jvm.MethodName)) ∈ lw_all := lw_g (lw_at lw_m1 46 rfl) rfl
theorem q49 : (Jvm.Cond.selects "ValueRange" ({ cls := "ValueRange", name := "isValidValue", desc := "(J)Z" } : Jvm.MethodName) ({ cls := "ValueRange", name := "isValidValue", desc := "(J)Z" } : Jvm.MethodName)) ∈ lw_all := lw_g (lw_at lw_m1 47 rfl) rfl
theorem q50 : (Jvm.Cond.code ({ cls := "ValueRange", name := "isValidValue", desc := "(J)Z" } : Jvm.MethodName) prog_18_method_8_code (3 : Nat) (Option.some Jvm.ClassFile.FieldType.boolean)) ∈ lw_all := lw_g (lw_at lw_m1 48 rfl) rfl
theorem q51 : (Jvm.Cond.methodLink "ValueRange" (40 : Nat) ({ cls := "ValueRange", name := "getMinimum", desc := "()J" } : Jvm.MethodName)) ∈ lw_all := lw_g (lw_at lw_m1 49 rfl) rfl
theorem q52 : (Jvm.Cond.instanceMethod ({ cls := "ValueRange", name := "getMinimum", desc := "()J" } : Jvm.MethodName)) ∈ lw_all := lw_g (lw_at lw_m1 50 rfl) rfl
theorem q53 : (Jvm.Cond.selects "ValueRange" ({ cls := "ValueRange", name := "getMinimum", desc := "()J" } : Jvm.MethodName) ({ cls := "ValueRange", name := "getMinimum", desc := "()J" } : Jvm.MethodName)) ∈ lw_all := lw_g (lw_at lw_m1 51 rfl) rfl
theorem q54 : (Jvm.Cond.code ({ cls := "ValueRange", name := "getMinimum", desc := "()J" } : Jvm.MethodName) prog_18_method_5_code (1 : Nat) (Option.some Jvm.ClassFile.FieldType.long)) ∈ lw_all := lw_g (lw_at lw_m1 52 rfl) rfl
theorem q55 : (Jvm.Cond.methodLink "ValueRange" (48 : Nat) ({ cls := "ValueRange", name := "getMaximum", desc := "()J" } : Jvm.MethodName)) ∈ lw_all := lw_g (lw_at lw_m1 53 rfl) rfl
theorem q56 : (Jvm.Cond.instanceMethod ({ cls := "ValueRange", name := "getMaximum", desc := "()J" } : Jvm.MethodName)) ∈ lw_all := lw_g (lw_at lw_m1 54 rfl) rfl
theorem q57 : (Jvm.Cond.selects "ValueRange" ({ cls := "ValueRange", name := "getMaximum", desc := "()J" } : Jvm.MethodName) ({ cls := "ValueRange", name := "getMaximum", desc := "()J" } : Jvm.MethodName)) ∈ lw_all := lw_g (lw_at lw_m1 55 rfl) rfl
theorem q58 : (Jvm.Cond.code ({ cls := "ValueRange", name := "getMaximum", desc := "()J" } : Jvm.MethodName) prog_18_method_6_code (1 : Nat) (Option.some Jvm.ClassFile.FieldType.long)) ∈ lw_all := lw_g (lw_at lw_m1 56 rfl) rfl
theorem q59 : (Jvm.Cond.classLink "ValueRange" (61 : Nat) "DateTimeException") ∈ lw_all := lw_g (lw_at lw_m1 57 rfl) rfl
theorem q99 : (Jvm.Cond.stringRef "ValueRange" (63 : Nat) "left out") ∈ lw_tbl := lw_at lw_m1 97 rfl
theorem q100 : (Jvm.Cond.methodLink "ValueRange" (65 : Nat) ({ cls := "DateTimeException", name := "<init>", desc := "(Ljava/lang/String;)V" } : Jvm.MethodName)) ∈ lw_all := lw_g (lw_at lw_m1 98 rfl) rfl
theorem q171 : (Jvm.Cond.instanceMethod ({ cls := "ValueRange", name := "checkValidIntValue", desc := "(JLTemporalField;)I" } : Jvm.MethodName)) ∈ lw_all := lw_g (lw_at lw_m1 169 rfl) rfl
theorem q172 : (Jvm.Cond.selects "ValueRange" ({ cls := "ValueRange", name := "checkValidIntValue", desc := "(JLTemporalField;)I" } : Jvm.MethodName) ({ cls := "ValueRange", name := "checkValidIntValue", desc := "(JLTemporalField;)I" } : Jvm.MethodName)) ∈ lw_all := lw_g (lw_at lw_m1 170 rfl) rfl
theorem q173 : (Jvm.Cond.code ({ cls := "ValueRange", name := "checkValidIntValue", desc := "(JLTemporalField;)I" } : Jvm.MethodName) prog_18_method_11_code (4 : Nat) (Option.some Jvm.ClassFile.FieldType.int)) ∈ lw_all := lw_g (lw_at lw_m1 171 rfl) rfl
theorem q174 : (Jvm.Cond.methodLink "ValueRange" (66 : Nat) ({ cls := "ValueRange", name := "isValidIntValue", desc := "(J)Z" } : Jvm.MethodName)) ∈ lw_all := lw_g (lw_at lw_m1 172 rfl) rfl
theorem q175 : (Jvm.Cond.instanceMethod ({ cls := "ValueRange", name := "isValidIntValue", desc := "(J)Z" } : Jvm.MethodName)) ∈ lw_all := lw_g (lw_at lw_m1 173 rfl) rfl
theorem q176 : (Jvm.Cond.selects "ValueRange" ({ cls := "ValueRange", name := "isValidIntValue", desc := "(J)Z" } : Jvm.MethodName) ({ cls := "ValueRange", name := "isValidIntValue", desc := "(J)Z" } : Jvm.MethodName)) ∈ lw_all := lw_g (lw_at lw_m1 174 rfl) rfl
theorem q177 : (Jvm.Cond.code ({ cls := "ValueRange", name := "isValidIntValue", desc := "(J)Z" } : Jvm.MethodName) prog_18_method_9_code (3 : Nat) (Option.some Jvm.ClassFile.FieldType.boolean)) ∈ lw_all := lw_g (lw_at lw_m1 175 rfl) rfl
theorem q178 : (Jvm.Cond.methodLink "ValueRange" (53 : Nat) ({ cls := "ValueRange", name := "isIntValue", desc := "()Z" } : Jvm.MethodName)) ∈ lw_all := lw_g (lw_at lw_m1 176 rfl) rfl
theorem q179 : (Jvm.Cond.instanceMethod ({ cls := "ValueRange", name := "isIntValue", desc := "()Z" } : Jvm.MethodName)) ∈ lw_all := lw_g (lw_at lw_m1 177 rfl) rfl
theorem q180 : (Jvm.Cond.selects "ValueRange" ({ cls := "ValueRange", name := "isIntValue", desc := "()Z" } : Jvm.MethodName) ({ cls := "ValueRange", name := "isIntValue", desc := "()Z" } : Jvm.MethodName)) ∈ lw_all := lw_g (lw_at lw_m1 178 rfl) rfl
theorem q181 : (Jvm.Cond.code ({ cls := "ValueRange", name := "isIntValue", desc := "()Z" } : Jvm.MethodName) prog_18_method_7_code (1 : Nat) (Option.some Jvm.ClassFile.FieldType.boolean)) ∈ lw_all := lw_g (lw_at lw_m1 179 rfl) rfl
theorem q182 : (Jvm.Cond.constantLong "ValueRange" (46 : Nat) (-2147483648 : Int64)) ∈ lw_all := lw_g (lw_at lw_m1 180 rfl) rfl
theorem q183 : (Jvm.Cond.constantLong "ValueRange" (51 : Nat) (2147483647 : Int64)) ∈ lw_all := lw_g (lw_at lw_m1 181 rfl) rfl
theorem q502 : (Jvm.Cond.fieldLink "ValueRange" (27 : Nat) "ValueRange" "minSmallest" "J") ∈ lw_all := lw_g (lw_at lw_m3 20 rfl) rfl
theorem q503 : (Jvm.Cond.fieldLink "ValueRange" (37 : Nat) "ValueRange" "maxLargest" "J") ∈ lw_all := lw_g (lw_at lw_m3 21 rfl) rfl
/-! ChronoField -/
set_option maxRecDepth 100000
def RX3 : String := "ChronoField"
abbrev cX3_checkValidValue : ByteArray := prog_1_method_5_code
def yX3_checkValidValue : MethodName := ⟨RX3, "checkValidValue", "(J)J"⟩
def dkwX3_checkValidValue_0 : List UInt8 := [42, 182, 0, 128, 31, 42, 182, 0, 131, 173]
abbrev dktX3_checkValidValue_0 : List UInt8 := dkwX3_checkValidValue_0 ++ []
theorem dksX3_checkValidValue_0 : cX3_checkValidValue.data.toList.drop 0 = dktX3_checkValidValue_0 := by decide +kernel
theorem dX3_checkValidValue_0 : decode cX3_checkValidValue 0 = .ok (.aload_n 0, 1) := dk_42 (dk_at dksX3_checkValidValue_0 0 rfl rfl)
theorem dX3_checkValidValue_1 : decode cX3_checkValidValue 1 = .ok (.invokevirtual 128, 3) := dk_182 0 128 (dk_at dksX3_checkValidValue_0 1 rfl rfl)
theorem dX3_checkValidValue_4 : decode cX3_checkValidValue 4 = .ok (.lload_n 1, 1) := dk_31 (dk_at dksX3_checkValidValue_0 4 rfl rfl)
theorem dX3_checkValidValue_5 : decode cX3_checkValidValue 5 = .ok (.aload_n 0, 1) := dk_42 (dk_at dksX3_checkValidValue_0 5 rfl rfl)
theorem dX3_checkValidValue_6 : decode cX3_checkValidValue 6 = .ok (.invokevirtual 131, 3) := dk_182 0 131 (dk_at dksX3_checkValidValue_0 6 rfl rfl)
theorem dX3_checkValidValue_9 : decode cX3_checkValidValue 9 = .ok (.lreturn, 1) := dk_173 (dk_at dksX3_checkValidValue_0 9 rfl rfl)
abbrev cX3_range : ByteArray := prog_1_method_4_code
def yX3_range : MethodName := ⟨RX3, "range", "()LValueRange;"⟩
theorem dX3_range_0 : decode cX3_range 0 = .ok (.aload_n 0, 1) := by decide +kernel
theorem dX3_range_1 : decode cX3_range 1 = .ok (.getfield 124, 3) := by decide +kernel
theorem dX3_range_4 : decode cX3_range 4 = .ok (.areturn, 1) := by decide +kernel
abbrev cX3_checkValidIntValue : ByteArray := prog_1_method_6_code
def yX3_checkValidIntValue : MethodName := ⟨RX3, "checkValidIntValue", "(J)I"⟩
def dkwX3_checkValidIntValue_0 : List UInt8 := [42, 182, 0, 128, 31, 42, 182, 0, 137, 172]
abbrev dktX3_checkValidIntValue_0 : List UInt8 := dkwX3_checkValidIntValue_0 ++ []
theorem dksX3_checkValidIntValue_0 : cX3_checkValidIntValue.data.toList.drop 0 = dktX3_checkValidIntValue_0 := by decide +kernel
theorem dX3_checkValidIntValue_0 : decode cX3_checkValidIntValue 0 = .ok (.aload_n 0, 1) := dk_42 (dk_at dksX3_checkValidIntValue_0 0 rfl rfl)
theorem dX3_checkValidIntValue_1 : decode cX3_checkValidIntValue 1 = .ok (.invokevirtual 128, 3) := dk_182 0 128 (dk_at dksX3_checkValidIntValue_0 1 rfl rfl)
theorem dX3_checkValidIntValue_4 : decode cX3_checkValidIntValue 4 = .ok (.lload_n 1, 1) := dk_31 (dk_at dksX3_checkValidIntValue_0 4 rfl rfl)
theorem dX3_checkValidIntValue_5 : decode cX3_checkValidIntValue 5 = .ok (.aload_n 0, 1) := dk_42 (dk_at dksX3_checkValidIntValue_0 5 rfl rfl)
theorem dX3_checkValidIntValue_6 : decode cX3_checkValidIntValue 6 = .ok (.invokevirtual 137, 3) := dk_182 0 137 (dk_at dksX3_checkValidIntValue_0 6 rfl rfl)
theorem dX3_checkValidIntValue_9 : decode cX3_checkValidIntValue 9 = .ok (.ireturn, 1) := dk_172 (dk_at dksX3_checkValidIntValue_0 9 rfl rfl)
theorem q7 : (Jvm.Cond.initialized "ChronoField") ∈ lw_all := lw_g (lw_at lw_m1 5 rfl) rfl
theorem q34 : (Jvm.Cond.laysStatic "ChronoField" "YEAR" "LChronoField;") ∈ lw_tbl := lw_at lw_m1 32 rfl
theorem q36 : (Jvm.Cond.instanceMethod ({ cls := "ChronoField", name := "checkValidValue", desc := "(J)J" } : Jvm.MethodName)) ∈ lw_all := lw_g (lw_at lw_m1 34 rfl) rfl
theorem q37 : (Jvm.Cond.selects "ChronoField" ({ cls := "ChronoField", name := "checkValidValue", desc := "(J)J" } : Jvm.MethodName) ({ cls := "ChronoField", name := "checkValidValue", desc := "(J)J" } : Jvm.MethodName)) ∈ lw_all := lw_g (lw_at lw_m1 35 rfl) rfl
theorem q38 : (Jvm.Cond.code ({ cls := "ChronoField", name := "checkValidValue", desc := "(J)J" } : Jvm.MethodName) prog_1_method_5_code (3 : Nat) (Option.some Jvm.ClassFile.FieldType.long)) ∈ lw_all := lw_g (lw_at lw_m1 36 rfl) rfl
theorem q39 : (Jvm.Cond.methodLink "ChronoField" (128 : Nat) ({ cls := "ChronoField", name := "range", desc := "()LValueRange;" } : Jvm.MethodName)) ∈ lw_all := lw_g (lw_at lw_m1 37 rfl) rfl
theorem q40 : (Jvm.Cond.instanceMethod ({ cls := "ChronoField", name := "range", desc := "()LValueRange;" } : Jvm.MethodName)) ∈ lw_all := lw_g (lw_at lw_m1 38 rfl) rfl
theorem q41 : (Jvm.Cond.selects "ChronoField" ({ cls := "ChronoField", name := "range", desc := "()LValueRange;" } : Jvm.MethodName) ({ cls := "ChronoField", name := "range", desc := "()LValueRange;" } : Jvm.MethodName)) ∈ lw_all := lw_g (lw_at lw_m1 39 rfl) rfl
theorem q42 : (Jvm.Cond.code ({ cls := "ChronoField", name := "range", desc := "()LValueRange;" } : Jvm.MethodName) prog_1_method_4_code (1 : Nat) (Option.some (Jvm.ClassFile.FieldType.object "ValueRange"))) ∈ lw_all := lw_g (lw_at lw_m1 40 rfl) rfl
theorem q43 : (Jvm.Cond.methodLink "ChronoField" (131 : Nat) ({ cls := "ValueRange", name := "checkValidValue", desc := "(JLTemporalField;)J" } : Jvm.MethodName)) ∈ lw_all := lw_g (lw_at lw_m1 41 rfl) rfl
theorem q127 : (Jvm.Cond.laysStatic "ChronoField" "MONTH_OF_YEAR" "LChronoField;") ∈ lw_tbl := lw_at lw_m1 125 rfl
theorem q167 : (Jvm.Cond.instanceMethod ({ cls := "ChronoField", name := "checkValidIntValue", desc := "(J)I" } : Jvm.MethodName)) ∈ lw_all := lw_g (lw_at lw_m1 165 rfl) rfl
theorem q168 : (Jvm.Cond.selects "ChronoField" ({ cls := "ChronoField", name := "checkValidIntValue", desc := "(J)I" } : Jvm.MethodName) ({ cls := "ChronoField", name := "checkValidIntValue", desc := "(J)I" } : Jvm.MethodName)) ∈ lw_all := lw_g (lw_at lw_m1 166 rfl) rfl
theorem q169 : (Jvm.Cond.code ({ cls := "ChronoField", name := "checkValidIntValue", desc := "(J)I" } : Jvm.MethodName) prog_1_method_6_code (3 : Nat) (Option.some Jvm.ClassFile.FieldType.int)) ∈ lw_all := lw_g (lw_at lw_m1 167 rfl) rfl
theorem q170 : (Jvm.Cond.methodLink "ChronoField" (137 : Nat) ({ cls := "ValueRange", name := "checkValidIntValue", desc := "(JLTemporalField;)I" } : Jvm.MethodName)) ∈ lw_all := lw_g (lw_at lw_m1 168 rfl) rfl
theorem q304 : (Jvm.Cond.laysStatic "ChronoField" "DAY_OF_MONTH" "LChronoField;") ∈ lw_tbl := lw_at lw_m2 62 rfl
theorem q501 : (Jvm.Cond.fieldLink "ChronoField" (124 : Nat) "ChronoField" "range" "LValueRange;") ∈ lw_all := lw_g (lw_at lw_m3 19 rfl) rfl
/-! Month -/
set_option maxRecDepth 100000
def RX7 : String := "Month"
abbrev cX7_of : ByteArray := prog_12_method_4_code
def yX7_of : MethodName := ⟨RX7, "of", "(I)LMonth;"⟩
def dkwX7_of_1 : List UInt8 := [26, 4, 100, 50, 176]
abbrev dktX7_of_1 : List UInt8 := dkwX7_of_1 ++ []
def dkwX7_of_0 : List UInt8 := [26, 4, 161, 0, 9, 26, 16, 12, 164, 0, 13, 187, 0, 59, 89, 18, 61, 183, 0, 63, 191, 178, 0, 66]
abbrev dktX7_of_0 : List UInt8 := dkwX7_of_0 ++ dktX7_of_1
theorem dksX7_of_0 : cX7_of.data.toList.drop 0 = dktX7_of_0 := by decide +kernel
theorem dksX7_of_1 : cX7_of.data.toList.drop 24 = dktX7_of_1 := dk_seg dksX7_of_0 24 rfl rfl
theorem dX7_of_0 : decode cX7_of 0 = .ok (.iload_n 0, 1) := dk_26 (dk_at dksX7_of_0 0 rfl rfl)
theorem dX7_of_1 : decode cX7_of 1 = .ok (.iconst 1, 1) := dk_4 (dk_at dksX7_of_0 1 rfl rfl)
theorem dX7_of_2 : decode cX7_of 2 = .ok (.if_icmp .lt 9, 3) := dk_161 0 9 (dk_at dksX7_of_0 2 rfl rfl)
theorem dX7_of_5 : decode cX7_of 5 = .ok (.iload_n 0, 1) := dk_26 (dk_at dksX7_of_0 5 rfl rfl)
theorem dX7_of_6 : decode cX7_of 6 = .ok (.bipush 12, 2) := dk_16 12 (dk_at dksX7_of_0 6 rfl rfl)
theorem dX7_of_8 : decode cX7_of 8 = .ok (.if_icmp .le 13, 3) := dk_164 0 13 (dk_at dksX7_of_0 8 rfl rfl)
theorem dX7_of_11 : decode cX7_of 11 = .ok (.new 59, 3) := dk_187 0 59 (dk_at dksX7_of_0 11 rfl rfl)
theorem dX7_of_14 : decode cX7_of 14 = .ok (.dup, 1) := dk_89 (dk_at dksX7_of_0 14 rfl rfl)
theorem dX7_of_15 : decode cX7_of 15 = .ok (.ldc 61, 2) := dk_18 61 (dk_at dksX7_of_0 15 rfl rfl)
theorem dX7_of_17 : decode cX7_of 17 = .ok (.invokespecial 63, 3) := dk_183 0 63 (dk_at dksX7_of_0 17 rfl rfl)
theorem dX7_of_20 : decode cX7_of 20 = .ok (.athrow, 1) := dk_191 (dk_at dksX7_of_0 20 rfl rfl)
theorem dX7_of_21 : decode cX7_of 21 = .ok (.getstatic 66, 3) := dk_178 0 66 (dk_at dksX7_of_0 21 rfl rfl)
theorem dX7_of_24 : decode cX7_of 24 = .ok (.iload_n 0, 1) := dk_26 (dk_at dksX7_of_1 0 rfl rfl)
theorem dX7_of_25 : decode cX7_of 25 = .ok (.iconst 1, 1) := dk_4 (dk_at dksX7_of_1 1 rfl rfl)
theorem dX7_of_26 : decode cX7_of 26 = .ok (.isub, 1) := dk_100 (dk_at dksX7_of_1 2 rfl rfl)
theorem dX7_of_27 : decode cX7_of 27 = .ok (.aaload, 1) := dk_50 (dk_at dksX7_of_1 3 rfl rfl)
theorem dX7_of_28 : decode cX7_of 28 = .ok (.areturn, 1) := dk_176 (dk_at dksX7_of_1 4 rfl rfl)
abbrev cX7_length : ByteArray := prog_12_method_6_code
def yX7_length : MethodName := ⟨RX7, "length", "(Z)I"⟩
def dkwX7_length_2 : List UInt8 := [27, 153, 0, 8, 16, 29, 167, 0, 5, 16, 28, 172, 16, 30, 172, 16, 31, 172]
abbrev dktX7_length_2 : List UInt8 := dkwX7_length_2 ++ []
def dkwX7_length_1 : List UInt8 := [170, 0, 0, 0, 0, 0, 0, 71, 0, 0, 0, 1, 0, 0, 0, 10, 0, 0, 0, 56, 0, 0, 0, 71, 0, 0, 0, 68, 0, 0, 0, 71, 0, 0, 0, 68, 0, 0, 0, 71, 0, 0, 0, 71, 0, 0, 0, 68, 0, 0, 0, 71, 0, 0, 0, 68]
abbrev dktX7_length_1 : List UInt8 := dkwX7_length_1 ++ dktX7_length_2
def dkwX7_length_0 : List UInt8 := [42, 182, 0, 69]
abbrev dktX7_length_0 : List UInt8 := dkwX7_length_0 ++ dktX7_length_1
theorem dksX7_length_0 : cX7_length.data.toList.drop 0 = dktX7_length_0 := by decide +kernel
theorem dksX7_length_1 : cX7_length.data.toList.drop 4 = dktX7_length_1 := dk_seg dksX7_length_0 4 rfl rfl
theorem dksX7_length_2 : cX7_length.data.toList.drop 60 = dktX7_length_2 := dk_seg dksX7_length_1 56 rfl rfl
theorem dX7_length_0 : decode cX7_length 0 = .ok (.aload_n 0, 1) := dk_42 (dk_at dksX7_length_0 0 rfl rfl)
theorem dX7_length_1 : decode cX7_length 1 = .ok (.invokevirtual 69, 3) := dk_182 0 69 (dk_at dksX7_length_0 1 rfl rfl)
theorem dX7_length_4 : decode cX7_length 4 = .ok (.tableswitch 71 1 10 #[56, 71, 68, 71, 68, 71, 71, 68, 71, 68], 56) := by decide +kernel
theorem dX7_length_60 : decode cX7_length 60 = .ok (.iload_n 1, 1) := dk_27 (dk_at dksX7_length_2 0 rfl rfl)
theorem dX7_length_61 : decode cX7_length 61 = .ok (.ifCond .eq 8, 3) := dk_153 0 8 (dk_at dksX7_length_2 1 rfl rfl)
theorem dX7_length_64 : decode cX7_length 64 = .ok (.bipush 29, 2) := dk_16 29 (dk_at dksX7_length_2 4 rfl rfl)
theorem dX7_length_66 : decode cX7_length 66 = .ok (.goto 5, 3) := dk_167 0 5 (dk_at dksX7_length_2 6 rfl rfl)
theorem dX7_length_69 : decode cX7_length 69 = .ok (.bipush 28, 2) := dk_16 28 (dk_at dksX7_length_2 9 rfl rfl)
theorem dX7_length_71 : decode cX7_length 71 = .ok (.ireturn, 1) := dk_172 (dk_at dksX7_length_2 11 rfl rfl)
theorem dX7_length_72 : decode cX7_length 72 = .ok (.bipush 30, 2) := dk_16 30 (dk_at dksX7_length_2 12 rfl rfl)
theorem dX7_length_74 : decode cX7_length 74 = .ok (.ireturn, 1) := dk_172 (dk_at dksX7_length_2 14 rfl rfl)
theorem dX7_length_75 : decode cX7_length 75 = .ok (.bipush 31, 2) := dk_16 31 (dk_at dksX7_length_2 15 rfl rfl)
theorem dX7_length_77 : decode cX7_length 77 = .ok (.ireturn, 1) := dk_172 (dk_at dksX7_length_2 17 rfl rfl)
abbrev cX7_getValue : ByteArray := prog_12_method_5_code
def yX7_getValue : MethodName := ⟨RX7, "getValue", "()I"⟩
def dkwX7_getValue_0 : List UInt8 := [42, 182, 0, 69, 4, 96, 172]
abbrev dktX7_getValue_0 : List UInt8 := dkwX7_getValue_0 ++ []
theorem dksX7_getValue_0 : cX7_getValue.data.toList.drop 0 = dktX7_getValue_0 := by decide +kernel
theorem dX7_getValue_0 : decode cX7_getValue 0 = .ok (.aload_n 0, 1) := dk_42 (dk_at dksX7_getValue_0 0 rfl rfl)
theorem dX7_getValue_1 : decode cX7_getValue 1 = .ok (.invokevirtual 69, 3) := dk_182 0 69 (dk_at dksX7_getValue_0 1 rfl rfl)
theorem dX7_getValue_4 : decode cX7_getValue 4 = .ok (.iconst 1, 1) := dk_4 (dk_at dksX7_getValue_0 4 rfl rfl)
theorem dX7_getValue_5 : decode cX7_getValue 5 = .ok (.iadd, 1) := dk_96 (dk_at dksX7_getValue_0 5 rfl rfl)
theorem dX7_getValue_6 : decode cX7_getValue 6 = .ok (.ireturn, 1) := dk_172 (dk_at dksX7_getValue_0 6 rfl rfl)
theorem q14 : (Jvm.Cond.initialized "Month") ∈ lw_all := lw_g (lw_at lw_m1 12 rfl) rfl
theorem q246 : (Jvm.Cond.static ({ cls := "Month", name := "of", desc := "(I)LMonth;" } : Jvm.MethodName)) ∈ lw_all := lw_g (lw_at lw_m2 4 rfl) rfl
theorem q247 : (Jvm.Cond.code ({ cls := "Month", name := "of", desc := "(I)LMonth;" } : Jvm.MethodName) prog_12_method_4_code (1 : Nat) (Option.some (Jvm.ClassFile.FieldType.object "Month"))) ∈ lw_all := lw_g (lw_at lw_m2 5 rfl) rfl
theorem q248 : (Jvm.Cond.classLink "Month" (59 : Nat) "DateTimeException") ∈ lw_all := lw_g (lw_at lw_m2 6 rfl) rfl
theorem q249 : (Jvm.Cond.stringRef "Month" (61 : Nat) "left out") ∈ lw_tbl := lw_at lw_m2 7 rfl
theorem q250 : (Jvm.Cond.methodLink "Month" (63 : Nat) ({ cls := "DateTimeException", name := "<init>", desc := "(Ljava/lang/String;)V" } : Jvm.MethodName)) ∈ lw_all := lw_g (lw_at lw_m2 8 rfl) rfl
theorem q251 : (Jvm.Cond.fieldLink "Month" (66 : Nat) "Month" "ENUMS" "[LMonth;") ∈ lw_all := lw_g (lw_at lw_m2 9 rfl) rfl
theorem q252 : (Jvm.Cond.laysStatic "Month" "ENUMS" "[LMonth;") ∈ lw_tbl := lw_at lw_m2 10 rfl
theorem q267 : (Jvm.Cond.instanceMethod ({ cls := "Month", name := "length", desc := "(Z)I" } : Jvm.MethodName)) ∈ lw_all := lw_g (lw_at lw_m2 25 rfl) rfl
theorem q268 : (Jvm.Cond.selects "Month" ({ cls := "Month", name := "length", desc := "(Z)I" } : Jvm.MethodName) ({ cls := "Month", name := "length", desc := "(Z)I" } : Jvm.MethodName)) ∈ lw_all := lw_g (lw_at lw_m2 26 rfl) rfl
theorem q269 : (Jvm.Cond.code ({ cls := "Month", name := "length", desc := "(Z)I" } : Jvm.MethodName) prog_12_method_6_code (2 : Nat) (Option.some Jvm.ClassFile.FieldType.int)) ∈ lw_all := lw_g (lw_at lw_m2 27 rfl) rfl
theorem q270 : (Jvm.Cond.methodLink "Month" (69 : Nat) ({ cls := "Month", name := "ordinal", desc := "()I" } : Jvm.MethodName)) ∈ lw_all := lw_g (lw_at lw_m2 28 rfl) rfl
theorem q271 : (Jvm.Cond.sameMethod "Month" "java/lang/Enum" "ordinal" "()I") ∈ lw_all := lw_g (lw_at lw_m2 29 rfl) rfl
theorem q273 : (Jvm.Cond.selects "Month" ({ cls := "Month", name := "ordinal", desc := "()I" } : Jvm.MethodName) ({ cls := "java/lang/Enum", name := "ordinal", desc := "()I" } : Jvm.MethodName)) ∈ lw_all := lw_g (lw_at lw_m2 31 rfl) rfl
theorem q318 : (Jvm.Cond.instanceMethod ({ cls := "Month", name := "getValue", desc := "()I" } : Jvm.MethodName)) ∈ lw_all := lw_g (lw_at lw_m2 76 rfl) rfl
theorem q319 : (Jvm.Cond.selects "Month" ({ cls := "Month", name := "getValue", desc := "()I" } : Jvm.MethodName) ({ cls := "Month", name := "getValue", desc := "()I" } : Jvm.MethodName)) ∈ lw_all := lw_g (lw_at lw_m2 77 rfl) rfl
theorem q320 : (Jvm.Cond.code ({ cls := "Month", name := "getValue", desc := "()I" } : Jvm.MethodName) prog_12_method_5_code (1 : Nat) (Option.some Jvm.ClassFile.FieldType.int)) ∈ lw_all := lw_g (lw_at lw_m2 78 rfl) rfl
theorem q505 : (Jvm.Cond.laysStatic "Month" "JANUARY" "LMonth;") ∈ lw_tbl := lw_at lw_m3 23 rfl
theorem q506 : (Jvm.Cond.laysStatic "Month" "FEBRUARY" "LMonth;") ∈ lw_tbl := lw_at lw_m3 24 rfl
theorem q507 : (Jvm.Cond.laysStatic "Month" "MARCH" "LMonth;") ∈ lw_tbl := lw_at lw_m3 25 rfl
theorem q508 : (Jvm.Cond.laysStatic "Month" "APRIL" "LMonth;") ∈ lw_tbl := lw_at lw_m3 26 rfl
theorem q509 : (Jvm.Cond.laysStatic "Month" "MAY" "LMonth;") ∈ lw_tbl := lw_at lw_m3 27 rfl
theorem q510 : (Jvm.Cond.laysStatic "Month" "JUNE" "LMonth;") ∈ lw_tbl := lw_at lw_m3 28 rfl
theorem q511 : (Jvm.Cond.laysStatic "Month" "JULY" "LMonth;") ∈ lw_tbl := lw_at lw_m3 29 rfl
theorem q512 : (Jvm.Cond.laysStatic "Month" "AUGUST" "LMonth;") ∈ lw_tbl := lw_at lw_m3 30 rfl
theorem q513 : (Jvm.Cond.laysStatic "Month" "SEPTEMBER" "LMonth;") ∈ lw_tbl := lw_at lw_m3 31 rfl
theorem q514 : (Jvm.Cond.laysStatic "Month" "OCTOBER" "LMonth;") ∈ lw_tbl := lw_at lw_m3 32 rfl
theorem q515 : (Jvm.Cond.laysStatic "Month" "NOVEMBER" "LMonth;") ∈ lw_tbl := lw_at lw_m3 33 rfl
theorem q516 : (Jvm.Cond.laysStatic "Month" "DECEMBER" "LMonth;") ∈ lw_tbl := lw_at lw_m3 34 rfl
/-! IsoChronology -/
set_option maxRecDepth 100000
def RX8 : String := "IsoChronology"
abbrev cX8_isLeapYear : ByteArray := prog_9_method_2_code
def yX8_isLeapYear : MethodName := ⟨RX8, "isLeapYear", "(J)Z"⟩
def dkwX8_isLeapYear_1 : List UInt8 := [113, 9, 148, 154, 0, 7, 4, 167, 0, 4, 3, 172]
abbrev dktX8_isLeapYear_1 : List UInt8 := dkwX8_isLeapYear_1 ++ []
def dkwX8_isLeapYear_0 : List UInt8 := [31, 20, 0, 7, 127, 9, 148, 154, 0, 27, 31, 20, 0, 9, 113, 9, 148, 154, 0, 13, 31, 20, 0, 11]
abbrev dktX8_isLeapYear_0 : List UInt8 := dkwX8_isLeapYear_0 ++ dktX8_isLeapYear_1
theorem dksX8_isLeapYear_0 : cX8_isLeapYear.data.toList.drop 0 = dktX8_isLeapYear_0 := by decide +kernel
theorem dksX8_isLeapYear_1 : cX8_isLeapYear.data.toList.drop 24 = dktX8_isLeapYear_1 := dk_seg dksX8_isLeapYear_0 24 rfl rfl
theorem dX8_isLeapYear_0 : decode cX8_isLeapYear 0 = .ok (.lload_n 1, 1) := dk_31 (dk_at dksX8_isLeapYear_0 0 rfl rfl)
theorem dX8_isLeapYear_1 : decode cX8_isLeapYear 1 = .ok (.ldc2_w 7, 3) := dk_20 0 7 (dk_at dksX8_isLeapYear_0 1 rfl rfl)
theorem dX8_isLeapYear_4 : decode cX8_isLeapYear 4 = .ok (.land, 1) := dk_127 (dk_at dksX8_isLeapYear_0 4 rfl rfl)
theorem dX8_isLeapYear_5 : decode cX8_isLeapYear 5 = .ok (.lconst 0, 1) := dk_9 (dk_at dksX8_isLeapYear_0 5 rfl rfl)
theorem dX8_isLeapYear_6 : decode cX8_isLeapYear 6 = .ok (.lcmp, 1) := dk_148 (dk_at dksX8_isLeapYear_0 6 rfl rfl)
theorem dX8_isLeapYear_7 : decode cX8_isLeapYear 7 = .ok (.ifCond .ne 27, 3) := dk_154 0 27 (dk_at dksX8_isLeapYear_0 7 rfl rfl)
theorem dX8_isLeapYear_10 : decode cX8_isLeapYear 10 = .ok (.lload_n 1, 1) := dk_31 (dk_at dksX8_isLeapYear_0 10 rfl rfl)
theorem dX8_isLeapYear_11 : decode cX8_isLeapYear 11 = .ok (.ldc2_w 9, 3) := dk_20 0 9 (dk_at dksX8_isLeapYear_0 11 rfl rfl)
theorem dX8_isLeapYear_14 : decode cX8_isLeapYear 14 = .ok (.lrem, 1) := dk_113 (dk_at dksX8_isLeapYear_0 14 rfl rfl)
theorem dX8_isLeapYear_15 : decode cX8_isLeapYear 15 = .ok (.lconst 0, 1) := dk_9 (dk_at dksX8_isLeapYear_0 15 rfl rfl)
theorem dX8_isLeapYear_16 : decode cX8_isLeapYear 16 = .ok (.lcmp, 1) := dk_148 (dk_at dksX8_isLeapYear_0 16 rfl rfl)
theorem dX8_isLeapYear_17 : decode cX8_isLeapYear 17 = .ok (.ifCond .ne 13, 3) := dk_154 0 13 (dk_at dksX8_isLeapYear_0 17 rfl rfl)
theorem dX8_isLeapYear_20 : decode cX8_isLeapYear 20 = .ok (.lload_n 1, 1) := dk_31 (dk_at dksX8_isLeapYear_0 20 rfl rfl)
theorem dX8_isLeapYear_21 : decode cX8_isLeapYear 21 = .ok (.ldc2_w 11, 3) := dk_20 0 11 (dk_at dksX8_isLeapYear_0 21 rfl rfl)
theorem dX8_isLeapYear_24 : decode cX8_isLeapYear 24 = .ok (.lrem, 1) := dk_113 (dk_at dksX8_isLeapYear_1 0 rfl rfl)
theorem dX8_isLeapYear_25 : decode cX8_isLeapYear 25 = .ok (.lconst 0, 1) := dk_9 (dk_at dksX8_isLeapYear_1 1 rfl rfl)
theorem dX8_isLeapYear_26 : decode cX8_isLeapYear 26 = .ok (.lcmp, 1) := dk_148 (dk_at dksX8_isLeapYear_1 2 rfl rfl)
theorem dX8_isLeapYear_27 : decode cX8_isLeapYear 27 = .ok (.ifCond .ne 7, 3) := dk_154 0 7 (dk_at dksX8_isLeapYear_1 3 rfl rfl)
theorem dX8_isLeapYear_30 : decode cX8_isLeapYear 30 = .ok (.iconst 1, 1) := dk_4 (dk_at dksX8_isLeapYear_1 6 rfl rfl)
theorem dX8_isLeapYear_31 : decode cX8_isLeapYear 31 = .ok (.goto 4, 3) := dk_167 0 4 (dk_at dksX8_isLeapYear_1 7 rfl rfl)
theorem dX8_isLeapYear_34 : decode cX8_isLeapYear 34 = .ok (.iconst 0, 1) := dk_3 (dk_at dksX8_isLeapYear_1 10 rfl rfl)
theorem dX8_isLeapYear_35 : decode cX8_isLeapYear 35 = .ok (.ireturn, 1) := dk_172 (dk_at dksX8_isLeapYear_1 11 rfl rfl)
theorem q16 : (Jvm.Cond.initialized "IsoChronology") ∈ lw_all := lw_g (lw_at lw_m1 14 rfl) rfl
theorem q258 : (Jvm.Cond.laysStatic "IsoChronology" "INSTANCE" "LIsoChronology;") ∈ lw_tbl := lw_at lw_m2 16 rfl
theorem q260 : (Jvm.Cond.instanceMethod ({ cls := "IsoChronology", name := "isLeapYear", desc := "(J)Z" } : Jvm.MethodName)) ∈ lw_all := lw_g (lw_at lw_m2 18 rfl) rfl
theorem q261 : (Jvm.Cond.selects "IsoChronology" ({ cls := "IsoChronology", name := "isLeapYear", desc := "(J)Z" } : Jvm.MethodName) ({ cls := "IsoChronology", name := "isLeapYear", desc := "(J)Z" } : Jvm.MethodName)) ∈ lw_all := lw_g (lw_at lw_m2 19 rfl) rfl
theorem q262 : (Jvm.Cond.code ({ cls := "IsoChronology", name := "isLeapYear", desc := "(J)Z" } : Jvm.MethodName) prog_9_method_2_code (3 : Nat) (Option.some Jvm.ClassFile.FieldType.boolean)) ∈ lw_all := lw_g (lw_at lw_m2 20 rfl) rfl
theorem q263 : (Jvm.Cond.constantLong "IsoChronology" (7 : Nat) (3 : Int64)) ∈ lw_all := lw_g (lw_at lw_m2 21 rfl) rfl
theorem q264 : (Jvm.Cond.constantLong "IsoChronology" (9 : Nat) (100 : Int64)) ∈ lw_all := lw_g (lw_at lw_m2 22 rfl) rfl
theorem q265 : (Jvm.Cond.constantLong "IsoChronology" (11 : Nat) (400 : Int64)) ∈ lw_all := lw_g (lw_at lw_m2 23 rfl) rfl
/-! Jdk8Methods -/
set_option maxRecDepth 100000
def RX6 : String := "Jdk8Methods"
abbrev cX6_floorDiv : ByteArray := prog_10_method_2_code
def yX6_floorDiv : MethodName := ⟨RX6, "floorDiv", "(JJ)J"⟩
def dkwX6_floorDiv_0 : List UInt8 := [30, 9, 148, 155, 0, 9, 30, 32, 109, 167, 0, 10, 30, 10, 97, 32, 109, 10, 101, 173]
abbrev dktX6_floorDiv_0 : List UInt8 := dkwX6_floorDiv_0 ++ []
theorem dksX6_floorDiv_0 : cX6_floorDiv.data.toList.drop 0 = dktX6_floorDiv_0 := by decide +kernel
theorem dX6_floorDiv_0 : decode cX6_floorDiv 0 = .ok (.lload_n 0, 1) := dk_30 (dk_at dksX6_floorDiv_0 0 rfl rfl)
theorem dX6_floorDiv_1 : decode cX6_floorDiv 1 = .ok (.lconst 0, 1) := dk_9 (dk_at dksX6_floorDiv_0 1 rfl rfl)
theorem dX6_floorDiv_2 : decode cX6_floorDiv 2 = .ok (.lcmp, 1) := dk_148 (dk_at dksX6_floorDiv_0 2 rfl rfl)
theorem dX6_floorDiv_3 : decode cX6_floorDiv 3 = .ok (.ifCond .lt 9, 3) := dk_155 0 9 (dk_at dksX6_floorDiv_0 3 rfl rfl)
theorem dX6_floorDiv_6 : decode cX6_floorDiv 6 = .ok (.lload_n 0, 1) := dk_30 (dk_at dksX6_floorDiv_0 6 rfl rfl)
theorem dX6_floorDiv_7 : decode cX6_floorDiv 7 = .ok (.lload_n 2, 1) := dk_32 (dk_at dksX6_floorDiv_0 7 rfl rfl)
theorem dX6_floorDiv_8 : decode cX6_floorDiv 8 = .ok (.ldiv, 1) := dk_109 (dk_at dksX6_floorDiv_0 8 rfl rfl)
theorem dX6_floorDiv_9 : decode cX6_floorDiv 9 = .ok (.goto 10, 3) := dk_167 0 10 (dk_at dksX6_floorDiv_0 9 rfl rfl)
theorem dX6_floorDiv_12 : decode cX6_floorDiv 12 = .ok (.lload_n 0, 1) := dk_30 (dk_at dksX6_floorDiv_0 12 rfl rfl)
theorem dX6_floorDiv_13 : decode cX6_floorDiv 13 = .ok (.lconst 1, 1) := dk_10 (dk_at dksX6_floorDiv_0 13 rfl rfl)
theorem dX6_floorDiv_14 : decode cX6_floorDiv 14 = .ok (.ladd, 1) := dk_97 (dk_at dksX6_floorDiv_0 14 rfl rfl)
theorem dX6_floorDiv_15 : decode cX6_floorDiv 15 = .ok (.lload_n 2, 1) := dk_32 (dk_at dksX6_floorDiv_0 15 rfl rfl)
theorem dX6_floorDiv_16 : decode cX6_floorDiv 16 = .ok (.ldiv, 1) := dk_109 (dk_at dksX6_floorDiv_0 16 rfl rfl)
theorem dX6_floorDiv_17 : decode cX6_floorDiv 17 = .ok (.lconst 1, 1) := dk_10 (dk_at dksX6_floorDiv_0 17 rfl rfl)
theorem dX6_floorDiv_18 : decode cX6_floorDiv 18 = .ok (.lsub, 1) := dk_101 (dk_at dksX6_floorDiv_0 18 rfl rfl)
theorem dX6_floorDiv_19 : decode cX6_floorDiv 19 = .ok (.lreturn, 1) := dk_173 (dk_at dksX6_floorDiv_0 19 rfl rfl)
abbrev cX6_floorMod : ByteArray := prog_10_method_3_code
def yX6_floorMod : MethodName := ⟨RX6, "floorMod", "(JI)I"⟩
def dkwX6_floorMod_0 : List UInt8 := [30, 28, 133, 113, 28, 133, 97, 28, 133, 113, 136, 172]
abbrev dktX6_floorMod_0 : List UInt8 := dkwX6_floorMod_0 ++ []
theorem dksX6_floorMod_0 : cX6_floorMod.data.toList.drop 0 = dktX6_floorMod_0 := by decide +kernel
theorem dX6_floorMod_0 : decode cX6_floorMod 0 = .ok (.lload_n 0, 1) := dk_30 (dk_at dksX6_floorMod_0 0 rfl rfl)
theorem dX6_floorMod_1 : decode cX6_floorMod 1 = .ok (.iload_n 2, 1) := dk_28 (dk_at dksX6_floorMod_0 1 rfl rfl)
theorem dX6_floorMod_2 : decode cX6_floorMod 2 = .ok (.i2l, 1) := dk_133 (dk_at dksX6_floorMod_0 2 rfl rfl)
theorem dX6_floorMod_3 : decode cX6_floorMod 3 = .ok (.lrem, 1) := dk_113 (dk_at dksX6_floorMod_0 3 rfl rfl)
theorem dX6_floorMod_4 : decode cX6_floorMod 4 = .ok (.iload_n 2, 1) := dk_28 (dk_at dksX6_floorMod_0 4 rfl rfl)
theorem dX6_floorMod_5 : decode cX6_floorMod 5 = .ok (.i2l, 1) := dk_133 (dk_at dksX6_floorMod_0 5 rfl rfl)
theorem dX6_floorMod_6 : decode cX6_floorMod 6 = .ok (.ladd, 1) := dk_97 (dk_at dksX6_floorMod_0 6 rfl rfl)
theorem dX6_floorMod_7 : decode cX6_floorMod 7 = .ok (.iload_n 2, 1) := dk_28 (dk_at dksX6_floorMod_0 7 rfl rfl)
theorem dX6_floorMod_8 : decode cX6_floorMod 8 = .ok (.i2l, 1) := dk_133 (dk_at dksX6_floorMod_0 8 rfl rfl)
theorem dX6_floorMod_9 : decode cX6_floorMod 9 = .ok (.lrem, 1) := dk_113 (dk_at dksX6_floorMod_0 9 rfl rfl)
theorem dX6_floorMod_10 : decode cX6_floorMod 10 = .ok (.l2i, 1) := dk_136 (dk_at dksX6_floorMod_0 10 rfl rfl)
theorem dX6_floorMod_11 : decode cX6_floorMod 11 = .ok (.ireturn, 1) := dk_172 (dk_at dksX6_floorMod_0 11 rfl rfl)
theorem q13 : (Jvm.Cond.initialized "Jdk8Methods") ∈ lw_all := lw_g (lw_at lw_m1 11 rfl) rfl
theorem q164 : (Jvm.Cond.static ({ cls := "Jdk8Methods", name := "floorDiv", desc := "(JJ)J" } : Jvm.MethodName)) ∈ lw_all := lw_g (lw_at lw_m1 162 rfl) rfl
theorem q165 : (Jvm.Cond.code ({ cls := "Jdk8Methods", name := "floorDiv", desc := "(JJ)J" } : Jvm.MethodName) prog_10_method_2_code (4 : Nat) (Option.some Jvm.ClassFile.FieldType.long)) ∈ lw_all := lw_g (lw_at lw_m1 163 rfl) rfl
theorem q185 : (Jvm.Cond.static ({ cls := "Jdk8Methods", name := "floorMod", desc := "(JI)I" } : Jvm.MethodName)) ∈ lw_all := lw_g (lw_at lw_m1 183 rfl) rfl
theorem q186 : (Jvm.Cond.code ({ cls := "Jdk8Methods", name := "floorMod", desc := "(JI)I" } : Jvm.MethodName) prog_10_method_3_code (3 : Nat) (Option.some Jvm.ClassFile.FieldType.int)) ∈ lw_all := lw_g (lw_at lw_m1 184 rfl) rfl
/-! java/lang/Enum -/
set_option maxRecDepth 100000
def RJ0 : String := "java/lang/Enum"
abbrev cJ0_ordinal : ByteArray := prog_24_method_2_code
def yJ0_ordinal : MethodName := ⟨RJ0, "ordinal", "()I"⟩
theorem dJ0_ordinal_0 : decode cJ0_ordinal 0 = .ok (.aload_n 0, 1) := by decide +kernel
theorem dJ0_ordinal_1 : decode cJ0_ordinal 1 = .ok (.getfield 7, 3) := by decide +kernel
theorem dJ0_ordinal_4 : decode cJ0_ordinal 4 = .ok (.ireturn, 1) := by decide +kernel
theorem q6 : (Jvm.Cond.initialized "java/lang/Enum") ∈ lw_all := lw_g (lw_at lw_m1 4 rfl) rfl
theorem q272 : (Jvm.Cond.declares ({ cls := "java/lang/Enum", name := "ordinal", desc := "()I" } : Jvm.MethodName)) ∈ lw_tbl := lw_at lw_m2 30 rfl
theorem q274 : (Jvm.Cond.instanceMethod ({ cls := "java/lang/Enum", name := "ordinal", desc := "()I" } : Jvm.MethodName)) ∈ lw_all := lw_g (lw_at lw_m2 32 rfl) rfl
theorem q275 : (Jvm.Cond.code ({ cls := "java/lang/Enum", name := "ordinal", desc := "()I" } : Jvm.MethodName) prog_24_method_2_code (1 : Nat) (Option.some Jvm.ClassFile.FieldType.int)) ∈ lw_all := lw_g (lw_at lw_m2 33 rfl) rfl
theorem q504 : (Jvm.Cond.fieldLink "java/lang/Enum" (7 : Nat) "java/lang/Enum" "ordinal" "I") ∈ lw_all := lw_g (lw_at lw_m3 22 rfl) rfl
/-! java/lang/Object -/
set_option maxRecDepth 100000
def RJ4 : String := "java/lang/Object"
abbrev cJ4_init : ByteArray := object_method_1_code
def yJ4_init : MethodName := ⟨RJ4, "<init>", "()V"⟩
theorem dJ4_init_0 : decode cJ4_init 0 = .ok (.return_, 1) := by decide +kernel
theorem q26 : (Jvm.Cond.instanceMethod ({ cls := "java/lang/Object", name := "<init>", desc := "()V" } : Jvm.MethodName)) ∈ lw_all := lw_g (lw_at lw_m1 24 rfl) rfl
theorem q27 : (Jvm.Cond.code ({ cls := "java/lang/Object", name := "<init>", desc := "()V" } : Jvm.MethodName) object_method_1_code (1 : Nat) (Option.none : Option Jvm.ClassFile.FieldType)) ∈ lw_all := lw_g (lw_at lw_m1 25 rfl) rfl
/-! DefaultInterfaceTemporalAccessor -/
set_option maxRecDepth 100000
def RX1 : String := "DefaultInterfaceTemporalAccessor"
abbrev cX1_init : ByteArray := prog_7_method_1_code
def yX1_init : MethodName := ⟨RX1, "<init>", "()V"⟩
theorem dX1_init_0 : decode cX1_init 0 = .ok (.aload_n 0, 1) := by decide +kernel
theorem dX1_init_1 : decode cX1_init 1 = .ok (.invokespecial 1, 3) := by decide +kernel
theorem dX1_init_4 : decode cX1_init 4 = .ok (.return_, 1) := by decide +kernel
theorem q4 : (Jvm.Cond.initialized "DefaultInterfaceTemporalAccessor") ∈ lw_all := lw_g (lw_at lw_m1 2 rfl) rfl
theorem q134 : (Jvm.Cond.instanceMethod ({ cls := "DefaultInterfaceTemporalAccessor", name := "<init>", desc := "()V" } : Jvm.MethodName)) ∈ lw_all := lw_g (lw_at lw_m1 132 rfl) rfl
theorem q135 : (Jvm.Cond.code ({ cls := "DefaultInterfaceTemporalAccessor", name := "<init>", desc := "()V" } : Jvm.MethodName) prog_7_method_1_code (1 : Nat) (Option.none : Option Jvm.ClassFile.FieldType)) ∈ lw_all := lw_g (lw_at lw_m1 133 rfl) rfl
theorem q136 : (Jvm.Cond.methodLink "DefaultInterfaceTemporalAccessor" (1 : Nat) ({ cls := "java/lang/Object", name := "<init>", desc := "()V" } : Jvm.MethodName)) ∈ lw_all := lw_g (lw_at lw_m1 134 rfl) rfl
/-! DefaultInterfaceTemporal -/
set_option maxRecDepth 100000
def RX9 : String := "DefaultInterfaceTemporal"
abbrev cX9_init : ByteArray := prog_6_method_1_code
def yX9_init : MethodName := ⟨RX9, "<init>", "()V"⟩
theorem dX9_init_0 : decode cX9_init 0 = .ok (.aload_n 0, 1) := by decide +kernel
theorem dX9_init_1 : decode cX9_init 1 = .ok (.invokespecial 1, 3) := by decide +kernel
theorem dX9_init_4 : decode cX9_init 4 = .ok (.return_, 1) := by decide +kernel
theorem q17 : (Jvm.Cond.initialized "DefaultInterfaceTemporal") ∈ lw_all := lw_g (lw_at lw_m1 15 rfl) rfl
theorem q328 : (Jvm.Cond.instanceMethod ({ cls := "DefaultInterfaceTemporal", name := "<init>", desc := "()V" } : Jvm.MethodName)) ∈ lw_all := lw_g (lw_at lw_m2 86 rfl) rfl
theorem q329 : (Jvm.Cond.code ({ cls := "DefaultInterfaceTemporal", name := "<init>", desc := "()V" } : Jvm.MethodName) prog_6_method_1_code (1 : Nat) (Option.none : Option Jvm.ClassFile.FieldType)) ∈ lw_all := lw_g (lw_at lw_m2 87 rfl) rfl
theorem q330 : (Jvm.Cond.methodLink "DefaultInterfaceTemporal" (1 : Nat) ({ cls := "DefaultInterfaceTemporalAccessor", name := "<init>", desc := "()V" } : Jvm.MethodName)) ∈ lw_all := lw_g (lw_at lw_m2 88 rfl) rfl
/-! ChronoLocalDate -/
set_option maxRecDepth 100000
def RX10 : String := "ChronoLocalDate"
abbrev cX10_init : ByteArray := prog_2_method_1_code
def yX10_init : MethodName := ⟨RX10, "<init>", "()V"⟩
theorem dX10_init_0 : decode cX10_init 0 = .ok (.aload_n 0, 1) := by decide +kernel
theorem dX10_init_1 : decode cX10_init 1 = .ok (.invokespecial 1, 3) := by decide +kernel
theorem dX10_init_4 : decode cX10_init 4 = .ok (.return_, 1) := by decide +kernel
theorem q18 : (Jvm.Cond.initialized "ChronoLocalDate") ∈ lw_all := lw_g (lw_at lw_m1 16 rfl) rfl
theorem q325 : (Jvm.Cond.instanceMethod ({ cls := "ChronoLocalDate", name := "<init>", desc := "()V" } : Jvm.MethodName)) ∈ lw_all := lw_g (lw_at lw_m2 83 rfl) rfl
theorem q326 : (Jvm.Cond.code ({ cls := "ChronoLocalDate", name := "<init>", desc := "()V" } : Jvm.MethodName) prog_2_method_1_code (1 : Nat) (Option.none : Option Jvm.ClassFile.FieldType)) ∈ lw_all := lw_g (lw_at lw_m2 84 rfl) rfl
theorem q327 : (Jvm.Cond.methodLink "ChronoLocalDate" (1 : Nat) ({ cls := "DefaultInterfaceTemporal", name := "<init>", desc := "()V" } : Jvm.MethodName)) ∈ lw_all := lw_g (lw_at lw_m2 85 rfl) rfl
/-! LocalDate -/
set_option maxRecDepth 100000
def RX11 : String := "LocalDate"
def TX11 : u_T := fun k => match k with
  | 0 => ("LocalDate", "year", "I", true)
  | 1 => ("LocalDate", "month", "S", true)
  | _ => ("LocalDate", "day", "S", true)
def tyX11 : Nat → FieldType := fun k => match k with
  | 0 => .int
  | 1 => .short
  | _ => .short
abbrev wsX110 : List Cond := u_ws RX11 TX11 3
theorem nmX11 : ∀ a, a < 3 → ∀ b, b < 3 → a ≠ b → (TX11 a).2.1 ≠ (TX11 b).2.1 := by decide +kernel
theorem tyX11_ok : ∀ k, k < 3 → parseFieldDescriptor (TX11 k).2.2.1 = some (tyX11 k) := by decide +kernel
abbrev cX11_of : ByteArray := prog_11_method_1_code
def yX11_of : MethodName := ⟨RX11, "of", "(III)LLocalDate;"⟩
def dkwX11_of_1 : List UInt8 := [182, 0, 9, 88, 26, 27, 184, 0, 19, 28, 184, 0, 25, 176]
abbrev dktX11_of_1 : List UInt8 := dkwX11_of_1 ++ []
def dkwX11_of_0 : List UInt8 := [178, 0, 3, 26, 133, 182, 0, 9, 88, 178, 0, 13, 27, 133, 182, 0, 9, 88, 178, 0, 16, 28, 133]
abbrev dktX11_of_0 : List UInt8 := dkwX11_of_0 ++ dktX11_of_1
theorem dksX11_of_0 : cX11_of.data.toList.drop 0 = dktX11_of_0 := by decide +kernel
theorem dksX11_of_1 : cX11_of.data.toList.drop 23 = dktX11_of_1 := dk_seg dksX11_of_0 23 rfl rfl
theorem dX11_of_0 : decode cX11_of 0 = .ok (.getstatic 3, 3) := dk_178 0 3 (dk_at dksX11_of_0 0 rfl rfl)
theorem dX11_of_3 : decode cX11_of 3 = .ok (.iload_n 0, 1) := dk_26 (dk_at dksX11_of_0 3 rfl rfl)
theorem dX11_of_4 : decode cX11_of 4 = .ok (.i2l, 1) := dk_133 (dk_at dksX11_of_0 4 rfl rfl)
theorem dX11_of_5 : decode cX11_of 5 = .ok (.invokevirtual 9, 3) := dk_182 0 9 (dk_at dksX11_of_0 5 rfl rfl)
theorem dX11_of_8 : decode cX11_of 8 = .ok (.pop2, 1) := dk_88 (dk_at dksX11_of_0 8 rfl rfl)
theorem dX11_of_9 : decode cX11_of 9 = .ok (.getstatic 13, 3) := dk_178 0 13 (dk_at dksX11_of_0 9 rfl rfl)
theorem dX11_of_12 : decode cX11_of 12 = .ok (.iload_n 1, 1) := dk_27 (dk_at dksX11_of_0 12 rfl rfl)
theorem dX11_of_13 : decode cX11_of 13 = .ok (.i2l, 1) := dk_133 (dk_at dksX11_of_0 13 rfl rfl)
theorem dX11_of_14 : decode cX11_of 14 = .ok (.invokevirtual 9, 3) := dk_182 0 9 (dk_at dksX11_of_0 14 rfl rfl)
theorem dX11_of_17 : decode cX11_of 17 = .ok (.pop2, 1) := dk_88 (dk_at dksX11_of_0 17 rfl rfl)
theorem dX11_of_18 : decode cX11_of 18 = .ok (.getstatic 16, 3) := dk_178 0 16 (dk_at dksX11_of_0 18 rfl rfl)
theorem dX11_of_21 : decode cX11_of 21 = .ok (.iload_n 2, 1) := dk_28 (dk_at dksX11_of_0 21 rfl rfl)
theorem dX11_of_22 : decode cX11_of 22 = .ok (.i2l, 1) := dk_133 (dk_at dksX11_of_0 22 rfl rfl)
theorem dX11_of_23 : decode cX11_of 23 = .ok (.invokevirtual 9, 3) := dk_182 0 9 (dk_at dksX11_of_1 0 rfl rfl)
theorem dX11_of_26 : decode cX11_of 26 = .ok (.pop2, 1) := dk_88 (dk_at dksX11_of_1 3 rfl rfl)
theorem dX11_of_27 : decode cX11_of 27 = .ok (.iload_n 0, 1) := dk_26 (dk_at dksX11_of_1 4 rfl rfl)
theorem dX11_of_28 : decode cX11_of 28 = .ok (.iload_n 1, 1) := dk_27 (dk_at dksX11_of_1 5 rfl rfl)
theorem dX11_of_29 : decode cX11_of 29 = .ok (.invokestatic 19, 3) := dk_184 0 19 (dk_at dksX11_of_1 6 rfl rfl)
theorem dX11_of_32 : decode cX11_of 32 = .ok (.iload_n 2, 1) := dk_28 (dk_at dksX11_of_1 9 rfl rfl)
theorem dX11_of_33 : decode cX11_of 33 = .ok (.invokestatic 25, 3) := dk_184 0 25 (dk_at dksX11_of_1 10 rfl rfl)
theorem dX11_of_36 : decode cX11_of 36 = .ok (.areturn, 1) := dk_176 (dk_at dksX11_of_1 13 rfl rfl)
abbrev cX11_create : ByteArray := prog_11_method_2_code
def yX11_create : MethodName := ⟨RX11, "create", "(ILMonth;I)LLocalDate;"⟩
def dkwX11_create_2 : List UInt8 := [191, 187, 0, 1, 89, 26, 43, 182, 0, 51, 28, 183, 0, 55, 176]
abbrev dktX11_create_2 : List UInt8 := dkwX11_create_2 ++ []
def dkwX11_create_1 : List UInt8 := [16, 29, 160, 0, 13, 187, 0, 43, 89, 18, 45, 183, 0, 47, 191, 187, 0, 43, 89, 18, 45, 183, 0, 47]
abbrev dktX11_create_1 : List UInt8 := dkwX11_create_1 ++ dktX11_create_2
def dkwX11_create_0 : List UInt8 := [28, 16, 28, 164, 0, 45, 28, 43, 178, 0, 29, 26, 133, 182, 0, 35, 182, 0, 39, 164, 0, 29, 28]
abbrev dktX11_create_0 : List UInt8 := dkwX11_create_0 ++ dktX11_create_1
theorem dksX11_create_0 : cX11_create.data.toList.drop 0 = dktX11_create_0 := by decide +kernel
theorem dksX11_create_1 : cX11_create.data.toList.drop 23 = dktX11_create_1 := dk_seg dksX11_create_0 23 rfl rfl
theorem dksX11_create_2 : cX11_create.data.toList.drop 47 = dktX11_create_2 := dk_seg dksX11_create_1 24 rfl rfl
theorem dX11_create_0 : decode cX11_create 0 = .ok (.iload_n 2, 1) := dk_28 (dk_at dksX11_create_0 0 rfl rfl)
theorem dX11_create_1 : decode cX11_create 1 = .ok (.bipush 28, 2) := dk_16 28 (dk_at dksX11_create_0 1 rfl rfl)
theorem dX11_create_3 : decode cX11_create 3 = .ok (.if_icmp .le 45, 3) := dk_164 0 45 (dk_at dksX11_create_0 3 rfl rfl)
theorem dX11_create_6 : decode cX11_create 6 = .ok (.iload_n 2, 1) := dk_28 (dk_at dksX11_create_0 6 rfl rfl)
theorem dX11_create_7 : decode cX11_create 7 = .ok (.aload_n 1, 1) := dk_43 (dk_at dksX11_create_0 7 rfl rfl)
theorem dX11_create_8 : decode cX11_create 8 = .ok (.getstatic 29, 3) := dk_178 0 29 (dk_at dksX11_create_0 8 rfl rfl)
theorem dX11_create_11 : decode cX11_create 11 = .ok (.iload_n 0, 1) := dk_26 (dk_at dksX11_create_0 11 rfl rfl)
theorem dX11_create_12 : decode cX11_create 12 = .ok (.i2l, 1) := dk_133 (dk_at dksX11_create_0 12 rfl rfl)
theorem dX11_create_13 : decode cX11_create 13 = .ok (.invokevirtual 35, 3) := dk_182 0 35 (dk_at dksX11_create_0 13 rfl rfl)
theorem dX11_create_16 : decode cX11_create 16 = .ok (.invokevirtual 39, 3) := dk_182 0 39 (dk_at dksX11_create_0 16 rfl rfl)
theorem dX11_create_19 : decode cX11_create 19 = .ok (.if_icmp .le 29, 3) := dk_164 0 29 (dk_at dksX11_create_0 19 rfl rfl)
theorem dX11_create_22 : decode cX11_create 22 = .ok (.iload_n 2, 1) := dk_28 (dk_at dksX11_create_0 22 rfl rfl)
theorem dX11_create_23 : decode cX11_create 23 = .ok (.bipush 29, 2) := dk_16 29 (dk_at dksX11_create_1 0 rfl rfl)
theorem dX11_create_25 : decode cX11_create 25 = .ok (.if_icmp .ne 13, 3) := dk_160 0 13 (dk_at dksX11_create_1 2 rfl rfl)
theorem dX11_create_28 : decode cX11_create 28 = .ok (.new 43, 3) := dk_187 0 43 (dk_at dksX11_create_1 5 rfl rfl)
theorem dX11_create_31 : decode cX11_create 31 = .ok (.dup, 1) := dk_89 (dk_at dksX11_create_1 8 rfl rfl)
theorem dX11_create_32 : decode cX11_create 32 = .ok (.ldc 45, 2) := dk_18 45 (dk_at dksX11_create_1 9 rfl rfl)
theorem dX11_create_34 : decode cX11_create 34 = .ok (.invokespecial 47, 3) := dk_183 0 47 (dk_at dksX11_create_1 11 rfl rfl)
theorem dX11_create_37 : decode cX11_create 37 = .ok (.athrow, 1) := dk_191 (dk_at dksX11_create_1 14 rfl rfl)
theorem dX11_create_38 : decode cX11_create 38 = .ok (.new 43, 3) := dk_187 0 43 (dk_at dksX11_create_1 15 rfl rfl)
theorem dX11_create_41 : decode cX11_create 41 = .ok (.dup, 1) := dk_89 (dk_at dksX11_create_1 18 rfl rfl)
theorem dX11_create_42 : decode cX11_create 42 = .ok (.ldc 45, 2) := dk_18 45 (dk_at dksX11_create_1 19 rfl rfl)
theorem dX11_create_44 : decode cX11_create 44 = .ok (.invokespecial 47, 3) := dk_183 0 47 (dk_at dksX11_create_1 21 rfl rfl)
theorem dX11_create_47 : decode cX11_create 47 = .ok (.athrow, 1) := dk_191 (dk_at dksX11_create_2 0 rfl rfl)
theorem dX11_create_48 : decode cX11_create 48 = .ok (.new 1, 3) := dk_187 0 1 (dk_at dksX11_create_2 1 rfl rfl)
theorem dX11_create_51 : decode cX11_create 51 = .ok (.dup, 1) := dk_89 (dk_at dksX11_create_2 4 rfl rfl)
theorem dX11_create_52 : decode cX11_create 52 = .ok (.iload_n 0, 1) := dk_26 (dk_at dksX11_create_2 5 rfl rfl)
theorem dX11_create_53 : decode cX11_create 53 = .ok (.aload_n 1, 1) := dk_43 (dk_at dksX11_create_2 6 rfl rfl)
theorem dX11_create_54 : decode cX11_create 54 = .ok (.invokevirtual 51, 3) := dk_182 0 51 (dk_at dksX11_create_2 7 rfl rfl)
theorem dX11_create_57 : decode cX11_create 57 = .ok (.iload_n 2, 1) := dk_28 (dk_at dksX11_create_2 10 rfl rfl)
theorem dX11_create_58 : decode cX11_create 58 = .ok (.invokespecial 55, 3) := dk_183 0 55 (dk_at dksX11_create_2 11 rfl rfl)
theorem dX11_create_61 : decode cX11_create 61 = .ok (.areturn, 1) := dk_176 (dk_at dksX11_create_2 14 rfl rfl)
abbrev cX11_init : ByteArray := prog_11_method_3_code
def yX11_init : MethodName := ⟨RX11, "<init>", "(III)V"⟩
def dkwX11_init_0 : List UInt8 := [42, 183, 0, 58, 42, 27, 181, 0, 63, 42, 28, 147, 181, 0, 67, 42, 29, 147, 181, 0, 71, 177]
abbrev dktX11_init_0 : List UInt8 := dkwX11_init_0 ++ []
theorem dksX11_init_0 : cX11_init.data.toList.drop 0 = dktX11_init_0 := by decide +kernel
theorem dX11_init_0 : decode cX11_init 0 = .ok (.aload_n 0, 1) := dk_42 (dk_at dksX11_init_0 0 rfl rfl)
theorem dX11_init_1 : decode cX11_init 1 = .ok (.invokespecial 58, 3) := dk_183 0 58 (dk_at dksX11_init_0 1 rfl rfl)
theorem dX11_init_4 : decode cX11_init 4 = .ok (.aload_n 0, 1) := dk_42 (dk_at dksX11_init_0 4 rfl rfl)
theorem dX11_init_5 : decode cX11_init 5 = .ok (.iload_n 1, 1) := dk_27 (dk_at dksX11_init_0 5 rfl rfl)
theorem dX11_init_6 : decode cX11_init 6 = .ok (.putfield 63, 3) := dk_181 0 63 (dk_at dksX11_init_0 6 rfl rfl)
theorem dX11_init_9 : decode cX11_init 9 = .ok (.aload_n 0, 1) := dk_42 (dk_at dksX11_init_0 9 rfl rfl)
theorem dX11_init_10 : decode cX11_init 10 = .ok (.iload_n 2, 1) := dk_28 (dk_at dksX11_init_0 10 rfl rfl)
theorem dX11_init_11 : decode cX11_init 11 = .ok (.i2s, 1) := dk_147 (dk_at dksX11_init_0 11 rfl rfl)
theorem dX11_init_12 : decode cX11_init 12 = .ok (.putfield 67, 3) := dk_181 0 67 (dk_at dksX11_init_0 12 rfl rfl)
theorem dX11_init_15 : decode cX11_init 15 = .ok (.aload_n 0, 1) := dk_42 (dk_at dksX11_init_0 15 rfl rfl)
theorem dX11_init_16 : decode cX11_init 16 = .ok (.iload_n 3, 1) := dk_29 (dk_at dksX11_init_0 16 rfl rfl)
theorem dX11_init_17 : decode cX11_init 17 = .ok (.i2s, 1) := dk_147 (dk_at dksX11_init_0 17 rfl rfl)
theorem dX11_init_18 : decode cX11_init 18 = .ok (.putfield 71, 3) := dk_181 0 71 (dk_at dksX11_init_0 18 rfl rfl)
theorem dX11_init_21 : decode cX11_init 21 = .ok (.return_, 1) := dk_177 (dk_at dksX11_init_0 21 rfl rfl)
abbrev cX11_toEpochDay : ByteArray := prog_11_method_5_code
def yX11_toEpochDay : MethodName := ⟨RX11, "toEpochDay", "()J"⟩
def dkwX11_toEpochDay_6 : List UInt8 := [22, 5, 10, 101, 55, 5, 22, 5, 20, 0, 105, 101, 173]
abbrev dktX11_toEpochDay_6 : List UInt8 := dkwX11_toEpochDay_6 ++ []
def dkwX11_toEpochDay_5 : List UInt8 := [55, 5, 33, 20, 0, 100, 148, 158, 0, 22, 22, 5, 10, 101, 55, 5, 42, 182, 0, 102, 154, 0, 9]
abbrev dktX11_toEpochDay_5 : List UInt8 := dkwX11_toEpochDay_5 ++ dktX11_toEpochDay_6
def dkwX11_toEpochDay_4 : List UInt8 := [33, 105, 20, 0, 96, 101, 20, 0, 98, 109, 97, 55, 5, 22, 5, 42, 180, 0, 71, 4, 100, 133, 97]
abbrev dktX11_toEpochDay_4 : List UInt8 := dkwX11_toEpochDay_4 ++ dktX11_toEpochDay_5
def dkwX11_toEpochDay_3 : List UInt8 := [20, 0, 88, 109, 31, 20, 0, 90, 109, 101, 31, 20, 0, 92, 109, 97, 101, 55, 5, 22, 5, 20, 0, 94]
abbrev dktX11_toEpochDay_3 : List UInt8 := dkwX11_toEpochDay_3 ++ dktX11_toEpochDay_4
def dkwX11_toEpochDay_2 : List UInt8 := [20, 0, 82, 109, 101, 31, 20, 0, 84, 97, 20, 0, 86, 109, 97, 97, 55, 5, 167, 0, 25, 22, 5, 31]
abbrev dktX11_toEpochDay_2 : List UInt8 := dkwX11_toEpochDay_2 ++ dktX11_toEpochDay_3
def dkwX11_toEpochDay_1 : List UInt8 := [55, 5, 31, 9, 148, 155, 0, 40, 22, 5, 31, 20, 0, 76, 97, 20, 0, 78, 109, 31, 20, 0, 80, 97]
abbrev dktX11_toEpochDay_1 : List UInt8 := dkwX11_toEpochDay_1 ++ dktX11_toEpochDay_2
def dkwX11_toEpochDay_0 : List UInt8 := [42, 180, 0, 63, 133, 64, 42, 180, 0, 67, 133, 66, 9, 55, 5, 22, 5, 20, 0, 74, 31, 105, 97]
abbrev dktX11_toEpochDay_0 : List UInt8 := dkwX11_toEpochDay_0 ++ dktX11_toEpochDay_1
theorem dksX11_toEpochDay_0 : cX11_toEpochDay.data.toList.drop 0 = dktX11_toEpochDay_0 := by decide +kernel
theorem dksX11_toEpochDay_1 : cX11_toEpochDay.data.toList.drop 23 = dktX11_toEpochDay_1 := dk_seg dksX11_toEpochDay_0 23 rfl rfl
theorem dksX11_toEpochDay_2 : cX11_toEpochDay.data.toList.drop 47 = dktX11_toEpochDay_2 := dk_seg dksX11_toEpochDay_1 24 rfl rfl
theorem dksX11_toEpochDay_3 : cX11_toEpochDay.data.toList.drop 71 = dktX11_toEpochDay_3 := dk_seg dksX11_toEpochDay_2 24 rfl rfl
theorem dksX11_toEpochDay_4 : cX11_toEpochDay.data.toList.drop 95 = dktX11_toEpochDay_4 := dk_seg dksX11_toEpochDay_3 24 rfl rfl
theorem dksX11_toEpochDay_5 : cX11_toEpochDay.data.toList.drop 118 = dktX11_toEpochDay_5 := dk_seg dksX11_toEpochDay_4 23 rfl rfl
theorem dksX11_toEpochDay_6 : cX11_toEpochDay.data.toList.drop 141 = dktX11_toEpochDay_6 := dk_seg dksX11_toEpochDay_5 23 rfl rfl
theorem dX11_toEpochDay_0 : decode cX11_toEpochDay 0 = .ok (.aload_n 0, 1) := dk_42 (dk_at dksX11_toEpochDay_0 0 rfl rfl)
theorem dX11_toEpochDay_1 : decode cX11_toEpochDay 1 = .ok (.getfield 63, 3) := dk_180 0 63 (dk_at dksX11_toEpochDay_0 1 rfl rfl)
theorem dX11_toEpochDay_4 : decode cX11_toEpochDay 4 = .ok (.i2l, 1) := dk_133 (dk_at dksX11_toEpochDay_0 4 rfl rfl)
theorem dX11_toEpochDay_5 : decode cX11_toEpochDay 5 = .ok (.lstore_n 1, 1) := dk_64 (dk_at dksX11_toEpochDay_0 5 rfl rfl)
theorem dX11_toEpochDay_6 : decode cX11_toEpochDay 6 = .ok (.aload_n 0, 1) := dk_42 (dk_at dksX11_toEpochDay_0 6 rfl rfl)
theorem dX11_toEpochDay_7 : decode cX11_toEpochDay 7 = .ok (.getfield 67, 3) := dk_180 0 67 (dk_at dksX11_toEpochDay_0 7 rfl rfl)
theorem dX11_toEpochDay_10 : decode cX11_toEpochDay 10 = .ok (.i2l, 1) := dk_133 (dk_at dksX11_toEpochDay_0 10 rfl rfl)
theorem dX11_toEpochDay_11 : decode cX11_toEpochDay 11 = .ok (.lstore_n 3, 1) := dk_66 (dk_at dksX11_toEpochDay_0 11 rfl rfl)
theorem dX11_toEpochDay_12 : decode cX11_toEpochDay 12 = .ok (.lconst 0, 1) := dk_9 (dk_at dksX11_toEpochDay_0 12 rfl rfl)
theorem dX11_toEpochDay_13 : decode cX11_toEpochDay 13 = .ok (.lstore 5, 2) := dk_55 5 (dk_at dksX11_toEpochDay_0 13 rfl rfl)
theorem dX11_toEpochDay_15 : decode cX11_toEpochDay 15 = .ok (.lload 5, 2) := dk_22 5 (dk_at dksX11_toEpochDay_0 15 rfl rfl)
theorem dX11_toEpochDay_17 : decode cX11_toEpochDay 17 = .ok (.ldc2_w 74, 3) := dk_20 0 74 (dk_at dksX11_toEpochDay_0 17 rfl rfl)
theorem dX11_toEpochDay_20 : decode cX11_toEpochDay 20 = .ok (.lload_n 1, 1) := dk_31 (dk_at dksX11_toEpochDay_0 20 rfl rfl)
theorem dX11_toEpochDay_21 : decode cX11_toEpochDay 21 = .ok (.lmul, 1) := dk_105 (dk_at dksX11_toEpochDay_0 21 rfl rfl)
theorem dX11_toEpochDay_22 : decode cX11_toEpochDay 22 = .ok (.ladd, 1) := dk_97 (dk_at dksX11_toEpochDay_0 22 rfl rfl)
theorem dX11_toEpochDay_23 : decode cX11_toEpochDay 23 = .ok (.lstore 5, 2) := dk_55 5 (dk_at dksX11_toEpochDay_1 0 rfl rfl)
theorem dX11_toEpochDay_25 : decode cX11_toEpochDay 25 = .ok (.lload_n 1, 1) := dk_31 (dk_at dksX11_toEpochDay_1 2 rfl rfl)
theorem dX11_toEpochDay_26 : decode cX11_toEpochDay 26 = .ok (.lconst 0, 1) := dk_9 (dk_at dksX11_toEpochDay_1 3 rfl rfl)
theorem dX11_toEpochDay_27 : decode cX11_toEpochDay 27 = .ok (.lcmp, 1) := dk_148 (dk_at dksX11_toEpochDay_1 4 rfl rfl)
theorem dX11_toEpochDay_28 : decode cX11_toEpochDay 28 = .ok (.ifCond .lt 40, 3) := dk_155 0 40 (dk_at dksX11_toEpochDay_1 5 rfl rfl)
theorem dX11_toEpochDay_31 : decode cX11_toEpochDay 31 = .ok (.lload 5, 2) := dk_22 5 (dk_at dksX11_toEpochDay_1 8 rfl rfl)
theorem dX11_toEpochDay_33 : decode cX11_toEpochDay 33 = .ok (.lload_n 1, 1) := dk_31 (dk_at dksX11_toEpochDay_1 10 rfl rfl)
theorem dX11_toEpochDay_34 : decode cX11_toEpochDay 34 = .ok (.ldc2_w 76, 3) := dk_20 0 76 (dk_at dksX11_toEpochDay_1 11 rfl rfl)
theorem dX11_toEpochDay_37 : decode cX11_toEpochDay 37 = .ok (.ladd, 1) := dk_97 (dk_at dksX11_toEpochDay_1 14 rfl rfl)
theorem dX11_toEpochDay_38 : decode cX11_toEpochDay 38 = .ok (.ldc2_w 78, 3) := dk_20 0 78 (dk_at dksX11_toEpochDay_1 15 rfl rfl)
theorem dX11_toEpochDay_41 : decode cX11_toEpochDay 41 = .ok (.ldiv, 1) := dk_109 (dk_at dksX11_toEpochDay_1 18 rfl rfl)
theorem dX11_toEpochDay_42 : decode cX11_toEpochDay 42 = .ok (.lload_n 1, 1) := dk_31 (dk_at dksX11_toEpochDay_1 19 rfl rfl)
theorem dX11_toEpochDay_43 : decode cX11_toEpochDay 43 = .ok (.ldc2_w 80, 3) := dk_20 0 80 (dk_at dksX11_toEpochDay_1 20 rfl rfl)
theorem dX11_toEpochDay_46 : decode cX11_toEpochDay 46 = .ok (.ladd, 1) := dk_97 (dk_at dksX11_toEpochDay_1 23 rfl rfl)
theorem dX11_toEpochDay_47 : decode cX11_toEpochDay 47 = .ok (.ldc2_w 82, 3) := dk_20 0 82 (dk_at dksX11_toEpochDay_2 0 rfl rfl)
theorem dX11_toEpochDay_50 : decode cX11_toEpochDay 50 = .ok (.ldiv, 1) := dk_109 (dk_at dksX11_toEpochDay_2 3 rfl rfl)
theorem dX11_toEpochDay_51 : decode cX11_toEpochDay 51 = .ok (.lsub, 1) := dk_101 (dk_at dksX11_toEpochDay_2 4 rfl rfl)
theorem dX11_toEpochDay_52 : decode cX11_toEpochDay 52 = .ok (.lload_n 1, 1) := dk_31 (dk_at dksX11_toEpochDay_2 5 rfl rfl)
theorem dX11_toEpochDay_53 : decode cX11_toEpochDay 53 = .ok (.ldc2_w 84, 3) := dk_20 0 84 (dk_at dksX11_toEpochDay_2 6 rfl rfl)
theorem dX11_toEpochDay_56 : decode cX11_toEpochDay 56 = .ok (.ladd, 1) := dk_97 (dk_at dksX11_toEpochDay_2 9 rfl rfl)
theorem dX11_toEpochDay_57 : decode cX11_toEpochDay 57 = .ok (.ldc2_w 86, 3) := dk_20 0 86 (dk_at dksX11_toEpochDay_2 10 rfl rfl)
theorem dX11_toEpochDay_60 : decode cX11_toEpochDay 60 = .ok (.ldiv, 1) := dk_109 (dk_at dksX11_toEpochDay_2 13 rfl rfl)
theorem dX11_toEpochDay_61 : decode cX11_toEpochDay 61 = .ok (.ladd, 1) := dk_97 (dk_at dksX11_toEpochDay_2 14 rfl rfl)
theorem dX11_toEpochDay_62 : decode cX11_toEpochDay 62 = .ok (.ladd, 1) := dk_97 (dk_at dksX11_toEpochDay_2 15 rfl rfl)
theorem dX11_toEpochDay_63 : decode cX11_toEpochDay 63 = .ok (.lstore 5, 2) := dk_55 5 (dk_at dksX11_toEpochDay_2 16 rfl rfl)
theorem dX11_toEpochDay_65 : decode cX11_toEpochDay 65 = .ok (.goto 25, 3) := dk_167 0 25 (dk_at dksX11_toEpochDay_2 18 rfl rfl)
theorem dX11_toEpochDay_68 : decode cX11_toEpochDay 68 = .ok (.lload 5, 2) := dk_22 5 (dk_at dksX11_toEpochDay_2 21 rfl rfl)
theorem dX11_toEpochDay_70 : decode cX11_toEpochDay 70 = .ok (.lload_n 1, 1) := dk_31 (dk_at dksX11_toEpochDay_2 23 rfl rfl)
theorem dX11_toEpochDay_71 : decode cX11_toEpochDay 71 = .ok (.ldc2_w 88, 3) := dk_20 0 88 (dk_at dksX11_toEpochDay_3 0 rfl rfl)
theorem dX11_toEpochDay_74 : decode cX11_toEpochDay 74 = .ok (.ldiv, 1) := dk_109 (dk_at dksX11_toEpochDay_3 3 rfl rfl)
theorem dX11_toEpochDay_75 : decode cX11_toEpochDay 75 = .ok (.lload_n 1, 1) := dk_31 (dk_at dksX11_toEpochDay_3 4 rfl rfl)
theorem dX11_toEpochDay_76 : decode cX11_toEpochDay 76 = .ok (.ldc2_w 90, 3) := dk_20 0 90 (dk_at dksX11_toEpochDay_3 5 rfl rfl)
theorem dX11_toEpochDay_79 : decode cX11_toEpochDay 79 = .ok (.ldiv, 1) := dk_109 (dk_at dksX11_toEpochDay_3 8 rfl rfl)
theorem dX11_toEpochDay_80 : decode cX11_toEpochDay 80 = .ok (.lsub, 1) := dk_101 (dk_at dksX11_toEpochDay_3 9 rfl rfl)
theorem dX11_toEpochDay_81 : decode cX11_toEpochDay 81 = .ok (.lload_n 1, 1) := dk_31 (dk_at dksX11_toEpochDay_3 10 rfl rfl)
theorem dX11_toEpochDay_82 : decode cX11_toEpochDay 82 = .ok (.ldc2_w 92, 3) := dk_20 0 92 (dk_at dksX11_toEpochDay_3 11 rfl rfl)
theorem dX11_toEpochDay_85 : decode cX11_toEpochDay 85 = .ok (.ldiv, 1) := dk_109 (dk_at dksX11_toEpochDay_3 14 rfl rfl)
theorem dX11_toEpochDay_86 : decode cX11_toEpochDay 86 = .ok (.ladd, 1) := dk_97 (dk_at dksX11_toEpochDay_3 15 rfl rfl)
theorem dX11_toEpochDay_87 : decode cX11_toEpochDay 87 = .ok (.lsub, 1) := dk_101 (dk_at dksX11_toEpochDay_3 16 rfl rfl)
theorem dX11_toEpochDay_88 : decode cX11_toEpochDay 88 = .ok (.lstore 5, 2) := dk_55 5 (dk_at dksX11_toEpochDay_3 17 rfl rfl)
theorem dX11_toEpochDay_90 : decode cX11_toEpochDay 90 = .ok (.lload 5, 2) := dk_22 5 (dk_at dksX11_toEpochDay_3 19 rfl rfl)
theorem dX11_toEpochDay_92 : decode cX11_toEpochDay 92 = .ok (.ldc2_w 94, 3) := dk_20 0 94 (dk_at dksX11_toEpochDay_3 21 rfl rfl)
theorem dX11_toEpochDay_95 : decode cX11_toEpochDay 95 = .ok (.lload_n 3, 1) := dk_33 (dk_at dksX11_toEpochDay_4 0 rfl rfl)
theorem dX11_toEpochDay_96 : decode cX11_toEpochDay 96 = .ok (.lmul, 1) := dk_105 (dk_at dksX11_toEpochDay_4 1 rfl rfl)
theorem dX11_toEpochDay_97 : decode cX11_toEpochDay 97 = .ok (.ldc2_w 96, 3) := dk_20 0 96 (dk_at dksX11_toEpochDay_4 2 rfl rfl)
theorem dX11_toEpochDay_100 : decode cX11_toEpochDay 100 = .ok (.lsub, 1) := dk_101 (dk_at dksX11_toEpochDay_4 5 rfl rfl)
theorem dX11_toEpochDay_101 : decode cX11_toEpochDay 101 = .ok (.ldc2_w 98, 3) := dk_20 0 98 (dk_at dksX11_toEpochDay_4 6 rfl rfl)
theorem dX11_toEpochDay_104 : decode cX11_toEpochDay 104 = .ok (.ldiv, 1) := dk_109 (dk_at dksX11_toEpochDay_4 9 rfl rfl)
theorem dX11_toEpochDay_105 : decode cX11_toEpochDay 105 = .ok (.ladd, 1) := dk_97 (dk_at dksX11_toEpochDay_4 10 rfl rfl)
theorem dX11_toEpochDay_106 : decode cX11_toEpochDay 106 = .ok (.lstore 5, 2) := dk_55 5 (dk_at dksX11_toEpochDay_4 11 rfl rfl)
theorem dX11_toEpochDay_108 : decode cX11_toEpochDay 108 = .ok (.lload 5, 2) := dk_22 5 (dk_at dksX11_toEpochDay_4 13 rfl rfl)
theorem dX11_toEpochDay_110 : decode cX11_toEpochDay 110 = .ok (.aload_n 0, 1) := dk_42 (dk_at dksX11_toEpochDay_4 15 rfl rfl)
theorem dX11_toEpochDay_111 : decode cX11_toEpochDay 111 = .ok (.getfield 71, 3) := dk_180 0 71 (dk_at dksX11_toEpochDay_4 16 rfl rfl)
theorem dX11_toEpochDay_114 : decode cX11_toEpochDay 114 = .ok (.iconst 1, 1) := dk_4 (dk_at dksX11_toEpochDay_4 19 rfl rfl)
theorem dX11_toEpochDay_115 : decode cX11_toEpochDay 115 = .ok (.isub, 1) := dk_100 (dk_at dksX11_toEpochDay_4 20 rfl rfl)
theorem dX11_toEpochDay_116 : decode cX11_toEpochDay 116 = .ok (.i2l, 1) := dk_133 (dk_at dksX11_toEpochDay_4 21 rfl rfl)
theorem dX11_toEpochDay_117 : decode cX11_toEpochDay 117 = .ok (.ladd, 1) := dk_97 (dk_at dksX11_toEpochDay_4 22 rfl rfl)
theorem dX11_toEpochDay_118 : decode cX11_toEpochDay 118 = .ok (.lstore 5, 2) := dk_55 5 (dk_at dksX11_toEpochDay_5 0 rfl rfl)
theorem dX11_toEpochDay_120 : decode cX11_toEpochDay 120 = .ok (.lload_n 3, 1) := dk_33 (dk_at dksX11_toEpochDay_5 2 rfl rfl)
theorem dX11_toEpochDay_121 : decode cX11_toEpochDay 121 = .ok (.ldc2_w 100, 3) := dk_20 0 100 (dk_at dksX11_toEpochDay_5 3 rfl rfl)
theorem dX11_toEpochDay_124 : decode cX11_toEpochDay 124 = .ok (.lcmp, 1) := dk_148 (dk_at dksX11_toEpochDay_5 6 rfl rfl)
theorem dX11_toEpochDay_125 : decode cX11_toEpochDay 125 = .ok (.ifCond .le 22, 3) := dk_158 0 22 (dk_at dksX11_toEpochDay_5 7 rfl rfl)
theorem dX11_toEpochDay_128 : decode cX11_toEpochDay 128 = .ok (.lload 5, 2) := dk_22 5 (dk_at dksX11_toEpochDay_5 10 rfl rfl)
theorem dX11_toEpochDay_130 : decode cX11_toEpochDay 130 = .ok (.lconst 1, 1) := dk_10 (dk_at dksX11_toEpochDay_5 12 rfl rfl)
theorem dX11_toEpochDay_131 : decode cX11_toEpochDay 131 = .ok (.lsub, 1) := dk_101 (dk_at dksX11_toEpochDay_5 13 rfl rfl)
theorem dX11_toEpochDay_132 : decode cX11_toEpochDay 132 = .ok (.lstore 5, 2) := dk_55 5 (dk_at dksX11_toEpochDay_5 14 rfl rfl)
theorem dX11_toEpochDay_134 : decode cX11_toEpochDay 134 = .ok (.aload_n 0, 1) := dk_42 (dk_at dksX11_toEpochDay_5 16 rfl rfl)
theorem dX11_toEpochDay_135 : decode cX11_toEpochDay 135 = .ok (.invokevirtual 102, 3) := dk_182 0 102 (dk_at dksX11_toEpochDay_5 17 rfl rfl)
theorem dX11_toEpochDay_138 : decode cX11_toEpochDay 138 = .ok (.ifCond .ne 9, 3) := dk_154 0 9 (dk_at dksX11_toEpochDay_5 20 rfl rfl)
theorem dX11_toEpochDay_141 : decode cX11_toEpochDay 141 = .ok (.lload 5, 2) := dk_22 5 (dk_at dksX11_toEpochDay_6 0 rfl rfl)
theorem dX11_toEpochDay_143 : decode cX11_toEpochDay 143 = .ok (.lconst 1, 1) := dk_10 (dk_at dksX11_toEpochDay_6 2 rfl rfl)
theorem dX11_toEpochDay_144 : decode cX11_toEpochDay 144 = .ok (.lsub, 1) := dk_101 (dk_at dksX11_toEpochDay_6 3 rfl rfl)
theorem dX11_toEpochDay_145 : decode cX11_toEpochDay 145 = .ok (.lstore 5, 2) := dk_55 5 (dk_at dksX11_toEpochDay_6 4 rfl rfl)
theorem dX11_toEpochDay_147 : decode cX11_toEpochDay 147 = .ok (.lload 5, 2) := dk_22 5 (dk_at dksX11_toEpochDay_6 6 rfl rfl)
theorem dX11_toEpochDay_149 : decode cX11_toEpochDay 149 = .ok (.ldc2_w 105, 3) := dk_20 0 105 (dk_at dksX11_toEpochDay_6 8 rfl rfl)
theorem dX11_toEpochDay_152 : decode cX11_toEpochDay 152 = .ok (.lsub, 1) := dk_101 (dk_at dksX11_toEpochDay_6 11 rfl rfl)
theorem dX11_toEpochDay_153 : decode cX11_toEpochDay 153 = .ok (.lreturn, 1) := dk_173 (dk_at dksX11_toEpochDay_6 12 rfl rfl)
abbrev cX11_isLeapYear : ByteArray := prog_11_method_4_code
def yX11_isLeapYear : MethodName := ⟨RX11, "isLeapYear", "()Z"⟩
def dkwX11_isLeapYear_0 : List UInt8 := [178, 0, 29, 42, 180, 0, 63, 133, 182, 0, 35, 172]
abbrev dktX11_isLeapYear_0 : List UInt8 := dkwX11_isLeapYear_0 ++ []
theorem dksX11_isLeapYear_0 : cX11_isLeapYear.data.toList.drop 0 = dktX11_isLeapYear_0 := by decide +kernel
theorem dX11_isLeapYear_0 : decode cX11_isLeapYear 0 = .ok (.getstatic 29, 3) := dk_178 0 29 (dk_at dksX11_isLeapYear_0 0 rfl rfl)
theorem dX11_isLeapYear_3 : decode cX11_isLeapYear 3 = .ok (.aload_n 0, 1) := dk_42 (dk_at dksX11_isLeapYear_0 3 rfl rfl)
theorem dX11_isLeapYear_4 : decode cX11_isLeapYear 4 = .ok (.getfield 63, 3) := dk_180 0 63 (dk_at dksX11_isLeapYear_0 4 rfl rfl)
theorem dX11_isLeapYear_7 : decode cX11_isLeapYear 7 = .ok (.i2l, 1) := dk_133 (dk_at dksX11_isLeapYear_0 7 rfl rfl)
theorem dX11_isLeapYear_8 : decode cX11_isLeapYear 8 = .ok (.invokevirtual 35, 3) := dk_182 0 35 (dk_at dksX11_isLeapYear_0 8 rfl rfl)
theorem dX11_isLeapYear_11 : decode cX11_isLeapYear 11 = .ok (.ireturn, 1) := dk_172 (dk_at dksX11_isLeapYear_0 11 rfl rfl)
theorem q19 : (Jvm.Cond.initialized "LocalDate") ∈ lw_all := lw_g (lw_at lw_m1 17 rfl) rfl
theorem q298 : (Jvm.Cond.static ({ cls := "LocalDate", name := "of", desc := "(III)LLocalDate;" } : Jvm.MethodName)) ∈ lw_all := lw_g (lw_at lw_m2 56 rfl) rfl
theorem q299 : (Jvm.Cond.code ({ cls := "LocalDate", name := "of", desc := "(III)LLocalDate;" } : Jvm.MethodName) prog_11_method_1_code (3 : Nat) (Option.some (Jvm.ClassFile.FieldType.object "LocalDate"))) ∈ lw_all := lw_g (lw_at lw_m2 57 rfl) rfl
theorem q300 : (Jvm.Cond.fieldLink "LocalDate" (3 : Nat) "ChronoField" "YEAR" "LChronoField;") ∈ lw_all := lw_g (lw_at lw_m2 58 rfl) rfl
theorem q301 : (Jvm.Cond.methodLink "LocalDate" (9 : Nat) ({ cls := "ChronoField", name := "checkValidValue", desc := "(J)J" } : Jvm.MethodName)) ∈ lw_all := lw_g (lw_at lw_m2 59 rfl) rfl
theorem q302 : (Jvm.Cond.fieldLink "LocalDate" (13 : Nat) "ChronoField" "MONTH_OF_YEAR" "LChronoField;") ∈ lw_all := lw_g (lw_at lw_m2 60 rfl) rfl
theorem q303 : (Jvm.Cond.fieldLink "LocalDate" (16 : Nat) "ChronoField" "DAY_OF_MONTH" "LChronoField;") ∈ lw_all := lw_g (lw_at lw_m2 61 rfl) rfl
theorem q305 : (Jvm.Cond.methodLink "LocalDate" (19 : Nat) ({ cls := "Month", name := "of", desc := "(I)LMonth;" } : Jvm.MethodName)) ∈ lw_all := lw_g (lw_at lw_m2 63 rfl) rfl
theorem q306 : (Jvm.Cond.methodLink "LocalDate" (25 : Nat) ({ cls := "LocalDate", name := "create", desc := "(ILMonth;I)LLocalDate;" } : Jvm.MethodName)) ∈ lw_all := lw_g (lw_at lw_m2 64 rfl) rfl
theorem q307 : (Jvm.Cond.static ({ cls := "LocalDate", name := "create", desc := "(ILMonth;I)LLocalDate;" } : Jvm.MethodName)) ∈ lw_all := lw_g (lw_at lw_m2 65 rfl) rfl
theorem q308 : (Jvm.Cond.code ({ cls := "LocalDate", name := "create", desc := "(ILMonth;I)LLocalDate;" } : Jvm.MethodName) prog_11_method_2_code (3 : Nat) (Option.some (Jvm.ClassFile.FieldType.object "LocalDate"))) ∈ lw_all := lw_g (lw_at lw_m2 66 rfl) rfl
theorem q309 : (Jvm.Cond.fieldLink "LocalDate" (29 : Nat) "IsoChronology" "INSTANCE" "LIsoChronology;") ∈ lw_all := lw_g (lw_at lw_m2 67 rfl) rfl
theorem q310 : (Jvm.Cond.methodLink "LocalDate" (35 : Nat) ({ cls := "IsoChronology", name := "isLeapYear", desc := "(J)Z" } : Jvm.MethodName)) ∈ lw_all := lw_g (lw_at lw_m2 68 rfl) rfl
theorem q311 : (Jvm.Cond.methodLink "LocalDate" (39 : Nat) ({ cls := "Month", name := "length", desc := "(Z)I" } : Jvm.MethodName)) ∈ lw_all := lw_g (lw_at lw_m2 69 rfl) rfl
theorem q312 : (Jvm.Cond.classLink "LocalDate" (43 : Nat) "DateTimeException") ∈ lw_all := lw_g (lw_at lw_m2 70 rfl) rfl
theorem q313 : (Jvm.Cond.stringRef "LocalDate" (45 : Nat) "left out") ∈ lw_tbl := lw_at lw_m2 71 rfl
theorem q314 : (Jvm.Cond.methodLink "LocalDate" (47 : Nat) ({ cls := "DateTimeException", name := "<init>", desc := "(Ljava/lang/String;)V" } : Jvm.MethodName)) ∈ lw_all := lw_g (lw_at lw_m2 72 rfl) rfl
theorem q315 : (Jvm.Cond.classLink "LocalDate" (1 : Nat) "LocalDate") ∈ lw_all := lw_g (lw_at lw_m2 73 rfl) rfl
theorem q316 : (Jvm.Cond.instantiable "LocalDate" (3 : Nat)) ∈ lw_all := lw_g (lw_at lw_m2 74 rfl) rfl
theorem q317 : (Jvm.Cond.methodLink "LocalDate" (51 : Nat) ({ cls := "Month", name := "getValue", desc := "()I" } : Jvm.MethodName)) ∈ lw_all := lw_g (lw_at lw_m2 75 rfl) rfl
theorem q321 : (Jvm.Cond.methodLink "LocalDate" (55 : Nat) ({ cls := "LocalDate", name := "<init>", desc := "(III)V" } : Jvm.MethodName)) ∈ lw_all := lw_g (lw_at lw_m2 79 rfl) rfl
theorem q322 : (Jvm.Cond.instanceMethod ({ cls := "LocalDate", name := "<init>", desc := "(III)V" } : Jvm.MethodName)) ∈ lw_all := lw_g (lw_at lw_m2 80 rfl) rfl
theorem q323 : (Jvm.Cond.code ({ cls := "LocalDate", name := "<init>", desc := "(III)V" } : Jvm.MethodName) prog_11_method_3_code (4 : Nat) (Option.none : Option Jvm.ClassFile.FieldType)) ∈ lw_all := lw_g (lw_at lw_m2 81 rfl) rfl
theorem q324 : (Jvm.Cond.methodLink "LocalDate" (58 : Nat) ({ cls := "ChronoLocalDate", name := "<init>", desc := "()V" } : Jvm.MethodName)) ∈ lw_all := lw_g (lw_at lw_m2 82 rfl) rfl
theorem q331 : (Jvm.Cond.fieldLink "LocalDate" (63 : Nat) "LocalDate" "year" "I") ∈ lw_all := lw_g (lw_at lw_m2 89 rfl) rfl
theorem q332 : (Jvm.Cond.fieldLink "LocalDate" (67 : Nat) "LocalDate" "month" "S") ∈ lw_all := lw_g (lw_at lw_m2 90 rfl) rfl
theorem q333 : (Jvm.Cond.fieldLink "LocalDate" (71 : Nat) "LocalDate" "day" "S") ∈ lw_all := lw_g (lw_at lw_m2 91 rfl) rfl
theorem q334 : (Jvm.Cond.laysFinal "LocalDate" "LocalDate" "year" "I") ∈ lw_all := lw_g (lw_at lw_m2 92 rfl) rfl
theorem q335 : (Jvm.Cond.soleField "LocalDate" "year") ∈ lw_all := lw_g (lw_at lw_m2 93 rfl) rfl
theorem q336 : (Jvm.Cond.laysFinal "LocalDate" "LocalDate" "month" "S") ∈ lw_all := lw_g (lw_at lw_m2 94 rfl) rfl
theorem q337 : (Jvm.Cond.soleField "LocalDate" "month") ∈ lw_all := lw_g (lw_at lw_m2 95 rfl) rfl
theorem q338 : (Jvm.Cond.laysFinal "LocalDate" "LocalDate" "day" "S") ∈ lw_all := lw_g (lw_at lw_m2 96 rfl) rfl
theorem q339 : (Jvm.Cond.soleField "LocalDate" "day") ∈ lw_all := lw_g (lw_at lw_m2 97 rfl) rfl
theorem q340 : (Jvm.Cond.superclass "LocalDate" "ChronoLocalDate") ∈ lw_all := lw_g (lw_at lw_m2 98 rfl) rfl
theorem q342 : (Jvm.Cond.instanceMethod ({ cls := "LocalDate", name := "toEpochDay", desc := "()J" } : Jvm.MethodName)) ∈ lw_all := lw_g (lw_at lw_m2 100 rfl) rfl
theorem q343 : (Jvm.Cond.selects "LocalDate" ({ cls := "LocalDate", name := "toEpochDay", desc := "()J" } : Jvm.MethodName) ({ cls := "LocalDate", name := "toEpochDay", desc := "()J" } : Jvm.MethodName)) ∈ lw_all := lw_g (lw_at lw_m2 101 rfl) rfl
theorem q344 : (Jvm.Cond.code ({ cls := "LocalDate", name := "toEpochDay", desc := "()J" } : Jvm.MethodName) prog_11_method_5_code (7 : Nat) (Option.some Jvm.ClassFile.FieldType.long)) ∈ lw_all := lw_g (lw_at lw_m2 102 rfl) rfl
theorem q345 : (Jvm.Cond.constantLong "LocalDate" (74 : Nat) (365 : Int64)) ∈ lw_all := lw_g (lw_at lw_m2 103 rfl) rfl
theorem q346 : (Jvm.Cond.constantLong "LocalDate" (76 : Nat) (3 : Int64)) ∈ lw_all := lw_g (lw_at lw_m2 104 rfl) rfl
theorem q347 : (Jvm.Cond.constantLong "LocalDate" (78 : Nat) (4 : Int64)) ∈ lw_all := lw_g (lw_at lw_m2 105 rfl) rfl
theorem q348 : (Jvm.Cond.constantLong "LocalDate" (80 : Nat) (99 : Int64)) ∈ lw_all := lw_g (lw_at lw_m2 106 rfl) rfl
theorem q349 : (Jvm.Cond.constantLong "LocalDate" (82 : Nat) (100 : Int64)) ∈ lw_all := lw_g (lw_at lw_m2 107 rfl) rfl
theorem q350 : (Jvm.Cond.constantLong "LocalDate" (84 : Nat) (399 : Int64)) ∈ lw_all := lw_g (lw_at lw_m2 108 rfl) rfl
theorem q351 : (Jvm.Cond.constantLong "LocalDate" (86 : Nat) (400 : Int64)) ∈ lw_all := lw_g (lw_at lw_m2 109 rfl) rfl
theorem q352 : (Jvm.Cond.constantLong "LocalDate" (88 : Nat) (-4 : Int64)) ∈ lw_all := lw_g (lw_at lw_m2 110 rfl) rfl
theorem q353 : (Jvm.Cond.constantLong "LocalDate" (90 : Nat) (-100 : Int64)) ∈ lw_all := lw_g (lw_at lw_m2 111 rfl) rfl
theorem q354 : (Jvm.Cond.constantLong "LocalDate" (92 : Nat) (-400 : Int64)) ∈ lw_all := lw_g (lw_at lw_m2 112 rfl) rfl
theorem q355 : (Jvm.Cond.constantLong "LocalDate" (94 : Nat) (367 : Int64)) ∈ lw_all := lw_g (lw_at lw_m2 113 rfl) rfl
theorem q356 : (Jvm.Cond.constantLong "LocalDate" (96 : Nat) (362 : Int64)) ∈ lw_all := lw_g (lw_at lw_m2 114 rfl) rfl
theorem q357 : (Jvm.Cond.constantLong "LocalDate" (98 : Nat) (12 : Int64)) ∈ lw_all := lw_g (lw_at lw_m2 115 rfl) rfl
theorem q358 : (Jvm.Cond.constantLong "LocalDate" (100 : Nat) (2 : Int64)) ∈ lw_all := lw_g (lw_at lw_m2 116 rfl) rfl
theorem q359 : (Jvm.Cond.methodLink "LocalDate" (102 : Nat) ({ cls := "LocalDate", name := "isLeapYear", desc := "()Z" } : Jvm.MethodName)) ∈ lw_all := lw_g (lw_at lw_m2 117 rfl) rfl
theorem q360 : (Jvm.Cond.instanceMethod ({ cls := "LocalDate", name := "isLeapYear", desc := "()Z" } : Jvm.MethodName)) ∈ lw_all := lw_g (lw_at lw_m2 118 rfl) rfl
theorem q361 : (Jvm.Cond.selects "LocalDate" ({ cls := "LocalDate", name := "isLeapYear", desc := "()Z" } : Jvm.MethodName) ({ cls := "LocalDate", name := "isLeapYear", desc := "()Z" } : Jvm.MethodName)) ∈ lw_all := lw_g (lw_at lw_m2 119 rfl) rfl
theorem q362 : (Jvm.Cond.code ({ cls := "LocalDate", name := "isLeapYear", desc := "()Z" } : Jvm.MethodName) prog_11_method_4_code (1 : Nat) (Option.some Jvm.ClassFile.FieldType.boolean)) ∈ lw_all := lw_g (lw_at lw_m2 120 rfl) rfl
theorem q363 : (Jvm.Cond.constantLong "LocalDate" (105 : Nat) (719528 : Int64)) ∈ lw_all := lw_g (lw_at lw_m2 121 rfl) rfl
theorem in_X11 : ∀ w ∈ wsX110, w ∈ lw_all := lw_in wsX110 [334, 336, 338] (by decide +kernel) (by decide +kernel)
theorem q2 : (Jvm.Cond.initialized "MonthDeskLaw") ∈ lw_all := lw_g (lw_at lw_m1 0 rfl) rfl
set_option maxRecDepth 100000
theorem q20 : (Jvm.Cond.classLink "MonthDeskLaw" (7 : Nat) "MonthDesk") ∈ lw_all := lw_g (lw_at lw_m1 18 rfl) rfl
theorem q22 : (Jvm.Cond.methodLink "MonthDeskLaw" (9 : Nat) ({ cls := "MonthDesk", name := "<init>", desc := "()V" } : Jvm.MethodName)) ∈ lw_all := lw_g (lw_at lw_m1 20 rfl) rfl
theorem q148 : (Jvm.Cond.methodLink "MonthDeskLaw" (13 : Nat) ({ cls := "MonthDesk", name := "set", desc := "(III)V" } : Jvm.MethodName)) ∈ lw_all := lw_g (lw_at lw_m1 146 rfl) rfl
theorem q154 : (Jvm.Cond.methodLink "MonthDeskLaw" (18 : Nat) ({ cls := "MonthDesk", name := "months", desc := "(II)V" } : Jvm.MethodName)) ∈ lw_all := lw_g (lw_at lw_m1 152 rfl) rfl
theorem q191 : (Jvm.Cond.methodLink "MonthDeskLaw" (23 : Nat) ({ cls := "MonthDesk", name := "years", desc := "(II)V" } : Jvm.MethodName)) ∈ lw_all := lw_g (lw_at lw_m1 189 rfl) rfl
theorem q205 : (Jvm.Cond.methodLink "MonthDeskLaw" (27 : Nat) ({ cls := "MonthDesk", name := "withMonth", desc := "(II)V" } : Jvm.MethodName)) ∈ lw_all := lw_g (lw_at lw_m1 203 rfl) rfl
theorem q213 : (Jvm.Cond.methodLink "MonthDeskLaw" (31 : Nat) ({ cls := "MonthDesk", name := "withYear", desc := "(II)V" } : Jvm.MethodName)) ∈ lw_all := lw_g (lw_at lw_m1 211 rfl) rfl
theorem q221 : (Jvm.Cond.methodLink "MonthDeskLaw" (35 : Nat) ({ cls := "MonthDesk", name := "year", desc := "(I)I" } : Jvm.MethodName)) ∈ lw_all := lw_g (lw_at lw_m1 219 rfl) rfl
theorem q225 : (Jvm.Cond.methodLink "MonthDeskLaw" (40 : Nat) ({ cls := "MonthDesk", name := "month", desc := "(I)I" } : Jvm.MethodName)) ∈ lw_all := lw_g (lw_at lw_m1 223 rfl) rfl
theorem q233 : (Jvm.Cond.methodLink "MonthDeskLaw" (44 : Nat) ({ cls := "MonthDesk", name := "length", desc := "(I)I" } : Jvm.MethodName)) ∈ lw_all := lw_g (lw_at lw_m1 231 rfl) rfl
theorem q276 : (Jvm.Cond.methodLink "MonthDeskLaw" (48 : Nat) ({ cls := "MonthDesk", name := "yearLength", desc := "(I)I" } : Jvm.MethodName)) ∈ lw_all := lw_g (lw_at lw_m2 34 rfl) rfl
theorem q284 : (Jvm.Cond.methodLink "MonthDeskLaw" (52 : Nat) ({ cls := "MonthDesk", name := "leap", desc := "(I)Z" } : Jvm.MethodName)) ∈ lw_all := lw_g (lw_at lw_m2 42 rfl) rfl
theorem q289 : (Jvm.Cond.methodLink "MonthDeskLaw" (57 : Nat) ({ cls := "MonthDesk", name := "firstDay", desc := "(I)J" } : Jvm.MethodName)) ∈ lw_all := lw_g (lw_at lw_m2 47 rfl) rfl
theorem q364 : (Jvm.Cond.methodLink "MonthDeskLaw" (62 : Nat) ({ cls := "MonthDesk", name := "lastDay", desc := "(I)J" } : Jvm.MethodName)) ∈ lw_all := lw_g (lw_at lw_m2 122 rfl) rfl
theorem q373 : (Jvm.Cond.methodLink "MonthDeskLaw" (66 : Nat) ({ cls := "MonthDesk", name := "order", desc := "()I" } : Jvm.MethodName)) ∈ lw_all := lw_g (lw_at lw_m2 131 rfl) rfl
theorem q381 : (Jvm.Cond.methodLink "MonthDeskLaw" (71 : Nat) ({ cls := "MonthDesk", name := "keep", desc := "(I)Z" } : Jvm.MethodName)) ∈ lw_all := lw_g (lw_at lw_m2 139 rfl) rfl
theorem q387 : (Jvm.Cond.classLink "MonthDeskLaw" (10 : Nat) "MonthDeskModel") ∈ lw_all := lw_g (lw_at lw_m2 145 rfl) rfl
theorem q389 : (Jvm.Cond.methodLink "MonthDeskLaw" (12 : Nat) ({ cls := "MonthDeskModel", name := "<init>", desc := "()V" } : Jvm.MethodName)) ∈ lw_all := lw_g (lw_at lw_m2 147 rfl) rfl
theorem q401 : (Jvm.Cond.methodLink "MonthDeskLaw" (17 : Nat) ({ cls := "MonthDeskModel", name := "set", desc := "(III)V" } : Jvm.MethodName)) ∈ lw_all := lw_g (lw_at lw_m2 159 rfl) rfl
theorem q410 : (Jvm.Cond.methodLink "MonthDeskLaw" (22 : Nat) ({ cls := "MonthDeskModel", name := "months", desc := "(II)V" } : Jvm.MethodName)) ∈ lw_all := lw_g (lw_at lw_m2 168 rfl) rfl
theorem q433 : (Jvm.Cond.methodLink "MonthDeskLaw" (26 : Nat) ({ cls := "MonthDeskModel", name := "years", desc := "(II)V" } : Jvm.MethodName)) ∈ lw_all := lw_g (lw_at lw_m2 191 rfl) rfl
theorem q439 : (Jvm.Cond.methodLink "MonthDeskLaw" (30 : Nat) ({ cls := "MonthDeskModel", name := "withMonth", desc := "(II)V" } : Jvm.MethodName)) ∈ lw_all := lw_g (lw_at lw_m2 197 rfl) rfl
theorem q443 : (Jvm.Cond.methodLink "MonthDeskLaw" (34 : Nat) ({ cls := "MonthDeskModel", name := "withYear", desc := "(II)V" } : Jvm.MethodName)) ∈ lw_all := lw_g (lw_at lw_m2 201 rfl) rfl
theorem q447 : (Jvm.Cond.methodLink "MonthDeskLaw" (39 : Nat) ({ cls := "MonthDeskModel", name := "year", desc := "(I)I" } : Jvm.MethodName)) ∈ lw_all := lw_g (lw_at lw_m2 205 rfl) rfl
theorem q451 : (Jvm.Cond.methodLink "MonthDeskLaw" (43 : Nat) ({ cls := "MonthDeskModel", name := "month", desc := "(I)I" } : Jvm.MethodName)) ∈ lw_all := lw_g (lw_at lw_m2 209 rfl) rfl
theorem q455 : (Jvm.Cond.methodLink "MonthDeskLaw" (47 : Nat) ({ cls := "MonthDeskModel", name := "length", desc := "(I)I" } : Jvm.MethodName)) ∈ lw_all := lw_g (lw_at lw_m2 213 rfl) rfl
theorem q465 : (Jvm.Cond.methodLink "MonthDeskLaw" (51 : Nat) ({ cls := "MonthDeskModel", name := "yearLength", desc := "(I)I" } : Jvm.MethodName)) ∈ lw_all := lw_g (lw_at lw_m2 223 rfl) rfl
theorem q472 : (Jvm.Cond.methodLink "MonthDeskLaw" (56 : Nat) ({ cls := "MonthDeskModel", name := "leap", desc := "(I)Z" } : Jvm.MethodName)) ∈ lw_all := lw_g (lw_at lw_m2 230 rfl) rfl
theorem q476 : (Jvm.Cond.methodLink "MonthDeskLaw" (61 : Nat) ({ cls := "MonthDeskModel", name := "firstDay", desc := "(I)J" } : Jvm.MethodName)) ∈ lw_all := lw_g (lw_at lw_m2 234 rfl) rfl
theorem q486 : (Jvm.Cond.methodLink "MonthDeskLaw" (65 : Nat) ({ cls := "MonthDeskModel", name := "lastDay", desc := "(I)J" } : Jvm.MethodName)) ∈ lw_all := lw_g (lw_at lw_m3 4 rfl) rfl
theorem q490 : (Jvm.Cond.methodLink "MonthDeskLaw" (70 : Nat) ({ cls := "MonthDeskModel", name := "order", desc := "()I" } : Jvm.MethodName)) ∈ lw_all := lw_g (lw_at lw_m3 8 rfl) rfl
theorem q494 : (Jvm.Cond.methodLink "MonthDeskLaw" (74 : Nat) ({ cls := "MonthDeskModel", name := "keep", desc := "(I)Z" } : Jvm.MethodName)) ∈ lw_all := lw_g (lw_at lw_m3 12 rfl) rfl
theorem q29 : (Jvm.Cond.arrayOver (Jvm.ClassFile.FieldType.object "YearMonth")) ∈ lw_tbl := lw_at lw_m1 27 rfl
set_option maxRecDepth 100000
theorem q125 : (Jvm.Cond.arrayClass Jvm.ClassFile.FieldType.byte) ∈ lw_all := lw_g (lw_at lw_m1 123 rfl) rfl
theorem q400 : (Jvm.Cond.arrayClass Jvm.ClassFile.FieldType.int) ∈ lw_all := lw_g (lw_at lw_m2 158 rfl) rfl
theorem q15 : (Jvm.Cond.initialized "Chronology") ∈ lw_all := lw_g (lw_at lw_m1 13 rfl) rfl
set_option maxRecDepth 100000
end
section
/-! YearMonth -/
set_option maxRecDepth 100000
def RX2 : String := "YearMonth"
def TX2 : u_T := fun k => match k with
  | 0 => ("YearMonth", "year", "I", true)
  | _ => ("YearMonth", "month", "I", true)
def tyX2 : Nat → FieldType := fun k => match k with
  | 0 => .int
  | _ => .int
abbrev wsX20 : List Cond := u_ws RX2 TX2 2
theorem nmX2 : ∀ a, a < 2 → ∀ b, b < 2 → a ≠ b → (TX2 a).2.1 ≠ (TX2 b).2.1 := by decide +kernel
theorem tyX2_ok : ∀ k, k < 2 → parseFieldDescriptor (TX2 k).2.2.1 = some (tyX2 k) := by decide +kernel
abbrev cX2_of : ByteArray := prog_20_method_1_code
def yX2_of : MethodName := ⟨RX2, "of", "(II)LYearMonth;"⟩
def dkwX2_of_1 : List UInt8 := [183, 0, 16, 176]
abbrev dktX2_of_1 : List UInt8 := dkwX2_of_1 ++ []
def dkwX2_of_0 : List UInt8 := [178, 0, 1, 26, 133, 182, 0, 7, 88, 178, 0, 11, 27, 133, 182, 0, 7, 88, 187, 0, 14, 89, 26, 27]
abbrev dktX2_of_0 : List UInt8 := dkwX2_of_0 ++ dktX2_of_1
theorem dksX2_of_0 : cX2_of.data.toList.drop 0 = dktX2_of_0 := by decide +kernel
theorem dksX2_of_1 : cX2_of.data.toList.drop 24 = dktX2_of_1 := dk_seg dksX2_of_0 24 rfl rfl
theorem dX2_of_0 : decode cX2_of 0 = .ok (.getstatic 1, 3) := dk_178 0 1 (dk_at dksX2_of_0 0 rfl rfl)
theorem dX2_of_3 : decode cX2_of 3 = .ok (.iload_n 0, 1) := dk_26 (dk_at dksX2_of_0 3 rfl rfl)
theorem dX2_of_4 : decode cX2_of 4 = .ok (.i2l, 1) := dk_133 (dk_at dksX2_of_0 4 rfl rfl)
theorem dX2_of_5 : decode cX2_of 5 = .ok (.invokevirtual 7, 3) := dk_182 0 7 (dk_at dksX2_of_0 5 rfl rfl)
theorem dX2_of_8 : decode cX2_of 8 = .ok (.pop2, 1) := dk_88 (dk_at dksX2_of_0 8 rfl rfl)
theorem dX2_of_9 : decode cX2_of 9 = .ok (.getstatic 11, 3) := dk_178 0 11 (dk_at dksX2_of_0 9 rfl rfl)
theorem dX2_of_12 : decode cX2_of 12 = .ok (.iload_n 1, 1) := dk_27 (dk_at dksX2_of_0 12 rfl rfl)
theorem dX2_of_13 : decode cX2_of 13 = .ok (.i2l, 1) := dk_133 (dk_at dksX2_of_0 13 rfl rfl)
theorem dX2_of_14 : decode cX2_of 14 = .ok (.invokevirtual 7, 3) := dk_182 0 7 (dk_at dksX2_of_0 14 rfl rfl)
theorem dX2_of_17 : decode cX2_of 17 = .ok (.pop2, 1) := dk_88 (dk_at dksX2_of_0 17 rfl rfl)
theorem dX2_of_18 : decode cX2_of 18 = .ok (.new 14, 3) := dk_187 0 14 (dk_at dksX2_of_0 18 rfl rfl)
theorem dX2_of_21 : decode cX2_of 21 = .ok (.dup, 1) := dk_89 (dk_at dksX2_of_0 21 rfl rfl)
theorem dX2_of_22 : decode cX2_of 22 = .ok (.iload_n 0, 1) := dk_26 (dk_at dksX2_of_0 22 rfl rfl)
theorem dX2_of_23 : decode cX2_of 23 = .ok (.iload_n 1, 1) := dk_27 (dk_at dksX2_of_0 23 rfl rfl)
theorem dX2_of_24 : decode cX2_of 24 = .ok (.invokespecial 16, 3) := dk_183 0 16 (dk_at dksX2_of_1 0 rfl rfl)
theorem dX2_of_27 : decode cX2_of 27 = .ok (.areturn, 1) := dk_176 (dk_at dksX2_of_1 3 rfl rfl)
abbrev cX2_init : ByteArray := prog_20_method_2_code
def yX2_init : MethodName := ⟨RX2, "<init>", "(II)V"⟩
def dkwX2_init_0 : List UInt8 := [42, 183, 0, 20, 42, 27, 181, 0, 25, 42, 28, 181, 0, 29, 177]
abbrev dktX2_init_0 : List UInt8 := dkwX2_init_0 ++ []
theorem dksX2_init_0 : cX2_init.data.toList.drop 0 = dktX2_init_0 := by decide +kernel
theorem dX2_init_0 : decode cX2_init 0 = .ok (.aload_n 0, 1) := dk_42 (dk_at dksX2_init_0 0 rfl rfl)
theorem dX2_init_1 : decode cX2_init 1 = .ok (.invokespecial 20, 3) := dk_183 0 20 (dk_at dksX2_init_0 1 rfl rfl)
theorem dX2_init_4 : decode cX2_init 4 = .ok (.aload_n 0, 1) := dk_42 (dk_at dksX2_init_0 4 rfl rfl)
theorem dX2_init_5 : decode cX2_init 5 = .ok (.iload_n 1, 1) := dk_27 (dk_at dksX2_init_0 5 rfl rfl)
theorem dX2_init_6 : decode cX2_init 6 = .ok (.putfield 25, 3) := dk_181 0 25 (dk_at dksX2_init_0 6 rfl rfl)
theorem dX2_init_9 : decode cX2_init 9 = .ok (.aload_n 0, 1) := dk_42 (dk_at dksX2_init_0 9 rfl rfl)
theorem dX2_init_10 : decode cX2_init 10 = .ok (.iload_n 2, 1) := dk_28 (dk_at dksX2_init_0 10 rfl rfl)
theorem dX2_init_11 : decode cX2_init 11 = .ok (.putfield 29, 3) := dk_181 0 29 (dk_at dksX2_init_0 11 rfl rfl)
theorem dX2_init_14 : decode cX2_init 14 = .ok (.return_, 1) := dk_177 (dk_at dksX2_init_0 14 rfl rfl)
abbrev cX2_plusMonths : ByteArray := prog_20_method_13_code
def yX2_plusMonths : MethodName := ⟨RX2, "plusMonths", "(J)LYearMonth;"⟩
def dkwX2_plusMonths_2 : List UInt8 := [22, 5, 16, 12, 184, 0, 75, 4, 96, 54, 8, 42, 21, 7, 21, 8, 182, 0, 59, 176]
abbrev dktX2_plusMonths_2 : List UInt8 := dkwX2_plusMonths_2 ++ []
def dkwX2_plusMonths_1 : List UInt8 := [97, 66, 33, 31, 97, 55, 5, 178, 0, 1, 22, 5, 20, 0, 67, 184, 0, 69, 182, 0, 63, 54, 7]
abbrev dktX2_plusMonths_1 : List UInt8 := dkwX2_plusMonths_1 ++ dktX2_plusMonths_2
def dkwX2_plusMonths_0 : List UInt8 := [31, 9, 148, 154, 0, 5, 42, 176, 42, 180, 0, 25, 133, 20, 0, 67, 105, 42, 180, 0, 29, 4, 100, 133]
abbrev dktX2_plusMonths_0 : List UInt8 := dkwX2_plusMonths_0 ++ dktX2_plusMonths_1
theorem dksX2_plusMonths_0 : cX2_plusMonths.data.toList.drop 0 = dktX2_plusMonths_0 := by decide +kernel
theorem dksX2_plusMonths_1 : cX2_plusMonths.data.toList.drop 24 = dktX2_plusMonths_1 := dk_seg dksX2_plusMonths_0 24 rfl rfl
theorem dksX2_plusMonths_2 : cX2_plusMonths.data.toList.drop 47 = dktX2_plusMonths_2 := dk_seg dksX2_plusMonths_1 23 rfl rfl
theorem dX2_plusMonths_0 : decode cX2_plusMonths 0 = .ok (.lload_n 1, 1) := dk_31 (dk_at dksX2_plusMonths_0 0 rfl rfl)
theorem dX2_plusMonths_1 : decode cX2_plusMonths 1 = .ok (.lconst 0, 1) := dk_9 (dk_at dksX2_plusMonths_0 1 rfl rfl)
theorem dX2_plusMonths_2 : decode cX2_plusMonths 2 = .ok (.lcmp, 1) := dk_148 (dk_at dksX2_plusMonths_0 2 rfl rfl)
theorem dX2_plusMonths_3 : decode cX2_plusMonths 3 = .ok (.ifCond .ne 5, 3) := dk_154 0 5 (dk_at dksX2_plusMonths_0 3 rfl rfl)
theorem dX2_plusMonths_6 : decode cX2_plusMonths 6 = .ok (.aload_n 0, 1) := dk_42 (dk_at dksX2_plusMonths_0 6 rfl rfl)
theorem dX2_plusMonths_7 : decode cX2_plusMonths 7 = .ok (.areturn, 1) := dk_176 (dk_at dksX2_plusMonths_0 7 rfl rfl)
theorem dX2_plusMonths_8 : decode cX2_plusMonths 8 = .ok (.aload_n 0, 1) := dk_42 (dk_at dksX2_plusMonths_0 8 rfl rfl)
theorem dX2_plusMonths_9 : decode cX2_plusMonths 9 = .ok (.getfield 25, 3) := dk_180 0 25 (dk_at dksX2_plusMonths_0 9 rfl rfl)
theorem dX2_plusMonths_12 : decode cX2_plusMonths 12 = .ok (.i2l, 1) := dk_133 (dk_at dksX2_plusMonths_0 12 rfl rfl)
theorem dX2_plusMonths_13 : decode cX2_plusMonths 13 = .ok (.ldc2_w 67, 3) := dk_20 0 67 (dk_at dksX2_plusMonths_0 13 rfl rfl)
theorem dX2_plusMonths_16 : decode cX2_plusMonths 16 = .ok (.lmul, 1) := dk_105 (dk_at dksX2_plusMonths_0 16 rfl rfl)
theorem dX2_plusMonths_17 : decode cX2_plusMonths 17 = .ok (.aload_n 0, 1) := dk_42 (dk_at dksX2_plusMonths_0 17 rfl rfl)
theorem dX2_plusMonths_18 : decode cX2_plusMonths 18 = .ok (.getfield 29, 3) := dk_180 0 29 (dk_at dksX2_plusMonths_0 18 rfl rfl)
theorem dX2_plusMonths_21 : decode cX2_plusMonths 21 = .ok (.iconst 1, 1) := dk_4 (dk_at dksX2_plusMonths_0 21 rfl rfl)
theorem dX2_plusMonths_22 : decode cX2_plusMonths 22 = .ok (.isub, 1) := dk_100 (dk_at dksX2_plusMonths_0 22 rfl rfl)
theorem dX2_plusMonths_23 : decode cX2_plusMonths 23 = .ok (.i2l, 1) := dk_133 (dk_at dksX2_plusMonths_0 23 rfl rfl)
theorem dX2_plusMonths_24 : decode cX2_plusMonths 24 = .ok (.ladd, 1) := dk_97 (dk_at dksX2_plusMonths_1 0 rfl rfl)
theorem dX2_plusMonths_25 : decode cX2_plusMonths 25 = .ok (.lstore_n 3, 1) := dk_66 (dk_at dksX2_plusMonths_1 1 rfl rfl)
theorem dX2_plusMonths_26 : decode cX2_plusMonths 26 = .ok (.lload_n 3, 1) := dk_33 (dk_at dksX2_plusMonths_1 2 rfl rfl)
theorem dX2_plusMonths_27 : decode cX2_plusMonths 27 = .ok (.lload_n 1, 1) := dk_31 (dk_at dksX2_plusMonths_1 3 rfl rfl)
theorem dX2_plusMonths_28 : decode cX2_plusMonths 28 = .ok (.ladd, 1) := dk_97 (dk_at dksX2_plusMonths_1 4 rfl rfl)
theorem dX2_plusMonths_29 : decode cX2_plusMonths 29 = .ok (.lstore 5, 2) := dk_55 5 (dk_at dksX2_plusMonths_1 5 rfl rfl)
theorem dX2_plusMonths_31 : decode cX2_plusMonths 31 = .ok (.getstatic 1, 3) := dk_178 0 1 (dk_at dksX2_plusMonths_1 7 rfl rfl)
theorem dX2_plusMonths_34 : decode cX2_plusMonths 34 = .ok (.lload 5, 2) := dk_22 5 (dk_at dksX2_plusMonths_1 10 rfl rfl)
theorem dX2_plusMonths_36 : decode cX2_plusMonths 36 = .ok (.ldc2_w 67, 3) := dk_20 0 67 (dk_at dksX2_plusMonths_1 12 rfl rfl)
theorem dX2_plusMonths_39 : decode cX2_plusMonths 39 = .ok (.invokestatic 69, 3) := dk_184 0 69 (dk_at dksX2_plusMonths_1 15 rfl rfl)
theorem dX2_plusMonths_42 : decode cX2_plusMonths 42 = .ok (.invokevirtual 63, 3) := dk_182 0 63 (dk_at dksX2_plusMonths_1 18 rfl rfl)
theorem dX2_plusMonths_45 : decode cX2_plusMonths 45 = .ok (.istore 7, 2) := dk_54 7 (dk_at dksX2_plusMonths_1 21 rfl rfl)
theorem dX2_plusMonths_47 : decode cX2_plusMonths 47 = .ok (.lload 5, 2) := dk_22 5 (dk_at dksX2_plusMonths_2 0 rfl rfl)
theorem dX2_plusMonths_49 : decode cX2_plusMonths 49 = .ok (.bipush 12, 2) := dk_16 12 (dk_at dksX2_plusMonths_2 2 rfl rfl)
theorem dX2_plusMonths_51 : decode cX2_plusMonths 51 = .ok (.invokestatic 75, 3) := dk_184 0 75 (dk_at dksX2_plusMonths_2 4 rfl rfl)
theorem dX2_plusMonths_54 : decode cX2_plusMonths 54 = .ok (.iconst 1, 1) := dk_4 (dk_at dksX2_plusMonths_2 7 rfl rfl)
theorem dX2_plusMonths_55 : decode cX2_plusMonths 55 = .ok (.iadd, 1) := dk_96 (dk_at dksX2_plusMonths_2 8 rfl rfl)
theorem dX2_plusMonths_56 : decode cX2_plusMonths 56 = .ok (.istore 8, 2) := dk_54 8 (dk_at dksX2_plusMonths_2 9 rfl rfl)
theorem dX2_plusMonths_58 : decode cX2_plusMonths 58 = .ok (.aload_n 0, 1) := dk_42 (dk_at dksX2_plusMonths_2 11 rfl rfl)
theorem dX2_plusMonths_59 : decode cX2_plusMonths 59 = .ok (.iload 7, 2) := dk_21 7 (dk_at dksX2_plusMonths_2 12 rfl rfl)
theorem dX2_plusMonths_61 : decode cX2_plusMonths 61 = .ok (.iload 8, 2) := dk_21 8 (dk_at dksX2_plusMonths_2 14 rfl rfl)
theorem dX2_plusMonths_63 : decode cX2_plusMonths 63 = .ok (.invokevirtual 59, 3) := dk_182 0 59 (dk_at dksX2_plusMonths_2 16 rfl rfl)
theorem dX2_plusMonths_66 : decode cX2_plusMonths 66 = .ok (.areturn, 1) := dk_176 (dk_at dksX2_plusMonths_2 19 rfl rfl)
abbrev cX2_with : ByteArray := prog_20_method_3_code
def yX2_with : MethodName := ⟨RX2, "with", "(II)LYearMonth;"⟩
def dkwX2_with_1 : List UInt8 := [183, 0, 16, 176]
abbrev dktX2_with_1 : List UInt8 := dkwX2_with_1 ++ []
def dkwX2_with_0 : List UInt8 := [42, 180, 0, 25, 27, 160, 0, 13, 42, 180, 0, 29, 28, 160, 0, 5, 42, 176, 187, 0, 14, 89, 27, 28]
abbrev dktX2_with_0 : List UInt8 := dkwX2_with_0 ++ dktX2_with_1
theorem dksX2_with_0 : cX2_with.data.toList.drop 0 = dktX2_with_0 := by decide +kernel
theorem dksX2_with_1 : cX2_with.data.toList.drop 24 = dktX2_with_1 := dk_seg dksX2_with_0 24 rfl rfl
theorem dX2_with_0 : decode cX2_with 0 = .ok (.aload_n 0, 1) := dk_42 (dk_at dksX2_with_0 0 rfl rfl)
theorem dX2_with_1 : decode cX2_with 1 = .ok (.getfield 25, 3) := dk_180 0 25 (dk_at dksX2_with_0 1 rfl rfl)
theorem dX2_with_4 : decode cX2_with 4 = .ok (.iload_n 1, 1) := dk_27 (dk_at dksX2_with_0 4 rfl rfl)
theorem dX2_with_5 : decode cX2_with 5 = .ok (.if_icmp .ne 13, 3) := dk_160 0 13 (dk_at dksX2_with_0 5 rfl rfl)
theorem dX2_with_8 : decode cX2_with 8 = .ok (.aload_n 0, 1) := dk_42 (dk_at dksX2_with_0 8 rfl rfl)
theorem dX2_with_9 : decode cX2_with 9 = .ok (.getfield 29, 3) := dk_180 0 29 (dk_at dksX2_with_0 9 rfl rfl)
theorem dX2_with_12 : decode cX2_with 12 = .ok (.iload_n 2, 1) := dk_28 (dk_at dksX2_with_0 12 rfl rfl)
theorem dX2_with_13 : decode cX2_with 13 = .ok (.if_icmp .ne 5, 3) := dk_160 0 5 (dk_at dksX2_with_0 13 rfl rfl)
theorem dX2_with_16 : decode cX2_with 16 = .ok (.aload_n 0, 1) := dk_42 (dk_at dksX2_with_0 16 rfl rfl)
theorem dX2_with_17 : decode cX2_with 17 = .ok (.areturn, 1) := dk_176 (dk_at dksX2_with_0 17 rfl rfl)
theorem dX2_with_18 : decode cX2_with 18 = .ok (.new 14, 3) := dk_187 0 14 (dk_at dksX2_with_0 18 rfl rfl)
theorem dX2_with_21 : decode cX2_with 21 = .ok (.dup, 1) := dk_89 (dk_at dksX2_with_0 21 rfl rfl)
theorem dX2_with_22 : decode cX2_with 22 = .ok (.iload_n 1, 1) := dk_27 (dk_at dksX2_with_0 22 rfl rfl)
theorem dX2_with_23 : decode cX2_with 23 = .ok (.iload_n 2, 1) := dk_28 (dk_at dksX2_with_0 23 rfl rfl)
theorem dX2_with_24 : decode cX2_with 24 = .ok (.invokespecial 16, 3) := dk_183 0 16 (dk_at dksX2_with_1 0 rfl rfl)
theorem dX2_with_27 : decode cX2_with 27 = .ok (.areturn, 1) := dk_176 (dk_at dksX2_with_1 3 rfl rfl)
abbrev cX2_getYear : ByteArray := prog_20_method_4_code
def yX2_getYear : MethodName := ⟨RX2, "getYear", "()I"⟩
theorem dX2_getYear_0 : decode cX2_getYear 0 = .ok (.aload_n 0, 1) := by decide +kernel
theorem dX2_getYear_1 : decode cX2_getYear 1 = .ok (.getfield 25, 3) := by decide +kernel
theorem dX2_getYear_4 : decode cX2_getYear 4 = .ok (.ireturn, 1) := by decide +kernel
abbrev cX2_plusYears : ByteArray := prog_20_method_12_code
def yX2_plusYears : MethodName := ⟨RX2, "plusYears", "(J)LYearMonth;"⟩
def dkwX2_plusYears_1 : List UInt8 := [42, 180, 0, 29, 182, 0, 59, 176]
abbrev dktX2_plusYears_1 : List UInt8 := dkwX2_plusYears_1 ++ []
def dkwX2_plusYears_0 : List UInt8 := [31, 9, 148, 154, 0, 5, 42, 176, 178, 0, 1, 42, 180, 0, 25, 133, 31, 97, 182, 0, 63, 62, 42, 29]
abbrev dktX2_plusYears_0 : List UInt8 := dkwX2_plusYears_0 ++ dktX2_plusYears_1
theorem dksX2_plusYears_0 : cX2_plusYears.data.toList.drop 0 = dktX2_plusYears_0 := by decide +kernel
theorem dksX2_plusYears_1 : cX2_plusYears.data.toList.drop 24 = dktX2_plusYears_1 := dk_seg dksX2_plusYears_0 24 rfl rfl
theorem dX2_plusYears_0 : decode cX2_plusYears 0 = .ok (.lload_n 1, 1) := dk_31 (dk_at dksX2_plusYears_0 0 rfl rfl)
theorem dX2_plusYears_1 : decode cX2_plusYears 1 = .ok (.lconst 0, 1) := dk_9 (dk_at dksX2_plusYears_0 1 rfl rfl)
theorem dX2_plusYears_2 : decode cX2_plusYears 2 = .ok (.lcmp, 1) := dk_148 (dk_at dksX2_plusYears_0 2 rfl rfl)
theorem dX2_plusYears_3 : decode cX2_plusYears 3 = .ok (.ifCond .ne 5, 3) := dk_154 0 5 (dk_at dksX2_plusYears_0 3 rfl rfl)
theorem dX2_plusYears_6 : decode cX2_plusYears 6 = .ok (.aload_n 0, 1) := dk_42 (dk_at dksX2_plusYears_0 6 rfl rfl)
theorem dX2_plusYears_7 : decode cX2_plusYears 7 = .ok (.areturn, 1) := dk_176 (dk_at dksX2_plusYears_0 7 rfl rfl)
theorem dX2_plusYears_8 : decode cX2_plusYears 8 = .ok (.getstatic 1, 3) := dk_178 0 1 (dk_at dksX2_plusYears_0 8 rfl rfl)
theorem dX2_plusYears_11 : decode cX2_plusYears 11 = .ok (.aload_n 0, 1) := dk_42 (dk_at dksX2_plusYears_0 11 rfl rfl)
theorem dX2_plusYears_12 : decode cX2_plusYears 12 = .ok (.getfield 25, 3) := dk_180 0 25 (dk_at dksX2_plusYears_0 12 rfl rfl)
theorem dX2_plusYears_15 : decode cX2_plusYears 15 = .ok (.i2l, 1) := dk_133 (dk_at dksX2_plusYears_0 15 rfl rfl)
theorem dX2_plusYears_16 : decode cX2_plusYears 16 = .ok (.lload_n 1, 1) := dk_31 (dk_at dksX2_plusYears_0 16 rfl rfl)
theorem dX2_plusYears_17 : decode cX2_plusYears 17 = .ok (.ladd, 1) := dk_97 (dk_at dksX2_plusYears_0 17 rfl rfl)
theorem dX2_plusYears_18 : decode cX2_plusYears 18 = .ok (.invokevirtual 63, 3) := dk_182 0 63 (dk_at dksX2_plusYears_0 18 rfl rfl)
theorem dX2_plusYears_21 : decode cX2_plusYears 21 = .ok (.istore_n 3, 1) := dk_62 (dk_at dksX2_plusYears_0 21 rfl rfl)
theorem dX2_plusYears_22 : decode cX2_plusYears 22 = .ok (.aload_n 0, 1) := dk_42 (dk_at dksX2_plusYears_0 22 rfl rfl)
theorem dX2_plusYears_23 : decode cX2_plusYears 23 = .ok (.iload_n 3, 1) := dk_29 (dk_at dksX2_plusYears_0 23 rfl rfl)
theorem dX2_plusYears_24 : decode cX2_plusYears 24 = .ok (.aload_n 0, 1) := dk_42 (dk_at dksX2_plusYears_1 0 rfl rfl)
theorem dX2_plusYears_25 : decode cX2_plusYears 25 = .ok (.getfield 29, 3) := dk_180 0 29 (dk_at dksX2_plusYears_1 1 rfl rfl)
theorem dX2_plusYears_28 : decode cX2_plusYears 28 = .ok (.invokevirtual 59, 3) := dk_182 0 59 (dk_at dksX2_plusYears_1 4 rfl rfl)
theorem dX2_plusYears_31 : decode cX2_plusYears 31 = .ok (.areturn, 1) := dk_176 (dk_at dksX2_plusYears_1 7 rfl rfl)
abbrev cX2_withMonth : ByteArray := prog_20_method_11_code
def yX2_withMonth : MethodName := ⟨RX2, "withMonth", "(I)LYearMonth;"⟩
def dkwX2_withMonth_0 : List UInt8 := [178, 0, 11, 27, 133, 182, 0, 7, 88, 42, 42, 180, 0, 25, 27, 182, 0, 59, 176]
abbrev dktX2_withMonth_0 : List UInt8 := dkwX2_withMonth_0 ++ []
theorem dksX2_withMonth_0 : cX2_withMonth.data.toList.drop 0 = dktX2_withMonth_0 := by decide +kernel
theorem dX2_withMonth_0 : decode cX2_withMonth 0 = .ok (.getstatic 11, 3) := dk_178 0 11 (dk_at dksX2_withMonth_0 0 rfl rfl)
theorem dX2_withMonth_3 : decode cX2_withMonth 3 = .ok (.iload_n 1, 1) := dk_27 (dk_at dksX2_withMonth_0 3 rfl rfl)
theorem dX2_withMonth_4 : decode cX2_withMonth 4 = .ok (.i2l, 1) := dk_133 (dk_at dksX2_withMonth_0 4 rfl rfl)
theorem dX2_withMonth_5 : decode cX2_withMonth 5 = .ok (.invokevirtual 7, 3) := dk_182 0 7 (dk_at dksX2_withMonth_0 5 rfl rfl)
theorem dX2_withMonth_8 : decode cX2_withMonth 8 = .ok (.pop2, 1) := dk_88 (dk_at dksX2_withMonth_0 8 rfl rfl)
theorem dX2_withMonth_9 : decode cX2_withMonth 9 = .ok (.aload_n 0, 1) := dk_42 (dk_at dksX2_withMonth_0 9 rfl rfl)
theorem dX2_withMonth_10 : decode cX2_withMonth 10 = .ok (.aload_n 0, 1) := dk_42 (dk_at dksX2_withMonth_0 10 rfl rfl)
theorem dX2_withMonth_11 : decode cX2_withMonth 11 = .ok (.getfield 25, 3) := dk_180 0 25 (dk_at dksX2_withMonth_0 11 rfl rfl)
theorem dX2_withMonth_14 : decode cX2_withMonth 14 = .ok (.iload_n 1, 1) := dk_27 (dk_at dksX2_withMonth_0 14 rfl rfl)
theorem dX2_withMonth_15 : decode cX2_withMonth 15 = .ok (.invokevirtual 59, 3) := dk_182 0 59 (dk_at dksX2_withMonth_0 15 rfl rfl)
theorem dX2_withMonth_18 : decode cX2_withMonth 18 = .ok (.areturn, 1) := dk_176 (dk_at dksX2_withMonth_0 18 rfl rfl)
abbrev cX2_withYear : ByteArray := prog_20_method_10_code
def yX2_withYear : MethodName := ⟨RX2, "withYear", "(I)LYearMonth;"⟩
def dkwX2_withYear_0 : List UInt8 := [178, 0, 1, 27, 133, 182, 0, 7, 88, 42, 27, 42, 180, 0, 29, 182, 0, 59, 176]
abbrev dktX2_withYear_0 : List UInt8 := dkwX2_withYear_0 ++ []
theorem dksX2_withYear_0 : cX2_withYear.data.toList.drop 0 = dktX2_withYear_0 := by decide +kernel
theorem dX2_withYear_0 : decode cX2_withYear 0 = .ok (.getstatic 1, 3) := dk_178 0 1 (dk_at dksX2_withYear_0 0 rfl rfl)
theorem dX2_withYear_3 : decode cX2_withYear 3 = .ok (.iload_n 1, 1) := dk_27 (dk_at dksX2_withYear_0 3 rfl rfl)
theorem dX2_withYear_4 : decode cX2_withYear 4 = .ok (.i2l, 1) := dk_133 (dk_at dksX2_withYear_0 4 rfl rfl)
theorem dX2_withYear_5 : decode cX2_withYear 5 = .ok (.invokevirtual 7, 3) := dk_182 0 7 (dk_at dksX2_withYear_0 5 rfl rfl)
theorem dX2_withYear_8 : decode cX2_withYear 8 = .ok (.pop2, 1) := dk_88 (dk_at dksX2_withYear_0 8 rfl rfl)
theorem dX2_withYear_9 : decode cX2_withYear 9 = .ok (.aload_n 0, 1) := dk_42 (dk_at dksX2_withYear_0 9 rfl rfl)
theorem dX2_withYear_10 : decode cX2_withYear 10 = .ok (.iload_n 1, 1) := dk_27 (dk_at dksX2_withYear_0 10 rfl rfl)
theorem dX2_withYear_11 : decode cX2_withYear 11 = .ok (.aload_n 0, 1) := dk_42 (dk_at dksX2_withYear_0 11 rfl rfl)
theorem dX2_withYear_12 : decode cX2_withYear 12 = .ok (.getfield 29, 3) := dk_180 0 29 (dk_at dksX2_withYear_0 12 rfl rfl)
theorem dX2_withYear_15 : decode cX2_withYear 15 = .ok (.invokevirtual 59, 3) := dk_182 0 59 (dk_at dksX2_withYear_0 15 rfl rfl)
theorem dX2_withYear_18 : decode cX2_withYear 18 = .ok (.areturn, 1) := dk_176 (dk_at dksX2_withYear_0 18 rfl rfl)
abbrev cX2_getMonthValue : ByteArray := prog_20_method_5_code
def yX2_getMonthValue : MethodName := ⟨RX2, "getMonthValue", "()I"⟩
theorem dX2_getMonthValue_0 : decode cX2_getMonthValue 0 = .ok (.aload_n 0, 1) := by decide +kernel
theorem dX2_getMonthValue_1 : decode cX2_getMonthValue 1 = .ok (.getfield 29, 3) := by decide +kernel
theorem dX2_getMonthValue_4 : decode cX2_getMonthValue 4 = .ok (.ireturn, 1) := by decide +kernel
abbrev cX2_lengthOfMonth : ByteArray := prog_20_method_8_code
def yX2_lengthOfMonth : MethodName := ⟨RX2, "lengthOfMonth", "()I"⟩
def dkwX2_lengthOfMonth_0 : List UInt8 := [42, 182, 0, 48, 42, 182, 0, 52, 182, 0, 55, 172]
abbrev dktX2_lengthOfMonth_0 : List UInt8 := dkwX2_lengthOfMonth_0 ++ []
theorem dksX2_lengthOfMonth_0 : cX2_lengthOfMonth.data.toList.drop 0 = dktX2_lengthOfMonth_0 := by decide +kernel
theorem dX2_lengthOfMonth_0 : decode cX2_lengthOfMonth 0 = .ok (.aload_n 0, 1) := dk_42 (dk_at dksX2_lengthOfMonth_0 0 rfl rfl)
theorem dX2_lengthOfMonth_1 : decode cX2_lengthOfMonth 1 = .ok (.invokevirtual 48, 3) := dk_182 0 48 (dk_at dksX2_lengthOfMonth_0 1 rfl rfl)
theorem dX2_lengthOfMonth_4 : decode cX2_lengthOfMonth 4 = .ok (.aload_n 0, 1) := dk_42 (dk_at dksX2_lengthOfMonth_0 4 rfl rfl)
theorem dX2_lengthOfMonth_5 : decode cX2_lengthOfMonth 5 = .ok (.invokevirtual 52, 3) := dk_182 0 52 (dk_at dksX2_lengthOfMonth_0 5 rfl rfl)
theorem dX2_lengthOfMonth_8 : decode cX2_lengthOfMonth 8 = .ok (.invokevirtual 55, 3) := dk_182 0 55 (dk_at dksX2_lengthOfMonth_0 8 rfl rfl)
theorem dX2_lengthOfMonth_11 : decode cX2_lengthOfMonth 11 = .ok (.ireturn, 1) := dk_172 (dk_at dksX2_lengthOfMonth_0 11 rfl rfl)
abbrev cX2_getMonth : ByteArray := prog_20_method_6_code
def yX2_getMonth : MethodName := ⟨RX2, "getMonth", "()LMonth;"⟩
def dkwX2_getMonth_0 : List UInt8 := [42, 180, 0, 29, 184, 0, 32, 176]
abbrev dktX2_getMonth_0 : List UInt8 := dkwX2_getMonth_0 ++ []
theorem dksX2_getMonth_0 : cX2_getMonth.data.toList.drop 0 = dktX2_getMonth_0 := by decide +kernel
theorem dX2_getMonth_0 : decode cX2_getMonth 0 = .ok (.aload_n 0, 1) := dk_42 (dk_at dksX2_getMonth_0 0 rfl rfl)
theorem dX2_getMonth_1 : decode cX2_getMonth 1 = .ok (.getfield 29, 3) := dk_180 0 29 (dk_at dksX2_getMonth_0 1 rfl rfl)
theorem dX2_getMonth_4 : decode cX2_getMonth 4 = .ok (.invokestatic 32, 3) := dk_184 0 32 (dk_at dksX2_getMonth_0 4 rfl rfl)
theorem dX2_getMonth_7 : decode cX2_getMonth 7 = .ok (.areturn, 1) := dk_176 (dk_at dksX2_getMonth_0 7 rfl rfl)
abbrev cX2_isLeapYear : ByteArray := prog_20_method_7_code
def yX2_isLeapYear : MethodName := ⟨RX2, "isLeapYear", "()Z"⟩
def dkwX2_isLeapYear_0 : List UInt8 := [178, 0, 38, 42, 180, 0, 25, 133, 182, 0, 44, 172]
abbrev dktX2_isLeapYear_0 : List UInt8 := dkwX2_isLeapYear_0 ++ []
theorem dksX2_isLeapYear_0 : cX2_isLeapYear.data.toList.drop 0 = dktX2_isLeapYear_0 := by decide +kernel
theorem dX2_isLeapYear_0 : decode cX2_isLeapYear 0 = .ok (.getstatic 38, 3) := dk_178 0 38 (dk_at dksX2_isLeapYear_0 0 rfl rfl)
theorem dX2_isLeapYear_3 : decode cX2_isLeapYear 3 = .ok (.aload_n 0, 1) := dk_42 (dk_at dksX2_isLeapYear_0 3 rfl rfl)
theorem dX2_isLeapYear_4 : decode cX2_isLeapYear 4 = .ok (.getfield 25, 3) := dk_180 0 25 (dk_at dksX2_isLeapYear_0 4 rfl rfl)
theorem dX2_isLeapYear_7 : decode cX2_isLeapYear 7 = .ok (.i2l, 1) := dk_133 (dk_at dksX2_isLeapYear_0 7 rfl rfl)
theorem dX2_isLeapYear_8 : decode cX2_isLeapYear 8 = .ok (.invokevirtual 44, 3) := dk_182 0 44 (dk_at dksX2_isLeapYear_0 8 rfl rfl)
theorem dX2_isLeapYear_11 : decode cX2_isLeapYear 11 = .ok (.ireturn, 1) := dk_172 (dk_at dksX2_isLeapYear_0 11 rfl rfl)
abbrev cX2_lengthOfYear : ByteArray := prog_20_method_9_code
def yX2_lengthOfYear : MethodName := ⟨RX2, "lengthOfYear", "()I"⟩
def dkwX2_lengthOfYear_0 : List UInt8 := [42, 182, 0, 52, 153, 0, 9, 17, 1, 110, 167, 0, 6, 17, 1, 109, 172]
abbrev dktX2_lengthOfYear_0 : List UInt8 := dkwX2_lengthOfYear_0 ++ []
theorem dksX2_lengthOfYear_0 : cX2_lengthOfYear.data.toList.drop 0 = dktX2_lengthOfYear_0 := by decide +kernel
theorem dX2_lengthOfYear_0 : decode cX2_lengthOfYear 0 = .ok (.aload_n 0, 1) := dk_42 (dk_at dksX2_lengthOfYear_0 0 rfl rfl)
theorem dX2_lengthOfYear_1 : decode cX2_lengthOfYear 1 = .ok (.invokevirtual 52, 3) := dk_182 0 52 (dk_at dksX2_lengthOfYear_0 1 rfl rfl)
theorem dX2_lengthOfYear_4 : decode cX2_lengthOfYear 4 = .ok (.ifCond .eq 9, 3) := dk_153 0 9 (dk_at dksX2_lengthOfYear_0 4 rfl rfl)
theorem dX2_lengthOfYear_7 : decode cX2_lengthOfYear 7 = .ok (.sipush 366, 3) := dk_17 1 110 (dk_at dksX2_lengthOfYear_0 7 rfl rfl)
theorem dX2_lengthOfYear_10 : decode cX2_lengthOfYear 10 = .ok (.goto 6, 3) := dk_167 0 6 (dk_at dksX2_lengthOfYear_0 10 rfl rfl)
theorem dX2_lengthOfYear_13 : decode cX2_lengthOfYear 13 = .ok (.sipush 365, 3) := dk_17 1 109 (dk_at dksX2_lengthOfYear_0 13 rfl rfl)
theorem dX2_lengthOfYear_16 : decode cX2_lengthOfYear 16 = .ok (.ireturn, 1) := dk_172 (dk_at dksX2_lengthOfYear_0 16 rfl rfl)
abbrev cX2_atDay : ByteArray := prog_20_method_14_code
def yX2_atDay : MethodName := ⟨RX2, "atDay", "(I)LLocalDate;"⟩
def dkwX2_atDay_0 : List UInt8 := [42, 180, 0, 25, 42, 180, 0, 29, 27, 184, 0, 79, 176]
abbrev dktX2_atDay_0 : List UInt8 := dkwX2_atDay_0 ++ []
theorem dksX2_atDay_0 : cX2_atDay.data.toList.drop 0 = dktX2_atDay_0 := by decide +kernel
theorem dX2_atDay_0 : decode cX2_atDay 0 = .ok (.aload_n 0, 1) := dk_42 (dk_at dksX2_atDay_0 0 rfl rfl)
theorem dX2_atDay_1 : decode cX2_atDay 1 = .ok (.getfield 25, 3) := dk_180 0 25 (dk_at dksX2_atDay_0 1 rfl rfl)
theorem dX2_atDay_4 : decode cX2_atDay 4 = .ok (.aload_n 0, 1) := dk_42 (dk_at dksX2_atDay_0 4 rfl rfl)
theorem dX2_atDay_5 : decode cX2_atDay 5 = .ok (.getfield 29, 3) := dk_180 0 29 (dk_at dksX2_atDay_0 5 rfl rfl)
theorem dX2_atDay_8 : decode cX2_atDay 8 = .ok (.iload_n 1, 1) := dk_27 (dk_at dksX2_atDay_0 8 rfl rfl)
theorem dX2_atDay_9 : decode cX2_atDay 9 = .ok (.invokestatic 79, 3) := dk_184 0 79 (dk_at dksX2_atDay_0 9 rfl rfl)
theorem dX2_atDay_12 : decode cX2_atDay 12 = .ok (.areturn, 1) := dk_176 (dk_at dksX2_atDay_0 12 rfl rfl)
abbrev cX2_atEndOfMonth : ByteArray := prog_20_method_15_code
def yX2_atEndOfMonth : MethodName := ⟨RX2, "atEndOfMonth", "()LLocalDate;"⟩
def dkwX2_atEndOfMonth_0 : List UInt8 := [42, 180, 0, 25, 42, 180, 0, 29, 42, 182, 0, 84, 184, 0, 79, 176]
abbrev dktX2_atEndOfMonth_0 : List UInt8 := dkwX2_atEndOfMonth_0 ++ []
theorem dksX2_atEndOfMonth_0 : cX2_atEndOfMonth.data.toList.drop 0 = dktX2_atEndOfMonth_0 := by decide +kernel
theorem dX2_atEndOfMonth_0 : decode cX2_atEndOfMonth 0 = .ok (.aload_n 0, 1) := dk_42 (dk_at dksX2_atEndOfMonth_0 0 rfl rfl)
theorem dX2_atEndOfMonth_1 : decode cX2_atEndOfMonth 1 = .ok (.getfield 25, 3) := dk_180 0 25 (dk_at dksX2_atEndOfMonth_0 1 rfl rfl)
theorem dX2_atEndOfMonth_4 : decode cX2_atEndOfMonth 4 = .ok (.aload_n 0, 1) := dk_42 (dk_at dksX2_atEndOfMonth_0 4 rfl rfl)
theorem dX2_atEndOfMonth_5 : decode cX2_atEndOfMonth 5 = .ok (.getfield 29, 3) := dk_180 0 29 (dk_at dksX2_atEndOfMonth_0 5 rfl rfl)
theorem dX2_atEndOfMonth_8 : decode cX2_atEndOfMonth 8 = .ok (.aload_n 0, 1) := dk_42 (dk_at dksX2_atEndOfMonth_0 8 rfl rfl)
theorem dX2_atEndOfMonth_9 : decode cX2_atEndOfMonth 9 = .ok (.invokevirtual 84, 3) := dk_182 0 84 (dk_at dksX2_atEndOfMonth_0 9 rfl rfl)
theorem dX2_atEndOfMonth_12 : decode cX2_atEndOfMonth 12 = .ok (.invokestatic 79, 3) := dk_184 0 79 (dk_at dksX2_atEndOfMonth_0 12 rfl rfl)
theorem dX2_atEndOfMonth_15 : decode cX2_atEndOfMonth 15 = .ok (.areturn, 1) := dk_176 (dk_at dksX2_atEndOfMonth_0 15 rfl rfl)
abbrev cX2_compareTo : ByteArray := prog_20_method_16_code
def yX2_compareTo : MethodName := ⟨RX2, "compareTo", "(LYearMonth;)I"⟩
def dkwX2_compareTo_1 : List UInt8 := [28, 172]
abbrev dktX2_compareTo_1 : List UInt8 := dkwX2_compareTo_1 ++ []
def dkwX2_compareTo_0 : List UInt8 := [42, 180, 0, 25, 43, 180, 0, 25, 100, 61, 28, 154, 0, 13, 42, 180, 0, 29, 43, 180, 0, 29, 100, 61]
abbrev dktX2_compareTo_0 : List UInt8 := dkwX2_compareTo_0 ++ dktX2_compareTo_1
theorem dksX2_compareTo_0 : cX2_compareTo.data.toList.drop 0 = dktX2_compareTo_0 := by decide +kernel
theorem dksX2_compareTo_1 : cX2_compareTo.data.toList.drop 24 = dktX2_compareTo_1 := dk_seg dksX2_compareTo_0 24 rfl rfl
theorem dX2_compareTo_0 : decode cX2_compareTo 0 = .ok (.aload_n 0, 1) := dk_42 (dk_at dksX2_compareTo_0 0 rfl rfl)
theorem dX2_compareTo_1 : decode cX2_compareTo 1 = .ok (.getfield 25, 3) := dk_180 0 25 (dk_at dksX2_compareTo_0 1 rfl rfl)
theorem dX2_compareTo_4 : decode cX2_compareTo 4 = .ok (.aload_n 1, 1) := dk_43 (dk_at dksX2_compareTo_0 4 rfl rfl)
theorem dX2_compareTo_5 : decode cX2_compareTo 5 = .ok (.getfield 25, 3) := dk_180 0 25 (dk_at dksX2_compareTo_0 5 rfl rfl)
theorem dX2_compareTo_8 : decode cX2_compareTo 8 = .ok (.isub, 1) := dk_100 (dk_at dksX2_compareTo_0 8 rfl rfl)
theorem dX2_compareTo_9 : decode cX2_compareTo 9 = .ok (.istore_n 2, 1) := dk_61 (dk_at dksX2_compareTo_0 9 rfl rfl)
theorem dX2_compareTo_10 : decode cX2_compareTo 10 = .ok (.iload_n 2, 1) := dk_28 (dk_at dksX2_compareTo_0 10 rfl rfl)
theorem dX2_compareTo_11 : decode cX2_compareTo 11 = .ok (.ifCond .ne 13, 3) := dk_154 0 13 (dk_at dksX2_compareTo_0 11 rfl rfl)
theorem dX2_compareTo_14 : decode cX2_compareTo 14 = .ok (.aload_n 0, 1) := dk_42 (dk_at dksX2_compareTo_0 14 rfl rfl)
theorem dX2_compareTo_15 : decode cX2_compareTo 15 = .ok (.getfield 29, 3) := dk_180 0 29 (dk_at dksX2_compareTo_0 15 rfl rfl)
theorem dX2_compareTo_18 : decode cX2_compareTo 18 = .ok (.aload_n 1, 1) := dk_43 (dk_at dksX2_compareTo_0 18 rfl rfl)
theorem dX2_compareTo_19 : decode cX2_compareTo 19 = .ok (.getfield 29, 3) := dk_180 0 29 (dk_at dksX2_compareTo_0 19 rfl rfl)
theorem dX2_compareTo_22 : decode cX2_compareTo 22 = .ok (.isub, 1) := dk_100 (dk_at dksX2_compareTo_0 22 rfl rfl)
theorem dX2_compareTo_23 : decode cX2_compareTo 23 = .ok (.istore_n 2, 1) := dk_61 (dk_at dksX2_compareTo_0 23 rfl rfl)
theorem dX2_compareTo_24 : decode cX2_compareTo 24 = .ok (.iload_n 2, 1) := dk_28 (dk_at dksX2_compareTo_1 0 rfl rfl)
theorem dX2_compareTo_25 : decode cX2_compareTo 25 = .ok (.ireturn, 1) := dk_172 (dk_at dksX2_compareTo_1 1 rfl rfl)
theorem q5 : (Jvm.Cond.initialized "YearMonth") ∈ lw_all := lw_g (lw_at lw_m1 3 rfl) rfl
theorem q31 : (Jvm.Cond.static ({ cls := "YearMonth", name := "of", desc := "(II)LYearMonth;" } : Jvm.MethodName)) ∈ lw_all := lw_g (lw_at lw_m1 29 rfl) rfl
theorem q32 : (Jvm.Cond.code ({ cls := "YearMonth", name := "of", desc := "(II)LYearMonth;" } : Jvm.MethodName) prog_20_method_1_code (2 : Nat) (Option.some (Jvm.ClassFile.FieldType.object "YearMonth"))) ∈ lw_all := lw_g (lw_at lw_m1 30 rfl) rfl
theorem q33 : (Jvm.Cond.fieldLink "YearMonth" (1 : Nat) "ChronoField" "YEAR" "LChronoField;") ∈ lw_all := lw_g (lw_at lw_m1 31 rfl) rfl
theorem q35 : (Jvm.Cond.methodLink "YearMonth" (7 : Nat) ({ cls := "ChronoField", name := "checkValidValue", desc := "(J)J" } : Jvm.MethodName)) ∈ lw_all := lw_g (lw_at lw_m1 33 rfl) rfl
theorem q126 : (Jvm.Cond.fieldLink "YearMonth" (11 : Nat) "ChronoField" "MONTH_OF_YEAR" "LChronoField;") ∈ lw_all := lw_g (lw_at lw_m1 124 rfl) rfl
theorem q128 : (Jvm.Cond.classLink "YearMonth" (14 : Nat) "YearMonth") ∈ lw_all := lw_g (lw_at lw_m1 126 rfl) rfl
theorem q129 : (Jvm.Cond.instantiable "YearMonth" (2 : Nat)) ∈ lw_all := lw_g (lw_at lw_m1 127 rfl) rfl
theorem q130 : (Jvm.Cond.methodLink "YearMonth" (16 : Nat) ({ cls := "YearMonth", name := "<init>", desc := "(II)V" } : Jvm.MethodName)) ∈ lw_all := lw_g (lw_at lw_m1 128 rfl) rfl
theorem q131 : (Jvm.Cond.instanceMethod ({ cls := "YearMonth", name := "<init>", desc := "(II)V" } : Jvm.MethodName)) ∈ lw_all := lw_g (lw_at lw_m1 129 rfl) rfl
theorem q132 : (Jvm.Cond.code ({ cls := "YearMonth", name := "<init>", desc := "(II)V" } : Jvm.MethodName) prog_20_method_2_code (3 : Nat) (Option.none : Option Jvm.ClassFile.FieldType)) ∈ lw_all := lw_g (lw_at lw_m1 130 rfl) rfl
theorem q133 : (Jvm.Cond.methodLink "YearMonth" (20 : Nat) ({ cls := "DefaultInterfaceTemporalAccessor", name := "<init>", desc := "()V" } : Jvm.MethodName)) ∈ lw_all := lw_g (lw_at lw_m1 131 rfl) rfl
theorem q137 : (Jvm.Cond.fieldLink "YearMonth" (25 : Nat) "YearMonth" "year" "I") ∈ lw_all := lw_g (lw_at lw_m1 135 rfl) rfl
theorem q138 : (Jvm.Cond.fieldLink "YearMonth" (29 : Nat) "YearMonth" "month" "I") ∈ lw_all := lw_g (lw_at lw_m1 136 rfl) rfl
theorem q139 : (Jvm.Cond.laysFinal "YearMonth" "YearMonth" "year" "I") ∈ lw_all := lw_g (lw_at lw_m1 137 rfl) rfl
theorem q140 : (Jvm.Cond.soleField "YearMonth" "year") ∈ lw_all := lw_g (lw_at lw_m1 138 rfl) rfl
theorem q141 : (Jvm.Cond.laysFinal "YearMonth" "YearMonth" "month" "I") ∈ lw_all := lw_g (lw_at lw_m1 139 rfl) rfl
theorem q142 : (Jvm.Cond.soleField "YearMonth" "month") ∈ lw_all := lw_g (lw_at lw_m1 140 rfl) rfl
theorem q143 : (Jvm.Cond.superclass "YearMonth" "DefaultInterfaceTemporalAccessor") ∈ lw_all := lw_g (lw_at lw_m1 141 rfl) rfl
theorem q159 : (Jvm.Cond.instanceMethod ({ cls := "YearMonth", name := "plusMonths", desc := "(J)LYearMonth;" } : Jvm.MethodName)) ∈ lw_all := lw_g (lw_at lw_m1 157 rfl) rfl
theorem q160 : (Jvm.Cond.selects "YearMonth" ({ cls := "YearMonth", name := "plusMonths", desc := "(J)LYearMonth;" } : Jvm.MethodName) ({ cls := "YearMonth", name := "plusMonths", desc := "(J)LYearMonth;" } : Jvm.MethodName)) ∈ lw_all := lw_g (lw_at lw_m1 158 rfl) rfl
theorem q161 : (Jvm.Cond.code ({ cls := "YearMonth", name := "plusMonths", desc := "(J)LYearMonth;" } : Jvm.MethodName) prog_20_method_13_code (9 : Nat) (Option.some (Jvm.ClassFile.FieldType.object "YearMonth"))) ∈ lw_all := lw_g (lw_at lw_m1 159 rfl) rfl
theorem q162 : (Jvm.Cond.constantLong "YearMonth" (67 : Nat) (12 : Int64)) ∈ lw_all := lw_g (lw_at lw_m1 160 rfl) rfl
theorem q163 : (Jvm.Cond.methodLink "YearMonth" (69 : Nat) ({ cls := "Jdk8Methods", name := "floorDiv", desc := "(JJ)J" } : Jvm.MethodName)) ∈ lw_all := lw_g (lw_at lw_m1 161 rfl) rfl
theorem q166 : (Jvm.Cond.methodLink "YearMonth" (63 : Nat) ({ cls := "ChronoField", name := "checkValidIntValue", desc := "(J)I" } : Jvm.MethodName)) ∈ lw_all := lw_g (lw_at lw_m1 164 rfl) rfl
theorem q184 : (Jvm.Cond.methodLink "YearMonth" (75 : Nat) ({ cls := "Jdk8Methods", name := "floorMod", desc := "(JI)I" } : Jvm.MethodName)) ∈ lw_all := lw_g (lw_at lw_m1 182 rfl) rfl
theorem q187 : (Jvm.Cond.methodLink "YearMonth" (59 : Nat) ({ cls := "YearMonth", name := "with", desc := "(II)LYearMonth;" } : Jvm.MethodName)) ∈ lw_all := lw_g (lw_at lw_m1 185 rfl) rfl
theorem q188 : (Jvm.Cond.privateMethod ({ cls := "YearMonth", name := "with", desc := "(II)LYearMonth;" } : Jvm.MethodName)) ∈ lw_tbl := lw_at lw_m1 186 rfl
theorem q189 : (Jvm.Cond.instanceMethod ({ cls := "YearMonth", name := "with", desc := "(II)LYearMonth;" } : Jvm.MethodName)) ∈ lw_all := lw_g (lw_at lw_m1 187 rfl) rfl
theorem q190 : (Jvm.Cond.code ({ cls := "YearMonth", name := "with", desc := "(II)LYearMonth;" } : Jvm.MethodName) prog_20_method_3_code (3 : Nat) (Option.some (Jvm.ClassFile.FieldType.object "YearMonth"))) ∈ lw_all := lw_g (lw_at lw_m1 188 rfl) rfl
theorem q196 : (Jvm.Cond.instanceMethod ({ cls := "YearMonth", name := "getYear", desc := "()I" } : Jvm.MethodName)) ∈ lw_all := lw_g (lw_at lw_m1 194 rfl) rfl
theorem q197 : (Jvm.Cond.selects "YearMonth" ({ cls := "YearMonth", name := "getYear", desc := "()I" } : Jvm.MethodName) ({ cls := "YearMonth", name := "getYear", desc := "()I" } : Jvm.MethodName)) ∈ lw_all := lw_g (lw_at lw_m1 195 rfl) rfl
theorem q198 : (Jvm.Cond.code ({ cls := "YearMonth", name := "getYear", desc := "()I" } : Jvm.MethodName) prog_20_method_4_code (1 : Nat) (Option.some Jvm.ClassFile.FieldType.int)) ∈ lw_all := lw_g (lw_at lw_m1 196 rfl) rfl
theorem q202 : (Jvm.Cond.instanceMethod ({ cls := "YearMonth", name := "plusYears", desc := "(J)LYearMonth;" } : Jvm.MethodName)) ∈ lw_all := lw_g (lw_at lw_m1 200 rfl) rfl
theorem q203 : (Jvm.Cond.selects "YearMonth" ({ cls := "YearMonth", name := "plusYears", desc := "(J)LYearMonth;" } : Jvm.MethodName) ({ cls := "YearMonth", name := "plusYears", desc := "(J)LYearMonth;" } : Jvm.MethodName)) ∈ lw_all := lw_g (lw_at lw_m1 201 rfl) rfl
theorem q204 : (Jvm.Cond.code ({ cls := "YearMonth", name := "plusYears", desc := "(J)LYearMonth;" } : Jvm.MethodName) prog_20_method_12_code (4 : Nat) (Option.some (Jvm.ClassFile.FieldType.object "YearMonth"))) ∈ lw_all := lw_g (lw_at lw_m1 202 rfl) rfl
theorem q210 : (Jvm.Cond.instanceMethod ({ cls := "YearMonth", name := "withMonth", desc := "(I)LYearMonth;" } : Jvm.MethodName)) ∈ lw_all := lw_g (lw_at lw_m1 208 rfl) rfl
theorem q211 : (Jvm.Cond.selects "YearMonth" ({ cls := "YearMonth", name := "withMonth", desc := "(I)LYearMonth;" } : Jvm.MethodName) ({ cls := "YearMonth", name := "withMonth", desc := "(I)LYearMonth;" } : Jvm.MethodName)) ∈ lw_all := lw_g (lw_at lw_m1 209 rfl) rfl
theorem q212 : (Jvm.Cond.code ({ cls := "YearMonth", name := "withMonth", desc := "(I)LYearMonth;" } : Jvm.MethodName) prog_20_method_11_code (2 : Nat) (Option.some (Jvm.ClassFile.FieldType.object "YearMonth"))) ∈ lw_all := lw_g (lw_at lw_m1 210 rfl) rfl
theorem q218 : (Jvm.Cond.instanceMethod ({ cls := "YearMonth", name := "withYear", desc := "(I)LYearMonth;" } : Jvm.MethodName)) ∈ lw_all := lw_g (lw_at lw_m1 216 rfl) rfl
theorem q219 : (Jvm.Cond.selects "YearMonth" ({ cls := "YearMonth", name := "withYear", desc := "(I)LYearMonth;" } : Jvm.MethodName) ({ cls := "YearMonth", name := "withYear", desc := "(I)LYearMonth;" } : Jvm.MethodName)) ∈ lw_all := lw_g (lw_at lw_m1 217 rfl) rfl
theorem q220 : (Jvm.Cond.code ({ cls := "YearMonth", name := "withYear", desc := "(I)LYearMonth;" } : Jvm.MethodName) prog_20_method_10_code (2 : Nat) (Option.some (Jvm.ClassFile.FieldType.object "YearMonth"))) ∈ lw_all := lw_g (lw_at lw_m1 218 rfl) rfl
theorem q230 : (Jvm.Cond.instanceMethod ({ cls := "YearMonth", name := "getMonthValue", desc := "()I" } : Jvm.MethodName)) ∈ lw_all := lw_g (lw_at lw_m1 228 rfl) rfl
theorem q231 : (Jvm.Cond.selects "YearMonth" ({ cls := "YearMonth", name := "getMonthValue", desc := "()I" } : Jvm.MethodName) ({ cls := "YearMonth", name := "getMonthValue", desc := "()I" } : Jvm.MethodName)) ∈ lw_all := lw_g (lw_at lw_m1 229 rfl) rfl
theorem q232 : (Jvm.Cond.code ({ cls := "YearMonth", name := "getMonthValue", desc := "()I" } : Jvm.MethodName) prog_20_method_5_code (1 : Nat) (Option.some Jvm.ClassFile.FieldType.int)) ∈ lw_all := lw_g (lw_at lw_m1 230 rfl) rfl
theorem q238 : (Jvm.Cond.instanceMethod ({ cls := "YearMonth", name := "lengthOfMonth", desc := "()I" } : Jvm.MethodName)) ∈ lw_all := lw_g (lw_at lw_m1 236 rfl) rfl
theorem q239 : (Jvm.Cond.selects "YearMonth" ({ cls := "YearMonth", name := "lengthOfMonth", desc := "()I" } : Jvm.MethodName) ({ cls := "YearMonth", name := "lengthOfMonth", desc := "()I" } : Jvm.MethodName)) ∈ lw_all := lw_g (lw_at lw_m1 237 rfl) rfl
theorem q240 : (Jvm.Cond.code ({ cls := "YearMonth", name := "lengthOfMonth", desc := "()I" } : Jvm.MethodName) prog_20_method_8_code (1 : Nat) (Option.some Jvm.ClassFile.FieldType.int)) ∈ lw_all := lw_g (lw_at lw_m1 238 rfl) rfl
theorem q241 : (Jvm.Cond.methodLink "YearMonth" (48 : Nat) ({ cls := "YearMonth", name := "getMonth", desc := "()LMonth;" } : Jvm.MethodName)) ∈ lw_all := lw_g (lw_at lw_m1 239 rfl) rfl
theorem q242 : (Jvm.Cond.instanceMethod ({ cls := "YearMonth", name := "getMonth", desc := "()LMonth;" } : Jvm.MethodName)) ∈ lw_all := lw_g (lw_at lw_m2 0 rfl) rfl
theorem q243 : (Jvm.Cond.selects "YearMonth" ({ cls := "YearMonth", name := "getMonth", desc := "()LMonth;" } : Jvm.MethodName) ({ cls := "YearMonth", name := "getMonth", desc := "()LMonth;" } : Jvm.MethodName)) ∈ lw_all := lw_g (lw_at lw_m2 1 rfl) rfl
theorem q244 : (Jvm.Cond.code ({ cls := "YearMonth", name := "getMonth", desc := "()LMonth;" } : Jvm.MethodName) prog_20_method_6_code (1 : Nat) (Option.some (Jvm.ClassFile.FieldType.object "Month"))) ∈ lw_all := lw_g (lw_at lw_m2 2 rfl) rfl
theorem q245 : (Jvm.Cond.methodLink "YearMonth" (32 : Nat) ({ cls := "Month", name := "of", desc := "(I)LMonth;" } : Jvm.MethodName)) ∈ lw_all := lw_g (lw_at lw_m2 3 rfl) rfl
theorem q253 : (Jvm.Cond.methodLink "YearMonth" (52 : Nat) ({ cls := "YearMonth", name := "isLeapYear", desc := "()Z" } : Jvm.MethodName)) ∈ lw_all := lw_g (lw_at lw_m2 11 rfl) rfl
theorem q254 : (Jvm.Cond.instanceMethod ({ cls := "YearMonth", name := "isLeapYear", desc := "()Z" } : Jvm.MethodName)) ∈ lw_all := lw_g (lw_at lw_m2 12 rfl) rfl
theorem q255 : (Jvm.Cond.selects "YearMonth" ({ cls := "YearMonth", name := "isLeapYear", desc := "()Z" } : Jvm.MethodName) ({ cls := "YearMonth", name := "isLeapYear", desc := "()Z" } : Jvm.MethodName)) ∈ lw_all := lw_g (lw_at lw_m2 13 rfl) rfl
theorem q256 : (Jvm.Cond.code ({ cls := "YearMonth", name := "isLeapYear", desc := "()Z" } : Jvm.MethodName) prog_20_method_7_code (1 : Nat) (Option.some Jvm.ClassFile.FieldType.boolean)) ∈ lw_all := lw_g (lw_at lw_m2 14 rfl) rfl
theorem q257 : (Jvm.Cond.fieldLink "YearMonth" (38 : Nat) "IsoChronology" "INSTANCE" "LIsoChronology;") ∈ lw_all := lw_g (lw_at lw_m2 15 rfl) rfl
theorem q259 : (Jvm.Cond.methodLink "YearMonth" (44 : Nat) ({ cls := "IsoChronology", name := "isLeapYear", desc := "(J)Z" } : Jvm.MethodName)) ∈ lw_all := lw_g (lw_at lw_m2 17 rfl) rfl
theorem q266 : (Jvm.Cond.methodLink "YearMonth" (55 : Nat) ({ cls := "Month", name := "length", desc := "(Z)I" } : Jvm.MethodName)) ∈ lw_all := lw_g (lw_at lw_m2 24 rfl) rfl
theorem q281 : (Jvm.Cond.instanceMethod ({ cls := "YearMonth", name := "lengthOfYear", desc := "()I" } : Jvm.MethodName)) ∈ lw_all := lw_g (lw_at lw_m2 39 rfl) rfl
theorem q282 : (Jvm.Cond.selects "YearMonth" ({ cls := "YearMonth", name := "lengthOfYear", desc := "()I" } : Jvm.MethodName) ({ cls := "YearMonth", name := "lengthOfYear", desc := "()I" } : Jvm.MethodName)) ∈ lw_all := lw_g (lw_at lw_m2 40 rfl) rfl
theorem q283 : (Jvm.Cond.code ({ cls := "YearMonth", name := "lengthOfYear", desc := "()I" } : Jvm.MethodName) prog_20_method_9_code (1 : Nat) (Option.some Jvm.ClassFile.FieldType.int)) ∈ lw_all := lw_g (lw_at lw_m2 41 rfl) rfl
theorem q294 : (Jvm.Cond.instanceMethod ({ cls := "YearMonth", name := "atDay", desc := "(I)LLocalDate;" } : Jvm.MethodName)) ∈ lw_all := lw_g (lw_at lw_m2 52 rfl) rfl
theorem q295 : (Jvm.Cond.selects "YearMonth" ({ cls := "YearMonth", name := "atDay", desc := "(I)LLocalDate;" } : Jvm.MethodName) ({ cls := "YearMonth", name := "atDay", desc := "(I)LLocalDate;" } : Jvm.MethodName)) ∈ lw_all := lw_g (lw_at lw_m2 53 rfl) rfl
theorem q296 : (Jvm.Cond.code ({ cls := "YearMonth", name := "atDay", desc := "(I)LLocalDate;" } : Jvm.MethodName) prog_20_method_14_code (2 : Nat) (Option.some (Jvm.ClassFile.FieldType.object "LocalDate"))) ∈ lw_all := lw_g (lw_at lw_m2 54 rfl) rfl
theorem q297 : (Jvm.Cond.methodLink "YearMonth" (79 : Nat) ({ cls := "LocalDate", name := "of", desc := "(III)LLocalDate;" } : Jvm.MethodName)) ∈ lw_all := lw_g (lw_at lw_m2 55 rfl) rfl
theorem q369 : (Jvm.Cond.instanceMethod ({ cls := "YearMonth", name := "atEndOfMonth", desc := "()LLocalDate;" } : Jvm.MethodName)) ∈ lw_all := lw_g (lw_at lw_m2 127 rfl) rfl
theorem q370 : (Jvm.Cond.selects "YearMonth" ({ cls := "YearMonth", name := "atEndOfMonth", desc := "()LLocalDate;" } : Jvm.MethodName) ({ cls := "YearMonth", name := "atEndOfMonth", desc := "()LLocalDate;" } : Jvm.MethodName)) ∈ lw_all := lw_g (lw_at lw_m2 128 rfl) rfl
theorem q371 : (Jvm.Cond.code ({ cls := "YearMonth", name := "atEndOfMonth", desc := "()LLocalDate;" } : Jvm.MethodName) prog_20_method_15_code (1 : Nat) (Option.some (Jvm.ClassFile.FieldType.object "LocalDate"))) ∈ lw_all := lw_g (lw_at lw_m2 129 rfl) rfl
theorem q372 : (Jvm.Cond.methodLink "YearMonth" (84 : Nat) ({ cls := "YearMonth", name := "lengthOfMonth", desc := "()I" } : Jvm.MethodName)) ∈ lw_all := lw_g (lw_at lw_m2 130 rfl) rfl
theorem q378 : (Jvm.Cond.instanceMethod ({ cls := "YearMonth", name := "compareTo", desc := "(LYearMonth;)I" } : Jvm.MethodName)) ∈ lw_all := lw_g (lw_at lw_m2 136 rfl) rfl
theorem q379 : (Jvm.Cond.selects "YearMonth" ({ cls := "YearMonth", name := "compareTo", desc := "(LYearMonth;)I" } : Jvm.MethodName) ({ cls := "YearMonth", name := "compareTo", desc := "(LYearMonth;)I" } : Jvm.MethodName)) ∈ lw_all := lw_g (lw_at lw_m2 137 rfl) rfl
theorem q380 : (Jvm.Cond.code ({ cls := "YearMonth", name := "compareTo", desc := "(LYearMonth;)I" } : Jvm.MethodName) prog_20_method_16_code (3 : Nat) (Option.some Jvm.ClassFile.FieldType.int)) ∈ lw_all := lw_g (lw_at lw_m2 138 rfl) rfl
theorem in_X2 : ∀ w ∈ wsX20, w ∈ lw_all := lw_in wsX20 [139, 141] (by decide +kernel) (by decide +kernel)
/-! MonthDesk -/
set_option maxRecDepth 100000
def RX0 : String := "MonthDesk"
def TX0 : u_T := fun k => match k with
  | _ => ("MonthDesk", "month", "[LYearMonth;", true)
def tyX0 : Nat → FieldType := fun k => match k with
  | _ => .array (.object "YearMonth")
abbrev wsX00 : List Cond := u_ws RX0 TX0 1
theorem nmX0 : ∀ a, a < 1 → ∀ b, b < 1 → a ≠ b → (TX0 a).2.1 ≠ (TX0 b).2.1 := by decide +kernel
theorem tyX0_ok : ∀ k, k < 1 → parseFieldDescriptor (TX0 k).2.2.1 = some (tyX0 k) := by decide +kernel
abbrev cX0_init : ByteArray := prog_13_method_1_code
def yX0_init : MethodName := ⟨RX0, "<init>", "()V"⟩
def dkwX0_init_1 : List UInt8 := [4, 184, 0, 9, 83, 181, 0, 13, 177]
abbrev dktX0_init_1 : List UInt8 := dkwX0_init_1 ++ []
def dkwX0_init_0 : List UInt8 := [42, 183, 0, 1, 42, 5, 189, 0, 7, 89, 3, 17, 7, 208, 4, 184, 0, 9, 83, 89, 4, 17, 7, 208]
abbrev dktX0_init_0 : List UInt8 := dkwX0_init_0 ++ dktX0_init_1
theorem dksX0_init_0 : cX0_init.data.toList.drop 0 = dktX0_init_0 := by decide +kernel
theorem dksX0_init_1 : cX0_init.data.toList.drop 24 = dktX0_init_1 := dk_seg dksX0_init_0 24 rfl rfl
theorem dX0_init_0 : decode cX0_init 0 = .ok (.aload_n 0, 1) := dk_42 (dk_at dksX0_init_0 0 rfl rfl)
theorem dX0_init_1 : decode cX0_init 1 = .ok (.invokespecial 1, 3) := dk_183 0 1 (dk_at dksX0_init_0 1 rfl rfl)
theorem dX0_init_4 : decode cX0_init 4 = .ok (.aload_n 0, 1) := dk_42 (dk_at dksX0_init_0 4 rfl rfl)
theorem dX0_init_5 : decode cX0_init 5 = .ok (.iconst 2, 1) := dk_5 (dk_at dksX0_init_0 5 rfl rfl)
theorem dX0_init_6 : decode cX0_init 6 = .ok (.anewarray 7, 3) := dk_189 0 7 (dk_at dksX0_init_0 6 rfl rfl)
theorem dX0_init_9 : decode cX0_init 9 = .ok (.dup, 1) := dk_89 (dk_at dksX0_init_0 9 rfl rfl)
theorem dX0_init_10 : decode cX0_init 10 = .ok (.iconst 0, 1) := dk_3 (dk_at dksX0_init_0 10 rfl rfl)
theorem dX0_init_11 : decode cX0_init 11 = .ok (.sipush 2000, 3) := dk_17 7 208 (dk_at dksX0_init_0 11 rfl rfl)
theorem dX0_init_14 : decode cX0_init 14 = .ok (.iconst 1, 1) := dk_4 (dk_at dksX0_init_0 14 rfl rfl)
theorem dX0_init_15 : decode cX0_init 15 = .ok (.invokestatic 9, 3) := dk_184 0 9 (dk_at dksX0_init_0 15 rfl rfl)
theorem dX0_init_18 : decode cX0_init 18 = .ok (.aastore, 1) := dk_83 (dk_at dksX0_init_0 18 rfl rfl)
theorem dX0_init_19 : decode cX0_init 19 = .ok (.dup, 1) := dk_89 (dk_at dksX0_init_0 19 rfl rfl)
theorem dX0_init_20 : decode cX0_init 20 = .ok (.iconst 1, 1) := dk_4 (dk_at dksX0_init_0 20 rfl rfl)
theorem dX0_init_21 : decode cX0_init 21 = .ok (.sipush 2000, 3) := dk_17 7 208 (dk_at dksX0_init_0 21 rfl rfl)
theorem dX0_init_24 : decode cX0_init 24 = .ok (.iconst 1, 1) := dk_4 (dk_at dksX0_init_1 0 rfl rfl)
theorem dX0_init_25 : decode cX0_init 25 = .ok (.invokestatic 9, 3) := dk_184 0 9 (dk_at dksX0_init_1 1 rfl rfl)
theorem dX0_init_28 : decode cX0_init 28 = .ok (.aastore, 1) := dk_83 (dk_at dksX0_init_1 4 rfl rfl)
theorem dX0_init_29 : decode cX0_init 29 = .ok (.putfield 13, 3) := dk_181 0 13 (dk_at dksX0_init_1 5 rfl rfl)
theorem dX0_init_32 : decode cX0_init 32 = .ok (.return_, 1) := dk_177 (dk_at dksX0_init_1 8 rfl rfl)
abbrev cX0_set : ByteArray := prog_13_method_2_code
def yX0_set : MethodName := ⟨RX0, "set", "(III)V"⟩
def dkwX0_set_1 : List UInt8 := [177]
abbrev dktX0_set_1 : List UInt8 := dkwX0_set_1 ++ []
def dkwX0_set_0 : List UInt8 := [42, 180, 0, 13, 27, 4, 126, 28, 18, 19, 112, 4, 29, 18, 20, 126, 16, 12, 112, 96, 184, 0, 9, 83]
abbrev dktX0_set_0 : List UInt8 := dkwX0_set_0 ++ dktX0_set_1
theorem dksX0_set_0 : cX0_set.data.toList.drop 0 = dktX0_set_0 := by decide +kernel
theorem dksX0_set_1 : cX0_set.data.toList.drop 24 = dktX0_set_1 := dk_seg dksX0_set_0 24 rfl rfl
theorem dX0_set_0 : decode cX0_set 0 = .ok (.aload_n 0, 1) := dk_42 (dk_at dksX0_set_0 0 rfl rfl)
theorem dX0_set_1 : decode cX0_set 1 = .ok (.getfield 13, 3) := dk_180 0 13 (dk_at dksX0_set_0 1 rfl rfl)
theorem dX0_set_4 : decode cX0_set 4 = .ok (.iload_n 1, 1) := dk_27 (dk_at dksX0_set_0 4 rfl rfl)
theorem dX0_set_5 : decode cX0_set 5 = .ok (.iconst 1, 1) := dk_4 (dk_at dksX0_set_0 5 rfl rfl)
theorem dX0_set_6 : decode cX0_set 6 = .ok (.iand, 1) := dk_126 (dk_at dksX0_set_0 6 rfl rfl)
theorem dX0_set_7 : decode cX0_set 7 = .ok (.iload_n 2, 1) := dk_28 (dk_at dksX0_set_0 7 rfl rfl)
theorem dX0_set_8 : decode cX0_set 8 = .ok (.ldc 19, 2) := dk_18 19 (dk_at dksX0_set_0 8 rfl rfl)
theorem dX0_set_10 : decode cX0_set 10 = .ok (.irem, 1) := dk_112 (dk_at dksX0_set_0 10 rfl rfl)
theorem dX0_set_11 : decode cX0_set 11 = .ok (.iconst 1, 1) := dk_4 (dk_at dksX0_set_0 11 rfl rfl)
theorem dX0_set_12 : decode cX0_set 12 = .ok (.iload_n 3, 1) := dk_29 (dk_at dksX0_set_0 12 rfl rfl)
theorem dX0_set_13 : decode cX0_set 13 = .ok (.ldc 20, 2) := dk_18 20 (dk_at dksX0_set_0 13 rfl rfl)
theorem dX0_set_15 : decode cX0_set 15 = .ok (.iand, 1) := dk_126 (dk_at dksX0_set_0 15 rfl rfl)
theorem dX0_set_16 : decode cX0_set 16 = .ok (.bipush 12, 2) := dk_16 12 (dk_at dksX0_set_0 16 rfl rfl)
theorem dX0_set_18 : decode cX0_set 18 = .ok (.irem, 1) := dk_112 (dk_at dksX0_set_0 18 rfl rfl)
theorem dX0_set_19 : decode cX0_set 19 = .ok (.iadd, 1) := dk_96 (dk_at dksX0_set_0 19 rfl rfl)
theorem dX0_set_20 : decode cX0_set 20 = .ok (.invokestatic 9, 3) := dk_184 0 9 (dk_at dksX0_set_0 20 rfl rfl)
theorem dX0_set_23 : decode cX0_set 23 = .ok (.aastore, 1) := dk_83 (dk_at dksX0_set_0 23 rfl rfl)
theorem dX0_set_24 : decode cX0_set 24 = .ok (.return_, 1) := dk_177 (dk_at dksX0_set_1 0 rfl rfl)
abbrev cX0_months : ByteArray := prog_13_method_3_code
def yX0_months : MethodName := ⟨RX0, "months", "(II)V"⟩
def dkwX0_months_1 : List UInt8 := [177]
abbrev dktX0_months_1 : List UInt8 := dkwX0_months_1 ++ []
def dkwX0_months_0 : List UInt8 := [42, 180, 0, 13, 27, 4, 126, 42, 180, 0, 13, 27, 4, 126, 50, 28, 18, 19, 112, 133, 182, 0, 21, 83]
abbrev dktX0_months_0 : List UInt8 := dkwX0_months_0 ++ dktX0_months_1
theorem dksX0_months_0 : cX0_months.data.toList.drop 0 = dktX0_months_0 := by decide +kernel
theorem dksX0_months_1 : cX0_months.data.toList.drop 24 = dktX0_months_1 := dk_seg dksX0_months_0 24 rfl rfl
theorem dX0_months_0 : decode cX0_months 0 = .ok (.aload_n 0, 1) := dk_42 (dk_at dksX0_months_0 0 rfl rfl)
theorem dX0_months_1 : decode cX0_months 1 = .ok (.getfield 13, 3) := dk_180 0 13 (dk_at dksX0_months_0 1 rfl rfl)
theorem dX0_months_4 : decode cX0_months 4 = .ok (.iload_n 1, 1) := dk_27 (dk_at dksX0_months_0 4 rfl rfl)
theorem dX0_months_5 : decode cX0_months 5 = .ok (.iconst 1, 1) := dk_4 (dk_at dksX0_months_0 5 rfl rfl)
theorem dX0_months_6 : decode cX0_months 6 = .ok (.iand, 1) := dk_126 (dk_at dksX0_months_0 6 rfl rfl)
theorem dX0_months_7 : decode cX0_months 7 = .ok (.aload_n 0, 1) := dk_42 (dk_at dksX0_months_0 7 rfl rfl)
theorem dX0_months_8 : decode cX0_months 8 = .ok (.getfield 13, 3) := dk_180 0 13 (dk_at dksX0_months_0 8 rfl rfl)
theorem dX0_months_11 : decode cX0_months 11 = .ok (.iload_n 1, 1) := dk_27 (dk_at dksX0_months_0 11 rfl rfl)
theorem dX0_months_12 : decode cX0_months 12 = .ok (.iconst 1, 1) := dk_4 (dk_at dksX0_months_0 12 rfl rfl)
theorem dX0_months_13 : decode cX0_months 13 = .ok (.iand, 1) := dk_126 (dk_at dksX0_months_0 13 rfl rfl)
theorem dX0_months_14 : decode cX0_months 14 = .ok (.aaload, 1) := dk_50 (dk_at dksX0_months_0 14 rfl rfl)
theorem dX0_months_15 : decode cX0_months 15 = .ok (.iload_n 2, 1) := dk_28 (dk_at dksX0_months_0 15 rfl rfl)
theorem dX0_months_16 : decode cX0_months 16 = .ok (.ldc 19, 2) := dk_18 19 (dk_at dksX0_months_0 16 rfl rfl)
theorem dX0_months_18 : decode cX0_months 18 = .ok (.irem, 1) := dk_112 (dk_at dksX0_months_0 18 rfl rfl)
theorem dX0_months_19 : decode cX0_months 19 = .ok (.i2l, 1) := dk_133 (dk_at dksX0_months_0 19 rfl rfl)
theorem dX0_months_20 : decode cX0_months 20 = .ok (.invokevirtual 21, 3) := dk_182 0 21 (dk_at dksX0_months_0 20 rfl rfl)
theorem dX0_months_23 : decode cX0_months 23 = .ok (.aastore, 1) := dk_83 (dk_at dksX0_months_0 23 rfl rfl)
theorem dX0_months_24 : decode cX0_months 24 = .ok (.return_, 1) := dk_177 (dk_at dksX0_months_1 0 rfl rfl)
abbrev cX0_years : ByteArray := prog_13_method_4_code
def yX0_years : MethodName := ⟨RX0, "years", "(II)V"⟩
def dkwX0_years_2 : List UInt8 := [133, 182, 0, 31, 83, 177]
abbrev dktX0_years_2 : List UInt8 := dkwX0_years_2 ++ []
def dkwX0_years_1 : List UInt8 := [18, 30, 162, 0, 27, 42, 180, 0, 13, 27, 4, 126, 42, 180, 0, 13, 27, 4, 126, 50, 28, 18, 19, 112]
abbrev dktX0_years_1 : List UInt8 := dkwX0_years_1 ++ dktX0_years_2
def dkwX0_years_0 : List UInt8 := [42, 180, 0, 13, 27, 4, 126, 50, 182, 0, 25, 28, 18, 19, 112, 96, 62, 29, 18, 29, 164, 0, 33, 29]
abbrev dktX0_years_0 : List UInt8 := dkwX0_years_0 ++ dktX0_years_1
theorem dksX0_years_0 : cX0_years.data.toList.drop 0 = dktX0_years_0 := by decide +kernel
theorem dksX0_years_1 : cX0_years.data.toList.drop 24 = dktX0_years_1 := dk_seg dksX0_years_0 24 rfl rfl
theorem dksX0_years_2 : cX0_years.data.toList.drop 48 = dktX0_years_2 := dk_seg dksX0_years_1 24 rfl rfl
theorem dX0_years_0 : decode cX0_years 0 = .ok (.aload_n 0, 1) := dk_42 (dk_at dksX0_years_0 0 rfl rfl)
theorem dX0_years_1 : decode cX0_years 1 = .ok (.getfield 13, 3) := dk_180 0 13 (dk_at dksX0_years_0 1 rfl rfl)
theorem dX0_years_4 : decode cX0_years 4 = .ok (.iload_n 1, 1) := dk_27 (dk_at dksX0_years_0 4 rfl rfl)
theorem dX0_years_5 : decode cX0_years 5 = .ok (.iconst 1, 1) := dk_4 (dk_at dksX0_years_0 5 rfl rfl)
theorem dX0_years_6 : decode cX0_years 6 = .ok (.iand, 1) := dk_126 (dk_at dksX0_years_0 6 rfl rfl)
theorem dX0_years_7 : decode cX0_years 7 = .ok (.aaload, 1) := dk_50 (dk_at dksX0_years_0 7 rfl rfl)
theorem dX0_years_8 : decode cX0_years 8 = .ok (.invokevirtual 25, 3) := dk_182 0 25 (dk_at dksX0_years_0 8 rfl rfl)
theorem dX0_years_11 : decode cX0_years 11 = .ok (.iload_n 2, 1) := dk_28 (dk_at dksX0_years_0 11 rfl rfl)
theorem dX0_years_12 : decode cX0_years 12 = .ok (.ldc 19, 2) := dk_18 19 (dk_at dksX0_years_0 12 rfl rfl)
theorem dX0_years_14 : decode cX0_years 14 = .ok (.irem, 1) := dk_112 (dk_at dksX0_years_0 14 rfl rfl)
theorem dX0_years_15 : decode cX0_years 15 = .ok (.iadd, 1) := dk_96 (dk_at dksX0_years_0 15 rfl rfl)
theorem dX0_years_16 : decode cX0_years 16 = .ok (.istore_n 3, 1) := dk_62 (dk_at dksX0_years_0 16 rfl rfl)
theorem dX0_years_17 : decode cX0_years 17 = .ok (.iload_n 3, 1) := dk_29 (dk_at dksX0_years_0 17 rfl rfl)
theorem dX0_years_18 : decode cX0_years 18 = .ok (.ldc 29, 2) := dk_18 29 (dk_at dksX0_years_0 18 rfl rfl)
theorem dX0_years_20 : decode cX0_years 20 = .ok (.if_icmp .le 33, 3) := dk_164 0 33 (dk_at dksX0_years_0 20 rfl rfl)
theorem dX0_years_23 : decode cX0_years 23 = .ok (.iload_n 3, 1) := dk_29 (dk_at dksX0_years_0 23 rfl rfl)
theorem dX0_years_24 : decode cX0_years 24 = .ok (.ldc 30, 2) := dk_18 30 (dk_at dksX0_years_1 0 rfl rfl)
theorem dX0_years_26 : decode cX0_years 26 = .ok (.if_icmp .ge 27, 3) := dk_162 0 27 (dk_at dksX0_years_1 2 rfl rfl)
theorem dX0_years_29 : decode cX0_years 29 = .ok (.aload_n 0, 1) := dk_42 (dk_at dksX0_years_1 5 rfl rfl)
theorem dX0_years_30 : decode cX0_years 30 = .ok (.getfield 13, 3) := dk_180 0 13 (dk_at dksX0_years_1 6 rfl rfl)
theorem dX0_years_33 : decode cX0_years 33 = .ok (.iload_n 1, 1) := dk_27 (dk_at dksX0_years_1 9 rfl rfl)
theorem dX0_years_34 : decode cX0_years 34 = .ok (.iconst 1, 1) := dk_4 (dk_at dksX0_years_1 10 rfl rfl)
theorem dX0_years_35 : decode cX0_years 35 = .ok (.iand, 1) := dk_126 (dk_at dksX0_years_1 11 rfl rfl)
theorem dX0_years_36 : decode cX0_years 36 = .ok (.aload_n 0, 1) := dk_42 (dk_at dksX0_years_1 12 rfl rfl)
theorem dX0_years_37 : decode cX0_years 37 = .ok (.getfield 13, 3) := dk_180 0 13 (dk_at dksX0_years_1 13 rfl rfl)
theorem dX0_years_40 : decode cX0_years 40 = .ok (.iload_n 1, 1) := dk_27 (dk_at dksX0_years_1 16 rfl rfl)
theorem dX0_years_41 : decode cX0_years 41 = .ok (.iconst 1, 1) := dk_4 (dk_at dksX0_years_1 17 rfl rfl)
theorem dX0_years_42 : decode cX0_years 42 = .ok (.iand, 1) := dk_126 (dk_at dksX0_years_1 18 rfl rfl)
theorem dX0_years_43 : decode cX0_years 43 = .ok (.aaload, 1) := dk_50 (dk_at dksX0_years_1 19 rfl rfl)
theorem dX0_years_44 : decode cX0_years 44 = .ok (.iload_n 2, 1) := dk_28 (dk_at dksX0_years_1 20 rfl rfl)
theorem dX0_years_45 : decode cX0_years 45 = .ok (.ldc 19, 2) := dk_18 19 (dk_at dksX0_years_1 21 rfl rfl)
theorem dX0_years_47 : decode cX0_years 47 = .ok (.irem, 1) := dk_112 (dk_at dksX0_years_1 23 rfl rfl)
theorem dX0_years_48 : decode cX0_years 48 = .ok (.i2l, 1) := dk_133 (dk_at dksX0_years_2 0 rfl rfl)
theorem dX0_years_49 : decode cX0_years 49 = .ok (.invokevirtual 31, 3) := dk_182 0 31 (dk_at dksX0_years_2 1 rfl rfl)
theorem dX0_years_52 : decode cX0_years 52 = .ok (.aastore, 1) := dk_83 (dk_at dksX0_years_2 4 rfl rfl)
theorem dX0_years_53 : decode cX0_years 53 = .ok (.return_, 1) := dk_177 (dk_at dksX0_years_2 5 rfl rfl)
abbrev cX0_withMonth : ByteArray := prog_13_method_5_code
def yX0_withMonth : MethodName := ⟨RX0, "withMonth", "(II)V"⟩
def dkwX0_withMonth_1 : List UInt8 := [182, 0, 34, 83, 177]
abbrev dktX0_withMonth_1 : List UInt8 := dkwX0_withMonth_1 ++ []
def dkwX0_withMonth_0 : List UInt8 := [42, 180, 0, 13, 27, 4, 126, 42, 180, 0, 13, 27, 4, 126, 50, 4, 28, 18, 20, 126, 16, 12, 112, 96]
abbrev dktX0_withMonth_0 : List UInt8 := dkwX0_withMonth_0 ++ dktX0_withMonth_1
theorem dksX0_withMonth_0 : cX0_withMonth.data.toList.drop 0 = dktX0_withMonth_0 := by decide +kernel
theorem dksX0_withMonth_1 : cX0_withMonth.data.toList.drop 24 = dktX0_withMonth_1 := dk_seg dksX0_withMonth_0 24 rfl rfl
theorem dX0_withMonth_0 : decode cX0_withMonth 0 = .ok (.aload_n 0, 1) := dk_42 (dk_at dksX0_withMonth_0 0 rfl rfl)
theorem dX0_withMonth_1 : decode cX0_withMonth 1 = .ok (.getfield 13, 3) := dk_180 0 13 (dk_at dksX0_withMonth_0 1 rfl rfl)
theorem dX0_withMonth_4 : decode cX0_withMonth 4 = .ok (.iload_n 1, 1) := dk_27 (dk_at dksX0_withMonth_0 4 rfl rfl)
theorem dX0_withMonth_5 : decode cX0_withMonth 5 = .ok (.iconst 1, 1) := dk_4 (dk_at dksX0_withMonth_0 5 rfl rfl)
theorem dX0_withMonth_6 : decode cX0_withMonth 6 = .ok (.iand, 1) := dk_126 (dk_at dksX0_withMonth_0 6 rfl rfl)
theorem dX0_withMonth_7 : decode cX0_withMonth 7 = .ok (.aload_n 0, 1) := dk_42 (dk_at dksX0_withMonth_0 7 rfl rfl)
theorem dX0_withMonth_8 : decode cX0_withMonth 8 = .ok (.getfield 13, 3) := dk_180 0 13 (dk_at dksX0_withMonth_0 8 rfl rfl)
theorem dX0_withMonth_11 : decode cX0_withMonth 11 = .ok (.iload_n 1, 1) := dk_27 (dk_at dksX0_withMonth_0 11 rfl rfl)
theorem dX0_withMonth_12 : decode cX0_withMonth 12 = .ok (.iconst 1, 1) := dk_4 (dk_at dksX0_withMonth_0 12 rfl rfl)
theorem dX0_withMonth_13 : decode cX0_withMonth 13 = .ok (.iand, 1) := dk_126 (dk_at dksX0_withMonth_0 13 rfl rfl)
theorem dX0_withMonth_14 : decode cX0_withMonth 14 = .ok (.aaload, 1) := dk_50 (dk_at dksX0_withMonth_0 14 rfl rfl)
theorem dX0_withMonth_15 : decode cX0_withMonth 15 = .ok (.iconst 1, 1) := dk_4 (dk_at dksX0_withMonth_0 15 rfl rfl)
theorem dX0_withMonth_16 : decode cX0_withMonth 16 = .ok (.iload_n 2, 1) := dk_28 (dk_at dksX0_withMonth_0 16 rfl rfl)
theorem dX0_withMonth_17 : decode cX0_withMonth 17 = .ok (.ldc 20, 2) := dk_18 20 (dk_at dksX0_withMonth_0 17 rfl rfl)
theorem dX0_withMonth_19 : decode cX0_withMonth 19 = .ok (.iand, 1) := dk_126 (dk_at dksX0_withMonth_0 19 rfl rfl)
theorem dX0_withMonth_20 : decode cX0_withMonth 20 = .ok (.bipush 12, 2) := dk_16 12 (dk_at dksX0_withMonth_0 20 rfl rfl)
theorem dX0_withMonth_22 : decode cX0_withMonth 22 = .ok (.irem, 1) := dk_112 (dk_at dksX0_withMonth_0 22 rfl rfl)
theorem dX0_withMonth_23 : decode cX0_withMonth 23 = .ok (.iadd, 1) := dk_96 (dk_at dksX0_withMonth_0 23 rfl rfl)
theorem dX0_withMonth_24 : decode cX0_withMonth 24 = .ok (.invokevirtual 34, 3) := dk_182 0 34 (dk_at dksX0_withMonth_1 0 rfl rfl)
theorem dX0_withMonth_27 : decode cX0_withMonth 27 = .ok (.aastore, 1) := dk_83 (dk_at dksX0_withMonth_1 3 rfl rfl)
theorem dX0_withMonth_28 : decode cX0_withMonth 28 = .ok (.return_, 1) := dk_177 (dk_at dksX0_withMonth_1 4 rfl rfl)
abbrev cX0_withYear : ByteArray := prog_13_method_6_code
def yX0_withYear : MethodName := ⟨RX0, "withYear", "(II)V"⟩
def dkwX0_withYear_0 : List UInt8 := [42, 180, 0, 13, 27, 4, 126, 42, 180, 0, 13, 27, 4, 126, 50, 28, 18, 19, 112, 182, 0, 38, 83, 177]
abbrev dktX0_withYear_0 : List UInt8 := dkwX0_withYear_0 ++ []
theorem dksX0_withYear_0 : cX0_withYear.data.toList.drop 0 = dktX0_withYear_0 := by decide +kernel
theorem dX0_withYear_0 : decode cX0_withYear 0 = .ok (.aload_n 0, 1) := dk_42 (dk_at dksX0_withYear_0 0 rfl rfl)
theorem dX0_withYear_1 : decode cX0_withYear 1 = .ok (.getfield 13, 3) := dk_180 0 13 (dk_at dksX0_withYear_0 1 rfl rfl)
theorem dX0_withYear_4 : decode cX0_withYear 4 = .ok (.iload_n 1, 1) := dk_27 (dk_at dksX0_withYear_0 4 rfl rfl)
theorem dX0_withYear_5 : decode cX0_withYear 5 = .ok (.iconst 1, 1) := dk_4 (dk_at dksX0_withYear_0 5 rfl rfl)
theorem dX0_withYear_6 : decode cX0_withYear 6 = .ok (.iand, 1) := dk_126 (dk_at dksX0_withYear_0 6 rfl rfl)
theorem dX0_withYear_7 : decode cX0_withYear 7 = .ok (.aload_n 0, 1) := dk_42 (dk_at dksX0_withYear_0 7 rfl rfl)
theorem dX0_withYear_8 : decode cX0_withYear 8 = .ok (.getfield 13, 3) := dk_180 0 13 (dk_at dksX0_withYear_0 8 rfl rfl)
theorem dX0_withYear_11 : decode cX0_withYear 11 = .ok (.iload_n 1, 1) := dk_27 (dk_at dksX0_withYear_0 11 rfl rfl)
theorem dX0_withYear_12 : decode cX0_withYear 12 = .ok (.iconst 1, 1) := dk_4 (dk_at dksX0_withYear_0 12 rfl rfl)
theorem dX0_withYear_13 : decode cX0_withYear 13 = .ok (.iand, 1) := dk_126 (dk_at dksX0_withYear_0 13 rfl rfl)
theorem dX0_withYear_14 : decode cX0_withYear 14 = .ok (.aaload, 1) := dk_50 (dk_at dksX0_withYear_0 14 rfl rfl)
theorem dX0_withYear_15 : decode cX0_withYear 15 = .ok (.iload_n 2, 1) := dk_28 (dk_at dksX0_withYear_0 15 rfl rfl)
theorem dX0_withYear_16 : decode cX0_withYear 16 = .ok (.ldc 19, 2) := dk_18 19 (dk_at dksX0_withYear_0 16 rfl rfl)
theorem dX0_withYear_18 : decode cX0_withYear 18 = .ok (.irem, 1) := dk_112 (dk_at dksX0_withYear_0 18 rfl rfl)
theorem dX0_withYear_19 : decode cX0_withYear 19 = .ok (.invokevirtual 38, 3) := dk_182 0 38 (dk_at dksX0_withYear_0 19 rfl rfl)
theorem dX0_withYear_22 : decode cX0_withYear 22 = .ok (.aastore, 1) := dk_83 (dk_at dksX0_withYear_0 22 rfl rfl)
theorem dX0_withYear_23 : decode cX0_withYear 23 = .ok (.return_, 1) := dk_177 (dk_at dksX0_withYear_0 23 rfl rfl)
abbrev cX0_year : ByteArray := prog_13_method_7_code
def yX0_year : MethodName := ⟨RX0, "year", "(I)I"⟩
def dkwX0_year_0 : List UInt8 := [42, 180, 0, 13, 27, 4, 126, 50, 182, 0, 25, 172]
abbrev dktX0_year_0 : List UInt8 := dkwX0_year_0 ++ []
theorem dksX0_year_0 : cX0_year.data.toList.drop 0 = dktX0_year_0 := by decide +kernel
theorem dX0_year_0 : decode cX0_year 0 = .ok (.aload_n 0, 1) := dk_42 (dk_at dksX0_year_0 0 rfl rfl)
theorem dX0_year_1 : decode cX0_year 1 = .ok (.getfield 13, 3) := dk_180 0 13 (dk_at dksX0_year_0 1 rfl rfl)
theorem dX0_year_4 : decode cX0_year 4 = .ok (.iload_n 1, 1) := dk_27 (dk_at dksX0_year_0 4 rfl rfl)
theorem dX0_year_5 : decode cX0_year 5 = .ok (.iconst 1, 1) := dk_4 (dk_at dksX0_year_0 5 rfl rfl)
theorem dX0_year_6 : decode cX0_year 6 = .ok (.iand, 1) := dk_126 (dk_at dksX0_year_0 6 rfl rfl)
theorem dX0_year_7 : decode cX0_year 7 = .ok (.aaload, 1) := dk_50 (dk_at dksX0_year_0 7 rfl rfl)
theorem dX0_year_8 : decode cX0_year 8 = .ok (.invokevirtual 25, 3) := dk_182 0 25 (dk_at dksX0_year_0 8 rfl rfl)
theorem dX0_year_11 : decode cX0_year 11 = .ok (.ireturn, 1) := dk_172 (dk_at dksX0_year_0 11 rfl rfl)
abbrev cX0_month : ByteArray := prog_13_method_8_code
def yX0_month : MethodName := ⟨RX0, "month", "(I)I"⟩
def dkwX0_month_0 : List UInt8 := [42, 180, 0, 13, 27, 4, 126, 50, 182, 0, 41, 172]
abbrev dktX0_month_0 : List UInt8 := dkwX0_month_0 ++ []
theorem dksX0_month_0 : cX0_month.data.toList.drop 0 = dktX0_month_0 := by decide +kernel
theorem dX0_month_0 : decode cX0_month 0 = .ok (.aload_n 0, 1) := dk_42 (dk_at dksX0_month_0 0 rfl rfl)
theorem dX0_month_1 : decode cX0_month 1 = .ok (.getfield 13, 3) := dk_180 0 13 (dk_at dksX0_month_0 1 rfl rfl)
theorem dX0_month_4 : decode cX0_month 4 = .ok (.iload_n 1, 1) := dk_27 (dk_at dksX0_month_0 4 rfl rfl)
theorem dX0_month_5 : decode cX0_month 5 = .ok (.iconst 1, 1) := dk_4 (dk_at dksX0_month_0 5 rfl rfl)
theorem dX0_month_6 : decode cX0_month 6 = .ok (.iand, 1) := dk_126 (dk_at dksX0_month_0 6 rfl rfl)
theorem dX0_month_7 : decode cX0_month 7 = .ok (.aaload, 1) := dk_50 (dk_at dksX0_month_0 7 rfl rfl)
theorem dX0_month_8 : decode cX0_month 8 = .ok (.invokevirtual 41, 3) := dk_182 0 41 (dk_at dksX0_month_0 8 rfl rfl)
theorem dX0_month_11 : decode cX0_month 11 = .ok (.ireturn, 1) := dk_172 (dk_at dksX0_month_0 11 rfl rfl)
abbrev cX0_length : ByteArray := prog_13_method_9_code
def yX0_length : MethodName := ⟨RX0, "length", "(I)I"⟩
def dkwX0_length_0 : List UInt8 := [42, 180, 0, 13, 27, 4, 126, 50, 182, 0, 44, 172]
abbrev dktX0_length_0 : List UInt8 := dkwX0_length_0 ++ []
theorem dksX0_length_0 : cX0_length.data.toList.drop 0 = dktX0_length_0 := by decide +kernel
theorem dX0_length_0 : decode cX0_length 0 = .ok (.aload_n 0, 1) := dk_42 (dk_at dksX0_length_0 0 rfl rfl)
theorem dX0_length_1 : decode cX0_length 1 = .ok (.getfield 13, 3) := dk_180 0 13 (dk_at dksX0_length_0 1 rfl rfl)
theorem dX0_length_4 : decode cX0_length 4 = .ok (.iload_n 1, 1) := dk_27 (dk_at dksX0_length_0 4 rfl rfl)
theorem dX0_length_5 : decode cX0_length 5 = .ok (.iconst 1, 1) := dk_4 (dk_at dksX0_length_0 5 rfl rfl)
theorem dX0_length_6 : decode cX0_length 6 = .ok (.iand, 1) := dk_126 (dk_at dksX0_length_0 6 rfl rfl)
theorem dX0_length_7 : decode cX0_length 7 = .ok (.aaload, 1) := dk_50 (dk_at dksX0_length_0 7 rfl rfl)
theorem dX0_length_8 : decode cX0_length 8 = .ok (.invokevirtual 44, 3) := dk_182 0 44 (dk_at dksX0_length_0 8 rfl rfl)
theorem dX0_length_11 : decode cX0_length 11 = .ok (.ireturn, 1) := dk_172 (dk_at dksX0_length_0 11 rfl rfl)
abbrev cX0_yearLength : ByteArray := prog_13_method_10_code
def yX0_yearLength : MethodName := ⟨RX0, "yearLength", "(I)I"⟩
def dkwX0_yearLength_0 : List UInt8 := [42, 180, 0, 13, 27, 4, 126, 50, 182, 0, 47, 172]
abbrev dktX0_yearLength_0 : List UInt8 := dkwX0_yearLength_0 ++ []
theorem dksX0_yearLength_0 : cX0_yearLength.data.toList.drop 0 = dktX0_yearLength_0 := by decide +kernel
theorem dX0_yearLength_0 : decode cX0_yearLength 0 = .ok (.aload_n 0, 1) := dk_42 (dk_at dksX0_yearLength_0 0 rfl rfl)
theorem dX0_yearLength_1 : decode cX0_yearLength 1 = .ok (.getfield 13, 3) := dk_180 0 13 (dk_at dksX0_yearLength_0 1 rfl rfl)
theorem dX0_yearLength_4 : decode cX0_yearLength 4 = .ok (.iload_n 1, 1) := dk_27 (dk_at dksX0_yearLength_0 4 rfl rfl)
theorem dX0_yearLength_5 : decode cX0_yearLength 5 = .ok (.iconst 1, 1) := dk_4 (dk_at dksX0_yearLength_0 5 rfl rfl)
theorem dX0_yearLength_6 : decode cX0_yearLength 6 = .ok (.iand, 1) := dk_126 (dk_at dksX0_yearLength_0 6 rfl rfl)
theorem dX0_yearLength_7 : decode cX0_yearLength 7 = .ok (.aaload, 1) := dk_50 (dk_at dksX0_yearLength_0 7 rfl rfl)
theorem dX0_yearLength_8 : decode cX0_yearLength 8 = .ok (.invokevirtual 47, 3) := dk_182 0 47 (dk_at dksX0_yearLength_0 8 rfl rfl)
theorem dX0_yearLength_11 : decode cX0_yearLength 11 = .ok (.ireturn, 1) := dk_172 (dk_at dksX0_yearLength_0 11 rfl rfl)
abbrev cX0_leap : ByteArray := prog_13_method_11_code
def yX0_leap : MethodName := ⟨RX0, "leap", "(I)Z"⟩
def dkwX0_leap_0 : List UInt8 := [42, 180, 0, 13, 27, 4, 126, 50, 182, 0, 50, 172]
abbrev dktX0_leap_0 : List UInt8 := dkwX0_leap_0 ++ []
theorem dksX0_leap_0 : cX0_leap.data.toList.drop 0 = dktX0_leap_0 := by decide +kernel
theorem dX0_leap_0 : decode cX0_leap 0 = .ok (.aload_n 0, 1) := dk_42 (dk_at dksX0_leap_0 0 rfl rfl)
theorem dX0_leap_1 : decode cX0_leap 1 = .ok (.getfield 13, 3) := dk_180 0 13 (dk_at dksX0_leap_0 1 rfl rfl)
theorem dX0_leap_4 : decode cX0_leap 4 = .ok (.iload_n 1, 1) := dk_27 (dk_at dksX0_leap_0 4 rfl rfl)
theorem dX0_leap_5 : decode cX0_leap 5 = .ok (.iconst 1, 1) := dk_4 (dk_at dksX0_leap_0 5 rfl rfl)
theorem dX0_leap_6 : decode cX0_leap 6 = .ok (.iand, 1) := dk_126 (dk_at dksX0_leap_0 6 rfl rfl)
theorem dX0_leap_7 : decode cX0_leap 7 = .ok (.aaload, 1) := dk_50 (dk_at dksX0_leap_0 7 rfl rfl)
theorem dX0_leap_8 : decode cX0_leap 8 = .ok (.invokevirtual 50, 3) := dk_182 0 50 (dk_at dksX0_leap_0 8 rfl rfl)
theorem dX0_leap_11 : decode cX0_leap 11 = .ok (.ireturn, 1) := dk_172 (dk_at dksX0_leap_0 11 rfl rfl)
abbrev cX0_firstDay : ByteArray := prog_13_method_12_code
def yX0_firstDay : MethodName := ⟨RX0, "firstDay", "(I)J"⟩
def dkwX0_firstDay_0 : List UInt8 := [42, 180, 0, 13, 27, 4, 126, 50, 4, 182, 0, 54, 182, 0, 58, 173]
abbrev dktX0_firstDay_0 : List UInt8 := dkwX0_firstDay_0 ++ []
theorem dksX0_firstDay_0 : cX0_firstDay.data.toList.drop 0 = dktX0_firstDay_0 := by decide +kernel
theorem dX0_firstDay_0 : decode cX0_firstDay 0 = .ok (.aload_n 0, 1) := dk_42 (dk_at dksX0_firstDay_0 0 rfl rfl)
theorem dX0_firstDay_1 : decode cX0_firstDay 1 = .ok (.getfield 13, 3) := dk_180 0 13 (dk_at dksX0_firstDay_0 1 rfl rfl)
theorem dX0_firstDay_4 : decode cX0_firstDay 4 = .ok (.iload_n 1, 1) := dk_27 (dk_at dksX0_firstDay_0 4 rfl rfl)
theorem dX0_firstDay_5 : decode cX0_firstDay 5 = .ok (.iconst 1, 1) := dk_4 (dk_at dksX0_firstDay_0 5 rfl rfl)
theorem dX0_firstDay_6 : decode cX0_firstDay 6 = .ok (.iand, 1) := dk_126 (dk_at dksX0_firstDay_0 6 rfl rfl)
theorem dX0_firstDay_7 : decode cX0_firstDay 7 = .ok (.aaload, 1) := dk_50 (dk_at dksX0_firstDay_0 7 rfl rfl)
theorem dX0_firstDay_8 : decode cX0_firstDay 8 = .ok (.iconst 1, 1) := dk_4 (dk_at dksX0_firstDay_0 8 rfl rfl)
theorem dX0_firstDay_9 : decode cX0_firstDay 9 = .ok (.invokevirtual 54, 3) := dk_182 0 54 (dk_at dksX0_firstDay_0 9 rfl rfl)
theorem dX0_firstDay_12 : decode cX0_firstDay 12 = .ok (.invokevirtual 58, 3) := dk_182 0 58 (dk_at dksX0_firstDay_0 12 rfl rfl)
theorem dX0_firstDay_15 : decode cX0_firstDay 15 = .ok (.lreturn, 1) := dk_173 (dk_at dksX0_firstDay_0 15 rfl rfl)
abbrev cX0_lastDay : ByteArray := prog_13_method_13_code
def yX0_lastDay : MethodName := ⟨RX0, "lastDay", "(I)J"⟩
def dkwX0_lastDay_0 : List UInt8 := [42, 180, 0, 13, 27, 4, 126, 50, 182, 0, 64, 182, 0, 58, 173]
abbrev dktX0_lastDay_0 : List UInt8 := dkwX0_lastDay_0 ++ []
theorem dksX0_lastDay_0 : cX0_lastDay.data.toList.drop 0 = dktX0_lastDay_0 := by decide +kernel
theorem dX0_lastDay_0 : decode cX0_lastDay 0 = .ok (.aload_n 0, 1) := dk_42 (dk_at dksX0_lastDay_0 0 rfl rfl)
theorem dX0_lastDay_1 : decode cX0_lastDay 1 = .ok (.getfield 13, 3) := dk_180 0 13 (dk_at dksX0_lastDay_0 1 rfl rfl)
theorem dX0_lastDay_4 : decode cX0_lastDay 4 = .ok (.iload_n 1, 1) := dk_27 (dk_at dksX0_lastDay_0 4 rfl rfl)
theorem dX0_lastDay_5 : decode cX0_lastDay 5 = .ok (.iconst 1, 1) := dk_4 (dk_at dksX0_lastDay_0 5 rfl rfl)
theorem dX0_lastDay_6 : decode cX0_lastDay 6 = .ok (.iand, 1) := dk_126 (dk_at dksX0_lastDay_0 6 rfl rfl)
theorem dX0_lastDay_7 : decode cX0_lastDay 7 = .ok (.aaload, 1) := dk_50 (dk_at dksX0_lastDay_0 7 rfl rfl)
theorem dX0_lastDay_8 : decode cX0_lastDay 8 = .ok (.invokevirtual 64, 3) := dk_182 0 64 (dk_at dksX0_lastDay_0 8 rfl rfl)
theorem dX0_lastDay_11 : decode cX0_lastDay 11 = .ok (.invokevirtual 58, 3) := dk_182 0 58 (dk_at dksX0_lastDay_0 11 rfl rfl)
theorem dX0_lastDay_14 : decode cX0_lastDay 14 = .ok (.lreturn, 1) := dk_173 (dk_at dksX0_lastDay_0 14 rfl rfl)
abbrev cX0_order : ByteArray := prog_13_method_14_code
def yX0_order : MethodName := ⟨RX0, "order", "()I"⟩
def dkwX0_order_1 : List UInt8 := [27, 158, 0, 7, 4, 167, 0, 4, 3, 172]
abbrev dktX0_order_1 : List UInt8 := dkwX0_order_1 ++ []
def dkwX0_order_0 : List UInt8 := [42, 180, 0, 13, 3, 50, 42, 180, 0, 13, 4, 50, 182, 0, 68, 60, 27, 156, 0, 7, 2, 167, 0, 12]
abbrev dktX0_order_0 : List UInt8 := dkwX0_order_0 ++ dktX0_order_1
theorem dksX0_order_0 : cX0_order.data.toList.drop 0 = dktX0_order_0 := by decide +kernel
theorem dksX0_order_1 : cX0_order.data.toList.drop 24 = dktX0_order_1 := dk_seg dksX0_order_0 24 rfl rfl
theorem dX0_order_0 : decode cX0_order 0 = .ok (.aload_n 0, 1) := dk_42 (dk_at dksX0_order_0 0 rfl rfl)
theorem dX0_order_1 : decode cX0_order 1 = .ok (.getfield 13, 3) := dk_180 0 13 (dk_at dksX0_order_0 1 rfl rfl)
theorem dX0_order_4 : decode cX0_order 4 = .ok (.iconst 0, 1) := dk_3 (dk_at dksX0_order_0 4 rfl rfl)
theorem dX0_order_5 : decode cX0_order 5 = .ok (.aaload, 1) := dk_50 (dk_at dksX0_order_0 5 rfl rfl)
theorem dX0_order_6 : decode cX0_order 6 = .ok (.aload_n 0, 1) := dk_42 (dk_at dksX0_order_0 6 rfl rfl)
theorem dX0_order_7 : decode cX0_order 7 = .ok (.getfield 13, 3) := dk_180 0 13 (dk_at dksX0_order_0 7 rfl rfl)
theorem dX0_order_10 : decode cX0_order 10 = .ok (.iconst 1, 1) := dk_4 (dk_at dksX0_order_0 10 rfl rfl)
theorem dX0_order_11 : decode cX0_order 11 = .ok (.aaload, 1) := dk_50 (dk_at dksX0_order_0 11 rfl rfl)
theorem dX0_order_12 : decode cX0_order 12 = .ok (.invokevirtual 68, 3) := dk_182 0 68 (dk_at dksX0_order_0 12 rfl rfl)
theorem dX0_order_15 : decode cX0_order 15 = .ok (.istore_n 1, 1) := dk_60 (dk_at dksX0_order_0 15 rfl rfl)
theorem dX0_order_16 : decode cX0_order 16 = .ok (.iload_n 1, 1) := dk_27 (dk_at dksX0_order_0 16 rfl rfl)
theorem dX0_order_17 : decode cX0_order 17 = .ok (.ifCond .ge 7, 3) := dk_156 0 7 (dk_at dksX0_order_0 17 rfl rfl)
theorem dX0_order_20 : decode cX0_order 20 = .ok (.iconst (-1), 1) := dk_2 (dk_at dksX0_order_0 20 rfl rfl)
theorem dX0_order_21 : decode cX0_order 21 = .ok (.goto 12, 3) := dk_167 0 12 (dk_at dksX0_order_0 21 rfl rfl)
theorem dX0_order_24 : decode cX0_order 24 = .ok (.iload_n 1, 1) := dk_27 (dk_at dksX0_order_1 0 rfl rfl)
theorem dX0_order_25 : decode cX0_order 25 = .ok (.ifCond .le 7, 3) := dk_158 0 7 (dk_at dksX0_order_1 1 rfl rfl)
theorem dX0_order_28 : decode cX0_order 28 = .ok (.iconst 1, 1) := dk_4 (dk_at dksX0_order_1 4 rfl rfl)
theorem dX0_order_29 : decode cX0_order 29 = .ok (.goto 4, 3) := dk_167 0 4 (dk_at dksX0_order_1 5 rfl rfl)
theorem dX0_order_32 : decode cX0_order 32 = .ok (.iconst 0, 1) := dk_3 (dk_at dksX0_order_1 8 rfl rfl)
theorem dX0_order_33 : decode cX0_order 33 = .ok (.ireturn, 1) := dk_172 (dk_at dksX0_order_1 9 rfl rfl)
abbrev cX0_keep : ByteArray := prog_13_method_15_code
def yX0_keep : MethodName := ⟨RX0, "keep", "(I)Z"⟩
def dkwX0_keep_1 : List UInt8 := [42, 180, 0, 13, 27, 4, 126, 17, 7, 208, 4, 184, 0, 9, 83, 3, 172, 4, 172]
abbrev dktX0_keep_1 : List UInt8 := dkwX0_keep_1 ++ []
def dkwX0_keep_0 : List UInt8 := [42, 180, 0, 13, 27, 4, 126, 50, 182, 0, 25, 61, 28, 18, 72, 163, 0, 9, 28, 18, 73, 162, 0, 20]
abbrev dktX0_keep_0 : List UInt8 := dkwX0_keep_0 ++ dktX0_keep_1
theorem dksX0_keep_0 : cX0_keep.data.toList.drop 0 = dktX0_keep_0 := by decide +kernel
theorem dksX0_keep_1 : cX0_keep.data.toList.drop 24 = dktX0_keep_1 := dk_seg dksX0_keep_0 24 rfl rfl
theorem dX0_keep_0 : decode cX0_keep 0 = .ok (.aload_n 0, 1) := dk_42 (dk_at dksX0_keep_0 0 rfl rfl)
theorem dX0_keep_1 : decode cX0_keep 1 = .ok (.getfield 13, 3) := dk_180 0 13 (dk_at dksX0_keep_0 1 rfl rfl)
theorem dX0_keep_4 : decode cX0_keep 4 = .ok (.iload_n 1, 1) := dk_27 (dk_at dksX0_keep_0 4 rfl rfl)
theorem dX0_keep_5 : decode cX0_keep 5 = .ok (.iconst 1, 1) := dk_4 (dk_at dksX0_keep_0 5 rfl rfl)
theorem dX0_keep_6 : decode cX0_keep 6 = .ok (.iand, 1) := dk_126 (dk_at dksX0_keep_0 6 rfl rfl)
theorem dX0_keep_7 : decode cX0_keep 7 = .ok (.aaload, 1) := dk_50 (dk_at dksX0_keep_0 7 rfl rfl)
theorem dX0_keep_8 : decode cX0_keep 8 = .ok (.invokevirtual 25, 3) := dk_182 0 25 (dk_at dksX0_keep_0 8 rfl rfl)
theorem dX0_keep_11 : decode cX0_keep 11 = .ok (.istore_n 2, 1) := dk_61 (dk_at dksX0_keep_0 11 rfl rfl)
theorem dX0_keep_12 : decode cX0_keep 12 = .ok (.iload_n 2, 1) := dk_28 (dk_at dksX0_keep_0 12 rfl rfl)
theorem dX0_keep_13 : decode cX0_keep 13 = .ok (.ldc 72, 2) := dk_18 72 (dk_at dksX0_keep_0 13 rfl rfl)
theorem dX0_keep_15 : decode cX0_keep 15 = .ok (.if_icmp .gt 9, 3) := dk_163 0 9 (dk_at dksX0_keep_0 15 rfl rfl)
theorem dX0_keep_18 : decode cX0_keep 18 = .ok (.iload_n 2, 1) := dk_28 (dk_at dksX0_keep_0 18 rfl rfl)
theorem dX0_keep_19 : decode cX0_keep 19 = .ok (.ldc 73, 2) := dk_18 73 (dk_at dksX0_keep_0 19 rfl rfl)
theorem dX0_keep_21 : decode cX0_keep 21 = .ok (.if_icmp .ge 20, 3) := dk_162 0 20 (dk_at dksX0_keep_0 21 rfl rfl)
theorem dX0_keep_24 : decode cX0_keep 24 = .ok (.aload_n 0, 1) := dk_42 (dk_at dksX0_keep_1 0 rfl rfl)
theorem dX0_keep_25 : decode cX0_keep 25 = .ok (.getfield 13, 3) := dk_180 0 13 (dk_at dksX0_keep_1 1 rfl rfl)
theorem dX0_keep_28 : decode cX0_keep 28 = .ok (.iload_n 1, 1) := dk_27 (dk_at dksX0_keep_1 4 rfl rfl)
theorem dX0_keep_29 : decode cX0_keep 29 = .ok (.iconst 1, 1) := dk_4 (dk_at dksX0_keep_1 5 rfl rfl)
theorem dX0_keep_30 : decode cX0_keep 30 = .ok (.iand, 1) := dk_126 (dk_at dksX0_keep_1 6 rfl rfl)
theorem dX0_keep_31 : decode cX0_keep 31 = .ok (.sipush 2000, 3) := dk_17 7 208 (dk_at dksX0_keep_1 7 rfl rfl)
theorem dX0_keep_34 : decode cX0_keep 34 = .ok (.iconst 1, 1) := dk_4 (dk_at dksX0_keep_1 10 rfl rfl)
theorem dX0_keep_35 : decode cX0_keep 35 = .ok (.invokestatic 9, 3) := dk_184 0 9 (dk_at dksX0_keep_1 11 rfl rfl)
theorem dX0_keep_38 : decode cX0_keep 38 = .ok (.aastore, 1) := dk_83 (dk_at dksX0_keep_1 14 rfl rfl)
theorem dX0_keep_39 : decode cX0_keep 39 = .ok (.iconst 0, 1) := dk_3 (dk_at dksX0_keep_1 15 rfl rfl)
theorem dX0_keep_40 : decode cX0_keep 40 = .ok (.ireturn, 1) := dk_172 (dk_at dksX0_keep_1 16 rfl rfl)
theorem dX0_keep_41 : decode cX0_keep 41 = .ok (.iconst 1, 1) := dk_4 (dk_at dksX0_keep_1 17 rfl rfl)
theorem dX0_keep_42 : decode cX0_keep 42 = .ok (.ireturn, 1) := dk_172 (dk_at dksX0_keep_1 18 rfl rfl)
theorem q3 : (Jvm.Cond.initialized "MonthDesk") ∈ lw_all := lw_g (lw_at lw_m1 1 rfl) rfl
theorem q21 : (Jvm.Cond.instantiable "MonthDesk" (1 : Nat)) ∈ lw_all := lw_g (lw_at lw_m1 19 rfl) rfl
theorem q23 : (Jvm.Cond.instanceMethod ({ cls := "MonthDesk", name := "<init>", desc := "()V" } : Jvm.MethodName)) ∈ lw_all := lw_g (lw_at lw_m1 21 rfl) rfl
theorem q24 : (Jvm.Cond.code ({ cls := "MonthDesk", name := "<init>", desc := "()V" } : Jvm.MethodName) prog_13_method_1_code (1 : Nat) (Option.none : Option Jvm.ClassFile.FieldType)) ∈ lw_all := lw_g (lw_at lw_m1 22 rfl) rfl
theorem q25 : (Jvm.Cond.methodLink "MonthDesk" (1 : Nat) ({ cls := "java/lang/Object", name := "<init>", desc := "()V" } : Jvm.MethodName)) ∈ lw_all := lw_g (lw_at lw_m1 23 rfl) rfl
theorem q28 : (Jvm.Cond.classLink "MonthDesk" (7 : Nat) "YearMonth") ∈ lw_all := lw_g (lw_at lw_m1 26 rfl) rfl
theorem q30 : (Jvm.Cond.methodLink "MonthDesk" (9 : Nat) ({ cls := "YearMonth", name := "of", desc := "(II)LYearMonth;" } : Jvm.MethodName)) ∈ lw_all := lw_g (lw_at lw_m1 28 rfl) rfl
theorem q144 : (Jvm.Cond.fieldLink "MonthDesk" (13 : Nat) "MonthDesk" "month" "[LYearMonth;") ∈ lw_all := lw_g (lw_at lw_m1 142 rfl) rfl
theorem q145 : (Jvm.Cond.laysFinal "MonthDesk" "MonthDesk" "month" "[LYearMonth;") ∈ lw_all := lw_g (lw_at lw_m1 143 rfl) rfl
theorem q146 : (Jvm.Cond.soleField "MonthDesk" "month") ∈ lw_all := lw_g (lw_at lw_m1 144 rfl) rfl
theorem q147 : (Jvm.Cond.superclass "MonthDesk" "java/lang/Object") ∈ lw_all := lw_g (lw_at lw_m1 145 rfl) rfl
theorem q149 : (Jvm.Cond.instanceMethod ({ cls := "MonthDesk", name := "set", desc := "(III)V" } : Jvm.MethodName)) ∈ lw_all := lw_g (lw_at lw_m1 147 rfl) rfl
theorem q150 : (Jvm.Cond.selects "MonthDesk" ({ cls := "MonthDesk", name := "set", desc := "(III)V" } : Jvm.MethodName) ({ cls := "MonthDesk", name := "set", desc := "(III)V" } : Jvm.MethodName)) ∈ lw_all := lw_g (lw_at lw_m1 148 rfl) rfl
theorem q151 : (Jvm.Cond.code ({ cls := "MonthDesk", name := "set", desc := "(III)V" } : Jvm.MethodName) prog_13_method_2_code (4 : Nat) (Option.none : Option Jvm.ClassFile.FieldType)) ∈ lw_all := lw_g (lw_at lw_m1 149 rfl) rfl
theorem q152 : (Jvm.Cond.constant "MonthDesk" (19 : Nat) (1000000 : Int32)) ∈ lw_all := lw_g (lw_at lw_m1 150 rfl) rfl
theorem q153 : (Jvm.Cond.constant "MonthDesk" (20 : Nat) (2147483647 : Int32)) ∈ lw_all := lw_g (lw_at lw_m1 151 rfl) rfl
theorem q155 : (Jvm.Cond.instanceMethod ({ cls := "MonthDesk", name := "months", desc := "(II)V" } : Jvm.MethodName)) ∈ lw_all := lw_g (lw_at lw_m1 153 rfl) rfl
theorem q156 : (Jvm.Cond.selects "MonthDesk" ({ cls := "MonthDesk", name := "months", desc := "(II)V" } : Jvm.MethodName) ({ cls := "MonthDesk", name := "months", desc := "(II)V" } : Jvm.MethodName)) ∈ lw_all := lw_g (lw_at lw_m1 154 rfl) rfl
theorem q157 : (Jvm.Cond.code ({ cls := "MonthDesk", name := "months", desc := "(II)V" } : Jvm.MethodName) prog_13_method_3_code (3 : Nat) (Option.none : Option Jvm.ClassFile.FieldType)) ∈ lw_all := lw_g (lw_at lw_m1 155 rfl) rfl
theorem q158 : (Jvm.Cond.methodLink "MonthDesk" (21 : Nat) ({ cls := "YearMonth", name := "plusMonths", desc := "(J)LYearMonth;" } : Jvm.MethodName)) ∈ lw_all := lw_g (lw_at lw_m1 156 rfl) rfl
theorem q192 : (Jvm.Cond.instanceMethod ({ cls := "MonthDesk", name := "years", desc := "(II)V" } : Jvm.MethodName)) ∈ lw_all := lw_g (lw_at lw_m1 190 rfl) rfl
theorem q193 : (Jvm.Cond.selects "MonthDesk" ({ cls := "MonthDesk", name := "years", desc := "(II)V" } : Jvm.MethodName) ({ cls := "MonthDesk", name := "years", desc := "(II)V" } : Jvm.MethodName)) ∈ lw_all := lw_g (lw_at lw_m1 191 rfl) rfl
theorem q194 : (Jvm.Cond.code ({ cls := "MonthDesk", name := "years", desc := "(II)V" } : Jvm.MethodName) prog_13_method_4_code (4 : Nat) (Option.none : Option Jvm.ClassFile.FieldType)) ∈ lw_all := lw_g (lw_at lw_m1 192 rfl) rfl
theorem q195 : (Jvm.Cond.methodLink "MonthDesk" (25 : Nat) ({ cls := "YearMonth", name := "getYear", desc := "()I" } : Jvm.MethodName)) ∈ lw_all := lw_g (lw_at lw_m1 193 rfl) rfl
theorem q199 : (Jvm.Cond.constant "MonthDesk" (29 : Nat) (-999999 : Int32)) ∈ lw_all := lw_g (lw_at lw_m1 197 rfl) rfl
theorem q200 : (Jvm.Cond.constant "MonthDesk" (30 : Nat) (999999 : Int32)) ∈ lw_all := lw_g (lw_at lw_m1 198 rfl) rfl
theorem q201 : (Jvm.Cond.methodLink "MonthDesk" (31 : Nat) ({ cls := "YearMonth", name := "plusYears", desc := "(J)LYearMonth;" } : Jvm.MethodName)) ∈ lw_all := lw_g (lw_at lw_m1 199 rfl) rfl
theorem q206 : (Jvm.Cond.instanceMethod ({ cls := "MonthDesk", name := "withMonth", desc := "(II)V" } : Jvm.MethodName)) ∈ lw_all := lw_g (lw_at lw_m1 204 rfl) rfl
theorem q207 : (Jvm.Cond.selects "MonthDesk" ({ cls := "MonthDesk", name := "withMonth", desc := "(II)V" } : Jvm.MethodName) ({ cls := "MonthDesk", name := "withMonth", desc := "(II)V" } : Jvm.MethodName)) ∈ lw_all := lw_g (lw_at lw_m1 205 rfl) rfl
theorem q208 : (Jvm.Cond.code ({ cls := "MonthDesk", name := "withMonth", desc := "(II)V" } : Jvm.MethodName) prog_13_method_5_code (3 : Nat) (Option.none : Option Jvm.ClassFile.FieldType)) ∈ lw_all := lw_g (lw_at lw_m1 206 rfl) rfl
theorem q209 : (Jvm.Cond.methodLink "MonthDesk" (34 : Nat) ({ cls := "YearMonth", name := "withMonth", desc := "(I)LYearMonth;" } : Jvm.MethodName)) ∈ lw_all := lw_g (lw_at lw_m1 207 rfl) rfl
theorem q214 : (Jvm.Cond.instanceMethod ({ cls := "MonthDesk", name := "withYear", desc := "(II)V" } : Jvm.MethodName)) ∈ lw_all := lw_g (lw_at lw_m1 212 rfl) rfl
theorem q215 : (Jvm.Cond.selects "MonthDesk" ({ cls := "MonthDesk", name := "withYear", desc := "(II)V" } : Jvm.MethodName) ({ cls := "MonthDesk", name := "withYear", desc := "(II)V" } : Jvm.MethodName)) ∈ lw_all := lw_g (lw_at lw_m1 213 rfl) rfl
theorem q216 : (Jvm.Cond.code ({ cls := "MonthDesk", name := "withYear", desc := "(II)V" } : Jvm.MethodName) prog_13_method_6_code (3 : Nat) (Option.none : Option Jvm.ClassFile.FieldType)) ∈ lw_all := lw_g (lw_at lw_m1 214 rfl) rfl
theorem q217 : (Jvm.Cond.methodLink "MonthDesk" (38 : Nat) ({ cls := "YearMonth", name := "withYear", desc := "(I)LYearMonth;" } : Jvm.MethodName)) ∈ lw_all := lw_g (lw_at lw_m1 215 rfl) rfl
theorem q222 : (Jvm.Cond.instanceMethod ({ cls := "MonthDesk", name := "year", desc := "(I)I" } : Jvm.MethodName)) ∈ lw_all := lw_g (lw_at lw_m1 220 rfl) rfl
theorem q223 : (Jvm.Cond.selects "MonthDesk" ({ cls := "MonthDesk", name := "year", desc := "(I)I" } : Jvm.MethodName) ({ cls := "MonthDesk", name := "year", desc := "(I)I" } : Jvm.MethodName)) ∈ lw_all := lw_g (lw_at lw_m1 221 rfl) rfl
theorem q224 : (Jvm.Cond.code ({ cls := "MonthDesk", name := "year", desc := "(I)I" } : Jvm.MethodName) prog_13_method_7_code (2 : Nat) (Option.some Jvm.ClassFile.FieldType.int)) ∈ lw_all := lw_g (lw_at lw_m1 222 rfl) rfl
theorem q226 : (Jvm.Cond.instanceMethod ({ cls := "MonthDesk", name := "month", desc := "(I)I" } : Jvm.MethodName)) ∈ lw_all := lw_g (lw_at lw_m1 224 rfl) rfl
theorem q227 : (Jvm.Cond.selects "MonthDesk" ({ cls := "MonthDesk", name := "month", desc := "(I)I" } : Jvm.MethodName) ({ cls := "MonthDesk", name := "month", desc := "(I)I" } : Jvm.MethodName)) ∈ lw_all := lw_g (lw_at lw_m1 225 rfl) rfl
theorem q228 : (Jvm.Cond.code ({ cls := "MonthDesk", name := "month", desc := "(I)I" } : Jvm.MethodName) prog_13_method_8_code (2 : Nat) (Option.some Jvm.ClassFile.FieldType.int)) ∈ lw_all := lw_g (lw_at lw_m1 226 rfl) rfl
theorem q229 : (Jvm.Cond.methodLink "MonthDesk" (41 : Nat) ({ cls := "YearMonth", name := "getMonthValue", desc := "()I" } : Jvm.MethodName)) ∈ lw_all := lw_g (lw_at lw_m1 227 rfl) rfl
theorem q234 : (Jvm.Cond.instanceMethod ({ cls := "MonthDesk", name := "length", desc := "(I)I" } : Jvm.MethodName)) ∈ lw_all := lw_g (lw_at lw_m1 232 rfl) rfl
theorem q235 : (Jvm.Cond.selects "MonthDesk" ({ cls := "MonthDesk", name := "length", desc := "(I)I" } : Jvm.MethodName) ({ cls := "MonthDesk", name := "length", desc := "(I)I" } : Jvm.MethodName)) ∈ lw_all := lw_g (lw_at lw_m1 233 rfl) rfl
theorem q236 : (Jvm.Cond.code ({ cls := "MonthDesk", name := "length", desc := "(I)I" } : Jvm.MethodName) prog_13_method_9_code (2 : Nat) (Option.some Jvm.ClassFile.FieldType.int)) ∈ lw_all := lw_g (lw_at lw_m1 234 rfl) rfl
theorem q237 : (Jvm.Cond.methodLink "MonthDesk" (44 : Nat) ({ cls := "YearMonth", name := "lengthOfMonth", desc := "()I" } : Jvm.MethodName)) ∈ lw_all := lw_g (lw_at lw_m1 235 rfl) rfl
theorem q277 : (Jvm.Cond.instanceMethod ({ cls := "MonthDesk", name := "yearLength", desc := "(I)I" } : Jvm.MethodName)) ∈ lw_all := lw_g (lw_at lw_m2 35 rfl) rfl
theorem q278 : (Jvm.Cond.selects "MonthDesk" ({ cls := "MonthDesk", name := "yearLength", desc := "(I)I" } : Jvm.MethodName) ({ cls := "MonthDesk", name := "yearLength", desc := "(I)I" } : Jvm.MethodName)) ∈ lw_all := lw_g (lw_at lw_m2 36 rfl) rfl
theorem q279 : (Jvm.Cond.code ({ cls := "MonthDesk", name := "yearLength", desc := "(I)I" } : Jvm.MethodName) prog_13_method_10_code (2 : Nat) (Option.some Jvm.ClassFile.FieldType.int)) ∈ lw_all := lw_g (lw_at lw_m2 37 rfl) rfl
theorem q280 : (Jvm.Cond.methodLink "MonthDesk" (47 : Nat) ({ cls := "YearMonth", name := "lengthOfYear", desc := "()I" } : Jvm.MethodName)) ∈ lw_all := lw_g (lw_at lw_m2 38 rfl) rfl
theorem q285 : (Jvm.Cond.instanceMethod ({ cls := "MonthDesk", name := "leap", desc := "(I)Z" } : Jvm.MethodName)) ∈ lw_all := lw_g (lw_at lw_m2 43 rfl) rfl
theorem q286 : (Jvm.Cond.selects "MonthDesk" ({ cls := "MonthDesk", name := "leap", desc := "(I)Z" } : Jvm.MethodName) ({ cls := "MonthDesk", name := "leap", desc := "(I)Z" } : Jvm.MethodName)) ∈ lw_all := lw_g (lw_at lw_m2 44 rfl) rfl
theorem q287 : (Jvm.Cond.code ({ cls := "MonthDesk", name := "leap", desc := "(I)Z" } : Jvm.MethodName) prog_13_method_11_code (2 : Nat) (Option.some Jvm.ClassFile.FieldType.boolean)) ∈ lw_all := lw_g (lw_at lw_m2 45 rfl) rfl
theorem q288 : (Jvm.Cond.methodLink "MonthDesk" (50 : Nat) ({ cls := "YearMonth", name := "isLeapYear", desc := "()Z" } : Jvm.MethodName)) ∈ lw_all := lw_g (lw_at lw_m2 46 rfl) rfl
theorem q290 : (Jvm.Cond.instanceMethod ({ cls := "MonthDesk", name := "firstDay", desc := "(I)J" } : Jvm.MethodName)) ∈ lw_all := lw_g (lw_at lw_m2 48 rfl) rfl
theorem q291 : (Jvm.Cond.selects "MonthDesk" ({ cls := "MonthDesk", name := "firstDay", desc := "(I)J" } : Jvm.MethodName) ({ cls := "MonthDesk", name := "firstDay", desc := "(I)J" } : Jvm.MethodName)) ∈ lw_all := lw_g (lw_at lw_m2 49 rfl) rfl
theorem q292 : (Jvm.Cond.code ({ cls := "MonthDesk", name := "firstDay", desc := "(I)J" } : Jvm.MethodName) prog_13_method_12_code (2 : Nat) (Option.some Jvm.ClassFile.FieldType.long)) ∈ lw_all := lw_g (lw_at lw_m2 50 rfl) rfl
theorem q293 : (Jvm.Cond.methodLink "MonthDesk" (54 : Nat) ({ cls := "YearMonth", name := "atDay", desc := "(I)LLocalDate;" } : Jvm.MethodName)) ∈ lw_all := lw_g (lw_at lw_m2 51 rfl) rfl
theorem q341 : (Jvm.Cond.methodLink "MonthDesk" (58 : Nat) ({ cls := "LocalDate", name := "toEpochDay", desc := "()J" } : Jvm.MethodName)) ∈ lw_all := lw_g (lw_at lw_m2 99 rfl) rfl
theorem q365 : (Jvm.Cond.instanceMethod ({ cls := "MonthDesk", name := "lastDay", desc := "(I)J" } : Jvm.MethodName)) ∈ lw_all := lw_g (lw_at lw_m2 123 rfl) rfl
theorem q366 : (Jvm.Cond.selects "MonthDesk" ({ cls := "MonthDesk", name := "lastDay", desc := "(I)J" } : Jvm.MethodName) ({ cls := "MonthDesk", name := "lastDay", desc := "(I)J" } : Jvm.MethodName)) ∈ lw_all := lw_g (lw_at lw_m2 124 rfl) rfl
theorem q367 : (Jvm.Cond.code ({ cls := "MonthDesk", name := "lastDay", desc := "(I)J" } : Jvm.MethodName) prog_13_method_13_code (2 : Nat) (Option.some Jvm.ClassFile.FieldType.long)) ∈ lw_all := lw_g (lw_at lw_m2 125 rfl) rfl
theorem q368 : (Jvm.Cond.methodLink "MonthDesk" (64 : Nat) ({ cls := "YearMonth", name := "atEndOfMonth", desc := "()LLocalDate;" } : Jvm.MethodName)) ∈ lw_all := lw_g (lw_at lw_m2 126 rfl) rfl
theorem q374 : (Jvm.Cond.instanceMethod ({ cls := "MonthDesk", name := "order", desc := "()I" } : Jvm.MethodName)) ∈ lw_all := lw_g (lw_at lw_m2 132 rfl) rfl
theorem q375 : (Jvm.Cond.selects "MonthDesk" ({ cls := "MonthDesk", name := "order", desc := "()I" } : Jvm.MethodName) ({ cls := "MonthDesk", name := "order", desc := "()I" } : Jvm.MethodName)) ∈ lw_all := lw_g (lw_at lw_m2 133 rfl) rfl
theorem q376 : (Jvm.Cond.code ({ cls := "MonthDesk", name := "order", desc := "()I" } : Jvm.MethodName) prog_13_method_14_code (2 : Nat) (Option.some Jvm.ClassFile.FieldType.int)) ∈ lw_all := lw_g (lw_at lw_m2 134 rfl) rfl
theorem q377 : (Jvm.Cond.methodLink "MonthDesk" (68 : Nat) ({ cls := "YearMonth", name := "compareTo", desc := "(LYearMonth;)I" } : Jvm.MethodName)) ∈ lw_all := lw_g (lw_at lw_m2 135 rfl) rfl
theorem q382 : (Jvm.Cond.instanceMethod ({ cls := "MonthDesk", name := "keep", desc := "(I)Z" } : Jvm.MethodName)) ∈ lw_all := lw_g (lw_at lw_m2 140 rfl) rfl
theorem q383 : (Jvm.Cond.selects "MonthDesk" ({ cls := "MonthDesk", name := "keep", desc := "(I)Z" } : Jvm.MethodName) ({ cls := "MonthDesk", name := "keep", desc := "(I)Z" } : Jvm.MethodName)) ∈ lw_all := lw_g (lw_at lw_m2 141 rfl) rfl
theorem q384 : (Jvm.Cond.code ({ cls := "MonthDesk", name := "keep", desc := "(I)Z" } : Jvm.MethodName) prog_13_method_15_code (3 : Nat) (Option.some Jvm.ClassFile.FieldType.boolean)) ∈ lw_all := lw_g (lw_at lw_m2 142 rfl) rfl
theorem q385 : (Jvm.Cond.constant "MonthDesk" (72 : Nat) (900000 : Int32)) ∈ lw_all := lw_g (lw_at lw_m2 143 rfl) rfl
theorem q386 : (Jvm.Cond.constant "MonthDesk" (73 : Nat) (-900000 : Int32)) ∈ lw_all := lw_g (lw_at lw_m2 144 rfl) rfl
theorem in_X0 : ∀ w ∈ wsX00, w ∈ lw_all := lw_in wsX00 [145] (by decide +kernel) (by decide +kernel)
end
section
/-! MonthDeskModel -/
set_option maxRecDepth 100000
def RX5 : String := "MonthDeskModel"
def TX5 : u_T := fun k => match k with
  | 0 => ("MonthDeskModel", "year", "[I", true)
  | _ => ("MonthDeskModel", "mon", "[I", true)
def tyX5 : Nat → FieldType := fun k => match k with
  | 0 => .array .int
  | _ => .array .int
abbrev wsX50 : List Cond := u_ws RX5 TX5 2
theorem nmX5 : ∀ a, a < 2 → ∀ b, b < 2 → a ≠ b → (TX5 a).2.1 ≠ (TX5 b).2.1 := by decide +kernel
theorem tyX5_ok : ∀ k, k < 2 → parseFieldDescriptor (TX5 k).2.2.1 = some (tyX5 k) := by decide +kernel
abbrev cX5_init : ByteArray := prog_15_method_1_code
def yX5_init : MethodName := ⟨RX5, "<init>", "()V"⟩
def dkwX5_init_1 : List UInt8 := [5, 188, 10, 89, 3, 4, 79, 89, 4, 4, 79, 181, 0, 13, 177]
abbrev dktX5_init_1 : List UInt8 := dkwX5_init_1 ++ []
def dkwX5_init_0 : List UInt8 := [42, 183, 0, 1, 42, 5, 188, 10, 89, 3, 17, 7, 208, 79, 89, 4, 17, 7, 208, 79, 181, 0, 7, 42]
abbrev dktX5_init_0 : List UInt8 := dkwX5_init_0 ++ dktX5_init_1
theorem dksX5_init_0 : cX5_init.data.toList.drop 0 = dktX5_init_0 := by decide +kernel
theorem dksX5_init_1 : cX5_init.data.toList.drop 24 = dktX5_init_1 := dk_seg dksX5_init_0 24 rfl rfl
theorem dX5_init_0 : decode cX5_init 0 = .ok (.aload_n 0, 1) := dk_42 (dk_at dksX5_init_0 0 rfl rfl)
theorem dX5_init_1 : decode cX5_init 1 = .ok (.invokespecial 1, 3) := dk_183 0 1 (dk_at dksX5_init_0 1 rfl rfl)
theorem dX5_init_4 : decode cX5_init 4 = .ok (.aload_n 0, 1) := dk_42 (dk_at dksX5_init_0 4 rfl rfl)
theorem dX5_init_5 : decode cX5_init 5 = .ok (.iconst 2, 1) := dk_5 (dk_at dksX5_init_0 5 rfl rfl)
theorem dX5_init_6 : decode cX5_init 6 = .ok (.newarray .int, 2) := dk_188_10 (dk_at dksX5_init_0 6 rfl rfl)
theorem dX5_init_8 : decode cX5_init 8 = .ok (.dup, 1) := dk_89 (dk_at dksX5_init_0 8 rfl rfl)
theorem dX5_init_9 : decode cX5_init 9 = .ok (.iconst 0, 1) := dk_3 (dk_at dksX5_init_0 9 rfl rfl)
theorem dX5_init_10 : decode cX5_init 10 = .ok (.sipush 2000, 3) := dk_17 7 208 (dk_at dksX5_init_0 10 rfl rfl)
theorem dX5_init_13 : decode cX5_init 13 = .ok (.iastore, 1) := dk_79 (dk_at dksX5_init_0 13 rfl rfl)
theorem dX5_init_14 : decode cX5_init 14 = .ok (.dup, 1) := dk_89 (dk_at dksX5_init_0 14 rfl rfl)
theorem dX5_init_15 : decode cX5_init 15 = .ok (.iconst 1, 1) := dk_4 (dk_at dksX5_init_0 15 rfl rfl)
theorem dX5_init_16 : decode cX5_init 16 = .ok (.sipush 2000, 3) := dk_17 7 208 (dk_at dksX5_init_0 16 rfl rfl)
theorem dX5_init_19 : decode cX5_init 19 = .ok (.iastore, 1) := dk_79 (dk_at dksX5_init_0 19 rfl rfl)
theorem dX5_init_20 : decode cX5_init 20 = .ok (.putfield 7, 3) := dk_181 0 7 (dk_at dksX5_init_0 20 rfl rfl)
theorem dX5_init_23 : decode cX5_init 23 = .ok (.aload_n 0, 1) := dk_42 (dk_at dksX5_init_0 23 rfl rfl)
theorem dX5_init_24 : decode cX5_init 24 = .ok (.iconst 2, 1) := dk_5 (dk_at dksX5_init_1 0 rfl rfl)
theorem dX5_init_25 : decode cX5_init 25 = .ok (.newarray .int, 2) := dk_188_10 (dk_at dksX5_init_1 1 rfl rfl)
theorem dX5_init_27 : decode cX5_init 27 = .ok (.dup, 1) := dk_89 (dk_at dksX5_init_1 3 rfl rfl)
theorem dX5_init_28 : decode cX5_init 28 = .ok (.iconst 0, 1) := dk_3 (dk_at dksX5_init_1 4 rfl rfl)
theorem dX5_init_29 : decode cX5_init 29 = .ok (.iconst 1, 1) := dk_4 (dk_at dksX5_init_1 5 rfl rfl)
theorem dX5_init_30 : decode cX5_init 30 = .ok (.iastore, 1) := dk_79 (dk_at dksX5_init_1 6 rfl rfl)
theorem dX5_init_31 : decode cX5_init 31 = .ok (.dup, 1) := dk_89 (dk_at dksX5_init_1 7 rfl rfl)
theorem dX5_init_32 : decode cX5_init 32 = .ok (.iconst 1, 1) := dk_4 (dk_at dksX5_init_1 8 rfl rfl)
theorem dX5_init_33 : decode cX5_init 33 = .ok (.iconst 1, 1) := dk_4 (dk_at dksX5_init_1 9 rfl rfl)
theorem dX5_init_34 : decode cX5_init 34 = .ok (.iastore, 1) := dk_79 (dk_at dksX5_init_1 10 rfl rfl)
theorem dX5_init_35 : decode cX5_init 35 = .ok (.putfield 13, 3) := dk_181 0 13 (dk_at dksX5_init_1 11 rfl rfl)
theorem dX5_init_38 : decode cX5_init 38 = .ok (.return_, 1) := dk_177 (dk_at dksX5_init_1 14 rfl rfl)
abbrev cX5_set : ByteArray := prog_15_method_8_code
def yX5_set : MethodName := ⟨RX5, "set", "(III)V"⟩
def dkwX5_set_1 : List UInt8 := [184, 0, 40, 79, 177]
abbrev dktX5_set_1 : List UInt8 := dkwX5_set_1 ++ []
def dkwX5_set_0 : List UInt8 := [27, 4, 126, 54, 4, 42, 180, 0, 7, 21, 4, 28, 18, 39, 112, 79, 42, 180, 0, 13, 21, 4, 29]
abbrev dktX5_set_0 : List UInt8 := dkwX5_set_0 ++ dktX5_set_1
theorem dksX5_set_0 : cX5_set.data.toList.drop 0 = dktX5_set_0 := by decide +kernel
theorem dksX5_set_1 : cX5_set.data.toList.drop 23 = dktX5_set_1 := dk_seg dksX5_set_0 23 rfl rfl
theorem dX5_set_0 : decode cX5_set 0 = .ok (.iload_n 1, 1) := dk_27 (dk_at dksX5_set_0 0 rfl rfl)
theorem dX5_set_1 : decode cX5_set 1 = .ok (.iconst 1, 1) := dk_4 (dk_at dksX5_set_0 1 rfl rfl)
theorem dX5_set_2 : decode cX5_set 2 = .ok (.iand, 1) := dk_126 (dk_at dksX5_set_0 2 rfl rfl)
theorem dX5_set_3 : decode cX5_set 3 = .ok (.istore 4, 2) := dk_54 4 (dk_at dksX5_set_0 3 rfl rfl)
theorem dX5_set_5 : decode cX5_set 5 = .ok (.aload_n 0, 1) := dk_42 (dk_at dksX5_set_0 5 rfl rfl)
theorem dX5_set_6 : decode cX5_set 6 = .ok (.getfield 7, 3) := dk_180 0 7 (dk_at dksX5_set_0 6 rfl rfl)
theorem dX5_set_9 : decode cX5_set 9 = .ok (.iload 4, 2) := dk_21 4 (dk_at dksX5_set_0 9 rfl rfl)
theorem dX5_set_11 : decode cX5_set 11 = .ok (.iload_n 2, 1) := dk_28 (dk_at dksX5_set_0 11 rfl rfl)
theorem dX5_set_12 : decode cX5_set 12 = .ok (.ldc 39, 2) := dk_18 39 (dk_at dksX5_set_0 12 rfl rfl)
theorem dX5_set_14 : decode cX5_set 14 = .ok (.irem, 1) := dk_112 (dk_at dksX5_set_0 14 rfl rfl)
theorem dX5_set_15 : decode cX5_set 15 = .ok (.iastore, 1) := dk_79 (dk_at dksX5_set_0 15 rfl rfl)
theorem dX5_set_16 : decode cX5_set 16 = .ok (.aload_n 0, 1) := dk_42 (dk_at dksX5_set_0 16 rfl rfl)
theorem dX5_set_17 : decode cX5_set 17 = .ok (.getfield 13, 3) := dk_180 0 13 (dk_at dksX5_set_0 17 rfl rfl)
theorem dX5_set_20 : decode cX5_set 20 = .ok (.iload 4, 2) := dk_21 4 (dk_at dksX5_set_0 20 rfl rfl)
theorem dX5_set_22 : decode cX5_set 22 = .ok (.iload_n 3, 1) := dk_29 (dk_at dksX5_set_0 22 rfl rfl)
theorem dX5_set_23 : decode cX5_set 23 = .ok (.invokestatic 40, 3) := dk_184 0 40 (dk_at dksX5_set_1 0 rfl rfl)
theorem dX5_set_26 : decode cX5_set 26 = .ok (.iastore, 1) := dk_79 (dk_at dksX5_set_1 3 rfl rfl)
theorem dX5_set_27 : decode cX5_set 27 = .ok (.return_, 1) := dk_177 (dk_at dksX5_set_1 4 rfl rfl)
abbrev cX5_monthFrom : ByteArray := prog_15_method_7_code
def yX5_monthFrom : MethodName := ⟨RX5, "monthFrom", "(I)I"⟩
def dkwX5_monthFrom_0 : List UInt8 := [4, 26, 18, 38, 126, 16, 12, 112, 96, 172]
abbrev dktX5_monthFrom_0 : List UInt8 := dkwX5_monthFrom_0 ++ []
theorem dksX5_monthFrom_0 : cX5_monthFrom.data.toList.drop 0 = dktX5_monthFrom_0 := by decide +kernel
theorem dX5_monthFrom_0 : decode cX5_monthFrom 0 = .ok (.iconst 1, 1) := dk_4 (dk_at dksX5_monthFrom_0 0 rfl rfl)
theorem dX5_monthFrom_1 : decode cX5_monthFrom 1 = .ok (.iload_n 0, 1) := dk_26 (dk_at dksX5_monthFrom_0 1 rfl rfl)
theorem dX5_monthFrom_2 : decode cX5_monthFrom 2 = .ok (.ldc 38, 2) := dk_18 38 (dk_at dksX5_monthFrom_0 2 rfl rfl)
theorem dX5_monthFrom_4 : decode cX5_monthFrom 4 = .ok (.iand, 1) := dk_126 (dk_at dksX5_monthFrom_0 4 rfl rfl)
theorem dX5_monthFrom_5 : decode cX5_monthFrom 5 = .ok (.bipush 12, 2) := dk_16 12 (dk_at dksX5_monthFrom_0 5 rfl rfl)
theorem dX5_monthFrom_7 : decode cX5_monthFrom 7 = .ok (.irem, 1) := dk_112 (dk_at dksX5_monthFrom_0 7 rfl rfl)
theorem dX5_monthFrom_8 : decode cX5_monthFrom 8 = .ok (.iadd, 1) := dk_96 (dk_at dksX5_monthFrom_0 8 rfl rfl)
theorem dX5_monthFrom_9 : decode cX5_monthFrom 9 = .ok (.ireturn, 1) := dk_172 (dk_at dksX5_monthFrom_0 9 rfl rfl)
abbrev cX5_months : ByteArray := prog_15_method_9_code
def yX5_months : MethodName := ⟨RX5, "months", "(II)V"⟩
def dkwX5_months_4 : List UInt8 := [96, 79, 177]
abbrev dktX5_months_4 : List UInt8 := dkwX5_months_4 ++ []
def dkwX5_months_3 : List UInt8 := [180, 0, 7, 29, 22, 6, 136, 79, 42, 180, 0, 13, 29, 22, 4, 22, 6, 20, 0, 43, 105, 101, 136, 4]
abbrev dktX5_months_3 : List UInt8 := dkwX5_months_3 ++ dktX5_months_4
def dkwX5_months_2 : List UInt8 := [148, 155, 0, 12, 22, 6, 20, 0, 47, 148, 158, 0, 13, 187, 0, 49, 89, 18, 51, 183, 0, 53, 191, 42]
abbrev dktX5_months_2 : List UInt8 := dkwX5_months_2 ++ dktX5_months_3
def dkwX5_months_1 : List UInt8 := [97, 28, 18, 39, 112, 133, 97, 55, 4, 22, 4, 20, 0, 43, 184, 0, 22, 55, 6, 22, 6, 20, 0, 45]
abbrev dktX5_months_1 : List UInt8 := dkwX5_months_1 ++ dktX5_months_2
def dkwX5_months_0 : List UInt8 := [27, 4, 126, 62, 42, 180, 0, 7, 29, 46, 133, 20, 0, 43, 105, 42, 180, 0, 13, 29, 46, 4, 100, 133]
abbrev dktX5_months_0 : List UInt8 := dkwX5_months_0 ++ dktX5_months_1
theorem dksX5_months_0 : cX5_months.data.toList.drop 0 = dktX5_months_0 := by decide +kernel
theorem dksX5_months_1 : cX5_months.data.toList.drop 24 = dktX5_months_1 := dk_seg dksX5_months_0 24 rfl rfl
theorem dksX5_months_2 : cX5_months.data.toList.drop 48 = dktX5_months_2 := dk_seg dksX5_months_1 24 rfl rfl
theorem dksX5_months_3 : cX5_months.data.toList.drop 72 = dktX5_months_3 := dk_seg dksX5_months_2 24 rfl rfl
theorem dksX5_months_4 : cX5_months.data.toList.drop 96 = dktX5_months_4 := dk_seg dksX5_months_3 24 rfl rfl
theorem dX5_months_0 : decode cX5_months 0 = .ok (.iload_n 1, 1) := dk_27 (dk_at dksX5_months_0 0 rfl rfl)
theorem dX5_months_1 : decode cX5_months 1 = .ok (.iconst 1, 1) := dk_4 (dk_at dksX5_months_0 1 rfl rfl)
theorem dX5_months_2 : decode cX5_months 2 = .ok (.iand, 1) := dk_126 (dk_at dksX5_months_0 2 rfl rfl)
theorem dX5_months_3 : decode cX5_months 3 = .ok (.istore_n 3, 1) := dk_62 (dk_at dksX5_months_0 3 rfl rfl)
theorem dX5_months_4 : decode cX5_months 4 = .ok (.aload_n 0, 1) := dk_42 (dk_at dksX5_months_0 4 rfl rfl)
theorem dX5_months_5 : decode cX5_months 5 = .ok (.getfield 7, 3) := dk_180 0 7 (dk_at dksX5_months_0 5 rfl rfl)
theorem dX5_months_8 : decode cX5_months 8 = .ok (.iload_n 3, 1) := dk_29 (dk_at dksX5_months_0 8 rfl rfl)
theorem dX5_months_9 : decode cX5_months 9 = .ok (.iaload, 1) := dk_46 (dk_at dksX5_months_0 9 rfl rfl)
theorem dX5_months_10 : decode cX5_months 10 = .ok (.i2l, 1) := dk_133 (dk_at dksX5_months_0 10 rfl rfl)
theorem dX5_months_11 : decode cX5_months 11 = .ok (.ldc2_w 43, 3) := dk_20 0 43 (dk_at dksX5_months_0 11 rfl rfl)
theorem dX5_months_14 : decode cX5_months 14 = .ok (.lmul, 1) := dk_105 (dk_at dksX5_months_0 14 rfl rfl)
theorem dX5_months_15 : decode cX5_months 15 = .ok (.aload_n 0, 1) := dk_42 (dk_at dksX5_months_0 15 rfl rfl)
theorem dX5_months_16 : decode cX5_months 16 = .ok (.getfield 13, 3) := dk_180 0 13 (dk_at dksX5_months_0 16 rfl rfl)
theorem dX5_months_19 : decode cX5_months 19 = .ok (.iload_n 3, 1) := dk_29 (dk_at dksX5_months_0 19 rfl rfl)
theorem dX5_months_20 : decode cX5_months 20 = .ok (.iaload, 1) := dk_46 (dk_at dksX5_months_0 20 rfl rfl)
theorem dX5_months_21 : decode cX5_months 21 = .ok (.iconst 1, 1) := dk_4 (dk_at dksX5_months_0 21 rfl rfl)
theorem dX5_months_22 : decode cX5_months 22 = .ok (.isub, 1) := dk_100 (dk_at dksX5_months_0 22 rfl rfl)
theorem dX5_months_23 : decode cX5_months 23 = .ok (.i2l, 1) := dk_133 (dk_at dksX5_months_0 23 rfl rfl)
theorem dX5_months_24 : decode cX5_months 24 = .ok (.ladd, 1) := dk_97 (dk_at dksX5_months_1 0 rfl rfl)
theorem dX5_months_25 : decode cX5_months 25 = .ok (.iload_n 2, 1) := dk_28 (dk_at dksX5_months_1 1 rfl rfl)
theorem dX5_months_26 : decode cX5_months 26 = .ok (.ldc 39, 2) := dk_18 39 (dk_at dksX5_months_1 2 rfl rfl)
theorem dX5_months_28 : decode cX5_months 28 = .ok (.irem, 1) := dk_112 (dk_at dksX5_months_1 4 rfl rfl)
theorem dX5_months_29 : decode cX5_months 29 = .ok (.i2l, 1) := dk_133 (dk_at dksX5_months_1 5 rfl rfl)
theorem dX5_months_30 : decode cX5_months 30 = .ok (.ladd, 1) := dk_97 (dk_at dksX5_months_1 6 rfl rfl)
theorem dX5_months_31 : decode cX5_months 31 = .ok (.lstore 4, 2) := dk_55 4 (dk_at dksX5_months_1 7 rfl rfl)
theorem dX5_months_33 : decode cX5_months 33 = .ok (.lload 4, 2) := dk_22 4 (dk_at dksX5_months_1 9 rfl rfl)
theorem dX5_months_35 : decode cX5_months 35 = .ok (.ldc2_w 43, 3) := dk_20 0 43 (dk_at dksX5_months_1 11 rfl rfl)
theorem dX5_months_38 : decode cX5_months 38 = .ok (.invokestatic 22, 3) := dk_184 0 22 (dk_at dksX5_months_1 14 rfl rfl)
theorem dX5_months_41 : decode cX5_months 41 = .ok (.lstore 6, 2) := dk_55 6 (dk_at dksX5_months_1 17 rfl rfl)
theorem dX5_months_43 : decode cX5_months 43 = .ok (.lload 6, 2) := dk_22 6 (dk_at dksX5_months_1 19 rfl rfl)
theorem dX5_months_45 : decode cX5_months 45 = .ok (.ldc2_w 45, 3) := dk_20 0 45 (dk_at dksX5_months_1 21 rfl rfl)
theorem dX5_months_48 : decode cX5_months 48 = .ok (.lcmp, 1) := dk_148 (dk_at dksX5_months_2 0 rfl rfl)
theorem dX5_months_49 : decode cX5_months 49 = .ok (.ifCond .lt 12, 3) := dk_155 0 12 (dk_at dksX5_months_2 1 rfl rfl)
theorem dX5_months_52 : decode cX5_months 52 = .ok (.lload 6, 2) := dk_22 6 (dk_at dksX5_months_2 4 rfl rfl)
theorem dX5_months_54 : decode cX5_months 54 = .ok (.ldc2_w 47, 3) := dk_20 0 47 (dk_at dksX5_months_2 6 rfl rfl)
theorem dX5_months_57 : decode cX5_months 57 = .ok (.lcmp, 1) := dk_148 (dk_at dksX5_months_2 9 rfl rfl)
theorem dX5_months_58 : decode cX5_months 58 = .ok (.ifCond .le 13, 3) := dk_158 0 13 (dk_at dksX5_months_2 10 rfl rfl)
theorem dX5_months_61 : decode cX5_months 61 = .ok (.new 49, 3) := dk_187 0 49 (dk_at dksX5_months_2 13 rfl rfl)
theorem dX5_months_64 : decode cX5_months 64 = .ok (.dup, 1) := dk_89 (dk_at dksX5_months_2 16 rfl rfl)
theorem dX5_months_65 : decode cX5_months 65 = .ok (.ldc 51, 2) := dk_18 51 (dk_at dksX5_months_2 17 rfl rfl)
theorem dX5_months_67 : decode cX5_months 67 = .ok (.invokespecial 53, 3) := dk_183 0 53 (dk_at dksX5_months_2 19 rfl rfl)
theorem dX5_months_70 : decode cX5_months 70 = .ok (.athrow, 1) := dk_191 (dk_at dksX5_months_2 22 rfl rfl)
theorem dX5_months_71 : decode cX5_months 71 = .ok (.aload_n 0, 1) := dk_42 (dk_at dksX5_months_2 23 rfl rfl)
theorem dX5_months_72 : decode cX5_months 72 = .ok (.getfield 7, 3) := dk_180 0 7 (dk_at dksX5_months_3 0 rfl rfl)
theorem dX5_months_75 : decode cX5_months 75 = .ok (.iload_n 3, 1) := dk_29 (dk_at dksX5_months_3 3 rfl rfl)
theorem dX5_months_76 : decode cX5_months 76 = .ok (.lload 6, 2) := dk_22 6 (dk_at dksX5_months_3 4 rfl rfl)
theorem dX5_months_78 : decode cX5_months 78 = .ok (.l2i, 1) := dk_136 (dk_at dksX5_months_3 6 rfl rfl)
theorem dX5_months_79 : decode cX5_months 79 = .ok (.iastore, 1) := dk_79 (dk_at dksX5_months_3 7 rfl rfl)
theorem dX5_months_80 : decode cX5_months 80 = .ok (.aload_n 0, 1) := dk_42 (dk_at dksX5_months_3 8 rfl rfl)
theorem dX5_months_81 : decode cX5_months 81 = .ok (.getfield 13, 3) := dk_180 0 13 (dk_at dksX5_months_3 9 rfl rfl)
theorem dX5_months_84 : decode cX5_months 84 = .ok (.iload_n 3, 1) := dk_29 (dk_at dksX5_months_3 12 rfl rfl)
theorem dX5_months_85 : decode cX5_months 85 = .ok (.lload 4, 2) := dk_22 4 (dk_at dksX5_months_3 13 rfl rfl)
theorem dX5_months_87 : decode cX5_months 87 = .ok (.lload 6, 2) := dk_22 6 (dk_at dksX5_months_3 15 rfl rfl)
theorem dX5_months_89 : decode cX5_months 89 = .ok (.ldc2_w 43, 3) := dk_20 0 43 (dk_at dksX5_months_3 17 rfl rfl)
theorem dX5_months_92 : decode cX5_months 92 = .ok (.lmul, 1) := dk_105 (dk_at dksX5_months_3 20 rfl rfl)
theorem dX5_months_93 : decode cX5_months 93 = .ok (.lsub, 1) := dk_101 (dk_at dksX5_months_3 21 rfl rfl)
theorem dX5_months_94 : decode cX5_months 94 = .ok (.l2i, 1) := dk_136 (dk_at dksX5_months_3 22 rfl rfl)
theorem dX5_months_95 : decode cX5_months 95 = .ok (.iconst 1, 1) := dk_4 (dk_at dksX5_months_3 23 rfl rfl)
theorem dX5_months_96 : decode cX5_months 96 = .ok (.iadd, 1) := dk_96 (dk_at dksX5_months_4 0 rfl rfl)
theorem dX5_months_97 : decode cX5_months 97 = .ok (.iastore, 1) := dk_79 (dk_at dksX5_months_4 1 rfl rfl)
theorem dX5_months_98 : decode cX5_months 98 = .ok (.return_, 1) := dk_177 (dk_at dksX5_months_4 2 rfl rfl)
abbrev cX5_floorQuotient : ByteArray := prog_15_method_5_code
def yX5_floorQuotient : MethodName := ⟨RX5, "floorQuotient", "(JJ)J"⟩
def dkwX5_floorQuotient_0 : List UInt8 := [30, 32, 109, 55, 4, 22, 4, 32, 105, 30, 148, 158, 0, 9, 22, 4, 10, 101, 55, 4, 22, 4, 173]
abbrev dktX5_floorQuotient_0 : List UInt8 := dkwX5_floorQuotient_0 ++ []
theorem dksX5_floorQuotient_0 : cX5_floorQuotient.data.toList.drop 0 = dktX5_floorQuotient_0 := by decide +kernel
theorem dX5_floorQuotient_0 : decode cX5_floorQuotient 0 = .ok (.lload_n 0, 1) := dk_30 (dk_at dksX5_floorQuotient_0 0 rfl rfl)
theorem dX5_floorQuotient_1 : decode cX5_floorQuotient 1 = .ok (.lload_n 2, 1) := dk_32 (dk_at dksX5_floorQuotient_0 1 rfl rfl)
theorem dX5_floorQuotient_2 : decode cX5_floorQuotient 2 = .ok (.ldiv, 1) := dk_109 (dk_at dksX5_floorQuotient_0 2 rfl rfl)
theorem dX5_floorQuotient_3 : decode cX5_floorQuotient 3 = .ok (.lstore 4, 2) := dk_55 4 (dk_at dksX5_floorQuotient_0 3 rfl rfl)
theorem dX5_floorQuotient_5 : decode cX5_floorQuotient 5 = .ok (.lload 4, 2) := dk_22 4 (dk_at dksX5_floorQuotient_0 5 rfl rfl)
theorem dX5_floorQuotient_7 : decode cX5_floorQuotient 7 = .ok (.lload_n 2, 1) := dk_32 (dk_at dksX5_floorQuotient_0 7 rfl rfl)
theorem dX5_floorQuotient_8 : decode cX5_floorQuotient 8 = .ok (.lmul, 1) := dk_105 (dk_at dksX5_floorQuotient_0 8 rfl rfl)
theorem dX5_floorQuotient_9 : decode cX5_floorQuotient 9 = .ok (.lload_n 0, 1) := dk_30 (dk_at dksX5_floorQuotient_0 9 rfl rfl)
theorem dX5_floorQuotient_10 : decode cX5_floorQuotient 10 = .ok (.lcmp, 1) := dk_148 (dk_at dksX5_floorQuotient_0 10 rfl rfl)
theorem dX5_floorQuotient_11 : decode cX5_floorQuotient 11 = .ok (.ifCond .le 9, 3) := dk_158 0 9 (dk_at dksX5_floorQuotient_0 11 rfl rfl)
theorem dX5_floorQuotient_14 : decode cX5_floorQuotient 14 = .ok (.lload 4, 2) := dk_22 4 (dk_at dksX5_floorQuotient_0 14 rfl rfl)
theorem dX5_floorQuotient_16 : decode cX5_floorQuotient 16 = .ok (.lconst 1, 1) := dk_10 (dk_at dksX5_floorQuotient_0 16 rfl rfl)
theorem dX5_floorQuotient_17 : decode cX5_floorQuotient 17 = .ok (.lsub, 1) := dk_101 (dk_at dksX5_floorQuotient_0 17 rfl rfl)
theorem dX5_floorQuotient_18 : decode cX5_floorQuotient 18 = .ok (.lstore 4, 2) := dk_55 4 (dk_at dksX5_floorQuotient_0 18 rfl rfl)
theorem dX5_floorQuotient_20 : decode cX5_floorQuotient 20 = .ok (.lload 4, 2) := dk_22 4 (dk_at dksX5_floorQuotient_0 20 rfl rfl)
theorem dX5_floorQuotient_22 : decode cX5_floorQuotient 22 = .ok (.lreturn, 1) := dk_173 (dk_at dksX5_floorQuotient_0 22 rfl rfl)
abbrev cX5_years : ByteArray := prog_15_method_10_code
def yX5_years : MethodName := ⟨RX5, "years", "(II)V"⟩
def dkwX5_years_1 : List UInt8 := [21, 4, 18, 57, 162, 0, 11, 42, 180, 0, 7, 29, 21, 4, 79, 177]
abbrev dktX5_years_1 : List UInt8 := dkwX5_years_1 ++ []
def dkwX5_years_0 : List UInt8 := [27, 4, 126, 62, 42, 180, 0, 7, 29, 46, 28, 18, 39, 112, 96, 54, 4, 21, 4, 18, 56, 164, 0, 18]
abbrev dktX5_years_0 : List UInt8 := dkwX5_years_0 ++ dktX5_years_1
theorem dksX5_years_0 : cX5_years.data.toList.drop 0 = dktX5_years_0 := by decide +kernel
theorem dksX5_years_1 : cX5_years.data.toList.drop 24 = dktX5_years_1 := dk_seg dksX5_years_0 24 rfl rfl
theorem dX5_years_0 : decode cX5_years 0 = .ok (.iload_n 1, 1) := dk_27 (dk_at dksX5_years_0 0 rfl rfl)
theorem dX5_years_1 : decode cX5_years 1 = .ok (.iconst 1, 1) := dk_4 (dk_at dksX5_years_0 1 rfl rfl)
theorem dX5_years_2 : decode cX5_years 2 = .ok (.iand, 1) := dk_126 (dk_at dksX5_years_0 2 rfl rfl)
theorem dX5_years_3 : decode cX5_years 3 = .ok (.istore_n 3, 1) := dk_62 (dk_at dksX5_years_0 3 rfl rfl)
theorem dX5_years_4 : decode cX5_years 4 = .ok (.aload_n 0, 1) := dk_42 (dk_at dksX5_years_0 4 rfl rfl)
theorem dX5_years_5 : decode cX5_years 5 = .ok (.getfield 7, 3) := dk_180 0 7 (dk_at dksX5_years_0 5 rfl rfl)
theorem dX5_years_8 : decode cX5_years 8 = .ok (.iload_n 3, 1) := dk_29 (dk_at dksX5_years_0 8 rfl rfl)
theorem dX5_years_9 : decode cX5_years 9 = .ok (.iaload, 1) := dk_46 (dk_at dksX5_years_0 9 rfl rfl)
theorem dX5_years_10 : decode cX5_years 10 = .ok (.iload_n 2, 1) := dk_28 (dk_at dksX5_years_0 10 rfl rfl)
theorem dX5_years_11 : decode cX5_years 11 = .ok (.ldc 39, 2) := dk_18 39 (dk_at dksX5_years_0 11 rfl rfl)
theorem dX5_years_13 : decode cX5_years 13 = .ok (.irem, 1) := dk_112 (dk_at dksX5_years_0 13 rfl rfl)
theorem dX5_years_14 : decode cX5_years 14 = .ok (.iadd, 1) := dk_96 (dk_at dksX5_years_0 14 rfl rfl)
theorem dX5_years_15 : decode cX5_years 15 = .ok (.istore 4, 2) := dk_54 4 (dk_at dksX5_years_0 15 rfl rfl)
theorem dX5_years_17 : decode cX5_years 17 = .ok (.iload 4, 2) := dk_21 4 (dk_at dksX5_years_0 17 rfl rfl)
theorem dX5_years_19 : decode cX5_years 19 = .ok (.ldc 56, 2) := dk_18 56 (dk_at dksX5_years_0 19 rfl rfl)
theorem dX5_years_21 : decode cX5_years 21 = .ok (.if_icmp .le 18, 3) := dk_164 0 18 (dk_at dksX5_years_0 21 rfl rfl)
theorem dX5_years_24 : decode cX5_years 24 = .ok (.iload 4, 2) := dk_21 4 (dk_at dksX5_years_1 0 rfl rfl)
theorem dX5_years_26 : decode cX5_years 26 = .ok (.ldc 57, 2) := dk_18 57 (dk_at dksX5_years_1 2 rfl rfl)
theorem dX5_years_28 : decode cX5_years 28 = .ok (.if_icmp .ge 11, 3) := dk_162 0 11 (dk_at dksX5_years_1 4 rfl rfl)
theorem dX5_years_31 : decode cX5_years 31 = .ok (.aload_n 0, 1) := dk_42 (dk_at dksX5_years_1 7 rfl rfl)
theorem dX5_years_32 : decode cX5_years 32 = .ok (.getfield 7, 3) := dk_180 0 7 (dk_at dksX5_years_1 8 rfl rfl)
theorem dX5_years_35 : decode cX5_years 35 = .ok (.iload_n 3, 1) := dk_29 (dk_at dksX5_years_1 11 rfl rfl)
theorem dX5_years_36 : decode cX5_years 36 = .ok (.iload 4, 2) := dk_21 4 (dk_at dksX5_years_1 12 rfl rfl)
theorem dX5_years_38 : decode cX5_years 38 = .ok (.iastore, 1) := dk_79 (dk_at dksX5_years_1 14 rfl rfl)
theorem dX5_years_39 : decode cX5_years 39 = .ok (.return_, 1) := dk_177 (dk_at dksX5_years_1 15 rfl rfl)
abbrev cX5_withMonth : ByteArray := prog_15_method_11_code
def yX5_withMonth : MethodName := ⟨RX5, "withMonth", "(II)V"⟩
def dkwX5_withMonth_0 : List UInt8 := [42, 180, 0, 13, 27, 4, 126, 28, 184, 0, 40, 79, 177]
abbrev dktX5_withMonth_0 : List UInt8 := dkwX5_withMonth_0 ++ []
theorem dksX5_withMonth_0 : cX5_withMonth.data.toList.drop 0 = dktX5_withMonth_0 := by decide +kernel
theorem dX5_withMonth_0 : decode cX5_withMonth 0 = .ok (.aload_n 0, 1) := dk_42 (dk_at dksX5_withMonth_0 0 rfl rfl)
theorem dX5_withMonth_1 : decode cX5_withMonth 1 = .ok (.getfield 13, 3) := dk_180 0 13 (dk_at dksX5_withMonth_0 1 rfl rfl)
theorem dX5_withMonth_4 : decode cX5_withMonth 4 = .ok (.iload_n 1, 1) := dk_27 (dk_at dksX5_withMonth_0 4 rfl rfl)
theorem dX5_withMonth_5 : decode cX5_withMonth 5 = .ok (.iconst 1, 1) := dk_4 (dk_at dksX5_withMonth_0 5 rfl rfl)
theorem dX5_withMonth_6 : decode cX5_withMonth 6 = .ok (.iand, 1) := dk_126 (dk_at dksX5_withMonth_0 6 rfl rfl)
theorem dX5_withMonth_7 : decode cX5_withMonth 7 = .ok (.iload_n 2, 1) := dk_28 (dk_at dksX5_withMonth_0 7 rfl rfl)
theorem dX5_withMonth_8 : decode cX5_withMonth 8 = .ok (.invokestatic 40, 3) := dk_184 0 40 (dk_at dksX5_withMonth_0 8 rfl rfl)
theorem dX5_withMonth_11 : decode cX5_withMonth 11 = .ok (.iastore, 1) := dk_79 (dk_at dksX5_withMonth_0 11 rfl rfl)
theorem dX5_withMonth_12 : decode cX5_withMonth 12 = .ok (.return_, 1) := dk_177 (dk_at dksX5_withMonth_0 12 rfl rfl)
abbrev cX5_withYear : ByteArray := prog_15_method_12_code
def yX5_withYear : MethodName := ⟨RX5, "withYear", "(II)V"⟩
def dkwX5_withYear_0 : List UInt8 := [42, 180, 0, 7, 27, 4, 126, 28, 18, 39, 112, 79, 177]
abbrev dktX5_withYear_0 : List UInt8 := dkwX5_withYear_0 ++ []
theorem dksX5_withYear_0 : cX5_withYear.data.toList.drop 0 = dktX5_withYear_0 := by decide +kernel
theorem dX5_withYear_0 : decode cX5_withYear 0 = .ok (.aload_n 0, 1) := dk_42 (dk_at dksX5_withYear_0 0 rfl rfl)
theorem dX5_withYear_1 : decode cX5_withYear 1 = .ok (.getfield 7, 3) := dk_180 0 7 (dk_at dksX5_withYear_0 1 rfl rfl)
theorem dX5_withYear_4 : decode cX5_withYear 4 = .ok (.iload_n 1, 1) := dk_27 (dk_at dksX5_withYear_0 4 rfl rfl)
theorem dX5_withYear_5 : decode cX5_withYear 5 = .ok (.iconst 1, 1) := dk_4 (dk_at dksX5_withYear_0 5 rfl rfl)
theorem dX5_withYear_6 : decode cX5_withYear 6 = .ok (.iand, 1) := dk_126 (dk_at dksX5_withYear_0 6 rfl rfl)
theorem dX5_withYear_7 : decode cX5_withYear 7 = .ok (.iload_n 2, 1) := dk_28 (dk_at dksX5_withYear_0 7 rfl rfl)
theorem dX5_withYear_8 : decode cX5_withYear 8 = .ok (.ldc 39, 2) := dk_18 39 (dk_at dksX5_withYear_0 8 rfl rfl)
theorem dX5_withYear_10 : decode cX5_withYear 10 = .ok (.irem, 1) := dk_112 (dk_at dksX5_withYear_0 10 rfl rfl)
theorem dX5_withYear_11 : decode cX5_withYear 11 = .ok (.iastore, 1) := dk_79 (dk_at dksX5_withYear_0 11 rfl rfl)
theorem dX5_withYear_12 : decode cX5_withYear 12 = .ok (.return_, 1) := dk_177 (dk_at dksX5_withYear_0 12 rfl rfl)
abbrev cX5_year : ByteArray := prog_15_method_13_code
def yX5_year : MethodName := ⟨RX5, "year", "(I)I"⟩
def dkwX5_year_0 : List UInt8 := [42, 180, 0, 7, 27, 4, 126, 46, 172]
abbrev dktX5_year_0 : List UInt8 := dkwX5_year_0 ++ []
theorem dksX5_year_0 : cX5_year.data.toList.drop 0 = dktX5_year_0 := by decide +kernel
theorem dX5_year_0 : decode cX5_year 0 = .ok (.aload_n 0, 1) := dk_42 (dk_at dksX5_year_0 0 rfl rfl)
theorem dX5_year_1 : decode cX5_year 1 = .ok (.getfield 7, 3) := dk_180 0 7 (dk_at dksX5_year_0 1 rfl rfl)
theorem dX5_year_4 : decode cX5_year 4 = .ok (.iload_n 1, 1) := dk_27 (dk_at dksX5_year_0 4 rfl rfl)
theorem dX5_year_5 : decode cX5_year 5 = .ok (.iconst 1, 1) := dk_4 (dk_at dksX5_year_0 5 rfl rfl)
theorem dX5_year_6 : decode cX5_year 6 = .ok (.iand, 1) := dk_126 (dk_at dksX5_year_0 6 rfl rfl)
theorem dX5_year_7 : decode cX5_year 7 = .ok (.iaload, 1) := dk_46 (dk_at dksX5_year_0 7 rfl rfl)
theorem dX5_year_8 : decode cX5_year 8 = .ok (.ireturn, 1) := dk_172 (dk_at dksX5_year_0 8 rfl rfl)
abbrev cX5_month : ByteArray := prog_15_method_14_code
def yX5_month : MethodName := ⟨RX5, "month", "(I)I"⟩
def dkwX5_month_0 : List UInt8 := [42, 180, 0, 13, 27, 4, 126, 46, 172]
abbrev dktX5_month_0 : List UInt8 := dkwX5_month_0 ++ []
theorem dksX5_month_0 : cX5_month.data.toList.drop 0 = dktX5_month_0 := by decide +kernel
theorem dX5_month_0 : decode cX5_month 0 = .ok (.aload_n 0, 1) := dk_42 (dk_at dksX5_month_0 0 rfl rfl)
theorem dX5_month_1 : decode cX5_month 1 = .ok (.getfield 13, 3) := dk_180 0 13 (dk_at dksX5_month_0 1 rfl rfl)
theorem dX5_month_4 : decode cX5_month 4 = .ok (.iload_n 1, 1) := dk_27 (dk_at dksX5_month_0 4 rfl rfl)
theorem dX5_month_5 : decode cX5_month 5 = .ok (.iconst 1, 1) := dk_4 (dk_at dksX5_month_0 5 rfl rfl)
theorem dX5_month_6 : decode cX5_month 6 = .ok (.iand, 1) := dk_126 (dk_at dksX5_month_0 6 rfl rfl)
theorem dX5_month_7 : decode cX5_month 7 = .ok (.iaload, 1) := dk_46 (dk_at dksX5_month_0 7 rfl rfl)
theorem dX5_month_8 : decode cX5_month 8 = .ok (.ireturn, 1) := dk_172 (dk_at dksX5_month_0 8 rfl rfl)
abbrev cX5_length : ByteArray := prog_15_method_15_code
def yX5_length : MethodName := ⟨RX5, "length", "(I)I"⟩
def dkwX5_length_0 : List UInt8 := [42, 180, 0, 7, 27, 4, 126, 46, 42, 180, 0, 13, 27, 4, 126, 46, 184, 0, 32, 172]
abbrev dktX5_length_0 : List UInt8 := dkwX5_length_0 ++ []
theorem dksX5_length_0 : cX5_length.data.toList.drop 0 = dktX5_length_0 := by decide +kernel
theorem dX5_length_0 : decode cX5_length 0 = .ok (.aload_n 0, 1) := dk_42 (dk_at dksX5_length_0 0 rfl rfl)
theorem dX5_length_1 : decode cX5_length 1 = .ok (.getfield 7, 3) := dk_180 0 7 (dk_at dksX5_length_0 1 rfl rfl)
theorem dX5_length_4 : decode cX5_length 4 = .ok (.iload_n 1, 1) := dk_27 (dk_at dksX5_length_0 4 rfl rfl)
theorem dX5_length_5 : decode cX5_length 5 = .ok (.iconst 1, 1) := dk_4 (dk_at dksX5_length_0 5 rfl rfl)
theorem dX5_length_6 : decode cX5_length 6 = .ok (.iand, 1) := dk_126 (dk_at dksX5_length_0 6 rfl rfl)
theorem dX5_length_7 : decode cX5_length 7 = .ok (.iaload, 1) := dk_46 (dk_at dksX5_length_0 7 rfl rfl)
theorem dX5_length_8 : decode cX5_length 8 = .ok (.aload_n 0, 1) := dk_42 (dk_at dksX5_length_0 8 rfl rfl)
theorem dX5_length_9 : decode cX5_length 9 = .ok (.getfield 13, 3) := dk_180 0 13 (dk_at dksX5_length_0 9 rfl rfl)
theorem dX5_length_12 : decode cX5_length 12 = .ok (.iload_n 1, 1) := dk_27 (dk_at dksX5_length_0 12 rfl rfl)
theorem dX5_length_13 : decode cX5_length 13 = .ok (.iconst 1, 1) := dk_4 (dk_at dksX5_length_0 13 rfl rfl)
theorem dX5_length_14 : decode cX5_length 14 = .ok (.iand, 1) := dk_126 (dk_at dksX5_length_0 14 rfl rfl)
theorem dX5_length_15 : decode cX5_length 15 = .ok (.iaload, 1) := dk_46 (dk_at dksX5_length_0 15 rfl rfl)
theorem dX5_length_16 : decode cX5_length 16 = .ok (.invokestatic 32, 3) := dk_184 0 32 (dk_at dksX5_length_0 16 rfl rfl)
theorem dX5_length_19 : decode cX5_length 19 = .ok (.ireturn, 1) := dk_172 (dk_at dksX5_length_0 19 rfl rfl)
abbrev cX5_daysOfMonth : ByteArray := prog_15_method_4_code
def yX5_daysOfMonth : MethodName := ⟨RX5, "daysOfMonth", "(II)I"⟩
def dkwX5_daysOfMonth_2 : List UInt8 := [16, 31, 172]
abbrev dktX5_daysOfMonth_2 : List UInt8 := dkwX5_daysOfMonth_2 ++ []
def dkwX5_daysOfMonth_1 : List UInt8 := [159, 0, 21, 27, 16, 6, 159, 0, 15, 27, 16, 9, 159, 0, 9, 27, 16, 11, 160, 0, 6, 16, 30, 172]
abbrev dktX5_daysOfMonth_1 : List UInt8 := dkwX5_daysOfMonth_1 ++ dktX5_daysOfMonth_2
def dkwX5_daysOfMonth_0 : List UInt8 := [27, 5, 160, 0, 18, 26, 184, 0, 16, 153, 0, 8, 16, 29, 167, 0, 5, 16, 28, 172, 27, 7]
abbrev dktX5_daysOfMonth_0 : List UInt8 := dkwX5_daysOfMonth_0 ++ dktX5_daysOfMonth_1
theorem dksX5_daysOfMonth_0 : cX5_daysOfMonth.data.toList.drop 0 = dktX5_daysOfMonth_0 := by decide +kernel
theorem dksX5_daysOfMonth_1 : cX5_daysOfMonth.data.toList.drop 22 = dktX5_daysOfMonth_1 := dk_seg dksX5_daysOfMonth_0 22 rfl rfl
theorem dksX5_daysOfMonth_2 : cX5_daysOfMonth.data.toList.drop 46 = dktX5_daysOfMonth_2 := dk_seg dksX5_daysOfMonth_1 24 rfl rfl
theorem dX5_daysOfMonth_0 : decode cX5_daysOfMonth 0 = .ok (.iload_n 1, 1) := dk_27 (dk_at dksX5_daysOfMonth_0 0 rfl rfl)
theorem dX5_daysOfMonth_1 : decode cX5_daysOfMonth 1 = .ok (.iconst 2, 1) := dk_5 (dk_at dksX5_daysOfMonth_0 1 rfl rfl)
theorem dX5_daysOfMonth_2 : decode cX5_daysOfMonth 2 = .ok (.if_icmp .ne 18, 3) := dk_160 0 18 (dk_at dksX5_daysOfMonth_0 2 rfl rfl)
theorem dX5_daysOfMonth_5 : decode cX5_daysOfMonth 5 = .ok (.iload_n 0, 1) := dk_26 (dk_at dksX5_daysOfMonth_0 5 rfl rfl)
theorem dX5_daysOfMonth_6 : decode cX5_daysOfMonth 6 = .ok (.invokestatic 16, 3) := dk_184 0 16 (dk_at dksX5_daysOfMonth_0 6 rfl rfl)
theorem dX5_daysOfMonth_9 : decode cX5_daysOfMonth 9 = .ok (.ifCond .eq 8, 3) := dk_153 0 8 (dk_at dksX5_daysOfMonth_0 9 rfl rfl)
theorem dX5_daysOfMonth_12 : decode cX5_daysOfMonth 12 = .ok (.bipush 29, 2) := dk_16 29 (dk_at dksX5_daysOfMonth_0 12 rfl rfl)
theorem dX5_daysOfMonth_14 : decode cX5_daysOfMonth 14 = .ok (.goto 5, 3) := dk_167 0 5 (dk_at dksX5_daysOfMonth_0 14 rfl rfl)
theorem dX5_daysOfMonth_17 : decode cX5_daysOfMonth 17 = .ok (.bipush 28, 2) := dk_16 28 (dk_at dksX5_daysOfMonth_0 17 rfl rfl)
theorem dX5_daysOfMonth_19 : decode cX5_daysOfMonth 19 = .ok (.ireturn, 1) := dk_172 (dk_at dksX5_daysOfMonth_0 19 rfl rfl)
theorem dX5_daysOfMonth_20 : decode cX5_daysOfMonth 20 = .ok (.iload_n 1, 1) := dk_27 (dk_at dksX5_daysOfMonth_0 20 rfl rfl)
theorem dX5_daysOfMonth_21 : decode cX5_daysOfMonth 21 = .ok (.iconst 4, 1) := dk_7 (dk_at dksX5_daysOfMonth_0 21 rfl rfl)
theorem dX5_daysOfMonth_22 : decode cX5_daysOfMonth 22 = .ok (.if_icmp .eq 21, 3) := dk_159 0 21 (dk_at dksX5_daysOfMonth_1 0 rfl rfl)
theorem dX5_daysOfMonth_25 : decode cX5_daysOfMonth 25 = .ok (.iload_n 1, 1) := dk_27 (dk_at dksX5_daysOfMonth_1 3 rfl rfl)
theorem dX5_daysOfMonth_26 : decode cX5_daysOfMonth 26 = .ok (.bipush 6, 2) := dk_16 6 (dk_at dksX5_daysOfMonth_1 4 rfl rfl)
theorem dX5_daysOfMonth_28 : decode cX5_daysOfMonth 28 = .ok (.if_icmp .eq 15, 3) := dk_159 0 15 (dk_at dksX5_daysOfMonth_1 6 rfl rfl)
theorem dX5_daysOfMonth_31 : decode cX5_daysOfMonth 31 = .ok (.iload_n 1, 1) := dk_27 (dk_at dksX5_daysOfMonth_1 9 rfl rfl)
theorem dX5_daysOfMonth_32 : decode cX5_daysOfMonth 32 = .ok (.bipush 9, 2) := dk_16 9 (dk_at dksX5_daysOfMonth_1 10 rfl rfl)
theorem dX5_daysOfMonth_34 : decode cX5_daysOfMonth 34 = .ok (.if_icmp .eq 9, 3) := dk_159 0 9 (dk_at dksX5_daysOfMonth_1 12 rfl rfl)
theorem dX5_daysOfMonth_37 : decode cX5_daysOfMonth 37 = .ok (.iload_n 1, 1) := dk_27 (dk_at dksX5_daysOfMonth_1 15 rfl rfl)
theorem dX5_daysOfMonth_38 : decode cX5_daysOfMonth 38 = .ok (.bipush 11, 2) := dk_16 11 (dk_at dksX5_daysOfMonth_1 16 rfl rfl)
theorem dX5_daysOfMonth_40 : decode cX5_daysOfMonth 40 = .ok (.if_icmp .ne 6, 3) := dk_160 0 6 (dk_at dksX5_daysOfMonth_1 18 rfl rfl)
theorem dX5_daysOfMonth_43 : decode cX5_daysOfMonth 43 = .ok (.bipush 30, 2) := dk_16 30 (dk_at dksX5_daysOfMonth_1 21 rfl rfl)
theorem dX5_daysOfMonth_45 : decode cX5_daysOfMonth 45 = .ok (.ireturn, 1) := dk_172 (dk_at dksX5_daysOfMonth_1 23 rfl rfl)
theorem dX5_daysOfMonth_46 : decode cX5_daysOfMonth 46 = .ok (.bipush 31, 2) := dk_16 31 (dk_at dksX5_daysOfMonth_2 0 rfl rfl)
theorem dX5_daysOfMonth_48 : decode cX5_daysOfMonth 48 = .ok (.ireturn, 1) := dk_172 (dk_at dksX5_daysOfMonth_2 2 rfl rfl)
abbrev cX5_leapYear : ByteArray := prog_15_method_2_code
def yX5_leapYear : MethodName := ⟨RX5, "leapYear", "(I)Z"⟩
def dkwX5_leapYear_1 : List UInt8 := [154, 0, 7, 4, 167, 0, 4, 3, 172]
abbrev dktX5_leapYear_1 : List UInt8 := dkwX5_leapYear_1 ++ []
def dkwX5_leapYear_0 : List UInt8 := [26, 17, 1, 144, 112, 154, 0, 5, 4, 172, 26, 16, 100, 112, 154, 0, 5, 3, 172, 26, 7, 112]
abbrev dktX5_leapYear_0 : List UInt8 := dkwX5_leapYear_0 ++ dktX5_leapYear_1
theorem dksX5_leapYear_0 : cX5_leapYear.data.toList.drop 0 = dktX5_leapYear_0 := by decide +kernel
theorem dksX5_leapYear_1 : cX5_leapYear.data.toList.drop 22 = dktX5_leapYear_1 := dk_seg dksX5_leapYear_0 22 rfl rfl
theorem dX5_leapYear_0 : decode cX5_leapYear 0 = .ok (.iload_n 0, 1) := dk_26 (dk_at dksX5_leapYear_0 0 rfl rfl)
theorem dX5_leapYear_1 : decode cX5_leapYear 1 = .ok (.sipush 400, 3) := dk_17 1 144 (dk_at dksX5_leapYear_0 1 rfl rfl)
theorem dX5_leapYear_4 : decode cX5_leapYear 4 = .ok (.irem, 1) := dk_112 (dk_at dksX5_leapYear_0 4 rfl rfl)
theorem dX5_leapYear_5 : decode cX5_leapYear 5 = .ok (.ifCond .ne 5, 3) := dk_154 0 5 (dk_at dksX5_leapYear_0 5 rfl rfl)
theorem dX5_leapYear_8 : decode cX5_leapYear 8 = .ok (.iconst 1, 1) := dk_4 (dk_at dksX5_leapYear_0 8 rfl rfl)
theorem dX5_leapYear_9 : decode cX5_leapYear 9 = .ok (.ireturn, 1) := dk_172 (dk_at dksX5_leapYear_0 9 rfl rfl)
theorem dX5_leapYear_10 : decode cX5_leapYear 10 = .ok (.iload_n 0, 1) := dk_26 (dk_at dksX5_leapYear_0 10 rfl rfl)
theorem dX5_leapYear_11 : decode cX5_leapYear 11 = .ok (.bipush 100, 2) := dk_16 100 (dk_at dksX5_leapYear_0 11 rfl rfl)
theorem dX5_leapYear_13 : decode cX5_leapYear 13 = .ok (.irem, 1) := dk_112 (dk_at dksX5_leapYear_0 13 rfl rfl)
theorem dX5_leapYear_14 : decode cX5_leapYear 14 = .ok (.ifCond .ne 5, 3) := dk_154 0 5 (dk_at dksX5_leapYear_0 14 rfl rfl)
theorem dX5_leapYear_17 : decode cX5_leapYear 17 = .ok (.iconst 0, 1) := dk_3 (dk_at dksX5_leapYear_0 17 rfl rfl)
theorem dX5_leapYear_18 : decode cX5_leapYear 18 = .ok (.ireturn, 1) := dk_172 (dk_at dksX5_leapYear_0 18 rfl rfl)
theorem dX5_leapYear_19 : decode cX5_leapYear 19 = .ok (.iload_n 0, 1) := dk_26 (dk_at dksX5_leapYear_0 19 rfl rfl)
theorem dX5_leapYear_20 : decode cX5_leapYear 20 = .ok (.iconst 4, 1) := dk_7 (dk_at dksX5_leapYear_0 20 rfl rfl)
theorem dX5_leapYear_21 : decode cX5_leapYear 21 = .ok (.irem, 1) := dk_112 (dk_at dksX5_leapYear_0 21 rfl rfl)
theorem dX5_leapYear_22 : decode cX5_leapYear 22 = .ok (.ifCond .ne 7, 3) := dk_154 0 7 (dk_at dksX5_leapYear_1 0 rfl rfl)
theorem dX5_leapYear_25 : decode cX5_leapYear 25 = .ok (.iconst 1, 1) := dk_4 (dk_at dksX5_leapYear_1 3 rfl rfl)
theorem dX5_leapYear_26 : decode cX5_leapYear 26 = .ok (.goto 4, 3) := dk_167 0 4 (dk_at dksX5_leapYear_1 4 rfl rfl)
theorem dX5_leapYear_29 : decode cX5_leapYear 29 = .ok (.iconst 0, 1) := dk_3 (dk_at dksX5_leapYear_1 7 rfl rfl)
theorem dX5_leapYear_30 : decode cX5_leapYear 30 = .ok (.ireturn, 1) := dk_172 (dk_at dksX5_leapYear_1 8 rfl rfl)
abbrev cX5_yearLength : ByteArray := prog_15_method_16_code
def yX5_yearLength : MethodName := ⟨RX5, "yearLength", "(I)I"⟩
def dkwX5_yearLength_0 : List UInt8 := [42, 180, 0, 7, 27, 4, 126, 46, 184, 0, 28, 172]
abbrev dktX5_yearLength_0 : List UInt8 := dkwX5_yearLength_0 ++ []
theorem dksX5_yearLength_0 : cX5_yearLength.data.toList.drop 0 = dktX5_yearLength_0 := by decide +kernel
theorem dX5_yearLength_0 : decode cX5_yearLength 0 = .ok (.aload_n 0, 1) := dk_42 (dk_at dksX5_yearLength_0 0 rfl rfl)
theorem dX5_yearLength_1 : decode cX5_yearLength 1 = .ok (.getfield 7, 3) := dk_180 0 7 (dk_at dksX5_yearLength_0 1 rfl rfl)
theorem dX5_yearLength_4 : decode cX5_yearLength 4 = .ok (.iload_n 1, 1) := dk_27 (dk_at dksX5_yearLength_0 4 rfl rfl)
theorem dX5_yearLength_5 : decode cX5_yearLength 5 = .ok (.iconst 1, 1) := dk_4 (dk_at dksX5_yearLength_0 5 rfl rfl)
theorem dX5_yearLength_6 : decode cX5_yearLength 6 = .ok (.iand, 1) := dk_126 (dk_at dksX5_yearLength_0 6 rfl rfl)
theorem dX5_yearLength_7 : decode cX5_yearLength 7 = .ok (.iaload, 1) := dk_46 (dk_at dksX5_yearLength_0 7 rfl rfl)
theorem dX5_yearLength_8 : decode cX5_yearLength 8 = .ok (.invokestatic 28, 3) := dk_184 0 28 (dk_at dksX5_yearLength_0 8 rfl rfl)
theorem dX5_yearLength_11 : decode cX5_yearLength 11 = .ok (.ireturn, 1) := dk_172 (dk_at dksX5_yearLength_0 11 rfl rfl)
abbrev cX5_daysOfYear : ByteArray := prog_15_method_3_code
def yX5_daysOfYear : MethodName := ⟨RX5, "daysOfYear", "(I)I"⟩
def dkwX5_daysOfYear_0 : List UInt8 := [26, 184, 0, 16, 153, 0, 9, 17, 1, 110, 167, 0, 6, 17, 1, 109, 172]
abbrev dktX5_daysOfYear_0 : List UInt8 := dkwX5_daysOfYear_0 ++ []
theorem dksX5_daysOfYear_0 : cX5_daysOfYear.data.toList.drop 0 = dktX5_daysOfYear_0 := by decide +kernel
theorem dX5_daysOfYear_0 : decode cX5_daysOfYear 0 = .ok (.iload_n 0, 1) := dk_26 (dk_at dksX5_daysOfYear_0 0 rfl rfl)
theorem dX5_daysOfYear_1 : decode cX5_daysOfYear 1 = .ok (.invokestatic 16, 3) := dk_184 0 16 (dk_at dksX5_daysOfYear_0 1 rfl rfl)
theorem dX5_daysOfYear_4 : decode cX5_daysOfYear 4 = .ok (.ifCond .eq 9, 3) := dk_153 0 9 (dk_at dksX5_daysOfYear_0 4 rfl rfl)
theorem dX5_daysOfYear_7 : decode cX5_daysOfYear 7 = .ok (.sipush 366, 3) := dk_17 1 110 (dk_at dksX5_daysOfYear_0 7 rfl rfl)
theorem dX5_daysOfYear_10 : decode cX5_daysOfYear 10 = .ok (.goto 6, 3) := dk_167 0 6 (dk_at dksX5_daysOfYear_0 10 rfl rfl)
theorem dX5_daysOfYear_13 : decode cX5_daysOfYear 13 = .ok (.sipush 365, 3) := dk_17 1 109 (dk_at dksX5_daysOfYear_0 13 rfl rfl)
theorem dX5_daysOfYear_16 : decode cX5_daysOfYear 16 = .ok (.ireturn, 1) := dk_172 (dk_at dksX5_daysOfYear_0 16 rfl rfl)
abbrev cX5_leap : ByteArray := prog_15_method_17_code
def yX5_leap : MethodName := ⟨RX5, "leap", "(I)Z"⟩
def dkwX5_leap_0 : List UInt8 := [42, 180, 0, 7, 27, 4, 126, 46, 184, 0, 16, 172]
abbrev dktX5_leap_0 : List UInt8 := dkwX5_leap_0 ++ []
theorem dksX5_leap_0 : cX5_leap.data.toList.drop 0 = dktX5_leap_0 := by decide +kernel
theorem dX5_leap_0 : decode cX5_leap 0 = .ok (.aload_n 0, 1) := dk_42 (dk_at dksX5_leap_0 0 rfl rfl)
theorem dX5_leap_1 : decode cX5_leap 1 = .ok (.getfield 7, 3) := dk_180 0 7 (dk_at dksX5_leap_0 1 rfl rfl)
theorem dX5_leap_4 : decode cX5_leap 4 = .ok (.iload_n 1, 1) := dk_27 (dk_at dksX5_leap_0 4 rfl rfl)
theorem dX5_leap_5 : decode cX5_leap 5 = .ok (.iconst 1, 1) := dk_4 (dk_at dksX5_leap_0 5 rfl rfl)
theorem dX5_leap_6 : decode cX5_leap 6 = .ok (.iand, 1) := dk_126 (dk_at dksX5_leap_0 6 rfl rfl)
theorem dX5_leap_7 : decode cX5_leap 7 = .ok (.iaload, 1) := dk_46 (dk_at dksX5_leap_0 7 rfl rfl)
theorem dX5_leap_8 : decode cX5_leap 8 = .ok (.invokestatic 16, 3) := dk_184 0 16 (dk_at dksX5_leap_0 8 rfl rfl)
theorem dX5_leap_11 : decode cX5_leap 11 = .ok (.ireturn, 1) := dk_172 (dk_at dksX5_leap_0 11 rfl rfl)
abbrev cX5_firstDay : ByteArray := prog_15_method_18_code
def yX5_firstDay : MethodName := ⟨RX5, "firstDay", "(I)J"⟩
def dkwX5_firstDay_0 : List UInt8 := [42, 180, 0, 7, 27, 4, 126, 46, 42, 180, 0, 13, 27, 4, 126, 46, 184, 0, 58, 173]
abbrev dktX5_firstDay_0 : List UInt8 := dkwX5_firstDay_0 ++ []
theorem dksX5_firstDay_0 : cX5_firstDay.data.toList.drop 0 = dktX5_firstDay_0 := by decide +kernel
theorem dX5_firstDay_0 : decode cX5_firstDay 0 = .ok (.aload_n 0, 1) := dk_42 (dk_at dksX5_firstDay_0 0 rfl rfl)
theorem dX5_firstDay_1 : decode cX5_firstDay 1 = .ok (.getfield 7, 3) := dk_180 0 7 (dk_at dksX5_firstDay_0 1 rfl rfl)
theorem dX5_firstDay_4 : decode cX5_firstDay 4 = .ok (.iload_n 1, 1) := dk_27 (dk_at dksX5_firstDay_0 4 rfl rfl)
theorem dX5_firstDay_5 : decode cX5_firstDay 5 = .ok (.iconst 1, 1) := dk_4 (dk_at dksX5_firstDay_0 5 rfl rfl)
theorem dX5_firstDay_6 : decode cX5_firstDay 6 = .ok (.iand, 1) := dk_126 (dk_at dksX5_firstDay_0 6 rfl rfl)
theorem dX5_firstDay_7 : decode cX5_firstDay 7 = .ok (.iaload, 1) := dk_46 (dk_at dksX5_firstDay_0 7 rfl rfl)
theorem dX5_firstDay_8 : decode cX5_firstDay 8 = .ok (.aload_n 0, 1) := dk_42 (dk_at dksX5_firstDay_0 8 rfl rfl)
theorem dX5_firstDay_9 : decode cX5_firstDay 9 = .ok (.getfield 13, 3) := dk_180 0 13 (dk_at dksX5_firstDay_0 9 rfl rfl)
theorem dX5_firstDay_12 : decode cX5_firstDay 12 = .ok (.iload_n 1, 1) := dk_27 (dk_at dksX5_firstDay_0 12 rfl rfl)
theorem dX5_firstDay_13 : decode cX5_firstDay 13 = .ok (.iconst 1, 1) := dk_4 (dk_at dksX5_firstDay_0 13 rfl rfl)
theorem dX5_firstDay_14 : decode cX5_firstDay 14 = .ok (.iand, 1) := dk_126 (dk_at dksX5_firstDay_0 14 rfl rfl)
theorem dX5_firstDay_15 : decode cX5_firstDay 15 = .ok (.iaload, 1) := dk_46 (dk_at dksX5_firstDay_0 15 rfl rfl)
theorem dX5_firstDay_16 : decode cX5_firstDay 16 = .ok (.invokestatic 58, 3) := dk_184 0 58 (dk_at dksX5_firstDay_0 16 rfl rfl)
theorem dX5_firstDay_19 : decode cX5_firstDay 19 = .ok (.lreturn, 1) := dk_173 (dk_at dksX5_firstDay_0 19 rfl rfl)
abbrev cX5_firstEpochDay : ByteArray := prog_15_method_6_code
def yX5_firstEpochDay : MethodName := ⟨RX5, "firstEpochDay", "(II)J"⟩
def dkwX5_firstEpochDay_3 : List UInt8 := [97, 55, 5, 132, 7, 1, 167, 255, 235, 22, 5, 20, 0, 36, 101, 173]
abbrev dktX5_firstEpochDay_3 : List UInt8 := dkwX5_firstEpochDay_3 ++ []
def dkwX5_firstEpochDay_2 : List UInt8 := [132, 7, 1, 167, 255, 235, 4, 54, 7, 21, 7, 27, 162, 0, 21, 22, 5, 26, 21, 7, 184, 0, 32, 133]
abbrev dktX5_firstEpochDay_2 : List UInt8 := dkwX5_firstEpochDay_2 ++ dktX5_firstEpochDay_3
def dkwX5_firstEpochDay_1 : List UInt8 := [105, 55, 5, 3, 54, 7, 21, 7, 21, 4, 162, 0, 20, 22, 5, 21, 7, 184, 0, 28, 133, 97, 55, 5]
abbrev dktX5_firstEpochDay_1 : List UInt8 := dkwX5_firstEpochDay_1 ++ dktX5_firstEpochDay_2
def dkwX5_firstEpochDay_0 : List UInt8 := [26, 133, 20, 0, 20, 184, 0, 22, 65, 26, 133, 32, 20, 0, 20, 105, 101, 136, 54, 4, 32, 20, 0, 26]
abbrev dktX5_firstEpochDay_0 : List UInt8 := dkwX5_firstEpochDay_0 ++ dktX5_firstEpochDay_1
theorem dksX5_firstEpochDay_0 : cX5_firstEpochDay.data.toList.drop 0 = dktX5_firstEpochDay_0 := by decide +kernel
theorem dksX5_firstEpochDay_1 : cX5_firstEpochDay.data.toList.drop 24 = dktX5_firstEpochDay_1 := dk_seg dksX5_firstEpochDay_0 24 rfl rfl
theorem dksX5_firstEpochDay_2 : cX5_firstEpochDay.data.toList.drop 48 = dktX5_firstEpochDay_2 := dk_seg dksX5_firstEpochDay_1 24 rfl rfl
theorem dksX5_firstEpochDay_3 : cX5_firstEpochDay.data.toList.drop 72 = dktX5_firstEpochDay_3 := dk_seg dksX5_firstEpochDay_2 24 rfl rfl
theorem dX5_firstEpochDay_0 : decode cX5_firstEpochDay 0 = .ok (.iload_n 0, 1) := dk_26 (dk_at dksX5_firstEpochDay_0 0 rfl rfl)
theorem dX5_firstEpochDay_1 : decode cX5_firstEpochDay 1 = .ok (.i2l, 1) := dk_133 (dk_at dksX5_firstEpochDay_0 1 rfl rfl)
theorem dX5_firstEpochDay_2 : decode cX5_firstEpochDay 2 = .ok (.ldc2_w 20, 3) := dk_20 0 20 (dk_at dksX5_firstEpochDay_0 2 rfl rfl)
theorem dX5_firstEpochDay_5 : decode cX5_firstEpochDay 5 = .ok (.invokestatic 22, 3) := dk_184 0 22 (dk_at dksX5_firstEpochDay_0 5 rfl rfl)
theorem dX5_firstEpochDay_8 : decode cX5_firstEpochDay 8 = .ok (.lstore_n 2, 1) := dk_65 (dk_at dksX5_firstEpochDay_0 8 rfl rfl)
theorem dX5_firstEpochDay_9 : decode cX5_firstEpochDay 9 = .ok (.iload_n 0, 1) := dk_26 (dk_at dksX5_firstEpochDay_0 9 rfl rfl)
theorem dX5_firstEpochDay_10 : decode cX5_firstEpochDay 10 = .ok (.i2l, 1) := dk_133 (dk_at dksX5_firstEpochDay_0 10 rfl rfl)
theorem dX5_firstEpochDay_11 : decode cX5_firstEpochDay 11 = .ok (.lload_n 2, 1) := dk_32 (dk_at dksX5_firstEpochDay_0 11 rfl rfl)
theorem dX5_firstEpochDay_12 : decode cX5_firstEpochDay 12 = .ok (.ldc2_w 20, 3) := dk_20 0 20 (dk_at dksX5_firstEpochDay_0 12 rfl rfl)
theorem dX5_firstEpochDay_15 : decode cX5_firstEpochDay 15 = .ok (.lmul, 1) := dk_105 (dk_at dksX5_firstEpochDay_0 15 rfl rfl)
theorem dX5_firstEpochDay_16 : decode cX5_firstEpochDay 16 = .ok (.lsub, 1) := dk_101 (dk_at dksX5_firstEpochDay_0 16 rfl rfl)
theorem dX5_firstEpochDay_17 : decode cX5_firstEpochDay 17 = .ok (.l2i, 1) := dk_136 (dk_at dksX5_firstEpochDay_0 17 rfl rfl)
theorem dX5_firstEpochDay_18 : decode cX5_firstEpochDay 18 = .ok (.istore 4, 2) := dk_54 4 (dk_at dksX5_firstEpochDay_0 18 rfl rfl)
theorem dX5_firstEpochDay_20 : decode cX5_firstEpochDay 20 = .ok (.lload_n 2, 1) := dk_32 (dk_at dksX5_firstEpochDay_0 20 rfl rfl)
theorem dX5_firstEpochDay_21 : decode cX5_firstEpochDay 21 = .ok (.ldc2_w 26, 3) := dk_20 0 26 (dk_at dksX5_firstEpochDay_0 21 rfl rfl)
theorem dX5_firstEpochDay_24 : decode cX5_firstEpochDay 24 = .ok (.lmul, 1) := dk_105 (dk_at dksX5_firstEpochDay_1 0 rfl rfl)
theorem dX5_firstEpochDay_25 : decode cX5_firstEpochDay 25 = .ok (.lstore 5, 2) := dk_55 5 (dk_at dksX5_firstEpochDay_1 1 rfl rfl)
theorem dX5_firstEpochDay_27 : decode cX5_firstEpochDay 27 = .ok (.iconst 0, 1) := dk_3 (dk_at dksX5_firstEpochDay_1 3 rfl rfl)
theorem dX5_firstEpochDay_28 : decode cX5_firstEpochDay 28 = .ok (.istore 7, 2) := dk_54 7 (dk_at dksX5_firstEpochDay_1 4 rfl rfl)
theorem dX5_firstEpochDay_30 : decode cX5_firstEpochDay 30 = .ok (.iload 7, 2) := dk_21 7 (dk_at dksX5_firstEpochDay_1 6 rfl rfl)
theorem dX5_firstEpochDay_32 : decode cX5_firstEpochDay 32 = .ok (.iload 4, 2) := dk_21 4 (dk_at dksX5_firstEpochDay_1 8 rfl rfl)
theorem dX5_firstEpochDay_34 : decode cX5_firstEpochDay 34 = .ok (.if_icmp .ge 20, 3) := dk_162 0 20 (dk_at dksX5_firstEpochDay_1 10 rfl rfl)
theorem dX5_firstEpochDay_37 : decode cX5_firstEpochDay 37 = .ok (.lload 5, 2) := dk_22 5 (dk_at dksX5_firstEpochDay_1 13 rfl rfl)
theorem dX5_firstEpochDay_39 : decode cX5_firstEpochDay 39 = .ok (.iload 7, 2) := dk_21 7 (dk_at dksX5_firstEpochDay_1 15 rfl rfl)
theorem dX5_firstEpochDay_41 : decode cX5_firstEpochDay 41 = .ok (.invokestatic 28, 3) := dk_184 0 28 (dk_at dksX5_firstEpochDay_1 17 rfl rfl)
theorem dX5_firstEpochDay_44 : decode cX5_firstEpochDay 44 = .ok (.i2l, 1) := dk_133 (dk_at dksX5_firstEpochDay_1 20 rfl rfl)
theorem dX5_firstEpochDay_45 : decode cX5_firstEpochDay 45 = .ok (.ladd, 1) := dk_97 (dk_at dksX5_firstEpochDay_1 21 rfl rfl)
theorem dX5_firstEpochDay_46 : decode cX5_firstEpochDay 46 = .ok (.lstore 5, 2) := dk_55 5 (dk_at dksX5_firstEpochDay_1 22 rfl rfl)
theorem dX5_firstEpochDay_48 : decode cX5_firstEpochDay 48 = .ok (.iinc 7 1, 3) := dk_132 7 1 (dk_at dksX5_firstEpochDay_2 0 rfl rfl)
theorem dX5_firstEpochDay_51 : decode cX5_firstEpochDay 51 = .ok (.goto (-21), 3) := dk_167 255 235 (dk_at dksX5_firstEpochDay_2 3 rfl rfl)
theorem dX5_firstEpochDay_54 : decode cX5_firstEpochDay 54 = .ok (.iconst 1, 1) := dk_4 (dk_at dksX5_firstEpochDay_2 6 rfl rfl)
theorem dX5_firstEpochDay_55 : decode cX5_firstEpochDay 55 = .ok (.istore 7, 2) := dk_54 7 (dk_at dksX5_firstEpochDay_2 7 rfl rfl)
theorem dX5_firstEpochDay_57 : decode cX5_firstEpochDay 57 = .ok (.iload 7, 2) := dk_21 7 (dk_at dksX5_firstEpochDay_2 9 rfl rfl)
theorem dX5_firstEpochDay_59 : decode cX5_firstEpochDay 59 = .ok (.iload_n 1, 1) := dk_27 (dk_at dksX5_firstEpochDay_2 11 rfl rfl)
theorem dX5_firstEpochDay_60 : decode cX5_firstEpochDay 60 = .ok (.if_icmp .ge 21, 3) := dk_162 0 21 (dk_at dksX5_firstEpochDay_2 12 rfl rfl)
theorem dX5_firstEpochDay_63 : decode cX5_firstEpochDay 63 = .ok (.lload 5, 2) := dk_22 5 (dk_at dksX5_firstEpochDay_2 15 rfl rfl)
theorem dX5_firstEpochDay_65 : decode cX5_firstEpochDay 65 = .ok (.iload_n 0, 1) := dk_26 (dk_at dksX5_firstEpochDay_2 17 rfl rfl)
theorem dX5_firstEpochDay_66 : decode cX5_firstEpochDay 66 = .ok (.iload 7, 2) := dk_21 7 (dk_at dksX5_firstEpochDay_2 18 rfl rfl)
theorem dX5_firstEpochDay_68 : decode cX5_firstEpochDay 68 = .ok (.invokestatic 32, 3) := dk_184 0 32 (dk_at dksX5_firstEpochDay_2 20 rfl rfl)
theorem dX5_firstEpochDay_71 : decode cX5_firstEpochDay 71 = .ok (.i2l, 1) := dk_133 (dk_at dksX5_firstEpochDay_2 23 rfl rfl)
theorem dX5_firstEpochDay_72 : decode cX5_firstEpochDay 72 = .ok (.ladd, 1) := dk_97 (dk_at dksX5_firstEpochDay_3 0 rfl rfl)
theorem dX5_firstEpochDay_73 : decode cX5_firstEpochDay 73 = .ok (.lstore 5, 2) := dk_55 5 (dk_at dksX5_firstEpochDay_3 1 rfl rfl)
theorem dX5_firstEpochDay_75 : decode cX5_firstEpochDay 75 = .ok (.iinc 7 1, 3) := dk_132 7 1 (dk_at dksX5_firstEpochDay_3 3 rfl rfl)
theorem dX5_firstEpochDay_78 : decode cX5_firstEpochDay 78 = .ok (.goto (-21), 3) := dk_167 255 235 (dk_at dksX5_firstEpochDay_3 6 rfl rfl)
theorem dX5_firstEpochDay_81 : decode cX5_firstEpochDay 81 = .ok (.lload 5, 2) := dk_22 5 (dk_at dksX5_firstEpochDay_3 9 rfl rfl)
theorem dX5_firstEpochDay_83 : decode cX5_firstEpochDay 83 = .ok (.ldc2_w 36, 3) := dk_20 0 36 (dk_at dksX5_firstEpochDay_3 11 rfl rfl)
theorem dX5_firstEpochDay_86 : decode cX5_firstEpochDay 86 = .ok (.lsub, 1) := dk_101 (dk_at dksX5_firstEpochDay_3 14 rfl rfl)
theorem dX5_firstEpochDay_87 : decode cX5_firstEpochDay 87 = .ok (.lreturn, 1) := dk_173 (dk_at dksX5_firstEpochDay_3 15 rfl rfl)
abbrev cX5_lastDay : ByteArray := prog_15_method_19_code
def yX5_lastDay : MethodName := ⟨RX5, "lastDay", "(I)J"⟩
def dkwX5_lastDay_1 : List UInt8 := [46, 42, 180, 0, 13, 28, 46, 184, 0, 32, 133, 97, 10, 101, 173]
abbrev dktX5_lastDay_1 : List UInt8 := dkwX5_lastDay_1 ++ []
def dkwX5_lastDay_0 : List UInt8 := [27, 4, 126, 61, 42, 180, 0, 7, 28, 46, 42, 180, 0, 13, 28, 46, 184, 0, 58, 42, 180, 0, 7, 28]
abbrev dktX5_lastDay_0 : List UInt8 := dkwX5_lastDay_0 ++ dktX5_lastDay_1
theorem dksX5_lastDay_0 : cX5_lastDay.data.toList.drop 0 = dktX5_lastDay_0 := by decide +kernel
theorem dksX5_lastDay_1 : cX5_lastDay.data.toList.drop 24 = dktX5_lastDay_1 := dk_seg dksX5_lastDay_0 24 rfl rfl
theorem dX5_lastDay_0 : decode cX5_lastDay 0 = .ok (.iload_n 1, 1) := dk_27 (dk_at dksX5_lastDay_0 0 rfl rfl)
theorem dX5_lastDay_1 : decode cX5_lastDay 1 = .ok (.iconst 1, 1) := dk_4 (dk_at dksX5_lastDay_0 1 rfl rfl)
theorem dX5_lastDay_2 : decode cX5_lastDay 2 = .ok (.iand, 1) := dk_126 (dk_at dksX5_lastDay_0 2 rfl rfl)
theorem dX5_lastDay_3 : decode cX5_lastDay 3 = .ok (.istore_n 2, 1) := dk_61 (dk_at dksX5_lastDay_0 3 rfl rfl)
theorem dX5_lastDay_4 : decode cX5_lastDay 4 = .ok (.aload_n 0, 1) := dk_42 (dk_at dksX5_lastDay_0 4 rfl rfl)
theorem dX5_lastDay_5 : decode cX5_lastDay 5 = .ok (.getfield 7, 3) := dk_180 0 7 (dk_at dksX5_lastDay_0 5 rfl rfl)
theorem dX5_lastDay_8 : decode cX5_lastDay 8 = .ok (.iload_n 2, 1) := dk_28 (dk_at dksX5_lastDay_0 8 rfl rfl)
theorem dX5_lastDay_9 : decode cX5_lastDay 9 = .ok (.iaload, 1) := dk_46 (dk_at dksX5_lastDay_0 9 rfl rfl)
theorem dX5_lastDay_10 : decode cX5_lastDay 10 = .ok (.aload_n 0, 1) := dk_42 (dk_at dksX5_lastDay_0 10 rfl rfl)
theorem dX5_lastDay_11 : decode cX5_lastDay 11 = .ok (.getfield 13, 3) := dk_180 0 13 (dk_at dksX5_lastDay_0 11 rfl rfl)
theorem dX5_lastDay_14 : decode cX5_lastDay 14 = .ok (.iload_n 2, 1) := dk_28 (dk_at dksX5_lastDay_0 14 rfl rfl)
theorem dX5_lastDay_15 : decode cX5_lastDay 15 = .ok (.iaload, 1) := dk_46 (dk_at dksX5_lastDay_0 15 rfl rfl)
theorem dX5_lastDay_16 : decode cX5_lastDay 16 = .ok (.invokestatic 58, 3) := dk_184 0 58 (dk_at dksX5_lastDay_0 16 rfl rfl)
theorem dX5_lastDay_19 : decode cX5_lastDay 19 = .ok (.aload_n 0, 1) := dk_42 (dk_at dksX5_lastDay_0 19 rfl rfl)
theorem dX5_lastDay_20 : decode cX5_lastDay 20 = .ok (.getfield 7, 3) := dk_180 0 7 (dk_at dksX5_lastDay_0 20 rfl rfl)
theorem dX5_lastDay_23 : decode cX5_lastDay 23 = .ok (.iload_n 2, 1) := dk_28 (dk_at dksX5_lastDay_0 23 rfl rfl)
theorem dX5_lastDay_24 : decode cX5_lastDay 24 = .ok (.iaload, 1) := dk_46 (dk_at dksX5_lastDay_1 0 rfl rfl)
theorem dX5_lastDay_25 : decode cX5_lastDay 25 = .ok (.aload_n 0, 1) := dk_42 (dk_at dksX5_lastDay_1 1 rfl rfl)
theorem dX5_lastDay_26 : decode cX5_lastDay 26 = .ok (.getfield 13, 3) := dk_180 0 13 (dk_at dksX5_lastDay_1 2 rfl rfl)
theorem dX5_lastDay_29 : decode cX5_lastDay 29 = .ok (.iload_n 2, 1) := dk_28 (dk_at dksX5_lastDay_1 5 rfl rfl)
theorem dX5_lastDay_30 : decode cX5_lastDay 30 = .ok (.iaload, 1) := dk_46 (dk_at dksX5_lastDay_1 6 rfl rfl)
theorem dX5_lastDay_31 : decode cX5_lastDay 31 = .ok (.invokestatic 32, 3) := dk_184 0 32 (dk_at dksX5_lastDay_1 7 rfl rfl)
theorem dX5_lastDay_34 : decode cX5_lastDay 34 = .ok (.i2l, 1) := dk_133 (dk_at dksX5_lastDay_1 10 rfl rfl)
theorem dX5_lastDay_35 : decode cX5_lastDay 35 = .ok (.ladd, 1) := dk_97 (dk_at dksX5_lastDay_1 11 rfl rfl)
theorem dX5_lastDay_36 : decode cX5_lastDay 36 = .ok (.lconst 1, 1) := dk_10 (dk_at dksX5_lastDay_1 12 rfl rfl)
theorem dX5_lastDay_37 : decode cX5_lastDay 37 = .ok (.lsub, 1) := dk_101 (dk_at dksX5_lastDay_1 13 rfl rfl)
theorem dX5_lastDay_38 : decode cX5_lastDay 38 = .ok (.lreturn, 1) := dk_173 (dk_at dksX5_lastDay_1 14 rfl rfl)
abbrev cX5_order : ByteArray := prog_15_method_20_code
def yX5_order : MethodName := ⟨RX5, "order", "()I"⟩
def dkwX5_order_2 : List UInt8 := [162, 0, 5, 2, 172, 42, 180, 0, 13, 3, 46, 42, 180, 0, 13, 4, 46, 164, 0, 5, 4, 172, 3, 172]
abbrev dktX5_order_2 : List UInt8 := dkwX5_order_2 ++ []
def dkwX5_order_1 : List UInt8 := [180, 0, 7, 4, 46, 164, 0, 5, 4, 172, 42, 180, 0, 13, 3, 46, 42, 180, 0, 13, 4, 46]
abbrev dktX5_order_1 : List UInt8 := dkwX5_order_1 ++ dktX5_order_2
def dkwX5_order_0 : List UInt8 := [42, 180, 0, 7, 3, 46, 42, 180, 0, 7, 4, 46, 162, 0, 5, 2, 172, 42, 180, 0, 7, 3, 46, 42]
abbrev dktX5_order_0 : List UInt8 := dkwX5_order_0 ++ dktX5_order_1
theorem dksX5_order_0 : cX5_order.data.toList.drop 0 = dktX5_order_0 := by decide +kernel
theorem dksX5_order_1 : cX5_order.data.toList.drop 24 = dktX5_order_1 := dk_seg dksX5_order_0 24 rfl rfl
theorem dksX5_order_2 : cX5_order.data.toList.drop 46 = dktX5_order_2 := dk_seg dksX5_order_1 22 rfl rfl
theorem dX5_order_0 : decode cX5_order 0 = .ok (.aload_n 0, 1) := dk_42 (dk_at dksX5_order_0 0 rfl rfl)
theorem dX5_order_1 : decode cX5_order 1 = .ok (.getfield 7, 3) := dk_180 0 7 (dk_at dksX5_order_0 1 rfl rfl)
theorem dX5_order_4 : decode cX5_order 4 = .ok (.iconst 0, 1) := dk_3 (dk_at dksX5_order_0 4 rfl rfl)
theorem dX5_order_5 : decode cX5_order 5 = .ok (.iaload, 1) := dk_46 (dk_at dksX5_order_0 5 rfl rfl)
theorem dX5_order_6 : decode cX5_order 6 = .ok (.aload_n 0, 1) := dk_42 (dk_at dksX5_order_0 6 rfl rfl)
theorem dX5_order_7 : decode cX5_order 7 = .ok (.getfield 7, 3) := dk_180 0 7 (dk_at dksX5_order_0 7 rfl rfl)
theorem dX5_order_10 : decode cX5_order 10 = .ok (.iconst 1, 1) := dk_4 (dk_at dksX5_order_0 10 rfl rfl)
theorem dX5_order_11 : decode cX5_order 11 = .ok (.iaload, 1) := dk_46 (dk_at dksX5_order_0 11 rfl rfl)
theorem dX5_order_12 : decode cX5_order 12 = .ok (.if_icmp .ge 5, 3) := dk_162 0 5 (dk_at dksX5_order_0 12 rfl rfl)
theorem dX5_order_15 : decode cX5_order 15 = .ok (.iconst (-1), 1) := dk_2 (dk_at dksX5_order_0 15 rfl rfl)
theorem dX5_order_16 : decode cX5_order 16 = .ok (.ireturn, 1) := dk_172 (dk_at dksX5_order_0 16 rfl rfl)
theorem dX5_order_17 : decode cX5_order 17 = .ok (.aload_n 0, 1) := dk_42 (dk_at dksX5_order_0 17 rfl rfl)
theorem dX5_order_18 : decode cX5_order 18 = .ok (.getfield 7, 3) := dk_180 0 7 (dk_at dksX5_order_0 18 rfl rfl)
theorem dX5_order_21 : decode cX5_order 21 = .ok (.iconst 0, 1) := dk_3 (dk_at dksX5_order_0 21 rfl rfl)
theorem dX5_order_22 : decode cX5_order 22 = .ok (.iaload, 1) := dk_46 (dk_at dksX5_order_0 22 rfl rfl)
theorem dX5_order_23 : decode cX5_order 23 = .ok (.aload_n 0, 1) := dk_42 (dk_at dksX5_order_0 23 rfl rfl)
theorem dX5_order_24 : decode cX5_order 24 = .ok (.getfield 7, 3) := dk_180 0 7 (dk_at dksX5_order_1 0 rfl rfl)
theorem dX5_order_27 : decode cX5_order 27 = .ok (.iconst 1, 1) := dk_4 (dk_at dksX5_order_1 3 rfl rfl)
theorem dX5_order_28 : decode cX5_order 28 = .ok (.iaload, 1) := dk_46 (dk_at dksX5_order_1 4 rfl rfl)
theorem dX5_order_29 : decode cX5_order 29 = .ok (.if_icmp .le 5, 3) := dk_164 0 5 (dk_at dksX5_order_1 5 rfl rfl)
theorem dX5_order_32 : decode cX5_order 32 = .ok (.iconst 1, 1) := dk_4 (dk_at dksX5_order_1 8 rfl rfl)
theorem dX5_order_33 : decode cX5_order 33 = .ok (.ireturn, 1) := dk_172 (dk_at dksX5_order_1 9 rfl rfl)
theorem dX5_order_34 : decode cX5_order 34 = .ok (.aload_n 0, 1) := dk_42 (dk_at dksX5_order_1 10 rfl rfl)
theorem dX5_order_35 : decode cX5_order 35 = .ok (.getfield 13, 3) := dk_180 0 13 (dk_at dksX5_order_1 11 rfl rfl)
theorem dX5_order_38 : decode cX5_order 38 = .ok (.iconst 0, 1) := dk_3 (dk_at dksX5_order_1 14 rfl rfl)
theorem dX5_order_39 : decode cX5_order 39 = .ok (.iaload, 1) := dk_46 (dk_at dksX5_order_1 15 rfl rfl)
theorem dX5_order_40 : decode cX5_order 40 = .ok (.aload_n 0, 1) := dk_42 (dk_at dksX5_order_1 16 rfl rfl)
theorem dX5_order_41 : decode cX5_order 41 = .ok (.getfield 13, 3) := dk_180 0 13 (dk_at dksX5_order_1 17 rfl rfl)
theorem dX5_order_44 : decode cX5_order 44 = .ok (.iconst 1, 1) := dk_4 (dk_at dksX5_order_1 20 rfl rfl)
theorem dX5_order_45 : decode cX5_order 45 = .ok (.iaload, 1) := dk_46 (dk_at dksX5_order_1 21 rfl rfl)
theorem dX5_order_46 : decode cX5_order 46 = .ok (.if_icmp .ge 5, 3) := dk_162 0 5 (dk_at dksX5_order_2 0 rfl rfl)
theorem dX5_order_49 : decode cX5_order 49 = .ok (.iconst (-1), 1) := dk_2 (dk_at dksX5_order_2 3 rfl rfl)
theorem dX5_order_50 : decode cX5_order 50 = .ok (.ireturn, 1) := dk_172 (dk_at dksX5_order_2 4 rfl rfl)
theorem dX5_order_51 : decode cX5_order 51 = .ok (.aload_n 0, 1) := dk_42 (dk_at dksX5_order_2 5 rfl rfl)
theorem dX5_order_52 : decode cX5_order 52 = .ok (.getfield 13, 3) := dk_180 0 13 (dk_at dksX5_order_2 6 rfl rfl)
theorem dX5_order_55 : decode cX5_order 55 = .ok (.iconst 0, 1) := dk_3 (dk_at dksX5_order_2 9 rfl rfl)
theorem dX5_order_56 : decode cX5_order 56 = .ok (.iaload, 1) := dk_46 (dk_at dksX5_order_2 10 rfl rfl)
theorem dX5_order_57 : decode cX5_order 57 = .ok (.aload_n 0, 1) := dk_42 (dk_at dksX5_order_2 11 rfl rfl)
theorem dX5_order_58 : decode cX5_order 58 = .ok (.getfield 13, 3) := dk_180 0 13 (dk_at dksX5_order_2 12 rfl rfl)
theorem dX5_order_61 : decode cX5_order 61 = .ok (.iconst 1, 1) := dk_4 (dk_at dksX5_order_2 15 rfl rfl)
theorem dX5_order_62 : decode cX5_order 62 = .ok (.iaload, 1) := dk_46 (dk_at dksX5_order_2 16 rfl rfl)
theorem dX5_order_63 : decode cX5_order 63 = .ok (.if_icmp .le 5, 3) := dk_164 0 5 (dk_at dksX5_order_2 17 rfl rfl)
theorem dX5_order_66 : decode cX5_order 66 = .ok (.iconst 1, 1) := dk_4 (dk_at dksX5_order_2 20 rfl rfl)
theorem dX5_order_67 : decode cX5_order 67 = .ok (.ireturn, 1) := dk_172 (dk_at dksX5_order_2 21 rfl rfl)
theorem dX5_order_68 : decode cX5_order 68 = .ok (.iconst 0, 1) := dk_3 (dk_at dksX5_order_2 22 rfl rfl)
theorem dX5_order_69 : decode cX5_order 69 = .ok (.ireturn, 1) := dk_172 (dk_at dksX5_order_2 23 rfl rfl)
abbrev cX5_keep : ByteArray := prog_15_method_21_code
def yX5_keep : MethodName := ⟨RX5, "keep", "(I)Z"⟩
def dkwX5_keep_1 : List UInt8 := [162, 0, 21, 42, 180, 0, 7, 28, 17, 7, 208, 79, 42, 180, 0, 13, 28, 4, 79, 3, 172, 4, 172]
abbrev dktX5_keep_1 : List UInt8 := dkwX5_keep_1 ++ []
def dkwX5_keep_0 : List UInt8 := [27, 4, 126, 61, 42, 180, 0, 7, 28, 46, 18, 62, 163, 0, 14, 42, 180, 0, 7, 28, 46, 18, 63]
abbrev dktX5_keep_0 : List UInt8 := dkwX5_keep_0 ++ dktX5_keep_1
theorem dksX5_keep_0 : cX5_keep.data.toList.drop 0 = dktX5_keep_0 := by decide +kernel
theorem dksX5_keep_1 : cX5_keep.data.toList.drop 23 = dktX5_keep_1 := dk_seg dksX5_keep_0 23 rfl rfl
theorem dX5_keep_0 : decode cX5_keep 0 = .ok (.iload_n 1, 1) := dk_27 (dk_at dksX5_keep_0 0 rfl rfl)
theorem dX5_keep_1 : decode cX5_keep 1 = .ok (.iconst 1, 1) := dk_4 (dk_at dksX5_keep_0 1 rfl rfl)
theorem dX5_keep_2 : decode cX5_keep 2 = .ok (.iand, 1) := dk_126 (dk_at dksX5_keep_0 2 rfl rfl)
theorem dX5_keep_3 : decode cX5_keep 3 = .ok (.istore_n 2, 1) := dk_61 (dk_at dksX5_keep_0 3 rfl rfl)
theorem dX5_keep_4 : decode cX5_keep 4 = .ok (.aload_n 0, 1) := dk_42 (dk_at dksX5_keep_0 4 rfl rfl)
theorem dX5_keep_5 : decode cX5_keep 5 = .ok (.getfield 7, 3) := dk_180 0 7 (dk_at dksX5_keep_0 5 rfl rfl)
theorem dX5_keep_8 : decode cX5_keep 8 = .ok (.iload_n 2, 1) := dk_28 (dk_at dksX5_keep_0 8 rfl rfl)
theorem dX5_keep_9 : decode cX5_keep 9 = .ok (.iaload, 1) := dk_46 (dk_at dksX5_keep_0 9 rfl rfl)
theorem dX5_keep_10 : decode cX5_keep 10 = .ok (.ldc 62, 2) := dk_18 62 (dk_at dksX5_keep_0 10 rfl rfl)
theorem dX5_keep_12 : decode cX5_keep 12 = .ok (.if_icmp .gt 14, 3) := dk_163 0 14 (dk_at dksX5_keep_0 12 rfl rfl)
theorem dX5_keep_15 : decode cX5_keep 15 = .ok (.aload_n 0, 1) := dk_42 (dk_at dksX5_keep_0 15 rfl rfl)
theorem dX5_keep_16 : decode cX5_keep 16 = .ok (.getfield 7, 3) := dk_180 0 7 (dk_at dksX5_keep_0 16 rfl rfl)
theorem dX5_keep_19 : decode cX5_keep 19 = .ok (.iload_n 2, 1) := dk_28 (dk_at dksX5_keep_0 19 rfl rfl)
theorem dX5_keep_20 : decode cX5_keep 20 = .ok (.iaload, 1) := dk_46 (dk_at dksX5_keep_0 20 rfl rfl)
theorem dX5_keep_21 : decode cX5_keep 21 = .ok (.ldc 63, 2) := dk_18 63 (dk_at dksX5_keep_0 21 rfl rfl)
theorem dX5_keep_23 : decode cX5_keep 23 = .ok (.if_icmp .ge 21, 3) := dk_162 0 21 (dk_at dksX5_keep_1 0 rfl rfl)
theorem dX5_keep_26 : decode cX5_keep 26 = .ok (.aload_n 0, 1) := dk_42 (dk_at dksX5_keep_1 3 rfl rfl)
theorem dX5_keep_27 : decode cX5_keep 27 = .ok (.getfield 7, 3) := dk_180 0 7 (dk_at dksX5_keep_1 4 rfl rfl)
theorem dX5_keep_30 : decode cX5_keep 30 = .ok (.iload_n 2, 1) := dk_28 (dk_at dksX5_keep_1 7 rfl rfl)
theorem dX5_keep_31 : decode cX5_keep 31 = .ok (.sipush 2000, 3) := dk_17 7 208 (dk_at dksX5_keep_1 8 rfl rfl)
theorem dX5_keep_34 : decode cX5_keep 34 = .ok (.iastore, 1) := dk_79 (dk_at dksX5_keep_1 11 rfl rfl)
theorem dX5_keep_35 : decode cX5_keep 35 = .ok (.aload_n 0, 1) := dk_42 (dk_at dksX5_keep_1 12 rfl rfl)
theorem dX5_keep_36 : decode cX5_keep 36 = .ok (.getfield 13, 3) := dk_180 0 13 (dk_at dksX5_keep_1 13 rfl rfl)
theorem dX5_keep_39 : decode cX5_keep 39 = .ok (.iload_n 2, 1) := dk_28 (dk_at dksX5_keep_1 16 rfl rfl)
theorem dX5_keep_40 : decode cX5_keep 40 = .ok (.iconst 1, 1) := dk_4 (dk_at dksX5_keep_1 17 rfl rfl)
theorem dX5_keep_41 : decode cX5_keep 41 = .ok (.iastore, 1) := dk_79 (dk_at dksX5_keep_1 18 rfl rfl)
theorem dX5_keep_42 : decode cX5_keep 42 = .ok (.iconst 0, 1) := dk_3 (dk_at dksX5_keep_1 19 rfl rfl)
theorem dX5_keep_43 : decode cX5_keep 43 = .ok (.ireturn, 1) := dk_172 (dk_at dksX5_keep_1 20 rfl rfl)
theorem dX5_keep_44 : decode cX5_keep 44 = .ok (.iconst 1, 1) := dk_4 (dk_at dksX5_keep_1 21 rfl rfl)
theorem dX5_keep_45 : decode cX5_keep 45 = .ok (.ireturn, 1) := dk_172 (dk_at dksX5_keep_1 22 rfl rfl)
theorem q12 : (Jvm.Cond.initialized "MonthDeskModel") ∈ lw_all := lw_g (lw_at lw_m1 10 rfl) rfl
theorem q388 : (Jvm.Cond.instantiable "MonthDeskModel" (2 : Nat)) ∈ lw_all := lw_g (lw_at lw_m2 146 rfl) rfl
theorem q390 : (Jvm.Cond.instanceMethod ({ cls := "MonthDeskModel", name := "<init>", desc := "()V" } : Jvm.MethodName)) ∈ lw_all := lw_g (lw_at lw_m2 148 rfl) rfl
theorem q391 : (Jvm.Cond.code ({ cls := "MonthDeskModel", name := "<init>", desc := "()V" } : Jvm.MethodName) prog_15_method_1_code (1 : Nat) (Option.none : Option Jvm.ClassFile.FieldType)) ∈ lw_all := lw_g (lw_at lw_m2 149 rfl) rfl
theorem q392 : (Jvm.Cond.methodLink "MonthDeskModel" (1 : Nat) ({ cls := "java/lang/Object", name := "<init>", desc := "()V" } : Jvm.MethodName)) ∈ lw_all := lw_g (lw_at lw_m2 150 rfl) rfl
theorem q393 : (Jvm.Cond.fieldLink "MonthDeskModel" (7 : Nat) "MonthDeskModel" "year" "[I") ∈ lw_all := lw_g (lw_at lw_m2 151 rfl) rfl
theorem q394 : (Jvm.Cond.fieldLink "MonthDeskModel" (13 : Nat) "MonthDeskModel" "mon" "[I") ∈ lw_all := lw_g (lw_at lw_m2 152 rfl) rfl
theorem q395 : (Jvm.Cond.laysFinal "MonthDeskModel" "MonthDeskModel" "year" "[I") ∈ lw_all := lw_g (lw_at lw_m2 153 rfl) rfl
theorem q396 : (Jvm.Cond.soleField "MonthDeskModel" "year") ∈ lw_all := lw_g (lw_at lw_m2 154 rfl) rfl
theorem q397 : (Jvm.Cond.laysFinal "MonthDeskModel" "MonthDeskModel" "mon" "[I") ∈ lw_all := lw_g (lw_at lw_m2 155 rfl) rfl
theorem q398 : (Jvm.Cond.soleField "MonthDeskModel" "mon") ∈ lw_all := lw_g (lw_at lw_m2 156 rfl) rfl
theorem q399 : (Jvm.Cond.superclass "MonthDeskModel" "java/lang/Object") ∈ lw_all := lw_g (lw_at lw_m2 157 rfl) rfl
theorem q402 : (Jvm.Cond.instanceMethod ({ cls := "MonthDeskModel", name := "set", desc := "(III)V" } : Jvm.MethodName)) ∈ lw_all := lw_g (lw_at lw_m2 160 rfl) rfl
theorem q403 : (Jvm.Cond.selects "MonthDeskModel" ({ cls := "MonthDeskModel", name := "set", desc := "(III)V" } : Jvm.MethodName) ({ cls := "MonthDeskModel", name := "set", desc := "(III)V" } : Jvm.MethodName)) ∈ lw_all := lw_g (lw_at lw_m2 161 rfl) rfl
theorem q404 : (Jvm.Cond.code ({ cls := "MonthDeskModel", name := "set", desc := "(III)V" } : Jvm.MethodName) prog_15_method_8_code (5 : Nat) (Option.none : Option Jvm.ClassFile.FieldType)) ∈ lw_all := lw_g (lw_at lw_m2 162 rfl) rfl
theorem q405 : (Jvm.Cond.constant "MonthDeskModel" (39 : Nat) (1000000 : Int32)) ∈ lw_all := lw_g (lw_at lw_m2 163 rfl) rfl
theorem q406 : (Jvm.Cond.methodLink "MonthDeskModel" (40 : Nat) ({ cls := "MonthDeskModel", name := "monthFrom", desc := "(I)I" } : Jvm.MethodName)) ∈ lw_all := lw_g (lw_at lw_m2 164 rfl) rfl
theorem q407 : (Jvm.Cond.static ({ cls := "MonthDeskModel", name := "monthFrom", desc := "(I)I" } : Jvm.MethodName)) ∈ lw_all := lw_g (lw_at lw_m2 165 rfl) rfl
theorem q408 : (Jvm.Cond.code ({ cls := "MonthDeskModel", name := "monthFrom", desc := "(I)I" } : Jvm.MethodName) prog_15_method_7_code (1 : Nat) (Option.some Jvm.ClassFile.FieldType.int)) ∈ lw_all := lw_g (lw_at lw_m2 166 rfl) rfl
theorem q409 : (Jvm.Cond.constant "MonthDeskModel" (38 : Nat) (2147483647 : Int32)) ∈ lw_all := lw_g (lw_at lw_m2 167 rfl) rfl
theorem q411 : (Jvm.Cond.instanceMethod ({ cls := "MonthDeskModel", name := "months", desc := "(II)V" } : Jvm.MethodName)) ∈ lw_all := lw_g (lw_at lw_m2 169 rfl) rfl
theorem q412 : (Jvm.Cond.selects "MonthDeskModel" ({ cls := "MonthDeskModel", name := "months", desc := "(II)V" } : Jvm.MethodName) ({ cls := "MonthDeskModel", name := "months", desc := "(II)V" } : Jvm.MethodName)) ∈ lw_all := lw_g (lw_at lw_m2 170 rfl) rfl
theorem q413 : (Jvm.Cond.code ({ cls := "MonthDeskModel", name := "months", desc := "(II)V" } : Jvm.MethodName) prog_15_method_9_code (8 : Nat) (Option.none : Option Jvm.ClassFile.FieldType)) ∈ lw_all := lw_g (lw_at lw_m2 171 rfl) rfl
theorem q414 : (Jvm.Cond.constantLong "MonthDeskModel" (43 : Nat) (12 : Int64)) ∈ lw_all := lw_g (lw_at lw_m2 172 rfl) rfl
theorem q415 : (Jvm.Cond.methodLink "MonthDeskModel" (22 : Nat) ({ cls := "MonthDeskModel", name := "floorQuotient", desc := "(JJ)J" } : Jvm.MethodName)) ∈ lw_all := lw_g (lw_at lw_m2 173 rfl) rfl
theorem q416 : (Jvm.Cond.static ({ cls := "MonthDeskModel", name := "floorQuotient", desc := "(JJ)J" } : Jvm.MethodName)) ∈ lw_all := lw_g (lw_at lw_m2 174 rfl) rfl
theorem q417 : (Jvm.Cond.code ({ cls := "MonthDeskModel", name := "floorQuotient", desc := "(JJ)J" } : Jvm.MethodName) prog_15_method_5_code (6 : Nat) (Option.some Jvm.ClassFile.FieldType.long)) ∈ lw_all := lw_g (lw_at lw_m2 175 rfl) rfl
theorem q418 : (Jvm.Cond.constantLong "MonthDeskModel" (45 : Nat) (-999999999 : Int64)) ∈ lw_all := lw_g (lw_at lw_m2 176 rfl) rfl
theorem q419 : (Jvm.Cond.constantLong "MonthDeskModel" (47 : Nat) (999999999 : Int64)) ∈ lw_all := lw_g (lw_at lw_m2 177 rfl) rfl
theorem q420 : (Jvm.Cond.classLink "MonthDeskModel" (49 : Nat) "java/lang/RuntimeException") ∈ lw_all := lw_g (lw_at lw_m2 178 rfl) rfl
theorem q429 : (Jvm.Cond.stringRef "MonthDeskModel" (51 : Nat) "year out of range") ∈ lw_tbl := lw_at lw_m2 187 rfl
theorem q430 : (Jvm.Cond.methodLink "MonthDeskModel" (53 : Nat) ({ cls := "java/lang/RuntimeException", name := "<init>", desc := "(Ljava/lang/String;)V" } : Jvm.MethodName)) ∈ lw_all := lw_g (lw_at lw_m2 188 rfl) rfl
theorem q434 : (Jvm.Cond.instanceMethod ({ cls := "MonthDeskModel", name := "years", desc := "(II)V" } : Jvm.MethodName)) ∈ lw_all := lw_g (lw_at lw_m2 192 rfl) rfl
theorem q435 : (Jvm.Cond.selects "MonthDeskModel" ({ cls := "MonthDeskModel", name := "years", desc := "(II)V" } : Jvm.MethodName) ({ cls := "MonthDeskModel", name := "years", desc := "(II)V" } : Jvm.MethodName)) ∈ lw_all := lw_g (lw_at lw_m2 193 rfl) rfl
theorem q436 : (Jvm.Cond.code ({ cls := "MonthDeskModel", name := "years", desc := "(II)V" } : Jvm.MethodName) prog_15_method_10_code (5 : Nat) (Option.none : Option Jvm.ClassFile.FieldType)) ∈ lw_all := lw_g (lw_at lw_m2 194 rfl) rfl
theorem q437 : (Jvm.Cond.constant "MonthDeskModel" (56 : Nat) (-999999 : Int32)) ∈ lw_all := lw_g (lw_at lw_m2 195 rfl) rfl
theorem q438 : (Jvm.Cond.constant "MonthDeskModel" (57 : Nat) (999999 : Int32)) ∈ lw_all := lw_g (lw_at lw_m2 196 rfl) rfl
theorem q440 : (Jvm.Cond.instanceMethod ({ cls := "MonthDeskModel", name := "withMonth", desc := "(II)V" } : Jvm.MethodName)) ∈ lw_all := lw_g (lw_at lw_m2 198 rfl) rfl
theorem q441 : (Jvm.Cond.selects "MonthDeskModel" ({ cls := "MonthDeskModel", name := "withMonth", desc := "(II)V" } : Jvm.MethodName) ({ cls := "MonthDeskModel", name := "withMonth", desc := "(II)V" } : Jvm.MethodName)) ∈ lw_all := lw_g (lw_at lw_m2 199 rfl) rfl
theorem q442 : (Jvm.Cond.code ({ cls := "MonthDeskModel", name := "withMonth", desc := "(II)V" } : Jvm.MethodName) prog_15_method_11_code (3 : Nat) (Option.none : Option Jvm.ClassFile.FieldType)) ∈ lw_all := lw_g (lw_at lw_m2 200 rfl) rfl
theorem q444 : (Jvm.Cond.instanceMethod ({ cls := "MonthDeskModel", name := "withYear", desc := "(II)V" } : Jvm.MethodName)) ∈ lw_all := lw_g (lw_at lw_m2 202 rfl) rfl
theorem q445 : (Jvm.Cond.selects "MonthDeskModel" ({ cls := "MonthDeskModel", name := "withYear", desc := "(II)V" } : Jvm.MethodName) ({ cls := "MonthDeskModel", name := "withYear", desc := "(II)V" } : Jvm.MethodName)) ∈ lw_all := lw_g (lw_at lw_m2 203 rfl) rfl
theorem q446 : (Jvm.Cond.code ({ cls := "MonthDeskModel", name := "withYear", desc := "(II)V" } : Jvm.MethodName) prog_15_method_12_code (3 : Nat) (Option.none : Option Jvm.ClassFile.FieldType)) ∈ lw_all := lw_g (lw_at lw_m2 204 rfl) rfl
theorem q448 : (Jvm.Cond.instanceMethod ({ cls := "MonthDeskModel", name := "year", desc := "(I)I" } : Jvm.MethodName)) ∈ lw_all := lw_g (lw_at lw_m2 206 rfl) rfl
theorem q449 : (Jvm.Cond.selects "MonthDeskModel" ({ cls := "MonthDeskModel", name := "year", desc := "(I)I" } : Jvm.MethodName) ({ cls := "MonthDeskModel", name := "year", desc := "(I)I" } : Jvm.MethodName)) ∈ lw_all := lw_g (lw_at lw_m2 207 rfl) rfl
theorem q450 : (Jvm.Cond.code ({ cls := "MonthDeskModel", name := "year", desc := "(I)I" } : Jvm.MethodName) prog_15_method_13_code (2 : Nat) (Option.some Jvm.ClassFile.FieldType.int)) ∈ lw_all := lw_g (lw_at lw_m2 208 rfl) rfl
theorem q452 : (Jvm.Cond.instanceMethod ({ cls := "MonthDeskModel", name := "month", desc := "(I)I" } : Jvm.MethodName)) ∈ lw_all := lw_g (lw_at lw_m2 210 rfl) rfl
theorem q453 : (Jvm.Cond.selects "MonthDeskModel" ({ cls := "MonthDeskModel", name := "month", desc := "(I)I" } : Jvm.MethodName) ({ cls := "MonthDeskModel", name := "month", desc := "(I)I" } : Jvm.MethodName)) ∈ lw_all := lw_g (lw_at lw_m2 211 rfl) rfl
theorem q454 : (Jvm.Cond.code ({ cls := "MonthDeskModel", name := "month", desc := "(I)I" } : Jvm.MethodName) prog_15_method_14_code (2 : Nat) (Option.some Jvm.ClassFile.FieldType.int)) ∈ lw_all := lw_g (lw_at lw_m2 212 rfl) rfl
theorem q456 : (Jvm.Cond.instanceMethod ({ cls := "MonthDeskModel", name := "length", desc := "(I)I" } : Jvm.MethodName)) ∈ lw_all := lw_g (lw_at lw_m2 214 rfl) rfl
theorem q457 : (Jvm.Cond.selects "MonthDeskModel" ({ cls := "MonthDeskModel", name := "length", desc := "(I)I" } : Jvm.MethodName) ({ cls := "MonthDeskModel", name := "length", desc := "(I)I" } : Jvm.MethodName)) ∈ lw_all := lw_g (lw_at lw_m2 215 rfl) rfl
theorem q458 : (Jvm.Cond.code ({ cls := "MonthDeskModel", name := "length", desc := "(I)I" } : Jvm.MethodName) prog_15_method_15_code (2 : Nat) (Option.some Jvm.ClassFile.FieldType.int)) ∈ lw_all := lw_g (lw_at lw_m2 216 rfl) rfl
theorem q459 : (Jvm.Cond.methodLink "MonthDeskModel" (32 : Nat) ({ cls := "MonthDeskModel", name := "daysOfMonth", desc := "(II)I" } : Jvm.MethodName)) ∈ lw_all := lw_g (lw_at lw_m2 217 rfl) rfl
theorem q460 : (Jvm.Cond.static ({ cls := "MonthDeskModel", name := "daysOfMonth", desc := "(II)I" } : Jvm.MethodName)) ∈ lw_all := lw_g (lw_at lw_m2 218 rfl) rfl
theorem q461 : (Jvm.Cond.code ({ cls := "MonthDeskModel", name := "daysOfMonth", desc := "(II)I" } : Jvm.MethodName) prog_15_method_4_code (2 : Nat) (Option.some Jvm.ClassFile.FieldType.int)) ∈ lw_all := lw_g (lw_at lw_m2 219 rfl) rfl
theorem q462 : (Jvm.Cond.methodLink "MonthDeskModel" (16 : Nat) ({ cls := "MonthDeskModel", name := "leapYear", desc := "(I)Z" } : Jvm.MethodName)) ∈ lw_all := lw_g (lw_at lw_m2 220 rfl) rfl
theorem q463 : (Jvm.Cond.static ({ cls := "MonthDeskModel", name := "leapYear", desc := "(I)Z" } : Jvm.MethodName)) ∈ lw_all := lw_g (lw_at lw_m2 221 rfl) rfl
theorem q464 : (Jvm.Cond.code ({ cls := "MonthDeskModel", name := "leapYear", desc := "(I)Z" } : Jvm.MethodName) prog_15_method_2_code (1 : Nat) (Option.some Jvm.ClassFile.FieldType.boolean)) ∈ lw_all := lw_g (lw_at lw_m2 222 rfl) rfl
theorem q466 : (Jvm.Cond.instanceMethod ({ cls := "MonthDeskModel", name := "yearLength", desc := "(I)I" } : Jvm.MethodName)) ∈ lw_all := lw_g (lw_at lw_m2 224 rfl) rfl
theorem q467 : (Jvm.Cond.selects "MonthDeskModel" ({ cls := "MonthDeskModel", name := "yearLength", desc := "(I)I" } : Jvm.MethodName) ({ cls := "MonthDeskModel", name := "yearLength", desc := "(I)I" } : Jvm.MethodName)) ∈ lw_all := lw_g (lw_at lw_m2 225 rfl) rfl
theorem q468 : (Jvm.Cond.code ({ cls := "MonthDeskModel", name := "yearLength", desc := "(I)I" } : Jvm.MethodName) prog_15_method_16_code (2 : Nat) (Option.some Jvm.ClassFile.FieldType.int)) ∈ lw_all := lw_g (lw_at lw_m2 226 rfl) rfl
theorem q469 : (Jvm.Cond.methodLink "MonthDeskModel" (28 : Nat) ({ cls := "MonthDeskModel", name := "daysOfYear", desc := "(I)I" } : Jvm.MethodName)) ∈ lw_all := lw_g (lw_at lw_m2 227 rfl) rfl
theorem q470 : (Jvm.Cond.static ({ cls := "MonthDeskModel", name := "daysOfYear", desc := "(I)I" } : Jvm.MethodName)) ∈ lw_all := lw_g (lw_at lw_m2 228 rfl) rfl
theorem q471 : (Jvm.Cond.code ({ cls := "MonthDeskModel", name := "daysOfYear", desc := "(I)I" } : Jvm.MethodName) prog_15_method_3_code (1 : Nat) (Option.some Jvm.ClassFile.FieldType.int)) ∈ lw_all := lw_g (lw_at lw_m2 229 rfl) rfl
theorem q473 : (Jvm.Cond.instanceMethod ({ cls := "MonthDeskModel", name := "leap", desc := "(I)Z" } : Jvm.MethodName)) ∈ lw_all := lw_g (lw_at lw_m2 231 rfl) rfl
theorem q474 : (Jvm.Cond.selects "MonthDeskModel" ({ cls := "MonthDeskModel", name := "leap", desc := "(I)Z" } : Jvm.MethodName) ({ cls := "MonthDeskModel", name := "leap", desc := "(I)Z" } : Jvm.MethodName)) ∈ lw_all := lw_g (lw_at lw_m2 232 rfl) rfl
theorem q475 : (Jvm.Cond.code ({ cls := "MonthDeskModel", name := "leap", desc := "(I)Z" } : Jvm.MethodName) prog_15_method_17_code (2 : Nat) (Option.some Jvm.ClassFile.FieldType.boolean)) ∈ lw_all := lw_g (lw_at lw_m2 233 rfl) rfl
theorem q477 : (Jvm.Cond.instanceMethod ({ cls := "MonthDeskModel", name := "firstDay", desc := "(I)J" } : Jvm.MethodName)) ∈ lw_all := lw_g (lw_at lw_m2 235 rfl) rfl
theorem q478 : (Jvm.Cond.selects "MonthDeskModel" ({ cls := "MonthDeskModel", name := "firstDay", desc := "(I)J" } : Jvm.MethodName) ({ cls := "MonthDeskModel", name := "firstDay", desc := "(I)J" } : Jvm.MethodName)) ∈ lw_all := lw_g (lw_at lw_m2 236 rfl) rfl
theorem q479 : (Jvm.Cond.code ({ cls := "MonthDeskModel", name := "firstDay", desc := "(I)J" } : Jvm.MethodName) prog_15_method_18_code (2 : Nat) (Option.some Jvm.ClassFile.FieldType.long)) ∈ lw_all := lw_g (lw_at lw_m2 237 rfl) rfl
theorem q480 : (Jvm.Cond.methodLink "MonthDeskModel" (58 : Nat) ({ cls := "MonthDeskModel", name := "firstEpochDay", desc := "(II)J" } : Jvm.MethodName)) ∈ lw_all := lw_g (lw_at lw_m2 238 rfl) rfl
theorem q481 : (Jvm.Cond.static ({ cls := "MonthDeskModel", name := "firstEpochDay", desc := "(II)J" } : Jvm.MethodName)) ∈ lw_all := lw_g (lw_at lw_m2 239 rfl) rfl
theorem q482 : (Jvm.Cond.code ({ cls := "MonthDeskModel", name := "firstEpochDay", desc := "(II)J" } : Jvm.MethodName) prog_15_method_6_code (8 : Nat) (Option.some Jvm.ClassFile.FieldType.long)) ∈ lw_all := lw_g (lw_at lw_m3 0 rfl) rfl
theorem q483 : (Jvm.Cond.constantLong "MonthDeskModel" (20 : Nat) (400 : Int64)) ∈ lw_all := lw_g (lw_at lw_m3 1 rfl) rfl
theorem q484 : (Jvm.Cond.constantLong "MonthDeskModel" (26 : Nat) (146097 : Int64)) ∈ lw_all := lw_g (lw_at lw_m3 2 rfl) rfl
theorem q485 : (Jvm.Cond.constantLong "MonthDeskModel" (36 : Nat) (719528 : Int64)) ∈ lw_all := lw_g (lw_at lw_m3 3 rfl) rfl
theorem q487 : (Jvm.Cond.instanceMethod ({ cls := "MonthDeskModel", name := "lastDay", desc := "(I)J" } : Jvm.MethodName)) ∈ lw_all := lw_g (lw_at lw_m3 5 rfl) rfl
theorem q488 : (Jvm.Cond.selects "MonthDeskModel" ({ cls := "MonthDeskModel", name := "lastDay", desc := "(I)J" } : Jvm.MethodName) ({ cls := "MonthDeskModel", name := "lastDay", desc := "(I)J" } : Jvm.MethodName)) ∈ lw_all := lw_g (lw_at lw_m3 6 rfl) rfl
theorem q489 : (Jvm.Cond.code ({ cls := "MonthDeskModel", name := "lastDay", desc := "(I)J" } : Jvm.MethodName) prog_15_method_19_code (3 : Nat) (Option.some Jvm.ClassFile.FieldType.long)) ∈ lw_all := lw_g (lw_at lw_m3 7 rfl) rfl
theorem q491 : (Jvm.Cond.instanceMethod ({ cls := "MonthDeskModel", name := "order", desc := "()I" } : Jvm.MethodName)) ∈ lw_all := lw_g (lw_at lw_m3 9 rfl) rfl
theorem q492 : (Jvm.Cond.selects "MonthDeskModel" ({ cls := "MonthDeskModel", name := "order", desc := "()I" } : Jvm.MethodName) ({ cls := "MonthDeskModel", name := "order", desc := "()I" } : Jvm.MethodName)) ∈ lw_all := lw_g (lw_at lw_m3 10 rfl) rfl
theorem q493 : (Jvm.Cond.code ({ cls := "MonthDeskModel", name := "order", desc := "()I" } : Jvm.MethodName) prog_15_method_20_code (1 : Nat) (Option.some Jvm.ClassFile.FieldType.int)) ∈ lw_all := lw_g (lw_at lw_m3 11 rfl) rfl
theorem q495 : (Jvm.Cond.instanceMethod ({ cls := "MonthDeskModel", name := "keep", desc := "(I)Z" } : Jvm.MethodName)) ∈ lw_all := lw_g (lw_at lw_m3 13 rfl) rfl
theorem q496 : (Jvm.Cond.selects "MonthDeskModel" ({ cls := "MonthDeskModel", name := "keep", desc := "(I)Z" } : Jvm.MethodName) ({ cls := "MonthDeskModel", name := "keep", desc := "(I)Z" } : Jvm.MethodName)) ∈ lw_all := lw_g (lw_at lw_m3 14 rfl) rfl
theorem q497 : (Jvm.Cond.code ({ cls := "MonthDeskModel", name := "keep", desc := "(I)Z" } : Jvm.MethodName) prog_15_method_21_code (3 : Nat) (Option.some Jvm.ClassFile.FieldType.boolean)) ∈ lw_all := lw_g (lw_at lw_m3 15 rfl) rfl
theorem q498 : (Jvm.Cond.constant "MonthDeskModel" (62 : Nat) (900000 : Int32)) ∈ lw_all := lw_g (lw_at lw_m3 16 rfl) rfl
theorem q499 : (Jvm.Cond.constant "MonthDeskModel" (63 : Nat) (-900000 : Int32)) ∈ lw_all := lw_g (lw_at lw_m3 17 rfl) rfl
theorem in_X5 : ∀ w ∈ wsX50, w ∈ lw_all := lw_in wsX50 [395, 397] (by decide +kernel) (by decide +kernel)
/-! the law's own entry -/
set_option maxRecDepth 100000
abbrev cL_law : ByteArray := code
def dkwL_law_18 : List UInt8 := [182, 0, 74, 159, 0, 5, 3, 172, 132, 3, 6, 167, 254, 59, 4, 172]
abbrev dktL_law_18 : List UInt8 := dkwL_law_18 ++ []
def dkwL_law_17 : List UInt8 := [182, 0, 70, 159, 0, 28, 3, 172, 43, 42, 29, 4, 96, 46, 182, 0, 71, 44, 42, 29, 4, 96, 46]
abbrev dktL_law_17 : List UInt8 := dkwL_law_17 ++ dktL_law_18
def dkwL_law_16 : List UInt8 := [182, 0, 62, 44, 42, 29, 4, 96, 46, 182, 0, 65, 148, 153, 0, 41, 3, 172, 43, 182, 0, 66, 44]
abbrev dktL_law_16 : List UInt8 := dkwL_law_16 ++ dktL_law_17
def dkwL_law_15 : List UInt8 := [182, 0, 57, 44, 42, 29, 4, 96, 46, 182, 0, 61, 148, 153, 0, 65, 3, 172, 43, 42, 29, 4, 96, 46]
abbrev dktL_law_15 : List UInt8 := dkwL_law_15 ++ dktL_law_16
def dkwL_law_14 : List UInt8 := [182, 0, 52, 44, 42, 29, 4, 96, 46, 182, 0, 56, 159, 0, 89, 3, 172, 43, 42, 29, 4, 96, 46]
abbrev dktL_law_14 : List UInt8 := dkwL_law_14 ++ dktL_law_15
def dkwL_law_13 : List UInt8 := [182, 0, 48, 44, 42, 29, 4, 96, 46, 182, 0, 51, 159, 0, 112, 3, 172, 43, 42, 29, 4, 96, 46]
abbrev dktL_law_13 : List UInt8 := dkwL_law_13 ++ dktL_law_14
def dkwL_law_12 : List UInt8 := [46, 182, 0, 44, 44, 42, 29, 4, 96, 46, 182, 0, 47, 159, 0, 135, 3, 172, 43, 42, 29, 4, 96, 46]
abbrev dktL_law_12 : List UInt8 := dkwL_law_12 ++ dktL_law_13
def dkwL_law_11 : List UInt8 := [96, 46, 182, 0, 40, 44, 42, 29, 4, 96, 46, 182, 0, 43, 159, 0, 158, 3, 172, 43, 42, 29, 4, 96]
abbrev dktL_law_11 : List UInt8 := dkwL_law_11 ++ dktL_law_12
def dkwL_law_10 : List UInt8 := [4, 96, 46, 182, 0, 35, 44, 42, 29, 4, 96, 46, 182, 0, 39, 159, 0, 181, 3, 172, 43, 42, 29, 4]
abbrev dktL_law_10 : List UInt8 := dkwL_law_10 ++ dktL_law_11
def dkwL_law_9 : List UInt8 := [46, 182, 0, 31, 44, 42, 29, 4, 96, 46, 42, 29, 5, 96, 46, 182, 0, 34, 167, 0, 202, 43, 42, 29]
abbrev dktL_law_9 : List UInt8 := dkwL_law_9 ++ dktL_law_10
def dkwL_law_8 : List UInt8 := [4, 96, 46, 42, 29, 5, 96, 46, 182, 0, 30, 167, 0, 233, 43, 42, 29, 4, 96, 46, 42, 29, 5, 96]
abbrev dktL_law_8 : List UInt8 := dkwL_law_8 ++ dktL_law_9
def dkwL_law_7 : List UInt8 := [46, 182, 0, 26, 167, 1, 8, 43, 42, 29, 4, 96, 46, 42, 29, 5, 96, 46, 182, 0, 27, 44, 42, 29]
abbrev dktL_law_7 : List UInt8 := dkwL_law_7 ++ dktL_law_8
def dkwL_law_6 : List UInt8 := [43, 42, 29, 4, 96, 46, 42, 29, 5, 96, 46, 182, 0, 23, 44, 42, 29, 4, 96, 46, 42, 29, 5, 96]
abbrev dktL_law_6 : List UInt8 := dkwL_law_6 ++ dktL_law_7
def dkwL_law_5 : List UInt8 := [29, 5, 96, 46, 182, 0, 18, 44, 42, 29, 4, 96, 46, 42, 29, 5, 96, 46, 182, 0, 22, 167, 1, 39]
abbrev dktL_law_5 : List UInt8 := dkwL_law_5 ++ dktL_law_6
def dkwL_law_4 : List UInt8 := [46, 42, 29, 5, 96, 46, 42, 29, 6, 96, 46, 182, 0, 17, 167, 1, 70, 43, 42, 29, 4, 96, 46, 42]
abbrev dktL_law_4 : List UInt8 := dkwL_law_4 ++ dktL_law_5
def dkwL_law_3 : List UInt8 := [43, 42, 29, 4, 96, 46, 42, 29, 5, 96, 46, 42, 29, 6, 96, 46, 182, 0, 13, 44, 42, 29, 4, 96]
abbrev dktL_law_3 : List UInt8 := dkwL_law_3 ++ dktL_law_4
def dkwL_law_2 : List UInt8 := [170, 0, 0, 0, 0, 1, 179, 0, 0, 0, 0, 0, 0, 0, 13, 0, 0, 0, 71, 0, 0, 0, 112, 0, 0, 0, 143, 0, 0, 0, 174, 0, 0, 0, 205, 0, 0, 0, 236, 0, 0, 1, 3, 0, 0, 1, 26, 0, 0, 1, 49, 0, 0, 1, 72, 0, 0, 1, 95, 0, 0, 1, 119, 0, 0, 1, 143, 0, 0, 1, 156]
abbrev dktL_law_2 : List UInt8 := dkwL_law_2 ++ dktL_law_3
def dkwL_law_1 : List UInt8 := [163, 1, 194, 42, 29, 46, 16, 15, 126]
abbrev dktL_law_1 : List UInt8 := dkwL_law_1 ++ dktL_law_2
def dkwL_law_0 : List UInt8 := [187, 0, 7, 89, 183, 0, 9, 76, 187, 0, 10, 89, 183, 0, 12, 77, 3, 62, 29, 42, 190, 16, 6, 100]
abbrev dktL_law_0 : List UInt8 := dkwL_law_0 ++ dktL_law_1
theorem dksL_law_0 : cL_law.data.toList.drop 0 = dktL_law_0 := by decide +kernel
theorem dksL_law_1 : cL_law.data.toList.drop 24 = dktL_law_1 := dk_seg dksL_law_0 24 rfl rfl
theorem dksL_law_2 : cL_law.data.toList.drop 33 = dktL_law_2 := dk_seg dksL_law_1 9 rfl rfl
theorem dksL_law_3 : cL_law.data.toList.drop 104 = dktL_law_3 := dk_seg dksL_law_2 71 rfl rfl
theorem dksL_law_4 : cL_law.data.toList.drop 128 = dktL_law_4 := dk_seg dksL_law_3 24 rfl rfl
theorem dksL_law_5 : cL_law.data.toList.drop 152 = dktL_law_5 := dk_seg dksL_law_4 24 rfl rfl
theorem dksL_law_6 : cL_law.data.toList.drop 176 = dktL_law_6 := dk_seg dksL_law_5 24 rfl rfl
theorem dksL_law_7 : cL_law.data.toList.drop 200 = dktL_law_7 := dk_seg dksL_law_6 24 rfl rfl
theorem dksL_law_8 : cL_law.data.toList.drop 224 = dktL_law_8 := dk_seg dksL_law_7 24 rfl rfl
theorem dksL_law_9 : cL_law.data.toList.drop 248 = dktL_law_9 := dk_seg dksL_law_8 24 rfl rfl
theorem dksL_law_10 : cL_law.data.toList.drop 272 = dktL_law_10 := dk_seg dksL_law_9 24 rfl rfl
theorem dksL_law_11 : cL_law.data.toList.drop 296 = dktL_law_11 := dk_seg dksL_law_10 24 rfl rfl
theorem dksL_law_12 : cL_law.data.toList.drop 320 = dktL_law_12 := dk_seg dksL_law_11 24 rfl rfl
theorem dksL_law_13 : cL_law.data.toList.drop 344 = dktL_law_13 := dk_seg dksL_law_12 24 rfl rfl
theorem dksL_law_14 : cL_law.data.toList.drop 367 = dktL_law_14 := dk_seg dksL_law_13 23 rfl rfl
theorem dksL_law_15 : cL_law.data.toList.drop 390 = dktL_law_15 := dk_seg dksL_law_14 23 rfl rfl
theorem dksL_law_16 : cL_law.data.toList.drop 414 = dktL_law_16 := dk_seg dksL_law_15 24 rfl rfl
theorem dksL_law_17 : cL_law.data.toList.drop 437 = dktL_law_17 := dk_seg dksL_law_16 23 rfl rfl
theorem dksL_law_18 : cL_law.data.toList.drop 460 = dktL_law_18 := dk_seg dksL_law_17 23 rfl rfl
theorem dL_law_0 : decode cL_law 0 = .ok (.new 7, 3) := dk_187 0 7 (dk_at dksL_law_0 0 rfl rfl)
theorem dL_law_3 : decode cL_law 3 = .ok (.dup, 1) := dk_89 (dk_at dksL_law_0 3 rfl rfl)
theorem dL_law_4 : decode cL_law 4 = .ok (.invokespecial 9, 3) := dk_183 0 9 (dk_at dksL_law_0 4 rfl rfl)
theorem dL_law_7 : decode cL_law 7 = .ok (.astore_n 1, 1) := dk_76 (dk_at dksL_law_0 7 rfl rfl)
theorem dL_law_8 : decode cL_law 8 = .ok (.new 10, 3) := dk_187 0 10 (dk_at dksL_law_0 8 rfl rfl)
theorem dL_law_11 : decode cL_law 11 = .ok (.dup, 1) := dk_89 (dk_at dksL_law_0 11 rfl rfl)
theorem dL_law_12 : decode cL_law 12 = .ok (.invokespecial 12, 3) := dk_183 0 12 (dk_at dksL_law_0 12 rfl rfl)
theorem dL_law_15 : decode cL_law 15 = .ok (.astore_n 2, 1) := dk_77 (dk_at dksL_law_0 15 rfl rfl)
theorem dL_law_16 : decode cL_law 16 = .ok (.iconst 0, 1) := dk_3 (dk_at dksL_law_0 16 rfl rfl)
theorem dL_law_17 : decode cL_law 17 = .ok (.istore_n 3, 1) := dk_62 (dk_at dksL_law_0 17 rfl rfl)
theorem dL_law_18 : decode cL_law 18 = .ok (.iload_n 3, 1) := dk_29 (dk_at dksL_law_0 18 rfl rfl)
theorem dL_law_19 : decode cL_law 19 = .ok (.aload_n 0, 1) := dk_42 (dk_at dksL_law_0 19 rfl rfl)
theorem dL_law_20 : decode cL_law 20 = .ok (.arraylength, 1) := dk_190 (dk_at dksL_law_0 20 rfl rfl)
theorem dL_law_21 : decode cL_law 21 = .ok (.bipush 6, 2) := dk_16 6 (dk_at dksL_law_0 21 rfl rfl)
theorem dL_law_23 : decode cL_law 23 = .ok (.isub, 1) := dk_100 (dk_at dksL_law_0 23 rfl rfl)
theorem dL_law_24 : decode cL_law 24 = .ok (.if_icmp .gt 450, 3) := dk_163 1 194 (dk_at dksL_law_1 0 rfl rfl)
theorem dL_law_27 : decode cL_law 27 = .ok (.aload_n 0, 1) := dk_42 (dk_at dksL_law_1 3 rfl rfl)
theorem dL_law_28 : decode cL_law 28 = .ok (.iload_n 3, 1) := dk_29 (dk_at dksL_law_1 4 rfl rfl)
theorem dL_law_29 : decode cL_law 29 = .ok (.iaload, 1) := dk_46 (dk_at dksL_law_1 5 rfl rfl)
theorem dL_law_30 : decode cL_law 30 = .ok (.bipush 15, 2) := dk_16 15 (dk_at dksL_law_1 6 rfl rfl)
theorem dL_law_32 : decode cL_law 32 = .ok (.iand, 1) := dk_126 (dk_at dksL_law_1 8 rfl rfl)
theorem dL_law_33 : decode cL_law 33 = .ok (.tableswitch 435 0 13 #[71, 112, 143, 174, 205, 236, 259, 282, 305, 328, 351, 375, 399, 412], 71) := by decide +kernel
theorem dL_law_104 : decode cL_law 104 = .ok (.aload_n 1, 1) := dk_43 (dk_at dksL_law_3 0 rfl rfl)
theorem dL_law_105 : decode cL_law 105 = .ok (.aload_n 0, 1) := dk_42 (dk_at dksL_law_3 1 rfl rfl)
theorem dL_law_106 : decode cL_law 106 = .ok (.iload_n 3, 1) := dk_29 (dk_at dksL_law_3 2 rfl rfl)
theorem dL_law_107 : decode cL_law 107 = .ok (.iconst 1, 1) := dk_4 (dk_at dksL_law_3 3 rfl rfl)
theorem dL_law_108 : decode cL_law 108 = .ok (.iadd, 1) := dk_96 (dk_at dksL_law_3 4 rfl rfl)
theorem dL_law_109 : decode cL_law 109 = .ok (.iaload, 1) := dk_46 (dk_at dksL_law_3 5 rfl rfl)
theorem dL_law_110 : decode cL_law 110 = .ok (.aload_n 0, 1) := dk_42 (dk_at dksL_law_3 6 rfl rfl)
theorem dL_law_111 : decode cL_law 111 = .ok (.iload_n 3, 1) := dk_29 (dk_at dksL_law_3 7 rfl rfl)
theorem dL_law_112 : decode cL_law 112 = .ok (.iconst 2, 1) := dk_5 (dk_at dksL_law_3 8 rfl rfl)
theorem dL_law_113 : decode cL_law 113 = .ok (.iadd, 1) := dk_96 (dk_at dksL_law_3 9 rfl rfl)
theorem dL_law_114 : decode cL_law 114 = .ok (.iaload, 1) := dk_46 (dk_at dksL_law_3 10 rfl rfl)
theorem dL_law_115 : decode cL_law 115 = .ok (.aload_n 0, 1) := dk_42 (dk_at dksL_law_3 11 rfl rfl)
theorem dL_law_116 : decode cL_law 116 = .ok (.iload_n 3, 1) := dk_29 (dk_at dksL_law_3 12 rfl rfl)
theorem dL_law_117 : decode cL_law 117 = .ok (.iconst 3, 1) := dk_6 (dk_at dksL_law_3 13 rfl rfl)
theorem dL_law_118 : decode cL_law 118 = .ok (.iadd, 1) := dk_96 (dk_at dksL_law_3 14 rfl rfl)
theorem dL_law_119 : decode cL_law 119 = .ok (.iaload, 1) := dk_46 (dk_at dksL_law_3 15 rfl rfl)
theorem dL_law_120 : decode cL_law 120 = .ok (.invokevirtual 13, 3) := dk_182 0 13 (dk_at dksL_law_3 16 rfl rfl)
theorem dL_law_123 : decode cL_law 123 = .ok (.aload_n 2, 1) := dk_44 (dk_at dksL_law_3 19 rfl rfl)
theorem dL_law_124 : decode cL_law 124 = .ok (.aload_n 0, 1) := dk_42 (dk_at dksL_law_3 20 rfl rfl)
theorem dL_law_125 : decode cL_law 125 = .ok (.iload_n 3, 1) := dk_29 (dk_at dksL_law_3 21 rfl rfl)
theorem dL_law_126 : decode cL_law 126 = .ok (.iconst 1, 1) := dk_4 (dk_at dksL_law_3 22 rfl rfl)
theorem dL_law_127 : decode cL_law 127 = .ok (.iadd, 1) := dk_96 (dk_at dksL_law_3 23 rfl rfl)
theorem dL_law_128 : decode cL_law 128 = .ok (.iaload, 1) := dk_46 (dk_at dksL_law_4 0 rfl rfl)
theorem dL_law_129 : decode cL_law 129 = .ok (.aload_n 0, 1) := dk_42 (dk_at dksL_law_4 1 rfl rfl)
theorem dL_law_130 : decode cL_law 130 = .ok (.iload_n 3, 1) := dk_29 (dk_at dksL_law_4 2 rfl rfl)
theorem dL_law_131 : decode cL_law 131 = .ok (.iconst 2, 1) := dk_5 (dk_at dksL_law_4 3 rfl rfl)
theorem dL_law_132 : decode cL_law 132 = .ok (.iadd, 1) := dk_96 (dk_at dksL_law_4 4 rfl rfl)
theorem dL_law_133 : decode cL_law 133 = .ok (.iaload, 1) := dk_46 (dk_at dksL_law_4 5 rfl rfl)
theorem dL_law_134 : decode cL_law 134 = .ok (.aload_n 0, 1) := dk_42 (dk_at dksL_law_4 6 rfl rfl)
theorem dL_law_135 : decode cL_law 135 = .ok (.iload_n 3, 1) := dk_29 (dk_at dksL_law_4 7 rfl rfl)
theorem dL_law_136 : decode cL_law 136 = .ok (.iconst 3, 1) := dk_6 (dk_at dksL_law_4 8 rfl rfl)
theorem dL_law_137 : decode cL_law 137 = .ok (.iadd, 1) := dk_96 (dk_at dksL_law_4 9 rfl rfl)
theorem dL_law_138 : decode cL_law 138 = .ok (.iaload, 1) := dk_46 (dk_at dksL_law_4 10 rfl rfl)
theorem dL_law_139 : decode cL_law 139 = .ok (.invokevirtual 17, 3) := dk_182 0 17 (dk_at dksL_law_4 11 rfl rfl)
theorem dL_law_142 : decode cL_law 142 = .ok (.goto 326, 3) := dk_167 1 70 (dk_at dksL_law_4 14 rfl rfl)
theorem dL_law_145 : decode cL_law 145 = .ok (.aload_n 1, 1) := dk_43 (dk_at dksL_law_4 17 rfl rfl)
theorem dL_law_146 : decode cL_law 146 = .ok (.aload_n 0, 1) := dk_42 (dk_at dksL_law_4 18 rfl rfl)
theorem dL_law_147 : decode cL_law 147 = .ok (.iload_n 3, 1) := dk_29 (dk_at dksL_law_4 19 rfl rfl)
theorem dL_law_148 : decode cL_law 148 = .ok (.iconst 1, 1) := dk_4 (dk_at dksL_law_4 20 rfl rfl)
theorem dL_law_149 : decode cL_law 149 = .ok (.iadd, 1) := dk_96 (dk_at dksL_law_4 21 rfl rfl)
theorem dL_law_150 : decode cL_law 150 = .ok (.iaload, 1) := dk_46 (dk_at dksL_law_4 22 rfl rfl)
theorem dL_law_151 : decode cL_law 151 = .ok (.aload_n 0, 1) := dk_42 (dk_at dksL_law_4 23 rfl rfl)
theorem dL_law_152 : decode cL_law 152 = .ok (.iload_n 3, 1) := dk_29 (dk_at dksL_law_5 0 rfl rfl)
theorem dL_law_153 : decode cL_law 153 = .ok (.iconst 2, 1) := dk_5 (dk_at dksL_law_5 1 rfl rfl)
theorem dL_law_154 : decode cL_law 154 = .ok (.iadd, 1) := dk_96 (dk_at dksL_law_5 2 rfl rfl)
theorem dL_law_155 : decode cL_law 155 = .ok (.iaload, 1) := dk_46 (dk_at dksL_law_5 3 rfl rfl)
theorem dL_law_156 : decode cL_law 156 = .ok (.invokevirtual 18, 3) := dk_182 0 18 (dk_at dksL_law_5 4 rfl rfl)
theorem dL_law_159 : decode cL_law 159 = .ok (.aload_n 2, 1) := dk_44 (dk_at dksL_law_5 7 rfl rfl)
theorem dL_law_160 : decode cL_law 160 = .ok (.aload_n 0, 1) := dk_42 (dk_at dksL_law_5 8 rfl rfl)
theorem dL_law_161 : decode cL_law 161 = .ok (.iload_n 3, 1) := dk_29 (dk_at dksL_law_5 9 rfl rfl)
theorem dL_law_162 : decode cL_law 162 = .ok (.iconst 1, 1) := dk_4 (dk_at dksL_law_5 10 rfl rfl)
theorem dL_law_163 : decode cL_law 163 = .ok (.iadd, 1) := dk_96 (dk_at dksL_law_5 11 rfl rfl)
theorem dL_law_164 : decode cL_law 164 = .ok (.iaload, 1) := dk_46 (dk_at dksL_law_5 12 rfl rfl)
theorem dL_law_165 : decode cL_law 165 = .ok (.aload_n 0, 1) := dk_42 (dk_at dksL_law_5 13 rfl rfl)
theorem dL_law_166 : decode cL_law 166 = .ok (.iload_n 3, 1) := dk_29 (dk_at dksL_law_5 14 rfl rfl)
theorem dL_law_167 : decode cL_law 167 = .ok (.iconst 2, 1) := dk_5 (dk_at dksL_law_5 15 rfl rfl)
theorem dL_law_168 : decode cL_law 168 = .ok (.iadd, 1) := dk_96 (dk_at dksL_law_5 16 rfl rfl)
theorem dL_law_169 : decode cL_law 169 = .ok (.iaload, 1) := dk_46 (dk_at dksL_law_5 17 rfl rfl)
theorem dL_law_170 : decode cL_law 170 = .ok (.invokevirtual 22, 3) := dk_182 0 22 (dk_at dksL_law_5 18 rfl rfl)
theorem dL_law_173 : decode cL_law 173 = .ok (.goto 295, 3) := dk_167 1 39 (dk_at dksL_law_5 21 rfl rfl)
theorem dL_law_176 : decode cL_law 176 = .ok (.aload_n 1, 1) := dk_43 (dk_at dksL_law_6 0 rfl rfl)
theorem dL_law_177 : decode cL_law 177 = .ok (.aload_n 0, 1) := dk_42 (dk_at dksL_law_6 1 rfl rfl)
theorem dL_law_178 : decode cL_law 178 = .ok (.iload_n 3, 1) := dk_29 (dk_at dksL_law_6 2 rfl rfl)
theorem dL_law_179 : decode cL_law 179 = .ok (.iconst 1, 1) := dk_4 (dk_at dksL_law_6 3 rfl rfl)
theorem dL_law_180 : decode cL_law 180 = .ok (.iadd, 1) := dk_96 (dk_at dksL_law_6 4 rfl rfl)
theorem dL_law_181 : decode cL_law 181 = .ok (.iaload, 1) := dk_46 (dk_at dksL_law_6 5 rfl rfl)
theorem dL_law_182 : decode cL_law 182 = .ok (.aload_n 0, 1) := dk_42 (dk_at dksL_law_6 6 rfl rfl)
theorem dL_law_183 : decode cL_law 183 = .ok (.iload_n 3, 1) := dk_29 (dk_at dksL_law_6 7 rfl rfl)
theorem dL_law_184 : decode cL_law 184 = .ok (.iconst 2, 1) := dk_5 (dk_at dksL_law_6 8 rfl rfl)
theorem dL_law_185 : decode cL_law 185 = .ok (.iadd, 1) := dk_96 (dk_at dksL_law_6 9 rfl rfl)
theorem dL_law_186 : decode cL_law 186 = .ok (.iaload, 1) := dk_46 (dk_at dksL_law_6 10 rfl rfl)
theorem dL_law_187 : decode cL_law 187 = .ok (.invokevirtual 23, 3) := dk_182 0 23 (dk_at dksL_law_6 11 rfl rfl)
theorem dL_law_190 : decode cL_law 190 = .ok (.aload_n 2, 1) := dk_44 (dk_at dksL_law_6 14 rfl rfl)
theorem dL_law_191 : decode cL_law 191 = .ok (.aload_n 0, 1) := dk_42 (dk_at dksL_law_6 15 rfl rfl)
theorem dL_law_192 : decode cL_law 192 = .ok (.iload_n 3, 1) := dk_29 (dk_at dksL_law_6 16 rfl rfl)
theorem dL_law_193 : decode cL_law 193 = .ok (.iconst 1, 1) := dk_4 (dk_at dksL_law_6 17 rfl rfl)
theorem dL_law_194 : decode cL_law 194 = .ok (.iadd, 1) := dk_96 (dk_at dksL_law_6 18 rfl rfl)
theorem dL_law_195 : decode cL_law 195 = .ok (.iaload, 1) := dk_46 (dk_at dksL_law_6 19 rfl rfl)
theorem dL_law_196 : decode cL_law 196 = .ok (.aload_n 0, 1) := dk_42 (dk_at dksL_law_6 20 rfl rfl)
theorem dL_law_197 : decode cL_law 197 = .ok (.iload_n 3, 1) := dk_29 (dk_at dksL_law_6 21 rfl rfl)
theorem dL_law_198 : decode cL_law 198 = .ok (.iconst 2, 1) := dk_5 (dk_at dksL_law_6 22 rfl rfl)
theorem dL_law_199 : decode cL_law 199 = .ok (.iadd, 1) := dk_96 (dk_at dksL_law_6 23 rfl rfl)
theorem dL_law_200 : decode cL_law 200 = .ok (.iaload, 1) := dk_46 (dk_at dksL_law_7 0 rfl rfl)
theorem dL_law_201 : decode cL_law 201 = .ok (.invokevirtual 26, 3) := dk_182 0 26 (dk_at dksL_law_7 1 rfl rfl)
theorem dL_law_204 : decode cL_law 204 = .ok (.goto 264, 3) := dk_167 1 8 (dk_at dksL_law_7 4 rfl rfl)
theorem dL_law_207 : decode cL_law 207 = .ok (.aload_n 1, 1) := dk_43 (dk_at dksL_law_7 7 rfl rfl)
theorem dL_law_208 : decode cL_law 208 = .ok (.aload_n 0, 1) := dk_42 (dk_at dksL_law_7 8 rfl rfl)
theorem dL_law_209 : decode cL_law 209 = .ok (.iload_n 3, 1) := dk_29 (dk_at dksL_law_7 9 rfl rfl)
theorem dL_law_210 : decode cL_law 210 = .ok (.iconst 1, 1) := dk_4 (dk_at dksL_law_7 10 rfl rfl)
theorem dL_law_211 : decode cL_law 211 = .ok (.iadd, 1) := dk_96 (dk_at dksL_law_7 11 rfl rfl)
theorem dL_law_212 : decode cL_law 212 = .ok (.iaload, 1) := dk_46 (dk_at dksL_law_7 12 rfl rfl)
theorem dL_law_213 : decode cL_law 213 = .ok (.aload_n 0, 1) := dk_42 (dk_at dksL_law_7 13 rfl rfl)
theorem dL_law_214 : decode cL_law 214 = .ok (.iload_n 3, 1) := dk_29 (dk_at dksL_law_7 14 rfl rfl)
theorem dL_law_215 : decode cL_law 215 = .ok (.iconst 2, 1) := dk_5 (dk_at dksL_law_7 15 rfl rfl)
theorem dL_law_216 : decode cL_law 216 = .ok (.iadd, 1) := dk_96 (dk_at dksL_law_7 16 rfl rfl)
theorem dL_law_217 : decode cL_law 217 = .ok (.iaload, 1) := dk_46 (dk_at dksL_law_7 17 rfl rfl)
theorem dL_law_218 : decode cL_law 218 = .ok (.invokevirtual 27, 3) := dk_182 0 27 (dk_at dksL_law_7 18 rfl rfl)
theorem dL_law_221 : decode cL_law 221 = .ok (.aload_n 2, 1) := dk_44 (dk_at dksL_law_7 21 rfl rfl)
theorem dL_law_222 : decode cL_law 222 = .ok (.aload_n 0, 1) := dk_42 (dk_at dksL_law_7 22 rfl rfl)
theorem dL_law_223 : decode cL_law 223 = .ok (.iload_n 3, 1) := dk_29 (dk_at dksL_law_7 23 rfl rfl)
theorem dL_law_224 : decode cL_law 224 = .ok (.iconst 1, 1) := dk_4 (dk_at dksL_law_8 0 rfl rfl)
theorem dL_law_225 : decode cL_law 225 = .ok (.iadd, 1) := dk_96 (dk_at dksL_law_8 1 rfl rfl)
theorem dL_law_226 : decode cL_law 226 = .ok (.iaload, 1) := dk_46 (dk_at dksL_law_8 2 rfl rfl)
theorem dL_law_227 : decode cL_law 227 = .ok (.aload_n 0, 1) := dk_42 (dk_at dksL_law_8 3 rfl rfl)
theorem dL_law_228 : decode cL_law 228 = .ok (.iload_n 3, 1) := dk_29 (dk_at dksL_law_8 4 rfl rfl)
theorem dL_law_229 : decode cL_law 229 = .ok (.iconst 2, 1) := dk_5 (dk_at dksL_law_8 5 rfl rfl)
theorem dL_law_230 : decode cL_law 230 = .ok (.iadd, 1) := dk_96 (dk_at dksL_law_8 6 rfl rfl)
theorem dL_law_231 : decode cL_law 231 = .ok (.iaload, 1) := dk_46 (dk_at dksL_law_8 7 rfl rfl)
theorem dL_law_232 : decode cL_law 232 = .ok (.invokevirtual 30, 3) := dk_182 0 30 (dk_at dksL_law_8 8 rfl rfl)
theorem dL_law_235 : decode cL_law 235 = .ok (.goto 233, 3) := dk_167 0 233 (dk_at dksL_law_8 11 rfl rfl)
theorem dL_law_238 : decode cL_law 238 = .ok (.aload_n 1, 1) := dk_43 (dk_at dksL_law_8 14 rfl rfl)
theorem dL_law_239 : decode cL_law 239 = .ok (.aload_n 0, 1) := dk_42 (dk_at dksL_law_8 15 rfl rfl)
theorem dL_law_240 : decode cL_law 240 = .ok (.iload_n 3, 1) := dk_29 (dk_at dksL_law_8 16 rfl rfl)
theorem dL_law_241 : decode cL_law 241 = .ok (.iconst 1, 1) := dk_4 (dk_at dksL_law_8 17 rfl rfl)
theorem dL_law_242 : decode cL_law 242 = .ok (.iadd, 1) := dk_96 (dk_at dksL_law_8 18 rfl rfl)
theorem dL_law_243 : decode cL_law 243 = .ok (.iaload, 1) := dk_46 (dk_at dksL_law_8 19 rfl rfl)
theorem dL_law_244 : decode cL_law 244 = .ok (.aload_n 0, 1) := dk_42 (dk_at dksL_law_8 20 rfl rfl)
theorem dL_law_245 : decode cL_law 245 = .ok (.iload_n 3, 1) := dk_29 (dk_at dksL_law_8 21 rfl rfl)
theorem dL_law_246 : decode cL_law 246 = .ok (.iconst 2, 1) := dk_5 (dk_at dksL_law_8 22 rfl rfl)
theorem dL_law_247 : decode cL_law 247 = .ok (.iadd, 1) := dk_96 (dk_at dksL_law_8 23 rfl rfl)
theorem dL_law_248 : decode cL_law 248 = .ok (.iaload, 1) := dk_46 (dk_at dksL_law_9 0 rfl rfl)
theorem dL_law_249 : decode cL_law 249 = .ok (.invokevirtual 31, 3) := dk_182 0 31 (dk_at dksL_law_9 1 rfl rfl)
theorem dL_law_252 : decode cL_law 252 = .ok (.aload_n 2, 1) := dk_44 (dk_at dksL_law_9 4 rfl rfl)
theorem dL_law_253 : decode cL_law 253 = .ok (.aload_n 0, 1) := dk_42 (dk_at dksL_law_9 5 rfl rfl)
theorem dL_law_254 : decode cL_law 254 = .ok (.iload_n 3, 1) := dk_29 (dk_at dksL_law_9 6 rfl rfl)
theorem dL_law_255 : decode cL_law 255 = .ok (.iconst 1, 1) := dk_4 (dk_at dksL_law_9 7 rfl rfl)
theorem dL_law_256 : decode cL_law 256 = .ok (.iadd, 1) := dk_96 (dk_at dksL_law_9 8 rfl rfl)
theorem dL_law_257 : decode cL_law 257 = .ok (.iaload, 1) := dk_46 (dk_at dksL_law_9 9 rfl rfl)
theorem dL_law_258 : decode cL_law 258 = .ok (.aload_n 0, 1) := dk_42 (dk_at dksL_law_9 10 rfl rfl)
theorem dL_law_259 : decode cL_law 259 = .ok (.iload_n 3, 1) := dk_29 (dk_at dksL_law_9 11 rfl rfl)
theorem dL_law_260 : decode cL_law 260 = .ok (.iconst 2, 1) := dk_5 (dk_at dksL_law_9 12 rfl rfl)
theorem dL_law_261 : decode cL_law 261 = .ok (.iadd, 1) := dk_96 (dk_at dksL_law_9 13 rfl rfl)
theorem dL_law_262 : decode cL_law 262 = .ok (.iaload, 1) := dk_46 (dk_at dksL_law_9 14 rfl rfl)
theorem dL_law_263 : decode cL_law 263 = .ok (.invokevirtual 34, 3) := dk_182 0 34 (dk_at dksL_law_9 15 rfl rfl)
theorem dL_law_266 : decode cL_law 266 = .ok (.goto 202, 3) := dk_167 0 202 (dk_at dksL_law_9 18 rfl rfl)
theorem dL_law_269 : decode cL_law 269 = .ok (.aload_n 1, 1) := dk_43 (dk_at dksL_law_9 21 rfl rfl)
theorem dL_law_270 : decode cL_law 270 = .ok (.aload_n 0, 1) := dk_42 (dk_at dksL_law_9 22 rfl rfl)
theorem dL_law_271 : decode cL_law 271 = .ok (.iload_n 3, 1) := dk_29 (dk_at dksL_law_9 23 rfl rfl)
theorem dL_law_272 : decode cL_law 272 = .ok (.iconst 1, 1) := dk_4 (dk_at dksL_law_10 0 rfl rfl)
theorem dL_law_273 : decode cL_law 273 = .ok (.iadd, 1) := dk_96 (dk_at dksL_law_10 1 rfl rfl)
theorem dL_law_274 : decode cL_law 274 = .ok (.iaload, 1) := dk_46 (dk_at dksL_law_10 2 rfl rfl)
theorem dL_law_275 : decode cL_law 275 = .ok (.invokevirtual 35, 3) := dk_182 0 35 (dk_at dksL_law_10 3 rfl rfl)
theorem dL_law_278 : decode cL_law 278 = .ok (.aload_n 2, 1) := dk_44 (dk_at dksL_law_10 6 rfl rfl)
theorem dL_law_279 : decode cL_law 279 = .ok (.aload_n 0, 1) := dk_42 (dk_at dksL_law_10 7 rfl rfl)
theorem dL_law_280 : decode cL_law 280 = .ok (.iload_n 3, 1) := dk_29 (dk_at dksL_law_10 8 rfl rfl)
theorem dL_law_281 : decode cL_law 281 = .ok (.iconst 1, 1) := dk_4 (dk_at dksL_law_10 9 rfl rfl)
theorem dL_law_282 : decode cL_law 282 = .ok (.iadd, 1) := dk_96 (dk_at dksL_law_10 10 rfl rfl)
theorem dL_law_283 : decode cL_law 283 = .ok (.iaload, 1) := dk_46 (dk_at dksL_law_10 11 rfl rfl)
theorem dL_law_284 : decode cL_law 284 = .ok (.invokevirtual 39, 3) := dk_182 0 39 (dk_at dksL_law_10 12 rfl rfl)
theorem dL_law_287 : decode cL_law 287 = .ok (.if_icmp .eq 181, 3) := dk_159 0 181 (dk_at dksL_law_10 15 rfl rfl)
theorem dL_law_290 : decode cL_law 290 = .ok (.iconst 0, 1) := dk_3 (dk_at dksL_law_10 18 rfl rfl)
theorem dL_law_291 : decode cL_law 291 = .ok (.ireturn, 1) := dk_172 (dk_at dksL_law_10 19 rfl rfl)
theorem dL_law_292 : decode cL_law 292 = .ok (.aload_n 1, 1) := dk_43 (dk_at dksL_law_10 20 rfl rfl)
theorem dL_law_293 : decode cL_law 293 = .ok (.aload_n 0, 1) := dk_42 (dk_at dksL_law_10 21 rfl rfl)
theorem dL_law_294 : decode cL_law 294 = .ok (.iload_n 3, 1) := dk_29 (dk_at dksL_law_10 22 rfl rfl)
theorem dL_law_295 : decode cL_law 295 = .ok (.iconst 1, 1) := dk_4 (dk_at dksL_law_10 23 rfl rfl)
theorem dL_law_296 : decode cL_law 296 = .ok (.iadd, 1) := dk_96 (dk_at dksL_law_11 0 rfl rfl)
theorem dL_law_297 : decode cL_law 297 = .ok (.iaload, 1) := dk_46 (dk_at dksL_law_11 1 rfl rfl)
theorem dL_law_298 : decode cL_law 298 = .ok (.invokevirtual 40, 3) := dk_182 0 40 (dk_at dksL_law_11 2 rfl rfl)
theorem dL_law_301 : decode cL_law 301 = .ok (.aload_n 2, 1) := dk_44 (dk_at dksL_law_11 5 rfl rfl)
theorem dL_law_302 : decode cL_law 302 = .ok (.aload_n 0, 1) := dk_42 (dk_at dksL_law_11 6 rfl rfl)
theorem dL_law_303 : decode cL_law 303 = .ok (.iload_n 3, 1) := dk_29 (dk_at dksL_law_11 7 rfl rfl)
theorem dL_law_304 : decode cL_law 304 = .ok (.iconst 1, 1) := dk_4 (dk_at dksL_law_11 8 rfl rfl)
theorem dL_law_305 : decode cL_law 305 = .ok (.iadd, 1) := dk_96 (dk_at dksL_law_11 9 rfl rfl)
theorem dL_law_306 : decode cL_law 306 = .ok (.iaload, 1) := dk_46 (dk_at dksL_law_11 10 rfl rfl)
theorem dL_law_307 : decode cL_law 307 = .ok (.invokevirtual 43, 3) := dk_182 0 43 (dk_at dksL_law_11 11 rfl rfl)
theorem dL_law_310 : decode cL_law 310 = .ok (.if_icmp .eq 158, 3) := dk_159 0 158 (dk_at dksL_law_11 14 rfl rfl)
theorem dL_law_313 : decode cL_law 313 = .ok (.iconst 0, 1) := dk_3 (dk_at dksL_law_11 17 rfl rfl)
theorem dL_law_314 : decode cL_law 314 = .ok (.ireturn, 1) := dk_172 (dk_at dksL_law_11 18 rfl rfl)
theorem dL_law_315 : decode cL_law 315 = .ok (.aload_n 1, 1) := dk_43 (dk_at dksL_law_11 19 rfl rfl)
theorem dL_law_316 : decode cL_law 316 = .ok (.aload_n 0, 1) := dk_42 (dk_at dksL_law_11 20 rfl rfl)
theorem dL_law_317 : decode cL_law 317 = .ok (.iload_n 3, 1) := dk_29 (dk_at dksL_law_11 21 rfl rfl)
theorem dL_law_318 : decode cL_law 318 = .ok (.iconst 1, 1) := dk_4 (dk_at dksL_law_11 22 rfl rfl)
theorem dL_law_319 : decode cL_law 319 = .ok (.iadd, 1) := dk_96 (dk_at dksL_law_11 23 rfl rfl)
theorem dL_law_320 : decode cL_law 320 = .ok (.iaload, 1) := dk_46 (dk_at dksL_law_12 0 rfl rfl)
theorem dL_law_321 : decode cL_law 321 = .ok (.invokevirtual 44, 3) := dk_182 0 44 (dk_at dksL_law_12 1 rfl rfl)
theorem dL_law_324 : decode cL_law 324 = .ok (.aload_n 2, 1) := dk_44 (dk_at dksL_law_12 4 rfl rfl)
theorem dL_law_325 : decode cL_law 325 = .ok (.aload_n 0, 1) := dk_42 (dk_at dksL_law_12 5 rfl rfl)
theorem dL_law_326 : decode cL_law 326 = .ok (.iload_n 3, 1) := dk_29 (dk_at dksL_law_12 6 rfl rfl)
theorem dL_law_327 : decode cL_law 327 = .ok (.iconst 1, 1) := dk_4 (dk_at dksL_law_12 7 rfl rfl)
theorem dL_law_328 : decode cL_law 328 = .ok (.iadd, 1) := dk_96 (dk_at dksL_law_12 8 rfl rfl)
theorem dL_law_329 : decode cL_law 329 = .ok (.iaload, 1) := dk_46 (dk_at dksL_law_12 9 rfl rfl)
theorem dL_law_330 : decode cL_law 330 = .ok (.invokevirtual 47, 3) := dk_182 0 47 (dk_at dksL_law_12 10 rfl rfl)
theorem dL_law_333 : decode cL_law 333 = .ok (.if_icmp .eq 135, 3) := dk_159 0 135 (dk_at dksL_law_12 13 rfl rfl)
theorem dL_law_336 : decode cL_law 336 = .ok (.iconst 0, 1) := dk_3 (dk_at dksL_law_12 16 rfl rfl)
theorem dL_law_337 : decode cL_law 337 = .ok (.ireturn, 1) := dk_172 (dk_at dksL_law_12 17 rfl rfl)
theorem dL_law_338 : decode cL_law 338 = .ok (.aload_n 1, 1) := dk_43 (dk_at dksL_law_12 18 rfl rfl)
theorem dL_law_339 : decode cL_law 339 = .ok (.aload_n 0, 1) := dk_42 (dk_at dksL_law_12 19 rfl rfl)
theorem dL_law_340 : decode cL_law 340 = .ok (.iload_n 3, 1) := dk_29 (dk_at dksL_law_12 20 rfl rfl)
theorem dL_law_341 : decode cL_law 341 = .ok (.iconst 1, 1) := dk_4 (dk_at dksL_law_12 21 rfl rfl)
theorem dL_law_342 : decode cL_law 342 = .ok (.iadd, 1) := dk_96 (dk_at dksL_law_12 22 rfl rfl)
theorem dL_law_343 : decode cL_law 343 = .ok (.iaload, 1) := dk_46 (dk_at dksL_law_12 23 rfl rfl)
theorem dL_law_344 : decode cL_law 344 = .ok (.invokevirtual 48, 3) := dk_182 0 48 (dk_at dksL_law_13 0 rfl rfl)
theorem dL_law_347 : decode cL_law 347 = .ok (.aload_n 2, 1) := dk_44 (dk_at dksL_law_13 3 rfl rfl)
theorem dL_law_348 : decode cL_law 348 = .ok (.aload_n 0, 1) := dk_42 (dk_at dksL_law_13 4 rfl rfl)
theorem dL_law_349 : decode cL_law 349 = .ok (.iload_n 3, 1) := dk_29 (dk_at dksL_law_13 5 rfl rfl)
theorem dL_law_350 : decode cL_law 350 = .ok (.iconst 1, 1) := dk_4 (dk_at dksL_law_13 6 rfl rfl)
theorem dL_law_351 : decode cL_law 351 = .ok (.iadd, 1) := dk_96 (dk_at dksL_law_13 7 rfl rfl)
theorem dL_law_352 : decode cL_law 352 = .ok (.iaload, 1) := dk_46 (dk_at dksL_law_13 8 rfl rfl)
theorem dL_law_353 : decode cL_law 353 = .ok (.invokevirtual 51, 3) := dk_182 0 51 (dk_at dksL_law_13 9 rfl rfl)
theorem dL_law_356 : decode cL_law 356 = .ok (.if_icmp .eq 112, 3) := dk_159 0 112 (dk_at dksL_law_13 12 rfl rfl)
theorem dL_law_359 : decode cL_law 359 = .ok (.iconst 0, 1) := dk_3 (dk_at dksL_law_13 15 rfl rfl)
theorem dL_law_360 : decode cL_law 360 = .ok (.ireturn, 1) := dk_172 (dk_at dksL_law_13 16 rfl rfl)
theorem dL_law_361 : decode cL_law 361 = .ok (.aload_n 1, 1) := dk_43 (dk_at dksL_law_13 17 rfl rfl)
theorem dL_law_362 : decode cL_law 362 = .ok (.aload_n 0, 1) := dk_42 (dk_at dksL_law_13 18 rfl rfl)
theorem dL_law_363 : decode cL_law 363 = .ok (.iload_n 3, 1) := dk_29 (dk_at dksL_law_13 19 rfl rfl)
theorem dL_law_364 : decode cL_law 364 = .ok (.iconst 1, 1) := dk_4 (dk_at dksL_law_13 20 rfl rfl)
theorem dL_law_365 : decode cL_law 365 = .ok (.iadd, 1) := dk_96 (dk_at dksL_law_13 21 rfl rfl)
theorem dL_law_366 : decode cL_law 366 = .ok (.iaload, 1) := dk_46 (dk_at dksL_law_13 22 rfl rfl)
theorem dL_law_367 : decode cL_law 367 = .ok (.invokevirtual 52, 3) := dk_182 0 52 (dk_at dksL_law_14 0 rfl rfl)
theorem dL_law_370 : decode cL_law 370 = .ok (.aload_n 2, 1) := dk_44 (dk_at dksL_law_14 3 rfl rfl)
theorem dL_law_371 : decode cL_law 371 = .ok (.aload_n 0, 1) := dk_42 (dk_at dksL_law_14 4 rfl rfl)
theorem dL_law_372 : decode cL_law 372 = .ok (.iload_n 3, 1) := dk_29 (dk_at dksL_law_14 5 rfl rfl)
theorem dL_law_373 : decode cL_law 373 = .ok (.iconst 1, 1) := dk_4 (dk_at dksL_law_14 6 rfl rfl)
theorem dL_law_374 : decode cL_law 374 = .ok (.iadd, 1) := dk_96 (dk_at dksL_law_14 7 rfl rfl)
theorem dL_law_375 : decode cL_law 375 = .ok (.iaload, 1) := dk_46 (dk_at dksL_law_14 8 rfl rfl)
theorem dL_law_376 : decode cL_law 376 = .ok (.invokevirtual 56, 3) := dk_182 0 56 (dk_at dksL_law_14 9 rfl rfl)
theorem dL_law_379 : decode cL_law 379 = .ok (.if_icmp .eq 89, 3) := dk_159 0 89 (dk_at dksL_law_14 12 rfl rfl)
theorem dL_law_382 : decode cL_law 382 = .ok (.iconst 0, 1) := dk_3 (dk_at dksL_law_14 15 rfl rfl)
theorem dL_law_383 : decode cL_law 383 = .ok (.ireturn, 1) := dk_172 (dk_at dksL_law_14 16 rfl rfl)
theorem dL_law_384 : decode cL_law 384 = .ok (.aload_n 1, 1) := dk_43 (dk_at dksL_law_14 17 rfl rfl)
theorem dL_law_385 : decode cL_law 385 = .ok (.aload_n 0, 1) := dk_42 (dk_at dksL_law_14 18 rfl rfl)
theorem dL_law_386 : decode cL_law 386 = .ok (.iload_n 3, 1) := dk_29 (dk_at dksL_law_14 19 rfl rfl)
theorem dL_law_387 : decode cL_law 387 = .ok (.iconst 1, 1) := dk_4 (dk_at dksL_law_14 20 rfl rfl)
theorem dL_law_388 : decode cL_law 388 = .ok (.iadd, 1) := dk_96 (dk_at dksL_law_14 21 rfl rfl)
theorem dL_law_389 : decode cL_law 389 = .ok (.iaload, 1) := dk_46 (dk_at dksL_law_14 22 rfl rfl)
theorem dL_law_390 : decode cL_law 390 = .ok (.invokevirtual 57, 3) := dk_182 0 57 (dk_at dksL_law_15 0 rfl rfl)
theorem dL_law_393 : decode cL_law 393 = .ok (.aload_n 2, 1) := dk_44 (dk_at dksL_law_15 3 rfl rfl)
theorem dL_law_394 : decode cL_law 394 = .ok (.aload_n 0, 1) := dk_42 (dk_at dksL_law_15 4 rfl rfl)
theorem dL_law_395 : decode cL_law 395 = .ok (.iload_n 3, 1) := dk_29 (dk_at dksL_law_15 5 rfl rfl)
theorem dL_law_396 : decode cL_law 396 = .ok (.iconst 1, 1) := dk_4 (dk_at dksL_law_15 6 rfl rfl)
theorem dL_law_397 : decode cL_law 397 = .ok (.iadd, 1) := dk_96 (dk_at dksL_law_15 7 rfl rfl)
theorem dL_law_398 : decode cL_law 398 = .ok (.iaload, 1) := dk_46 (dk_at dksL_law_15 8 rfl rfl)
theorem dL_law_399 : decode cL_law 399 = .ok (.invokevirtual 61, 3) := dk_182 0 61 (dk_at dksL_law_15 9 rfl rfl)
theorem dL_law_402 : decode cL_law 402 = .ok (.lcmp, 1) := dk_148 (dk_at dksL_law_15 12 rfl rfl)
theorem dL_law_403 : decode cL_law 403 = .ok (.ifCond .eq 65, 3) := dk_153 0 65 (dk_at dksL_law_15 13 rfl rfl)
theorem dL_law_406 : decode cL_law 406 = .ok (.iconst 0, 1) := dk_3 (dk_at dksL_law_15 16 rfl rfl)
theorem dL_law_407 : decode cL_law 407 = .ok (.ireturn, 1) := dk_172 (dk_at dksL_law_15 17 rfl rfl)
theorem dL_law_408 : decode cL_law 408 = .ok (.aload_n 1, 1) := dk_43 (dk_at dksL_law_15 18 rfl rfl)
theorem dL_law_409 : decode cL_law 409 = .ok (.aload_n 0, 1) := dk_42 (dk_at dksL_law_15 19 rfl rfl)
theorem dL_law_410 : decode cL_law 410 = .ok (.iload_n 3, 1) := dk_29 (dk_at dksL_law_15 20 rfl rfl)
theorem dL_law_411 : decode cL_law 411 = .ok (.iconst 1, 1) := dk_4 (dk_at dksL_law_15 21 rfl rfl)
theorem dL_law_412 : decode cL_law 412 = .ok (.iadd, 1) := dk_96 (dk_at dksL_law_15 22 rfl rfl)
theorem dL_law_413 : decode cL_law 413 = .ok (.iaload, 1) := dk_46 (dk_at dksL_law_15 23 rfl rfl)
theorem dL_law_414 : decode cL_law 414 = .ok (.invokevirtual 62, 3) := dk_182 0 62 (dk_at dksL_law_16 0 rfl rfl)
theorem dL_law_417 : decode cL_law 417 = .ok (.aload_n 2, 1) := dk_44 (dk_at dksL_law_16 3 rfl rfl)
theorem dL_law_418 : decode cL_law 418 = .ok (.aload_n 0, 1) := dk_42 (dk_at dksL_law_16 4 rfl rfl)
theorem dL_law_419 : decode cL_law 419 = .ok (.iload_n 3, 1) := dk_29 (dk_at dksL_law_16 5 rfl rfl)
theorem dL_law_420 : decode cL_law 420 = .ok (.iconst 1, 1) := dk_4 (dk_at dksL_law_16 6 rfl rfl)
theorem dL_law_421 : decode cL_law 421 = .ok (.iadd, 1) := dk_96 (dk_at dksL_law_16 7 rfl rfl)
theorem dL_law_422 : decode cL_law 422 = .ok (.iaload, 1) := dk_46 (dk_at dksL_law_16 8 rfl rfl)
theorem dL_law_423 : decode cL_law 423 = .ok (.invokevirtual 65, 3) := dk_182 0 65 (dk_at dksL_law_16 9 rfl rfl)
theorem dL_law_426 : decode cL_law 426 = .ok (.lcmp, 1) := dk_148 (dk_at dksL_law_16 12 rfl rfl)
theorem dL_law_427 : decode cL_law 427 = .ok (.ifCond .eq 41, 3) := dk_153 0 41 (dk_at dksL_law_16 13 rfl rfl)
theorem dL_law_430 : decode cL_law 430 = .ok (.iconst 0, 1) := dk_3 (dk_at dksL_law_16 16 rfl rfl)
theorem dL_law_431 : decode cL_law 431 = .ok (.ireturn, 1) := dk_172 (dk_at dksL_law_16 17 rfl rfl)
theorem dL_law_432 : decode cL_law 432 = .ok (.aload_n 1, 1) := dk_43 (dk_at dksL_law_16 18 rfl rfl)
theorem dL_law_433 : decode cL_law 433 = .ok (.invokevirtual 66, 3) := dk_182 0 66 (dk_at dksL_law_16 19 rfl rfl)
theorem dL_law_436 : decode cL_law 436 = .ok (.aload_n 2, 1) := dk_44 (dk_at dksL_law_16 22 rfl rfl)
theorem dL_law_437 : decode cL_law 437 = .ok (.invokevirtual 70, 3) := dk_182 0 70 (dk_at dksL_law_17 0 rfl rfl)
theorem dL_law_440 : decode cL_law 440 = .ok (.if_icmp .eq 28, 3) := dk_159 0 28 (dk_at dksL_law_17 3 rfl rfl)
theorem dL_law_443 : decode cL_law 443 = .ok (.iconst 0, 1) := dk_3 (dk_at dksL_law_17 6 rfl rfl)
theorem dL_law_444 : decode cL_law 444 = .ok (.ireturn, 1) := dk_172 (dk_at dksL_law_17 7 rfl rfl)
theorem dL_law_445 : decode cL_law 445 = .ok (.aload_n 1, 1) := dk_43 (dk_at dksL_law_17 8 rfl rfl)
theorem dL_law_446 : decode cL_law 446 = .ok (.aload_n 0, 1) := dk_42 (dk_at dksL_law_17 9 rfl rfl)
theorem dL_law_447 : decode cL_law 447 = .ok (.iload_n 3, 1) := dk_29 (dk_at dksL_law_17 10 rfl rfl)
theorem dL_law_448 : decode cL_law 448 = .ok (.iconst 1, 1) := dk_4 (dk_at dksL_law_17 11 rfl rfl)
theorem dL_law_449 : decode cL_law 449 = .ok (.iadd, 1) := dk_96 (dk_at dksL_law_17 12 rfl rfl)
theorem dL_law_450 : decode cL_law 450 = .ok (.iaload, 1) := dk_46 (dk_at dksL_law_17 13 rfl rfl)
theorem dL_law_451 : decode cL_law 451 = .ok (.invokevirtual 71, 3) := dk_182 0 71 (dk_at dksL_law_17 14 rfl rfl)
theorem dL_law_454 : decode cL_law 454 = .ok (.aload_n 2, 1) := dk_44 (dk_at dksL_law_17 17 rfl rfl)
theorem dL_law_455 : decode cL_law 455 = .ok (.aload_n 0, 1) := dk_42 (dk_at dksL_law_17 18 rfl rfl)
theorem dL_law_456 : decode cL_law 456 = .ok (.iload_n 3, 1) := dk_29 (dk_at dksL_law_17 19 rfl rfl)
theorem dL_law_457 : decode cL_law 457 = .ok (.iconst 1, 1) := dk_4 (dk_at dksL_law_17 20 rfl rfl)
theorem dL_law_458 : decode cL_law 458 = .ok (.iadd, 1) := dk_96 (dk_at dksL_law_17 21 rfl rfl)
theorem dL_law_459 : decode cL_law 459 = .ok (.iaload, 1) := dk_46 (dk_at dksL_law_17 22 rfl rfl)
theorem dL_law_460 : decode cL_law 460 = .ok (.invokevirtual 74, 3) := dk_182 0 74 (dk_at dksL_law_18 0 rfl rfl)
theorem dL_law_463 : decode cL_law 463 = .ok (.if_icmp .eq 5, 3) := dk_159 0 5 (dk_at dksL_law_18 3 rfl rfl)
theorem dL_law_466 : decode cL_law 466 = .ok (.iconst 0, 1) := dk_3 (dk_at dksL_law_18 6 rfl rfl)
theorem dL_law_467 : decode cL_law 467 = .ok (.ireturn, 1) := dk_172 (dk_at dksL_law_18 7 rfl rfl)
theorem dL_law_468 : decode cL_law 468 = .ok (.iinc 3 6, 3) := dk_132 3 6 (dk_at dksL_law_18 8 rfl rfl)
theorem dL_law_471 : decode cL_law 471 = .ok (.goto (-453), 3) := dk_167 254 59 (dk_at dksL_law_18 11 rfl rfl)
theorem dL_law_474 : decode cL_law 474 = .ok (.iconst 1, 1) := dk_4 (dk_at dksL_law_18 14 rfl rfl)
theorem dL_law_475 : decode cL_law 475 = .ok (.ireturn, 1) := dk_172 (dk_at dksL_law_18 15 rfl rfl)
end
section
/-! whole numbers: Int32 and Int64 out of Int; the calendar over Int -/
def jd_i (z : Int) : Int32 := Int32.ofInt z
def jd_l (z : Int) : Int64 := Int64.ofInt z
theorem jd_i_add (a b : Int) : jd_i a + jd_i b = jd_i (a + b) := (Int32.ofInt_add a b).symm
theorem jd_i_sub (a b : Int) : jd_i a - jd_i b = jd_i (a - b) := (Int32.ofInt_sub a b).symm
theorem jd_i_mul (a b : Int) : jd_i a * jd_i b = jd_i (a * b) := (Int32.ofInt_mul a b).symm
theorem jd_l_add (a b : Int) : jd_l a + jd_l b = jd_l (a + b) := (Int64.ofInt_add a b).symm
theorem jd_l_sub (a b : Int) : jd_l a - jd_l b = jd_l (a - b) := (Int64.ofInt_sub a b).symm
theorem jd_l_mul (a b : Int) : jd_l a * jd_l b = jd_l (a * b) := (Int64.ofInt_mul a b).symm
theorem jd_i_int {z : Int} (h1 : -2147483648 ≤ z) (h2 : z ≤ 2147483647) : (jd_i z).toInt = z := Int32.toInt_ofInt_of_le (Int.le_trans (by decide) h1) (Int.lt_of_le_of_lt h2 (by decide))
theorem jd_l_int {z : Int} (h1 : -9223372036854775808 ≤ z) (h2 : z ≤ 9223372036854775807) : (jd_l z).toInt = z := Int64.toInt_ofInt_of_le (Int.le_trans (by decide) h1) (Int.lt_of_le_of_lt h2 (by decide))
theorem jd_i_of (x : Int32) : jd_i x.toInt = x := Int32.ofInt_toInt x
theorem jd_l_of (x : Int64) : jd_l x.toInt = x := Int64.ofInt_toInt x
theorem jd_i_rg (x : Int32) : -2147483648 ≤ x.toInt ∧ x.toInt ≤ 2147483647 := by
  have h1 := Int32.le_toInt x
  have h2 := Int32.toInt_lt x
  omega
theorem jd_i_lt {a b : Int} (a1 : -2147483648 ≤ a) (a2 : a ≤ 2147483647) (b1 : -2147483648 ≤ b) (b2 : b ≤ 2147483647) : jd_i a < jd_i b ↔ a < b := by
  rw [Int32.lt_iff_toInt_lt, jd_i_int a1 a2, jd_i_int b1 b2]
theorem jd_i_le {a b : Int} (a1 : -2147483648 ≤ a) (a2 : a ≤ 2147483647) (b1 : -2147483648 ≤ b) (b2 : b ≤ 2147483647) : jd_i a ≤ jd_i b ↔ a ≤ b := by
  rw [Int32.le_iff_toInt_le, jd_i_int a1 a2, jd_i_int b1 b2]
theorem jd_i_eq {a b : Int} (a1 : -2147483648 ≤ a) (a2 : a ≤ 2147483647) (b1 : -2147483648 ≤ b) (b2 : b ≤ 2147483647) : jd_i a = jd_i b ↔ a = b := by
  refine ⟨fun h => ?_, fun h => by rw [h]⟩
  have h3 := congrArg Int32.toInt h
  rwa [jd_i_int a1 a2, jd_i_int b1 b2] at h3
theorem jd_l_lt {a b : Int} (a1 : -9223372036854775808 ≤ a) (a2 : a ≤ 9223372036854775807) (b1 : -9223372036854775808 ≤ b) (b2 : b ≤ 9223372036854775807) : jd_l a < jd_l b ↔ a < b := by
  rw [Int64.lt_iff_toInt_lt, jd_l_int a1 a2, jd_l_int b1 b2]
theorem jd_l_le {a b : Int} (a1 : -9223372036854775808 ≤ a) (a2 : a ≤ 9223372036854775807) (b1 : -9223372036854775808 ≤ b) (b2 : b ≤ 9223372036854775807) : jd_l a ≤ jd_l b ↔ a ≤ b := by
  rw [Int64.le_iff_toInt_le, jd_l_int a1 a2, jd_l_int b1 b2]
theorem jd_l_eq {a b : Int} (a1 : -9223372036854775808 ≤ a) (a2 : a ≤ 9223372036854775807) (b1 : -9223372036854775808 ≤ b) (b2 : b ≤ 9223372036854775807) : jd_l a = jd_l b ↔ a = b := by
  refine ⟨fun h => ?_, fun h => by rw [h]⟩
  have h3 := congrArg Int64.toInt h
  rwa [jd_l_int a1 a2, jd_l_int b1 b2] at h3
theorem jd_i2l {z : Int} (h1 : -2147483648 ≤ z) (h2 : z ≤ 2147483647) : (jd_i z).toInt64 = jd_l z := Int64.toInt_inj.mp (by rw [Int32.toInt_toInt64, jd_i_int h1 h2, jd_l_int (by omega) (by omega)])
theorem jd_l2i (z : Int) : (jd_l z).toInt32 = jd_i z := Int64.toInt32_ofInt
theorem jd_x2l (x : Int32) : x.toInt64 = jd_l x.toInt := Int64.toInt_inj.mp (by rw [Int32.toInt_toInt64, jd_l_int (by have := jd_i_rg x; omega) (by have := jd_i_rg x; omega)])
theorem jd_i2s : ∀ n : Nat, n < 40 → (jd_i n).toInt16.toInt32 = jd_i n := by decide +kernel
theorem jd_l_div {a b : Int} (a1 : -9223372036854775808 ≤ a) (a2 : a ≤ 9223372036854775807) (b1 : -9223372036854775808 ≤ b) (b2 : b ≤ 9223372036854775807) : jd_l a / jd_l b = jd_l (a.tdiv b) := by
  have e1 : Int64.minValue.toInt = -9223372036854775808 := by decide +kernel
  have e2 : Int64.maxValue.toInt = 9223372036854775807 := by decide +kernel
  exact (Int64.ofInt_tdiv (by rw [e1]; exact a1) (by rw [e2]; exact a2) (by rw [e1]; exact b1) (by rw [e2]; exact b2)).symm
theorem jd_i_div {a b : Int} (a1 : -2147483648 ≤ a) (a2 : a ≤ 2147483647) (b1 : -2147483648 ≤ b) (b2 : b ≤ 2147483647) : jd_i a / jd_i b = jd_i (a.tdiv b) := by
  have e1 : Int32.minValue.toInt = -2147483648 := by decide +kernel
  have e2 : Int32.maxValue.toInt = 2147483647 := by decide +kernel
  exact (Int32.ofInt_tdiv (by rw [e1]; exact a1) (by rw [e2]; exact a2) (by rw [e1]; exact b1) (by rw [e2]; exact b2)).symm
theorem jd_l_rem {a b : Int} (a1 : -9223372036854775808 ≤ a) (a2 : a ≤ 9223372036854775807) (b1 : -9223372036854775808 ≤ b) (b2 : b ≤ 9223372036854775807) : jd_l a - jd_l a / jd_l b * jd_l b = jd_l (a.tmod b) := by
  rw [jd_l_div a1 a2 b1 b2, jd_l_mul, jd_l_sub, Int.tmod_def, Int.mul_comm]
theorem jd_i_rem {a b : Int} (a1 : -2147483648 ≤ a) (a2 : a ≤ 2147483647) (b1 : -2147483648 ≤ b) (b2 : b ≤ 2147483647) : jd_i a - jd_i a / jd_i b * jd_i b = jd_i (a.tmod b) := by
  rw [jd_i_div a1 a2 b1 b2, jd_i_mul, jd_i_sub, Int.tmod_def, Int.mul_comm]
/-- truncating division and remainder by flooring ones -/
theorem jd_td0 {a : Int} (b : Int) (h : 0 ≤ a) : a.tdiv b = a / b := Int.tdiv_eq_ediv_of_nonneg h
theorem jd_td1 {a : Int} (b : Int) (h : a ≤ 0) : a.tdiv b = -((-a) / b) := by
  have h1 := Int.neg_tdiv (-a) b
  rw [Int.neg_neg] at h1
  rw [h1, jd_td0 b (by omega)]
theorem jd_tm0 {a : Int} (b : Int) (h : 0 ≤ a) : a.tmod b = a % b := Int.tmod_eq_emod_of_nonneg h
theorem jd_tm1 {a : Int} (b : Int) (h : a ≤ 0) : a.tmod b = -((-a) % b) := by
  have h1 := Int.neg_tmod (-a) b
  rw [Int.neg_neg] at h1
  rw [h1, jd_tm0 b (by omega)]
/-- the remainder that the class and the model both take -/
def jd_r6 (x : Int32) : Int := x.toInt.tmod 1000000
theorem jd_r6_eq (x : Int32) : x - x / 1000000 * 1000000 = jd_i (jd_r6 x) := by
  have h := jd_i_rg x
  have h2 := jd_i_rem (a := x.toInt) (b := 1000000) h.1 h.2 (by decide) (by decide)
  rw [jd_i_of] at h2
  exact h2
theorem jd_r6_rg (x : Int32) : -999999 ≤ jd_r6 x ∧ jd_r6 x ≤ 999999 := by
  unfold jd_r6
  rcases Int.le_total 0 x.toInt with h | h
  · rw [jd_tm0 _ h]; omega
  · rw [jd_tm1 _ h]; omega
def jd_mf (x : Int32) : Int := 1 + (x &&& 2147483647).toInt.tmod 12
theorem jd_and_nn (x : Int32) : 0 ≤ (x &&& 2147483647).toInt := by
  have h := pk_and x (m := 2147483647) 31 (by decide)
  rw [h, nI_toInt (by omega)]
  omega
theorem jd_mf_eq (x : Int32) : 1 + ((x &&& 2147483647) - (x &&& 2147483647) / 12 * 12) = jd_i (jd_mf x) := by
  have h := jd_i_rg (x &&& 2147483647)
  have h2 := jd_i_rem (a := (x &&& 2147483647).toInt) (b := 12) h.1 h.2 (by decide) (by decide)
  rw [jd_i_of] at h2
  have h3 := jd_i_add 1 ((x &&& 2147483647).toInt.tmod 12)
  rw [← h2] at h3
  exact h3
theorem jd_mf_rg (x : Int32) : 1 ≤ jd_mf x ∧ jd_mf x ≤ 12 := by
  unfold jd_mf
  rw [jd_tm0 _ (jd_and_nn x)]
  omega
/-- leap year, days of a month, of a year, the first's epoch day -/
def jd_lp (y : Int) : Bool := decide (y % 4 = 0 ∧ (y % 100 ≠ 0 ∨ y % 400 = 0))
theorem jd_lp_t {y : Int} (h : y % 4 = 0 ∧ (y % 100 ≠ 0 ∨ y % 400 = 0)) : jd_lp y = true := decide_eq_true h
theorem jd_lp_f {y : Int} (h : ¬ (y % 4 = 0 ∧ (y % 100 ≠ 0 ∨ y % 400 = 0))) : jd_lp y = false := decide_eq_false h
def jd_b (b : Bool) : Int32 := if b = true then 1 else 0
def jd_dm (lp : Bool) (m : Int) : Int := if m = 2 then (if lp = true then 29 else 28) else if m = 4 ∨ m = 6 ∨ m = 9 ∨ m = 11 then 30 else 31
def jd_dy (lp : Bool) : Int := if lp = true then 366 else 365
def jd_ed (y m : Int) : Int := 365 * y + ((y + 3) / 4 - (y + 99) / 100 + (y + 399) / 400) + (367 * m - 362) / 12 - (if 2 < m then (if jd_lp y = true then 1 else 2) else 0) - 719528
theorem jd_dm_rg (lp : Bool) (m : Int) : 28 ≤ jd_dm lp m ∧ jd_dm lp m ≤ 31 := by
  unfold jd_dm
  cases lp <;> (repeat' split) <;> simp
theorem jd_dy_rg (lp : Bool) : 365 ≤ jd_dy lp ∧ jd_dy lp ≤ 366 := by
  cases lp <;> decide
theorem jd_ed_rg {y m : Int} (h1 : -9000000 ≤ y) (h2 : y ≤ 9000000) (h3 : 1 ≤ m) (h4 : m ≤ 12) : -4000000000 ≤ jd_ed y m ∧ jd_ed y m ≤ 4000000000 := by
  unfold jd_ed
  (repeat' split) <;> omega
/-- the model's two loops -/
def jd_sy : Nat → Int
  | 0 => 0
  | k + 1 => jd_sy k + jd_dy (jd_lp k)
def jd_sm (lp : Bool) : Nat → Int
  | 0 => 0
  | k + 1 => jd_sm lp k + jd_dm lp (k + 1)
theorem jd_sy_eq (k : Nat) : jd_sy k = 365 * (k : Int) + (((k : Int) + 3) / 4 - ((k : Int) + 99) / 100 + ((k : Int) + 399) / 400) := by
  induction k with
  | zero => rfl
  | succ k ih =>
    show jd_sy k + jd_dy (jd_lp k) = _
    rw [ih]
    by_cases h : ((k : Int) % 4 = 0 ∧ ((k : Int) % 100 ≠ 0 ∨ (k : Int) % 400 = 0))
    · rw [jd_lp_t h]
      show _ + (366 : Int) = _
      omega
    · rw [jd_lp_f h]
      show _ + (365 : Int) = _
      omega
theorem jd_sm_tab : ∀ lp : Bool, ∀ k : Nat, k < 12 → jd_sm lp k = (367 * ((k : Int) + 1) - 362) / 12 - (if 2 < (k : Int) + 1 then (if lp = true then 1 else 2) else 0) := by decide +kernel
theorem jd_sy_rg {k : Nat} (h : k ≤ 400) : 0 ≤ jd_sy k ∧ jd_sy k ≤ 200000 := by
  rw [jd_sy_eq]; omega
theorem jd_sm_rg (lp : Bool) (k : Nat) : 0 ≤ jd_sm lp k ∧ jd_sm lp k ≤ 31 * k := by
  induction k with
  | zero => exact ⟨Int.le_refl 0, Int.le_refl 0⟩
  | succ k ih =>
    have h := jd_dm_rg lp ((k : Int) + 1)
    show 0 ≤ jd_sm lp k + jd_dm lp (k + 1) ∧ jd_sm lp k + jd_dm lp (k + 1) ≤ _
    omega
/-- what the model adds up is the epoch day -/
theorem jd_model_ed {y : Int} {r k : Nat} {m : Int} (hr : (r : Int) = y % 400) (hk : (k : Int) + 1 = m) (hk2 : k < 12) : (y / 400) * 146097 + jd_sy r + jd_sm (jd_lp y) k - 719528 = jd_ed y m := by
  rw [jd_sy_eq, jd_sm_tab _ _ hk2, hk, hr]
  unfold jd_ed
  generalize (if 2 < m then (if jd_lp y = true then (1 : Int) else 2) else 0) = w
  omega
/-- what the class adds up -/
theorem jd_class_pos {y : Int} (h : 0 ≤ y) : (y + 3).tdiv 4 - (y + 99).tdiv 100 + (y + 399).tdiv 400 = (y + 3) / 4 - (y + 99) / 100 + (y + 399) / 400 := by
  rw [jd_td0 _ (by omega), jd_td0 _ (by omega), jd_td0 _ (by omega)]
theorem jd_tdn {y : Int} (b : Int) (h : y ≤ 0) : y.tdiv (-b) = (-y) / b := by
  rw [Int.tdiv_neg, jd_td1 _ h, Int.neg_neg]
theorem jd_class_neg {y : Int} (h : y ≤ 0) : -(y.tdiv (-4) - y.tdiv (-100) + y.tdiv (-400)) = (y + 3) / 4 - (y + 99) / 100 + (y + 399) / 400 := by
  rw [show (-4 : Int) = -(4 : Int) from rfl, show (-100 : Int) = -(100 : Int) from rfl, show (-400 : Int) = -(400 : Int) from rfl, jd_tdn _ h, jd_tdn _ h, jd_tdn _ h]
  omega
/-- flooring division by a truncating one -/
theorem jd_fd0 {a b : Int} (h : 0 ≤ a) : a.tdiv b = a / b := jd_td0 b h
theorem jd_fd1 {a : Int} (h : a < 0) : (a + 1).tdiv 12 - 1 = a / 12 := by
  rw [jd_td1 _ (by omega)]; omega
theorem jd_fm (a : Int) : (a.tmod 12 + 12).tmod 12 = a % 12 := by
  rcases Int.le_total 0 a with h | h
  · rw [jd_tm0 12 h, jd_tm0 12 (by omega)]; omega
  · rw [jd_tm1 12 h, jd_tm0 12 (by omega)]; omega
/-- the model's floorQuotient -/
theorem jd_fq12 {a : Int} (h : a.tdiv 12 * 12 > a) : a.tdiv 12 - 1 = a / 12 := by
  rcases Int.le_total 0 a with g | g
  · rw [jd_td0 12 g] at h ⊢; omega
  · rw [jd_td1 12 g] at h ⊢; omega
theorem jd_fq12' {a : Int} (h : ¬ a.tdiv 12 * 12 > a) : a.tdiv 12 = a / 12 := by
  rcases Int.le_total 0 a with g | g
  · rw [jd_td0 12 g] at h ⊢
  · rw [jd_td1 12 g] at h ⊢; omega
theorem jd_fq400 {a : Int} (h : a.tdiv 400 * 400 > a) : a.tdiv 400 - 1 = a / 400 := by
  rcases Int.le_total 0 a with g | g
  · rw [jd_td0 400 g] at h ⊢; omega
  · rw [jd_td1 400 g] at h ⊢; omega
theorem jd_fq400' {a : Int} (h : ¬ a.tdiv 400 * 400 > a) : a.tdiv 400 = a / 400 := by
  rcases Int.le_total 0 a with g | g
  · rw [jd_td0 400 g] at h ⊢
  · rw [jd_td1 400 g] at h ⊢; omega
theorem jd_tm_zero {a b : Int} (hb : 0 < b) : a.tmod b = 0 ↔ a % b = 0 := by
  rcases Int.le_total 0 a with h | h
  · rw [jd_tm0 b h]
  · rw [jd_tm1 b h]
    constructor
    · intro h1
      have h2 : b ∣ -a := Int.dvd_of_emod_eq_zero (by omega)
      exact Int.emod_eq_zero_of_dvd (Int.dvd_neg.mp h2)
    · intro h1
      have h2 : b ∣ -a := Int.dvd_neg.mpr (Int.dvd_of_emod_eq_zero h1)
      have h3 := Int.emod_eq_zero_of_dvd h2
      omega
theorem jd_and3 (y : Int) : (jd_l y &&& 3 = 0) ↔ y % 4 = 0 := by
  have h3 : (3 : Int64).toBitVec.toNat = 2 ^ 2 - 1 := by decide +kernel
  have e : (jd_l y &&& 3).toBitVec.toNat = (y % 4).toNat := by
    rw [Int64.toBitVec_and, BitVec.toNat_and, h3, Nat.and_two_pow_sub_one_eq_mod]
    show (BitVec.ofInt 64 y).toNat % 2 ^ 2 = _
    rw [BitVec.toNat_ofInt]
    omega
  constructor
  · intro h
    rw [h] at e
    have h0 : (0 : Int64).toBitVec.toNat = 0 := rfl
    omega
  · intro h
    refine Int64.toBitVec.inj (BitVec.eq_of_toNat_eq ?_)
    rw [e, h]
    rfl
end
section
/-! my own rows: contracts' starts, constants, reads of constants, arrays by a natural index -/
abbrev jd_rm (k mc ms : Nat) : Room := { frames := k, cells := mc, slots := ms, locals := 32 * k }
def jd_no : Nat → Prop := fun _ => False
def jd_Pc (As : List Value) (X : State → Heap → Prop) : Array Value → State → Prop := va_Pc As (fun U => X U U.heap)
/-- what only looks at the tables and the heap -/
def jd_Mv (X : State → Heap → Prop) : Prop := ∀ (u U : State) (H : Heap), u.vm.Alike U.vm → X u H → X U H
theorem jd_preS {As : List Value} {X : State → Heap → Prop} {s : State} {H : Heap} (mv : jd_Mv X) (h : X s H) : PreS s H (jd_Pc As X) As :=
  ⟨fun a U g mk q => ⟨q.1, mv U (U.calling g mk a) U.heap (Vm.Alike.refl U.vm) q.2⟩, fun U hU hW => ⟨rfl, by show X U U.heap; rw [hU]; exact mv s U H hW.alike h⟩⟩
theorem jd_preV {As : List Value} {X : State → Heap → Prop} {s : State} {H : Heap} {C : String} {b : Addr} (mv : jd_Mv X) (hr : ∃ cellB : Cell, H[b]? = some cellB ∧ cellB.vm.isStatics = false ∧ s.vm.findClass C = some cellB.cls) (h : X s H) : PreV s H C b (jd_Pc (.ref b :: As) X) As :=
  ⟨(jd_preS mv h).1, hr, (jd_preS mv h).2⟩
theorem jd_mvT : jd_Mv (fun _ _ => True) := fun _ _ _ _ h => h
theorem jd_mvA {X Y : State → Heap → Prop} (hX : jd_Mv X) (hY : jd_Mv Y) : jd_Mv (fun U H => X U H ∧ Y U H) := fun u U H h q => ⟨hX u U H h q.1, hY u U H h q.2⟩
theorem jd_mvP (D : va_G) (cl : List vw_C) (ws : va_W) : jd_Mv (fun _ H => va_P D cl ws H) := fun _ _ _ _ h => h
theorem jd_mvK (D : va_G) (cl : List vw_C) (tys : List (ClassId × FieldType)) : jd_Mv (fun U _ => va_K D cl tys U) := fun _ _ _ h q => va_K.moved h q
theorem jd_mvZ (sz : Nat) : jd_Mv (fun _ H => H.size = sz) := fun _ _ _ _ h => h
theorem jd_mvC (p : Prop) : jd_Mv (fun _ _ => p) := fun _ _ _ _ h => h
/-! constants: a range, a field of ChronoField, a month -/
def jd_R (r : Nat) (mn mx : Int) (A : Nat → Prop) (U : State) (H : Heap) : Prop := va_O "ValueRange" r A U H ∧ va_OF "ValueRange" "minSmallest" "J" (.long (jd_l mn)) r A U H ∧ va_OF "ValueRange" "maxLargest" "J" (.long (jd_l mx)) r A U H
def jd_V (a r : Nat) (mn mx : Int) (A : Nat → Prop) (U : State) (H : Heap) : Prop := va_O "ChronoField" a A U H ∧ va_OF "ChronoField" "range" "LValueRange;" (.ref r) a A U H ∧ jd_R r mn mx A U H
def jd_Mo (j : Nat) (a : Nat) (A : Nat → Prop) (U : State) (H : Heap) : Prop := va_O "Month" a A U H ∧ va_OF "java/lang/Enum" "ordinal" "I" (.int (nI j)) a A U H
/-- the months and their table -/
def jd_E (g : Nat → Nat) (A : Nat → Prop) (U : State) (H : Heap) : Prop := va_Z "Month" "ENUMS" "[LMonth;" (.ref (g 6)) A U H ∧ va_T (.object "Month") (g 6) 12 (fun j => .ref (g (8 + j))) A U H ∧ ∀ j : Nat, j < 12 → jd_Mo j (g (8 + j)) A U H
/-- the chronology -/
def jd_I (g : Nat → Nat) (A : Nat → Prop) (U : State) (H : Heap) : Prop := va_Z "IsoChronology" "INSTANCE" "LIsoChronology;" (.ref (g 7)) A U H ∧ va_O "IsoChronology" (g 7) A U H
def jd_F (nm : String) (a r : Nat) (mn mx : Int) (A : Nat → Prop) (U : State) (H : Heap) : Prop := va_Z "ChronoField" nm "LChronoField;" (.ref a) A U H ∧ jd_V a r mn mx A U H
def jd_C (g : Nat → Nat) (A : Nat → Prop) (U : State) (H : Heap) : Prop := jd_F "YEAR" (g 0) (g 1) (-999999999) 999999999 A U H ∧ jd_F "MONTH_OF_YEAR" (g 2) (g 3) 1 12 A U H ∧ jd_F "DAY_OF_MONTH" (g 4) (g 5) 1 31 A U H ∧ jd_E g A U H ∧ jd_I g A U H
theorem jd_R.moved {r : Nat} {mn mx : Int} {A : Nat → Prop} : jd_Mv (jd_R r mn mx A) := fun _ _ _ hv h => ⟨va_O.moved hv h.1, va_OF.moved hv h.2.1, va_OF.moved hv h.2.2⟩
theorem jd_V.moved {a r : Nat} {mn mx : Int} {A : Nat → Prop} : jd_Mv (jd_V a r mn mx A) := fun _ _ _ hv h => ⟨va_O.moved hv h.1, va_OF.moved hv h.2.1, jd_R.moved _ _ _ hv h.2.2⟩
theorem jd_Mo.moved {j a : Nat} {A : Nat → Prop} : jd_Mv (jd_Mo j a A) := fun _ _ _ hv h => ⟨va_O.moved hv h.1, va_OF.moved hv h.2⟩
theorem jd_E.moved {g : Nat → Nat} {A : Nat → Prop} : jd_Mv (jd_E g A) := fun _ _ _ hv h => ⟨va_Z.moved hv h.1, va_T.moved hv h.2.1, fun j hj => jd_Mo.moved _ _ _ hv (h.2.2 j hj)⟩
theorem jd_I.moved {g : Nat → Nat} {A : Nat → Prop} : jd_Mv (jd_I g A) := fun _ _ _ hv h => ⟨va_Z.moved hv h.1, va_O.moved hv h.2⟩
theorem jd_F.moved {nm : String} {a r : Nat} {mn mx : Int} {A : Nat → Prop} : jd_Mv (jd_F nm a r mn mx A) := fun _ _ _ hv h => ⟨va_Z.moved hv h.1, jd_V.moved _ _ _ hv h.2⟩
theorem jd_C.moved {g : Nat → Nat} {A : Nat → Prop} : jd_Mv (jd_C g A) := fun _ _ _ hv h => ⟨jd_F.moved _ _ _ hv h.1, jd_F.moved _ _ _ hv h.2.1, jd_F.moved _ _ _ hv h.2.2.1, jd_E.moved _ _ _ hv h.2.2.2.1, jd_I.moved _ _ _ hv h.2.2.2.2⟩
section JKEPT
variable {A B : Nat → Prop} {U : State} {H H1 : Heap}
theorem jd_R.kept {r : Nat} {mn mx : Int} (h : jd_R r mn mx A U H) (hq : ∀ a : Nat, a < H.size → ¬ A a → H1[a]? = H[a]?) : jd_R r mn mx A U H1 := ⟨h.1.kept hq, h.2.1.kept hq, h.2.2.kept hq⟩
theorem jd_V.kept {a r : Nat} {mn mx : Int} (h : jd_V a r mn mx A U H) (hq : ∀ a : Nat, a < H.size → ¬ A a → H1[a]? = H[a]?) : jd_V a r mn mx A U H1 := ⟨h.1.kept hq, h.2.1.kept hq, h.2.2.kept hq⟩
theorem jd_Mo.kept {j a : Nat} (h : jd_Mo j a A U H) (hq : ∀ a : Nat, a < H.size → ¬ A a → H1[a]? = H[a]?) : jd_Mo j a A U H1 := ⟨h.1.kept hq, h.2.kept hq⟩
theorem jd_E.kept {g : Nat → Nat} (h : jd_E g A U H) (hq : ∀ a : Nat, a < H.size → ¬ A a → H1[a]? = H[a]?) : jd_E g A U H1 := ⟨h.1.kept hq, h.2.1.kept hq, fun j hj => (h.2.2 j hj).kept hq⟩
theorem jd_I.kept {g : Nat → Nat} (h : jd_I g A U H) (hq : ∀ a : Nat, a < H.size → ¬ A a → H1[a]? = H[a]?) : jd_I g A U H1 := ⟨h.1.kept hq, h.2.kept hq⟩
theorem jd_F.kept {nm : String} {a r : Nat} {mn mx : Int} (h : jd_F nm a r mn mx A U H) (hq : ∀ a : Nat, a < H.size → ¬ A a → H1[a]? = H[a]?) : jd_F nm a r mn mx A U H1 := ⟨h.1.kept hq, h.2.kept hq⟩
theorem jd_C.kept {g : Nat → Nat} (h : jd_C g A U H) (hq : ∀ a : Nat, a < H.size → ¬ A a → H1[a]? = H[a]?) : jd_C g A U H1 := ⟨h.1.kept hq, h.2.1.kept hq, h.2.2.1.kept hq, h.2.2.2.1.kept hq, h.2.2.2.2.kept hq⟩
theorem jd_R.narrow {r : Nat} {mn mx : Int} (h : jd_R r mn mx A U H) (hAB : ∀ q, B q → A q) : jd_R r mn mx B U H := ⟨h.1.narrow hAB, h.2.1.narrow hAB, h.2.2.narrow hAB⟩
theorem jd_V.narrow {a r : Nat} {mn mx : Int} (h : jd_V a r mn mx A U H) (hAB : ∀ q, B q → A q) : jd_V a r mn mx B U H := ⟨h.1.narrow hAB, h.2.1.narrow hAB, h.2.2.narrow hAB⟩
theorem jd_Mo.narrow {j a : Nat} (h : jd_Mo j a A U H) (hAB : ∀ q, B q → A q) : jd_Mo j a B U H := ⟨h.1.narrow hAB, h.2.narrow hAB⟩
theorem jd_E.narrow {g : Nat → Nat} (h : jd_E g A U H) (hAB : ∀ q, B q → A q) : jd_E g B U H := ⟨h.1.narrow hAB, h.2.1.narrow hAB, fun j hj => (h.2.2 j hj).narrow hAB⟩
theorem jd_I.narrow {g : Nat → Nat} (h : jd_I g A U H) (hAB : ∀ q, B q → A q) : jd_I g B U H := ⟨h.1.narrow hAB, h.2.narrow hAB⟩
theorem jd_F.narrow {nm : String} {a r : Nat} {mn mx : Int} (h : jd_F nm a r mn mx A U H) (hAB : ∀ q, B q → A q) : jd_F nm a r mn mx B U H := ⟨h.1.narrow hAB, h.2.narrow hAB⟩
theorem jd_C.narrow {g : Nat → Nat} (h : jd_C g A U H) (hAB : ∀ q, B q → A q) : jd_C g B U H := ⟨h.1.narrow hAB, h.2.1.narrow hAB, h.2.2.1.narrow hAB, h.2.2.2.1.narrow hAB, h.2.2.2.2.narrow hAB⟩
theorem jd_nn {A : Nat → Prop} : ∀ q, jd_no q → A q := fun _ h => h.elim
end JKEPT
/-! worlds -/
abbrev jd_cl : List vw_C := [(RX0, TX0, 1), (RX2, TX2, 2), (RX11, TX11, 3), (RX5, TX5, 2)]
abbrev jd_ym (a : Nat) (y m : Int) : Nat × va_E := (a, .inr (1, [.int (jd_i y), .int (jd_i m)]))
abbrev jd_ld (a : Nat) (y m d : Int) : Nat × va_E := (a, .inr (2, [.int (jd_i y), .int (jd_i m), .int (jd_i d)]))
abbrev jd_dk (x q : Nat) : Nat × va_E := (x, .inr (0, [.ref q]))
abbrev jd_ar (q : Nat) (cA : ClassId) (f : Nat → Option Nat) : Nat × va_E := (q, .inl (cA, 2, .inr (.inr (.inr (.inr f)))))
abbrev jd_mm (x q1 q2 : Nat) : Nat × va_E := (x, .inr (3, [.ref q1, .ref q2]))
abbrev jd_ia (q : Nat) (cI : ClassId) (f : Nat → Int32) : Nat × va_E := (q, .inl (cI, 2, .inl f))
theorem jd_P0 {D : va_G} {cl : List vw_C} {H : Heap} : va_P D cl [] H := fun k q h => by simp at h
theorem jd_D0 {A : Nat → Prop} : va_D A [] := ⟨fun i j p q h => by simp at h, fun k q h => by simp at h⟩
theorem jd_D1 {A : Nat → Prop} {a : Nat} {e : va_E} (h : A a) : va_D A [(a, e)] := by
  refine ⟨fun i j p q hi hj _ => ?_, fun k q hk => ?_⟩
  · have h1 := (List.getElem?_eq_some_iff.mp hi).1
    have h2 := (List.getElem?_eq_some_iff.mp hj).1
    simp at h1 h2
    omega
  · have h1 := (List.getElem?_eq_some_iff.mp hk).1
    simp at h1
    rw [h1] at hk
    cases hk
    exact h
/-- behind a call that only makes cells -/
theorem jd_kp {D : va_G} {cl : List vw_C} {ws : va_W} {H H1 : Heap} {sz : Nat} (h : va_P D cl ws H) (hz : H.size = sz) (hk : ∀ q : Nat, q < H.size → ¬ va_A [] sz q → H1[q]? = H[q]?) : va_P D cl ws H1 :=
  h.kept fun k q hq => hk q.1 ((h k q hq).lt) (fun z => by
    rcases z with ⟨k2, e2, z⟩ | z
    · simp at z
    · have := (h k q hq).lt; omega)
theorem jd_nw {sz : Nat} {A : Nat → Prop} (h : ∀ q, sz ≤ q → A q) : ∀ q, va_A [] sz q → A q := fun q z => by
  rcases z with ⟨k2, e2, z⟩ | z
  · simp at z
  · exact h q z
section JROW
variable {p : Program} {l : Launch} {e : Env} {R : Room} {s : State} {m : MethodId} {args : Array Value} {below : List Frame} {meth : Method} {c : Code} {H : Heap} {locs : List Loc} {cells slots : Nat} {Q : State → Prop}
variable {cc : ByteArray} {pc : Nat} {ls : Array Slot} {rest : List Value} {A : Nat → Prop} {H0 : Heap} {D : va_G} {cl : List vw_C} {a : Nat} {tys : List (ClassId × FieldType)} {ws : va_W}
theorem jd_ti {x y : Int32} (h : x = y) (k : W p l e R s m args below meth c H locs cells slots Q (F0 m pc ls (.int y :: rest))) : W p l e R s m args below meth c H locs cells slots Q (F0 m pc ls (.int x :: rest)) := by
  subst h
  exact k
theorem jd_tl {x y : Int64} (h : x = y) (k : W p l e R s m args below meth c H locs cells slots Q (F0 m pc ls (.long y :: rest))) : W p l e R s m args below meth c H locs cells slots Q (F0 m pc ls (.long x :: rest)) := by
  subst h
  exact k
/-- a read of a constant's field -/
theorem jd_getf (hexec : p.tables.exec = Jvm.exec) (hb : c.code = cc) {o n d own ref : String} {v : Value} {t index : Nat} (hE : va_OF o n d v t A s s.heap) (hS : va_S A s.heap H locs) (hown : s.vm.findClass own = some m.cls) (hlink : (Cond.fieldLink own index ref n d).before args s = true) (hsame : ∀ x, s.fieldFound? o n d = some x → s.fieldFound? ref n d = some x) (hdg : decode cc pc = .ok (.getfield index, 3))
    (kk : W p l e R s m args below meth c H locs cells slots Q (F0 m (pc + 3) ls (v :: rest))) : W p l e R s m args below meth c H locs cells slots Q (F0 m pc ls (.ref t :: rest)) := by
  obtain ⟨cf, k, fi, f, cell, h1, h2, h3, h4, h5, h6⟩ := hE.kept hS.2.1
  exact W.getf hexec hb hown hlink (hsame _ h1) h2 h3 h4 (v := v) h5 rfl rfl hdg kk
theorem jd_gets (hexec : p.tables.exec = Jvm.exec) (hb : c.code = cc) {C n d own ref : String} {v : Value} {index : Nat} (hZ : va_Z C n d v A s s.heap) (hS : va_S A s.heap H locs) (hown : s.vm.findClass own = some m.cls) (hlink : (Cond.fieldLink own index ref n d).before args s = true) (hsame : ∀ x, s.fieldFound? C n d = some x → s.fieldFound? ref n d = some x) (hdg : decode cc pc = .ok (.getstatic index, 3))
    (kk : W p l e R s m args below meth c H locs cells slots Q (F0 m (pc + 3) ls (v :: rest))) : W p l e R s m args below meth c H locs cells slots Q (F0 m pc ls rest) := va_gets hexec hb hZ hS hown hlink hsame hdg kk
theorem jd_aald (hexec : p.tables.exec = Jvm.exec) (hb : c.code = cc) (hK : va_K D cl tys s) (hP : va_P D cl ws H) (q0 t0 : Nat) {cA : ClassId} {C : String} {n : Nat} {f : Nat → Option Nat} (ha : ws[q0]? = some (a, .inl (cA, n, .inr (.inr (.inr (.inr f)))))) (ht : tys[t0]? = some (cA, .object C)) {i y : Nat} (hi : i < n) (hn : n < 2 ^ 31) (hf : f i = some y) (hdg : decode cc pc = .ok (.aaload, 1))
    (kk : W p l e R s m args below meth c H locs cells slots Q (F0 m (pc + 1) ls (.ref y :: rest))) : W p l e R s m args below meth c H locs cells slots Q (F0 m pc ls (.int (nI i) :: .ref a :: rest)) := by
  refine va_aldq hexec hb hK hP q0 t0 ha ht (vp_in_nI hi hn) hdg ?_
  rw [nI_clamp (by omega), hf]
  exact kk
theorem jd_aast (hexec : p.tables.exec = Jvm.exec) (hb : c.code = cc) (hK : va_K D cl tys s) (hP : va_P D cl ws H) (hD : va_D A ws) (hS : va_S A H0 H locs) (q0 t0 qk ci : Nat) {cA : ClassId} {r : vw_C} {n v : Nat} {vs : List Value} {f : Nat → Option Nat} (ha : ws[q0]? = some (a, .inl (cA, n, .inr (.inr (.inr (.inr f)))))) (ht : tys[t0]? = some (cA, .object r.1)) (hv : ws[qk]? = some (v, .inr (ci, vs))) (hc : cl[ci]? = some r) {i : Nat} (hi : i < n) (hn : n < 2 ^ 31) (hdg : decode cc pc = .ok (.aastore, 1))
    (kk : ∀ (H1 : Heap) (locs1 : List Loc), va_P D cl (ws.set q0 (a, .inl (cA, n, .inr (.inr (.inr (.inr (va_up f i (some v)))))))) H1 → va_D A (ws.set q0 (a, .inl (cA, n, .inr (.inr (.inr (.inr (va_up f i (some v)))))))) → va_S A H0 H1 locs1 → W p l e R s m args below meth c H1 locs1 cells slots Q (F0 m (pc + 1) ls rest)) : W p l e R s m args below meth c H locs cells slots Q (F0 m pc ls (.ref v :: .int (nI i) :: .ref a :: rest)) := by
  refine va_astq hexec hb hK hP hD hS q0 t0 qk ci ha ht hv hc (vp_in_nI hi hn) hdg (fun H1 locs1 h1 h2 h3 => ?_)
  rw [nI_clamp (by omega)] at h1 h2
  exact kk H1 locs1 h1 h2 h3
theorem jd_iald (hexec : p.tables.exec = Jvm.exec) (hb : c.code = cc) (hK : va_K D cl tys s) (hP : va_P D cl ws H) (q0 t0 : Nat) {cA : ClassId} {n : Nat} {f : Nat → Int32} (ha : ws[q0]? = some (a, .inl (cA, n, .inl f))) (ht : tys[t0]? = some (cA, .int)) {i : Nat} {y : Int32} (hi : i < n) (hn : n < 2 ^ 31) (hf : f i = y) (hdg : decode cc pc = .ok (.iaload, 1))
    (kk : W p l e R s m args below meth c H locs cells slots Q (F0 m (pc + 1) ls (.int y :: rest))) : W p l e R s m args below meth c H locs cells slots Q (F0 m pc ls (.int (nI i) :: .ref a :: rest)) := by
  refine va_iald hexec hb hK hP q0 t0 ha ht (vp_in_nI hi hn) hdg ?_
  rw [nI_clamp (by omega), hf]
  exact kk
theorem jd_iast (hexec : p.tables.exec = Jvm.exec) (hb : c.code = cc) (hK : va_K D cl tys s) (hP : va_P D cl ws H) (hD : va_D A ws) (hS : va_S A H0 H locs) (q0 t0 : Nat) {cA : ClassId} {n : Nat} {f : Nat → Int32} (ha : ws[q0]? = some (a, .inl (cA, n, .inl f))) (ht : tys[t0]? = some (cA, .int)) {i : Nat} {x : Int32} (hi : i < n) (hn : n < 2 ^ 31) (hdg : decode cc pc = .ok (.iastore, 1))
    (kk : ∀ (H1 : Heap) (locs1 : List Loc), va_P D cl (ws.set q0 (a, .inl (cA, n, .inl (upd f i x)))) H1 → va_D A (ws.set q0 (a, .inl (cA, n, .inl (upd f i x)))) → va_S A H0 H1 locs1 → W p l e R s m args below meth c H1 locs1 cells slots Q (F0 m (pc + 1) ls rest)) : W p l e R s m args below meth c H locs cells slots Q (F0 m pc ls (.int x :: .int (nI i) :: .ref a :: rest)) := by
  refine va_iast hexec hb hK hP hD hS q0 t0 ha ht (vp_in_nI hi hn) hdg (fun H1 locs1 h1 h2 h3 => ?_)
  rw [nI_clamp (by omega)] at h1 h2
  exact kk H1 locs1 h1 h2 h3
end JROW
/-! the two places of a desk: the chosen one first -/
abbrev jd_DW (x q : Nat) (cA : ClassId) (a : Nat → Nat) (Y M : Nat → Int) : va_W := [jd_dk x q, jd_ar q cA (fun j => some (a j)), jd_ym (a 0) (Y 0) (M 0), jd_ym (a 1) (Y 1) (M 1)]
abbrev jd_DP (i : Nat) (x q : Nat) (cA : ClassId) (a : Nat → Nat) (Y M : Nat → Int) : va_W := [jd_dk x q, jd_ar q cA (fun j => some (a j)), jd_ym (a i) (Y i) (M i), jd_ym (a (1 - i)) (Y (1 - i)) (M (1 - i))]
theorem jd_lt2 {i : Nat} (h : i < 2) : i = 0 ∨ i = 1 := by omega
theorem jd_pickP {D : va_G} {H : Heap} {i x q : Nat} {cA : ClassId} {a : Nat → Nat} {Y M : Nat → Int} (hi : i < 2) (h : va_P D jd_cl (jd_DW x q cA a Y M) H) : va_P D jd_cl (jd_DP i x q cA a Y M) H := by
  rcases jd_lt2 hi with rfl | rfl
  · exact h
  · exact h.sub [0, 1, 3, 2] rfl
theorem jd_pickD {A : Nat → Prop} {i x q : Nat} {cA : ClassId} {a : Nat → Nat} {Y M : Nat → Int} (hi : i < 2) (h : va_D A (jd_DW x q cA a Y M)) : va_D A (jd_DP i x q cA a Y M) := by
  rcases jd_lt2 hi with rfl | rfl
  · exact h
  · exact h.sub [0, 1, 3, 2] (by decide) rfl
theorem jd_upf (a : Nat → Nat) (i b : Nat) : va_up (fun j => some (a j)) i (some b) = fun j => some (va_up a i b j) := by
  funext j
  unfold va_up
  split <;> rfl
theorem jd_putP {D : va_G} {H : Heap} {i x q b : Nat} {cA : ClassId} {a : Nat → Nat} {Y M : Nat → Int} {y m : Int} (hi : i < 2) (h : va_P D jd_cl [jd_dk x q, jd_ar q cA (va_up (fun j => some (a j)) i (some b)), jd_ym b y m, jd_ym (a (1 - i)) (Y (1 - i)) (M (1 - i))] H) : va_P D jd_cl (jd_DW x q cA (va_up a i b) (va_up Y i y) (va_up M i m)) H := by
  rw [jd_upf] at h
  rcases jd_lt2 hi with rfl | rfl
  · exact h
  · exact h.sub [0, 1, 3, 2] rfl
theorem jd_putD {A : Nat → Prop} {i x q b : Nat} {cA : ClassId} {a : Nat → Nat} {Y M : Nat → Int} {y m : Int} (hi : i < 2) (h : va_D A [jd_dk x q, jd_ar q cA (va_up (fun j => some (a j)) i (some b)), jd_ym b y m, jd_ym (a (1 - i)) (Y (1 - i)) (M (1 - i))]) : va_D A (jd_DW x q cA (va_up a i b) (va_up Y i y) (va_up M i m)) := by
  rw [jd_upf] at h
  rcases jd_lt2 hi with rfl | rfl
  · exact h
  · exact h.sub [0, 1, 3, 2] (by decide) rfl
theorem jd_upi (Y : Nat → Int) (i : Nat) (y : Int) : upd (fun j => jd_i (Y j)) i (jd_i y) = fun j => jd_i (va_up Y i y j) := by
  funext j
  unfold upd va_up
  split <;> rfl
/-- the model's world -/
abbrev jd_MW (x q1 q2 : Nat) (c1 c2 : ClassId) (Y M : Nat → Int) : va_W := [jd_mm x q1 q2, jd_ia q1 c1 (fun j => jd_i (Y j)), jd_ia q2 c2 (fun j => jd_i (M j))]
/-! lcmp and an if behind it, over Int -/
theorem jd_clt {a b : Int} (a1 : -9223372036854775808 ≤ a) (a2 : a ≤ 9223372036854775807) (b1 : -9223372036854775808 ≤ b) (b2 : b ≤ 9223372036854775807) : lg_cmp (jd_l a) (jd_l b) < 0 ↔ a < b := (lg_cmp_lt _ _).trans (jd_l_lt a1 a2 b1 b2)
theorem jd_cle {a b : Int} (a1 : -9223372036854775808 ≤ a) (a2 : a ≤ 9223372036854775807) (b1 : -9223372036854775808 ≤ b) (b2 : b ≤ 9223372036854775807) : lg_cmp (jd_l a) (jd_l b) ≤ 0 ↔ a ≤ b := (lg_cmp_le _ _).trans (jd_l_le a1 a2 b1 b2)
theorem jd_cgt {a b : Int} (a1 : -9223372036854775808 ≤ a) (a2 : a ≤ 9223372036854775807) (b1 : -9223372036854775808 ≤ b) (b2 : b ≤ 9223372036854775807) : 0 < lg_cmp (jd_l a) (jd_l b) ↔ b < a := (lg_cmp_gt _ _).trans (jd_l_lt b1 b2 a1 a2)
theorem jd_cge {a b : Int} (a1 : -9223372036854775808 ≤ a) (a2 : a ≤ 9223372036854775807) (b1 : -9223372036854775808 ≤ b) (b2 : b ≤ 9223372036854775807) : 0 ≤ lg_cmp (jd_l a) (jd_l b) ↔ b ≤ a := (lg_cmp_ge _ _).trans (jd_l_le b1 b2 a1 a2)
theorem jd_ceq {a b : Int} (a1 : -9223372036854775808 ≤ a) (a2 : a ≤ 9223372036854775807) (b1 : -9223372036854775808 ≤ b) (b2 : b ≤ 9223372036854775807) : lg_cmp (jd_l a) (jd_l b) = 0 ↔ a = b := (lg_cmp_eq _ _).trans (jd_l_eq a1 a2 b1 b2)
theorem jd_b0 {b : Bool} : jd_b b = 0 ↔ b = false := by cases b <;> decide
theorem jd_b1 {b : Bool} (h : ¬ jd_b b = 0) : b = true := by
  cases b
  · exact absurd rfl h
  · rfl
end
section
/-! contracts of methods whose class nobody says to be initialised (ValueRange: it's only reached through objects): as Met, without that half of 'ripe' -/
def jd_Met (l : Launch) (y : MethodName) (ws : List Cond) (rm : Room) (Pc : Array Value → State → Prop) (Qc : Array Value → State → Outcome → State → Prop) (mc ms : Nat) (free : Addr → Prop) : Prop :=
  ∀ (p : Program) (e : Env), l.admits e → FairCas e.choices → FairClock e.choices → ∀ (s : State) (m : MethodId) (args : Array Value) (below : List Frame),
    s.frames = .invoking m args :: below → s.status = .running → s.curStatus? = some .runnable → s.alone = true → s.methodNamed? y = some m → s.hears m below = true → s.hasRoom e.platform rm = true → (∀ w ∈ ws, w.before args s = true) → Pc args s →
    ∃ (n : Nat) (o : Outcome), (∀ k, k < n → Within (stepsAlone p.tables e k s) below) ∧ (stepsAlone p.tables e n s).status = .running ∧ Ended (stepsAlone p.tables e n s) below o ∧ (Qc args s o (stepsAlone p.tables e n s) ∧ ∃ L, FrameEnd s o (stepsAlone p.tables e n s) L mc ms ∧ ∀ q ∈ L, free q.base)
theorem jd_ofW {l : Launch} {y : MethodName} {ws ws' : List Cond} {rm : Room} {Pc : Array Value → State → Prop} {Qc : Array Value → State → Outcome → State → Prop} {mc ms : Nat} {free : Addr → Prop} {cc : ByteArray} {maxL : Nat} {ret : Option FieldType}
    (hy : plainName y.cls = true) (hw : ws = Cond.code y cc maxL ret :: ws')
    (body : ∀ (p : Program) (e : Env) (s : State) (m : MethodId) (args : Array Value) (below : List Frame) (meth : Method) (c : Code), p.tables.exec = Jvm.exec → c.code = cc → meth.sig.returnType = ret → c.maxLocals = maxL → meth.locks = false → s.methodNamed? y = some m → (∀ w ∈ ws, w.before args s = true) → Pc args s →
      W p l e rm s m args below meth c s.heap [] 0 0 (MQ below Qc args s mc ms free) (entryFrame m args maxL)) : jd_Met l y ws rm Pc Qc mc ms free := by
  intro p e ha hc hk s m args below hf hrun hable halone hname hhears hroom hpre hP
  obtain ⟨meth, c, hmeth, hcode, hbytes, hlocals, hret, hlocks, -⟩ := Cond.code_spec hname (hpre _ (by rw [hw]; exact List.mem_cons_self))
  have hcur := State.cur_lt_of_frames hf
  have hf1 : (s.setFrames (.java (entryFrame m args maxL) :: below)).frames = .java (entryFrame m args maxL) :: below := State.frames_setFrames _ hcur
  have ht1 := State.topJava?_of_frames hf1
  have hplain : (s.setFrames (.java (entryFrame m args maxL) :: below)).plainMethod m := State.plainMethod.of_named (s := s) (plainFor_of_name hy) hname hmeth
  have hAt : At (s.setFrames (.java (entryFrame m args maxL) :: below)) m c below :=
    ⟨by rw [ht1]; rfl, ⟨[], by rw [hf1]; rfl⟩, hrun, by simpa using hable, by simpa using halone,
      by rw [State.code?_eq]; simp [State.setFrames, hmeth, hcode], hplain⟩
  have hstep : (stepThread p.tables e s).1 = (s.setFrames (.java (entryFrame m args maxL) :: below)).setTop (entryFrame m args maxL) := by
    have hfull : e.platform.stackFull (s.setFrames below).me (s.setFrames below).frames c.maxLocals = false := by
      obtain ⟨-, h1, -, h2⟩ := State.hasRoom_stack hroom
      rw [hf, List.length_cons] at h1
      rw [State.localsInUse_invoking hf hmeth hcode] at h2
      have hw := stackUse_le_stackWeight below
      rw [State.frames_setFrames _ hcur]
      exact Platform.stackFull_eq_false (by rw [State.stackLimits_setFrames]; omega) (by rw [State.stackLimits_setFrames]; omega)
    rw [stepThread_invoking hf, (doInvoke_java (s := s.setFrames below) (e := e) (meth := meth) (code := c) hmeth hcode hlocks hfull).1, State.setTop_self ht1]
    simp only [State.pushFrame, State.frames_setFrames _ hcur, State.setFrames_setFrames, hlocals, entryFrame]
  obtain ⟨t, ht, -⟩ := State.frames_cons hf
  have X : Stand p l e rm s m args below meth c (s.setFrames (.java (entryFrame m args maxL) :: below)) [] 0 0 :=
    ⟨ha, hc, hk, hf, hroom, hhears, hmeth, hcode, hAt, by rw [hf1]; rfl, State.WarmedH.refl s, by rw [State.stackLimits_setFrames], by rw [State.stackBytes_setFrames], (State.sameButNew.refl s ht).setFrames _ hcur⟩
  obtain ⟨s₂, hs, o, hr, he, hp⟩ := body p e s m args below meth c (by cases p <;> rfl) hbytes hret hlocals hlocks hname hpre hP (s.setFrames (.java (entryFrame m args maxL) :: below)) rfl X
  obtain ⟨n, hn, hw⟩ := Steps.head (tb := p.tables) (e := e) ⟨hrun, hable, halone⟩ ⟨[.invoking m args], hf, by simp, by simp⟩ (hstep ▸ hs)
  exact ⟨n, o, hw, hn ▸ hr, hn ▸ he, hn ▸ hp⟩
section JNI
variable {p : Program} {l : Launch} {e : Env} {R : Room} {s : State} {m : MethodId} {args : Array Value} {below : List Frame} {meth : Method} {c : Code} {H : Heap} {locs : List Loc} {cells slots : Nat} {Q : State → Prop}
theorem jd_callFree {y : MethodName} {ws : List Cond} {rm : Room} {Pc : Array Value → State → Prop} {Qc : Array Value → State → Outcome → State → Prop} {mc ms : Nat} {free : Addr → Prop}
    (hM : jd_Met l y ws rm Pc Qc mc ms free) (p : Program) (ha : l.admits e) (hc : FairCas e.choices) (hk : FairClock e.choices)
    {s : State} {m : MethodId} {args : Array Value} {acts : List Action} {mid below : List Frame} (hne : s.frames ≠ [])
    (hfr : s.frames = mid ++ below) (h1 : (s.pushFrame (.invoking m args)).status = .running) (h2 : (s.pushFrame (.invoking m args)).curStatus? = some .runnable) (h3 : (s.pushFrame (.invoking m args)).alone = true) (h4 : (s.pushFrame (.invoking m args)).methodNamed? y = some m) (h5 : (s.pushFrame (.invoking m args)).hears m s.frames = true) (h6 : (s.pushFrame (.invoking m args)).hasRoom e.platform rm = true) (h7 : ∀ w ∈ ws, w.before args (s.pushFrame (.invoking m args)) = true) (hP : Pc args (s.pushFrame (.invoking m args))) :
    ∃ o s₂, Steps p.tables e below (doInvoke e s acts m args).1 s₂ ∧ s₂.status = .running ∧ Ended s₂ s.frames o ∧ (Qc args (s.pushFrame (.invoking m args)) o s₂ ∧ ∃ L, FrameEnd (s.pushFrame (.invoking m args)) o s₂ L mc ms ∧ ∀ q ∈ L, free q.base) := by
  obtain ⟨t, ht⟩ : ∃ t, s.threads[s.cur]? = some t := by
    cases h : s.threads[s.cur]? with
    | some t => exact ⟨t, rfl⟩
    | none => exact absurd (by simp [State.frames, h]) hne
  have hlt : s.cur < s.threads.size := (Array.getElem?_eq_some_iff.mp ht).1
  have hf' : (s.pushFrame (.invoking m args)).frames = .invoking m args :: s.frames := State.frames_setFrames _ hlt
  have hgo : (s.pushFrame (.invoking m args)).goesOn := ⟨h1, h2, h3⟩
  obtain ⟨n, o, hw, hr, he, hp⟩ := hM p e ha hc hk (s.pushFrame (.invoking m args)) m args s.frames hf' h1 h2 h3 h4 h5 h6 h7 hP
  have hstep : (stepThread p.tables e (s.pushFrame (.invoking m args))).1 = (doInvoke e s acts m args).1 := by
    rw [stepThread_invoking hf', doInvoke_state e s acts, State.pushFrame, State.setFrames_setFrames, State.setFrames_self ht]
  cases n with
  | zero => exact absurd ⟨[.invoking m args], hf', by simp, by simp⟩ he.not_within
  | succ k =>
    rw [stepsAlone_succ _ hgo, hstep] at hr he hp
    refine ⟨o, _, ⟨k, rfl, fun j hj => ?_⟩, hr, he, hp⟩
    have := hw (j + 1) (by omega)
    rw [stepsAlone_succ _ hgo, hstep, hfr] at this
    exact this.weaken
theorem jd_back {y : MethodName} {len W : Nat} {ws : List Cond} {rm : Room} {Pc : Array Value → State → Prop} {Qc : Array Value → State → Outcome → State → Prop} {mc ms : Nat} {free : Addr → Prop} {bytes : ByteArray} {maxL : Nat} {ret : Option FieldType} {sargs : Array Value}
    (hM : jd_Met l y ws rm Pc Qc mc ms free) (hblind : FrameBlind Pc) (hrc : rm.cells = mc) (hrs : rm.slots = ms)
    (hframes : rm.frames + 1 ≤ R.frames) (hlocals : W + (maxL + 11) + rm.locals ≤ R.locals)
    (hws : ∀ w ∈ ws, ∀ (a' : Array Value) (U : State), s.WarmedH U.vm → w.before a' U = true) (hcode : Cond.code y bytes maxL ret ∈ ws) :
    Back l R p e below s sargs y len W (PreOf R mc ms Pc) (PostOf Qc mc ms free) := by
  intro m meth c A g ig mk a X hg hsize hdg hW hn hp
  have hwa : ∀ w ∈ ws, w.before a A.U = true := fun w h => hws w h a A.U X.warmed
  have h2 := hwa _ hcode
  obtain ⟨hp1, hp2, hp3⟩ := hp
  obtain ⟨U, Ls, c0, s0⟩ := A
  dsimp only [Pt.U, Pt.locs, Pt.cells, Pt.slots] at h2 hwa hp1 hp2 hp3 X hn ⊢
  obtain ⟨methY, cY, hmY, hcY, -, hlY, -, -, -, -⟩ := Cond.code_spec hn h2
  have h : At U g.method c below := by rw [hg]; exact X.here
  have hroom : (U.calling g mk a).hasRoom e.platform rm = true := X.room_calling (g := g) (R' := rm) hsize hmY hcY hframes (by rw [hlY]; omega) (by rw [hrc]; exact hp1) (by rw [hrs]; exact hp2)
  have hcode' : (U.calling g mk a).code? g.method = some c := by
    have := h.code
    rw [State.code?_eq] at this ⊢
    simpa [State.calling, State.pushFrame, State.setFrames] using this
  obtain ⟨mid, hmid⟩ := h.above
  have hfr : (U.setTop g).frames = (.java g :: mid) ++ below := by rw [State.frames_setTop' g h.top, hmid]; rfl
  obtain ⟨o, s₂, hsteps, -, hend, hq⟩ := jd_callFree hM p X.admits X.cas X.clock (acts := []) (s := U.setTop g) (m := mk) (args := a) (by rw [hfr]; simp) hfr h.running
    (show (U.calling g mk a).curStatus? = some .runnable by simpa [State.calling] using h.runnable) (show (U.calling g mk a).alone = true by simpa [State.calling] using h.alone) hn
    (show (U.calling g mk a).hears mk (U.setTop g).frames = true by rw [State.frames_setTop' g h.top]; simp [State.hears, hcode', hdg, Except.toOption]) hroom
    (fun w hw => show w.before a (U.calling g mk a) = true by rw [State.calling_eq h.top, Cond.before_setFrames]; exact hwa w hw) (hblind _ _ g mk hp3)
  have hq' : Qc a (U.calling g mk a) o s₂ ∧ ∃ L, FrameEnd (U.calling g mk a) o s₂ L mc ms ∧ ∀ q ∈ L, free q.base := hq
  rw [State.frames_setTop' g h.top] at hend
  obtain ⟨hq1, L, hfe, hL⟩ := hq'
  obtain ⟨⟨v, rfl⟩, hW₂, e2, q2, q3, q4, q5, q6⟩ := id hfe
  have e3 : s₂ = ({ (U.calling g mk a).setFrames s₂.frames with heap := s₂.heap, slotsUsed := s₂.slotsUsed } : State).setVm s₂.vm := by
    have : s₂ = ({ s₂ with vm := (U.calling g mk a).vm } : State).setVm s₂.vm := rfl
    rw [e2] at this
    exact this
  obtain ⟨c₂, i₂, len₂, hc₂, hd₂, hf₂⟩ := hend
  have hW' : U.WarmedH s₂.vm := hW₂
  have hcc : c₂ = c := by
    have h1 : s₂.code? g.method = U.code? g.method := by
      rw [State.code?_eq, State.code?_eq, hW'.alike.method?]
    exact Option.some.inj (hc₂.symm.trans (h1.trans h.code))
  subst hcc
  have hlen : len₂ = len := by rw [hdg] at hd₂; cases hd₂; rfl
  subst hlen
  obtain ⟨g₀, hg0⟩ := Option.isSome_iff_exists.mp h.top
  obtain ⟨r, hr⟩ := State.topJava?_eq_some.mp hg0
  have hs₂ : s₂ = (({ U with heap := s₂.heap, slotsUsed := s₂.slotsUsed } : State).setVm s₂.vm).setTop { g with pc := g.pc + len₂, stack := v.toList ++ g.stack } := by
    have hr' : (({ U with heap := s₂.heap, slotsUsed := s₂.slotsUsed } : State).setVm s₂.vm).frames = .java g₀ :: r := hr
    refine e3.trans ?_
    rw [hf₂, State.calling_eq h.top, State.setFrames_setFrames, State.setTop_of_frames _ hr', hr]
    rfl
  have hsame : U.sameButNew ({ U with heap := s₂.heap, slotsUsed := s₂.slotsUsed } : State) L mc ms := by
    refine ⟨?_, q2, q3, q4, q5, q6⟩
    obtain ⟨t, ht, -⟩ := State.frames_cons hr
    show ({ U with heap := s₂.heap, slotsUsed := s₂.slotsUsed } : State) = { U.setFrames U.frames with heap := s₂.heap, slotsUsed := s₂.slotsUsed }
    rw [State.setFrames_self ht]
  subst hg
  refine ⟨v, ⟨(({ U with heap := s₂.heap, slotsUsed := s₂.slotsUsed } : State).setVm s₂.vm), Ls ++ L, c0 + mc, s0 + ms⟩,
    ⟨X.admits, X.cas, X.clock, X.frames, X.room, X.hears, X.method, X.code, (X.here.setHeapUsed s₂.heap s₂.slotsUsed).setVm hW'.alike, X.tail, State.WarmedH.trans X.warmed hW', X.limits, X.bytes, X.same.trans (hsame.setVm s.vm)⟩,
    ⟨g, mk, s₂, L, rfl, rfl, hq1, rfl, hL, rfl, rfl⟩, ?_⟩
  show Steps p.tables e below _ ((({ U with heap := s₂.heap, slotsUsed := s₂.slotsUsed } : State).setVm s₂.vm).setTop { g with pc := g.pc + len₂, stack := v.toList ++ g.stack })
  rw [← hs₂]
  exact hsteps
/-- what such a call asks -/
abbrev jd_CW (R : Room) (s : State) (args : Array Value) (own C : String) (index : Nat) (y : MethodName) (bytes : ByteArray) (maxL : Nat) (ret : Option FieldType) (ws : List Cond) (rm : Room) (mc ms n : Nat) : Prop :=
  rm.cells = mc ∧ rm.slots = ms ∧ rm.frames + 1 ≤ R.frames ∧ 8 + (maxL + 11) + rm.locals ≤ R.locals ∧ (∀ w ∈ ws, ∀ (a' : Array Value) (U : State), s.WarmedH U.vm → w.before a' U = true) ∧ Cond.code y bytes maxL ret ∈ ws ∧
  (Cond.code y bytes maxL ret).before args s = true ∧ (y.cls ≠ "java/lang/invoke/MethodHandle" ∧ y.cls ≠ "java/lang/invoke/VarHandle") ∧ (∀ sig, parseMethodDescriptor y.desc = some sig → n = sig.parameters.length) ∧ (Cond.methodLink own index y).before args s = true ∧ (Cond.instanceMethod y).before args s = true ∧ (Cond.selects C y y).before args s = true
theorem jd_cwV {own C : String} {index maxL mc ms : Nat} {y : MethodName} {bytes : ByteArray} {ret : Option FieldType} {rm : Room} (n : Nat) (ht : ∀ w ∈ lw_all, w.before args s = true) (h1 : Cond.methodLink own index y ∈ lw_all) (h2 : Cond.instanceMethod y ∈ lw_all) (h3 : Cond.selects C y y ∈ lw_all) (h5 : Cond.code y bytes maxL ret ∈ lw_all) (hrc : rm.cells = mc) (hrs : rm.slots = ms)
    (hd : y.cls ≠ "java/lang/invoke/MethodHandle" ∧ y.cls ≠ "java/lang/invoke/VarHandle" ∧ (parseMethodDescriptor y.desc).map (fun d => d.parameters.length) = some n) (hR : rm.frames + 1 ≤ R.frames ∧ 8 + (maxL + 11) + rm.locals ≤ R.locals) :
    jd_CW R s args own C index y bytes maxL ret (ws_ y bytes maxL ret) rm mc ms n := by
  refine ⟨hrc, hrs, hR.1, hR.2, pay_in ht (lw_meth h5), List.mem_cons_self, ht _ h5, ⟨hd.1, hd.2.1⟩, fun sig h => ?_, ht _ h1, ht _ h2, ht _ h3⟩
  have h2 := hd.2.2
  rw [h] at h2
  exact (Option.some.inj h2).symm
theorem jd_runV {y : MethodName} {bytes cc : ByteArray} {maxL nL mc ms n index : Nat} {ret : Option FieldType} {ws : List Cond} {rm : Room} {Pc : Array Value → State → Prop} {Qc : Array Value → State → Outcome → State → Prop} {free : Addr → Prop} {Ts : List Cond} {own C : String} {b : Addr} {As rest : List Value} {g : JFrame}
    (S : CallFix p m c cc nL s args Ts own) (hM : jd_Met l y ws rm Pc Qc mc ms free) (cw : jd_CW R s args own C index y bytes maxL ret ws rm mc ms n) (hp : PreV s H C b Pc As)
    (hg : g.method = m) (hn : As.length = n) (hsize : g.locals.size = nL) (hstack : g.stack = As.reverse ++ .ref b :: rest) (hW : 2 * g.monitorRoom + (rest.map fun v => v.category).sum ≤ 8) (hdg : decode cc g.pc = .ok (.invokevirtual index, 3)) (hf : cells + mc ≤ R.cells ∧ slots + ms ≤ R.slots) :
    CallRun p l e R s m args below meth c H locs cells slots mc ms g rest (Qc (Value.ref b :: As).toArray) (free) := by
  obtain ⟨hrc, hrs, hfr, hlo, hws, hcw, hcode, hy, hlen, hl, hin, hse⟩ := cw
  have hK : Back l R p e below s args y 3 8 (PreOf R mc ms Pc) (PostOf Qc mc ms free) := jd_back (bytes := bytes) (maxL := maxL) (ret := ret) hM hp.1 hrc hrs hfr hlo hws hcw
  obtain ⟨hx, hb, hml, ho, -⟩ := S
  obtain ⟨-, ⟨cellB, hcB, hoB, hclB⟩, hPc⟩ := hp
  intro T hT X
  obtain ⟨v, vm₁, ⟨U', l2, c2, s2⟩, hW₁, X', ⟨g', mk, t, L, e1, e2, hq, h1, hL, h2, h3⟩, st⟩ := callV X hx (C := C) (bytes := bytes) (maxL := maxL) (ret := ret) ho hl hin hse hcode hy hK (by rw [hT]; exact hcB) hoB hclB hg (hsize.trans hml.symm) (argsL := As) (rest := rest) (fun sig h => hn.trans (hlen sig h)) hstack hW (by rw [hb]; exact hdg)
    (fun vm₁ hW₁ => ⟨hf.1, hf.2, hPc (T.setVm vm₁) hT hW₁⟩)
  dsimp only [Pt.U, Pt.locs, Pt.cells, Pt.slots] at X' e1 e2 h1 h2 h3 st
  subst h1; subst h2; subst h3
  exact ⟨v, (T.setVm vm₁).calling g' mk (Value.ref b :: As).toArray, t, U', L, hT, X', hL, e1, hq, st⟩
end JNI
end
section
/-! ValueRange, ChronoField, the empty constructors (printed by gen/g06.py) -/
set_option maxHeartbeats 4000000 in
set_option maxRecDepth 100000 in
/-- ValueRange.getMinimum -/
theorem metX12_getMinimum (l : Launch) (r : Nat) (mn mx : Int) : jd_Met l yX12_getMinimum (ws_ yX12_getMinimum cX12_getMinimum 1 (some .long)) (jd_rm 0 0 0) (jd_Pc [.ref r] (jd_R r mn mx jd_no)) (vp_Sl (fun z => z = jd_l mn)) 0 0 (fun _ => False) := by
  refine jd_ofW (cc := cX12_getMinimum) (maxL := 1) (ret := (some .long)) (by decide) rfl ?_
  intro p e s m args below meth c hx hb hr hml hlocks hnm hts hv
  obtain ⟨rfl, hV⟩ := hv
  have hts : ∀ w ∈ lw_all, w.before _ s = true := fun w h => hts w (List.mem_cons_of_mem _ h)
  have hown : s.vm.findClass RX12 = some m.cls := findClass_of_methodNamed hnm
  have hS : va_S jd_no s.heap s.heap [] := va_S.rf
  have hl := lv_entry ([.ref r]) (n := 1) (Nat.le_of_ble_eq_true rfl)
  rw [lg_entry_eq]
  generalize (lg_sl ([.ref r]) ++ List.replicate (1 - (lg_sl ([.ref r])).length) Slot.unset).toArray = ls at hl ⊢
  have hl : lv_has ls 1 [(0, .ref r)] := hl
  refine lv_aload_n hx hb dX12_getMinimum_0 rfl (lv_at hl 0 rfl) ?_
  refine jd_getf hx hb hV.2.1 hS hown (hts _ q502) (fun _ h9 => h9) dX12_getMinimum_1 ?_
  exact W.lret hx hb hr (fun t ht hW => ⟨_, rfl, rfl, ht⟩) (fun _ h => by cases h) dX12_getMinimum_4
set_option maxHeartbeats 4000000 in
set_option maxRecDepth 100000 in
/-- ValueRange.getMaximum -/
theorem metX12_getMaximum (l : Launch) (r : Nat) (mn mx : Int) : jd_Met l yX12_getMaximum (ws_ yX12_getMaximum cX12_getMaximum 1 (some .long)) (jd_rm 0 0 0) (jd_Pc [.ref r] (jd_R r mn mx jd_no)) (vp_Sl (fun z => z = jd_l mx)) 0 0 (fun _ => False) := by
  refine jd_ofW (cc := cX12_getMaximum) (maxL := 1) (ret := (some .long)) (by decide) rfl ?_
  intro p e s m args below meth c hx hb hr hml hlocks hnm hts hv
  obtain ⟨rfl, hV⟩ := hv
  have hts : ∀ w ∈ lw_all, w.before _ s = true := fun w h => hts w (List.mem_cons_of_mem _ h)
  have hown : s.vm.findClass RX12 = some m.cls := findClass_of_methodNamed hnm
  have hS : va_S jd_no s.heap s.heap [] := va_S.rf
  have hl := lv_entry ([.ref r]) (n := 1) (Nat.le_of_ble_eq_true rfl)
  rw [lg_entry_eq]
  generalize (lg_sl ([.ref r]) ++ List.replicate (1 - (lg_sl ([.ref r])).length) Slot.unset).toArray = ls at hl ⊢
  have hl : lv_has ls 1 [(0, .ref r)] := hl
  refine lv_aload_n hx hb dX12_getMaximum_0 rfl (lv_at hl 0 rfl) ?_
  refine jd_getf hx hb hV.2.2 hS hown (hts _ q503) (fun _ h9 => h9) dX12_getMaximum_1 ?_
  exact W.lret hx hb hr (fun t ht hW => ⟨_, rfl, rfl, ht⟩) (fun _ h => by cases h) dX12_getMaximum_4
set_option maxHeartbeats 4000000 in
set_option maxRecDepth 100000 in
/-- ValueRange.isIntValue -/
theorem metX12_isIntValue (l : Launch) (r : Nat) (mn mx : Int) (g1 : -2147483648 ≤ mn) (g2 : mn ≤ 2147483647) (g3 : -2147483648 ≤ mx) (g4 : mx ≤ 2147483647) : jd_Met l yX12_isIntValue (ws_ yX12_isIntValue cX12_isIntValue 1 (some .boolean)) (jd_rm 1 0 0) (jd_Pc [.ref r] (jd_R r mn mx jd_no)) (vp_Si (fun z => z = 1)) 0 0 (fun _ => False) := by
  refine jd_ofW (cc := cX12_isIntValue) (maxL := 1) (ret := (some .boolean)) (by decide) rfl ?_
  intro p e s m args below meth c hx hb hr hml hlocks hnm hts hv
  obtain ⟨rfl, hV⟩ := hv
  have hts : ∀ w ∈ lw_all, w.before _ s = true := fun w h => hts w (List.mem_cons_of_mem _ h)
  have hown : s.vm.findClass RX12 = some m.cls := findClass_of_methodNamed hnm
  have hS : va_S jd_no s.heap s.heap [] := va_S.rf
  have hl := lv_entry ([.ref r]) (n := 1) (Nat.le_of_ble_eq_true rfl)
  rw [lg_entry_eq]
  generalize (lg_sl ([.ref r]) ++ List.replicate (1 - (lg_sl ([.ref r])).length) Slot.unset).toArray = ls at hl ⊢
  have hl : lv_has ls 1 [(0, .ref r)] := hl
  refine lv_aload_n hx hb dX12_isIntValue_0 rfl (lv_at hl 0 rfl) ?_
  refine vp_callSl (jd_runV (As := []) (rest := []) ⟨hx, hb, hml, hown, hts⟩ (metX12_getMinimum l r mn mx) (jd_cwV 0 hts q51 q52 q53 q54 rfl rfl (by decide +kernel) ⟨Nat.le_of_ble_eq_true rfl, Nat.le_of_ble_eq_true rfl⟩) (jd_preV jd_R.moved (va_Orecv hV.1 hS) hV) rfl rfl hl.1 rfl (lv_room (Nat.le_of_ble_eq_true rfl)) dX12_isIntValue_1 ⟨Nat.le_of_ble_eq_true rfl, Nat.le_of_ble_eq_true rfl⟩) (fun r_1 hr_1 => ?_)
  obtain rfl : (jd_l mn) = r_1 := Eq.symm hr_1
  refine lv_ldc2 hx hb hown (hts _ q182) dX12_isIntValue_4 ?_
  refine jd_tl (y := jd_l (-2147483648)) (by decide) ?_
  refine W.lcmp hx hb dX12_isIntValue_7 ?_
  refine lv_if_lt (tgt := 26) hx hb dX12_isIntValue_8 (by decide) (fun c => absurd ((jd_clt (a := mn) (b := -2147483648) (by omega) (by omega) (by omega) (by omega)).mp c) (by omega)) (fun _ => ?_)
  refine lv_aload_n hx hb dX12_isIntValue_11 rfl (lv_at hl 0 rfl) ?_
  refine vp_callSl (jd_runV (As := []) (rest := []) ⟨hx, hb, hml, hown, hts⟩ (metX12_getMaximum l r mn mx) (jd_cwV 0 hts q55 q56 q57 q58 rfl rfl (by decide +kernel) ⟨Nat.le_of_ble_eq_true rfl, Nat.le_of_ble_eq_true rfl⟩) (jd_preV jd_R.moved (va_Orecv hV.1 hS) hV) rfl rfl hl.1 rfl (lv_room (Nat.le_of_ble_eq_true rfl)) dX12_isIntValue_12 ⟨Nat.le_of_ble_eq_true rfl, Nat.le_of_ble_eq_true rfl⟩) (fun r_2 hr_2 => ?_)
  obtain rfl : (jd_l mx) = r_2 := Eq.symm hr_2
  refine lv_ldc2 (v := jd_l 2147483647) hx hb hown (hts _ q183) dX12_isIntValue_15 ?_
  refine W.lcmp hx hb dX12_isIntValue_18 ?_
  refine lv_if_gt (tgt := 26) hx hb dX12_isIntValue_19 (by decide) (fun c => absurd ((jd_cgt (a := mx) (b := 2147483647) (by omega) (by omega) (by omega) (by omega)).mp c) (by omega)) (fun _ => ?_)
  refine lv_iconst (v := jd_i 1) hx hb dX12_isIntValue_22 (by decide) ?_
  refine lv_goto (tgt := 27) hx hb dX12_isIntValue_23 (by decide) ?_
  exact W.zret hx hb hr rfl (fun t ht hW => ⟨_, rfl, rfl, ht⟩) (fun _ h => by cases h) dX12_isIntValue_27
set_option maxHeartbeats 4000000 in
set_option maxRecDepth 100000 in
/-- ValueRange.isValidValue -/
theorem metX12_isValidValue (l : Launch) (r : Nat) (mn mx : Int) (z : Int) (g1 : -2147483648 ≤ mn) (g4 : mx ≤ 2147483647) (g5 : mn ≤ z) (g6 : z ≤ mx) : jd_Met l yX12_isValidValue (ws_ yX12_isValidValue cX12_isValidValue 3 (some .boolean)) (jd_rm 1 0 0) (jd_Pc [.ref r, .long (jd_l z)] (jd_R r mn mx jd_no)) (vp_Si (fun z => z = 1)) 0 0 (fun _ => False) := by
  refine jd_ofW (cc := cX12_isValidValue) (maxL := 3) (ret := (some .boolean)) (by decide) rfl ?_
  intro p e s m args below meth c hx hb hr hml hlocks hnm hts hv
  obtain ⟨rfl, hV⟩ := hv
  have hts : ∀ w ∈ lw_all, w.before _ s = true := fun w h => hts w (List.mem_cons_of_mem _ h)
  have hown : s.vm.findClass RX12 = some m.cls := findClass_of_methodNamed hnm
  have hS : va_S jd_no s.heap s.heap [] := va_S.rf
  have hl := lv_entry ([.ref r, .long (jd_l z)]) (n := 3) (Nat.le_of_ble_eq_true rfl)
  rw [lg_entry_eq]
  generalize (lg_sl ([.ref r, .long (jd_l z)]) ++ List.replicate (3 - (lg_sl ([.ref r, .long (jd_l z)])).length) Slot.unset).toArray = ls at hl ⊢
  have hl : lv_has ls 3 [(0, .ref r), (1, .long (jd_l z))] := hl
  refine lv_lload_n hx hb dX12_isValidValue_0 rfl (lv_at hl 1 rfl) ?_
  refine lv_aload_n hx hb dX12_isValidValue_1 rfl (lv_at hl 0 rfl) ?_
  refine vp_callSl (jd_runV (As := []) (rest := [.long (jd_l z)]) ⟨hx, hb, hml, hown, hts⟩ (metX12_getMinimum l r mn mx) (jd_cwV 0 hts q51 q52 q53 q54 rfl rfl (by decide +kernel) ⟨Nat.le_of_ble_eq_true rfl, Nat.le_of_ble_eq_true rfl⟩) (jd_preV jd_R.moved (va_Orecv hV.1 hS) hV) rfl rfl hl.1 rfl (lv_room (Nat.le_of_ble_eq_true rfl)) dX12_isValidValue_2 ⟨Nat.le_of_ble_eq_true rfl, Nat.le_of_ble_eq_true rfl⟩) (fun r_1 hr_1 => ?_)
  obtain rfl : (jd_l mn) = r_1 := Eq.symm hr_1
  refine W.lcmp hx hb dX12_isValidValue_5 ?_
  refine lv_if_lt (tgt := 22) hx hb dX12_isValidValue_6 (by decide) (fun c => absurd ((jd_clt (a := z) (b := mn) (by omega) (by omega) (by omega) (by omega)).mp c) (by omega)) (fun _ => ?_)
  refine lv_lload_n hx hb dX12_isValidValue_9 rfl (lv_at hl 1 rfl) ?_
  refine lv_aload_n hx hb dX12_isValidValue_10 rfl (lv_at hl 0 rfl) ?_
  refine vp_callSl (jd_runV (As := []) (rest := [.long (jd_l z)]) ⟨hx, hb, hml, hown, hts⟩ (metX12_getMaximum l r mn mx) (jd_cwV 0 hts q55 q56 q57 q58 rfl rfl (by decide +kernel) ⟨Nat.le_of_ble_eq_true rfl, Nat.le_of_ble_eq_true rfl⟩) (jd_preV jd_R.moved (va_Orecv hV.1 hS) hV) rfl rfl hl.1 rfl (lv_room (Nat.le_of_ble_eq_true rfl)) dX12_isValidValue_11 ⟨Nat.le_of_ble_eq_true rfl, Nat.le_of_ble_eq_true rfl⟩) (fun r_2 hr_2 => ?_)
  obtain rfl : (jd_l mx) = r_2 := Eq.symm hr_2
  refine W.lcmp hx hb dX12_isValidValue_14 ?_
  refine lv_if_gt (tgt := 22) hx hb dX12_isValidValue_15 (by decide) (fun c => absurd ((jd_cgt (a := z) (b := mx) (by omega) (by omega) (by omega) (by omega)).mp c) (by omega)) (fun _ => ?_)
  refine lv_iconst (v := jd_i 1) hx hb dX12_isValidValue_18 (by decide) ?_
  refine lv_goto (tgt := 23) hx hb dX12_isValidValue_19 (by decide) ?_
  exact W.zret hx hb hr rfl (fun t ht hW => ⟨_, rfl, rfl, ht⟩) (fun _ h => by cases h) dX12_isValidValue_23
set_option maxHeartbeats 4000000 in
set_option maxRecDepth 100000 in
/-- ValueRange.isValidIntValue -/
theorem metX12_isValidIntValue (l : Launch) (r : Nat) (mn mx : Int) (z : Int) (g1 : -2147483648 ≤ mn) (g4 : mx ≤ 2147483647) (g5 : mn ≤ z) (g6 : z ≤ mx) : jd_Met l yX12_isValidIntValue (ws_ yX12_isValidIntValue cX12_isValidIntValue 3 (some .boolean)) (jd_rm 2 0 0) (jd_Pc [.ref r, .long (jd_l z)] (jd_R r mn mx jd_no)) (vp_Si (fun z => z = 1)) 0 0 (fun _ => False) := by
  refine jd_ofW (cc := cX12_isValidIntValue) (maxL := 3) (ret := (some .boolean)) (by decide) rfl ?_
  intro p e s m args below meth c hx hb hr hml hlocks hnm hts hv
  obtain ⟨rfl, hV⟩ := hv
  have hts : ∀ w ∈ lw_all, w.before _ s = true := fun w h => hts w (List.mem_cons_of_mem _ h)
  have hown : s.vm.findClass RX12 = some m.cls := findClass_of_methodNamed hnm
  have hS : va_S jd_no s.heap s.heap [] := va_S.rf
  have hl := lv_entry ([.ref r, .long (jd_l z)]) (n := 3) (Nat.le_of_ble_eq_true rfl)
  rw [lg_entry_eq]
  generalize (lg_sl ([.ref r, .long (jd_l z)]) ++ List.replicate (3 - (lg_sl ([.ref r, .long (jd_l z)])).length) Slot.unset).toArray = ls at hl ⊢
  have hl : lv_has ls 3 [(0, .ref r), (1, .long (jd_l z))] := hl
  refine lv_aload_n hx hb dX12_isValidIntValue_0 rfl (lv_at hl 0 rfl) ?_
  refine vp_callSi (jd_runV (As := []) (rest := []) ⟨hx, hb, hml, hown, hts⟩ (metX12_isIntValue l r mn mx g1 (by omega) (by omega) g4) (jd_cwV 0 hts q178 q179 q180 q181 rfl rfl (by decide +kernel) ⟨Nat.le_of_ble_eq_true rfl, Nat.le_of_ble_eq_true rfl⟩) (jd_preV jd_R.moved (va_Orecv hV.1 hS) hV) rfl rfl hl.1 rfl (lv_room (Nat.le_of_ble_eq_true rfl)) dX12_isValidIntValue_1 ⟨Nat.le_of_ble_eq_true rfl, Nat.le_of_ble_eq_true rfl⟩) (fun r_1 hr_1 => ?_)
  obtain rfl : (jd_i 1) = r_1 := Eq.symm hr_1
  refine lv_if_eq (tgt := 19) hx hb dX12_isValidIntValue_4 (by decide) (fun c => absurd ((jd_i_eq (a := 1) (b := 0) (by omega) (by omega) (by omega) (by omega)).mp c) (by decide)) (fun _ => ?_)
  refine lv_aload_n hx hb dX12_isValidIntValue_7 rfl (lv_at hl 0 rfl) ?_
  refine lv_lload_n hx hb dX12_isValidIntValue_8 rfl (lv_at hl 1 rfl) ?_
  refine vp_callSi (jd_runV (As := [.long (jd_l z)]) (rest := []) ⟨hx, hb, hml, hown, hts⟩ (metX12_isValidValue l r mn mx z g1 g4 g5 g6) (jd_cwV 1 hts q47 q48 q49 q50 rfl rfl (by decide +kernel) ⟨Nat.le_of_ble_eq_true rfl, Nat.le_of_ble_eq_true rfl⟩) (jd_preV jd_R.moved (va_Orecv hV.1 hS) hV) rfl rfl hl.1 rfl (lv_room (Nat.le_of_ble_eq_true rfl)) dX12_isValidIntValue_9 ⟨Nat.le_of_ble_eq_true rfl, Nat.le_of_ble_eq_true rfl⟩) (fun r_2 hr_2 => ?_)
  obtain rfl : (jd_i 1) = r_2 := Eq.symm hr_2
  refine lv_if_eq (tgt := 19) hx hb dX12_isValidIntValue_12 (by decide) (fun c => absurd ((jd_i_eq (a := 1) (b := 0) (by omega) (by omega) (by omega) (by omega)).mp c) (by decide)) (fun _ => ?_)
  refine lv_iconst (v := jd_i 1) hx hb dX12_isValidIntValue_15 (by decide) ?_
  refine lv_goto (tgt := 20) hx hb dX12_isValidIntValue_16 (by decide) ?_
  exact W.zret hx hb hr rfl (fun t ht hW => ⟨_, rfl, rfl, ht⟩) (fun _ h => by cases h) dX12_isValidIntValue_20
set_option maxHeartbeats 4000000 in
set_option maxRecDepth 100000 in
/-- ValueRange.checkValidValue -/
theorem metX12_checkValidValue (l : Launch) (r : Nat) (mn mx : Int) (f : Nat) (z : Int) (g1 : -2147483648 ≤ mn) (g4 : mx ≤ 2147483647) (g5 : mn ≤ z) (g6 : z ≤ mx) : jd_Met l yX12_checkValidValue (ws_ yX12_checkValidValue cX12_checkValidValue 4 (some .long)) (jd_rm 2 0 0) (jd_Pc [.ref r, .long (jd_l z), .ref f] (jd_R r mn mx jd_no)) (vp_Sl (fun y => y = jd_l z)) 0 0 (fun _ => False) := by
  refine jd_ofW (cc := cX12_checkValidValue) (maxL := 4) (ret := (some .long)) (by decide) rfl ?_
  intro p e s m args below meth c hx hb hr hml hlocks hnm hts hv
  obtain ⟨rfl, hV⟩ := hv
  have hts : ∀ w ∈ lw_all, w.before _ s = true := fun w h => hts w (List.mem_cons_of_mem _ h)
  have hown : s.vm.findClass RX12 = some m.cls := findClass_of_methodNamed hnm
  have hS : va_S jd_no s.heap s.heap [] := va_S.rf
  have hl := lv_entry ([.ref r, .long (jd_l z), .ref f]) (n := 4) (Nat.le_of_ble_eq_true rfl)
  rw [lg_entry_eq]
  generalize (lg_sl ([.ref r, .long (jd_l z), .ref f]) ++ List.replicate (4 - (lg_sl ([.ref r, .long (jd_l z), .ref f])).length) Slot.unset).toArray = ls at hl ⊢
  have hl : lv_has ls 4 [(0, .ref r), (1, .long (jd_l z)), (3, .ref f)] := hl
  refine lv_aload_n hx hb dX12_checkValidValue_0 rfl (lv_at hl 0 rfl) ?_
  refine lv_lload_n hx hb dX12_checkValidValue_1 rfl (lv_at hl 1 rfl) ?_
  refine vp_callSi (jd_runV (As := [.long (jd_l z)]) (rest := []) ⟨hx, hb, hml, hown, hts⟩ (metX12_isValidValue l r mn mx z g1 g4 g5 g6) (jd_cwV 1 hts q47 q48 q49 q50 rfl rfl (by decide +kernel) ⟨Nat.le_of_ble_eq_true rfl, Nat.le_of_ble_eq_true rfl⟩) (jd_preV jd_R.moved (va_Orecv hV.1 hS) hV) rfl rfl hl.1 rfl (lv_room (Nat.le_of_ble_eq_true rfl)) dX12_checkValidValue_2 ⟨Nat.le_of_ble_eq_true rfl, Nat.le_of_ble_eq_true rfl⟩) (fun r_1 hr_1 => ?_)
  obtain rfl : (jd_i 1) = r_1 := Eq.symm hr_1
  refine lv_if_ne (tgt := 32) hx hb dX12_checkValidValue_5 (by decide) (fun _ => ?_) (fun c => absurd ((jd_i_eq (a := 1) (b := 0) (by omega) (by omega) (by omega) (by omega)).mp c) (by decide))
  refine lv_lload_n hx hb dX12_checkValidValue_32 rfl (lv_at hl 1 rfl) ?_
  exact W.lret hx hb hr (fun t ht hW => ⟨_, rfl, rfl, ht⟩) (fun _ h => by cases h) dX12_checkValidValue_33
set_option maxHeartbeats 4000000 in
set_option maxRecDepth 100000 in
/-- ValueRange.checkValidIntValue -/
theorem metX12_checkValidIntValue (l : Launch) (r : Nat) (mn mx : Int) (f : Nat) (z : Int) (g1 : -2147483648 ≤ mn) (g4 : mx ≤ 2147483647) (g5 : mn ≤ z) (g6 : z ≤ mx) : jd_Met l yX12_checkValidIntValue (ws_ yX12_checkValidIntValue cX12_checkValidIntValue 4 (some .int)) (jd_rm 3 0 0) (jd_Pc [.ref r, .long (jd_l z), .ref f] (jd_R r mn mx jd_no)) (vp_Si (fun y => y = jd_i z)) 0 0 (fun _ => False) := by
  refine jd_ofW (cc := cX12_checkValidIntValue) (maxL := 4) (ret := (some .int)) (by decide) rfl ?_
  intro p e s m args below meth c hx hb hr hml hlocks hnm hts hv
  obtain ⟨rfl, hV⟩ := hv
  have hts : ∀ w ∈ lw_all, w.before _ s = true := fun w h => hts w (List.mem_cons_of_mem _ h)
  have hown : s.vm.findClass RX12 = some m.cls := findClass_of_methodNamed hnm
  have hS : va_S jd_no s.heap s.heap [] := va_S.rf
  have hl := lv_entry ([.ref r, .long (jd_l z), .ref f]) (n := 4) (Nat.le_of_ble_eq_true rfl)
  rw [lg_entry_eq]
  generalize (lg_sl ([.ref r, .long (jd_l z), .ref f]) ++ List.replicate (4 - (lg_sl ([.ref r, .long (jd_l z), .ref f])).length) Slot.unset).toArray = ls at hl ⊢
  have hl : lv_has ls 4 [(0, .ref r), (1, .long (jd_l z)), (3, .ref f)] := hl
  refine lv_aload_n hx hb dX12_checkValidIntValue_0 rfl (lv_at hl 0 rfl) ?_
  refine lv_lload_n hx hb dX12_checkValidIntValue_1 rfl (lv_at hl 1 rfl) ?_
  refine vp_callSi (jd_runV (As := [.long (jd_l z)]) (rest := []) ⟨hx, hb, hml, hown, hts⟩ (metX12_isValidIntValue l r mn mx z g1 g4 g5 g6) (jd_cwV 1 hts q174 q175 q176 q177 rfl rfl (by decide +kernel) ⟨Nat.le_of_ble_eq_true rfl, Nat.le_of_ble_eq_true rfl⟩) (jd_preV jd_R.moved (va_Orecv hV.1 hS) hV) rfl rfl hl.1 rfl (lv_room (Nat.le_of_ble_eq_true rfl)) dX12_checkValidIntValue_2 ⟨Nat.le_of_ble_eq_true rfl, Nat.le_of_ble_eq_true rfl⟩) (fun r_1 hr_1 => ?_)
  obtain rfl : (jd_i 1) = r_1 := Eq.symm hr_1
  refine lv_if_ne (tgt := 18) hx hb dX12_checkValidIntValue_5 (by decide) (fun _ => ?_) (fun c => absurd ((jd_i_eq (a := 1) (b := 0) (by omega) (by omega) (by omega) (by omega)).mp c) (by decide))
  refine lv_lload_n hx hb dX12_checkValidIntValue_18 rfl (lv_at hl 1 rfl) ?_
  refine lv_l2i (v := jd_i z) hx hb dX12_checkValidIntValue_19 (jd_l2i _) ?_
  exact W.iret hx hb hr (fun t ht hW => ⟨_, rfl, rfl, ht⟩) (fun _ h => by cases h) dX12_checkValidIntValue_20
set_option maxHeartbeats 4000000 in
set_option maxRecDepth 100000 in
/-- ChronoField.range -/
theorem metX3_range (l : Launch) (a r : Nat) (mn mx : Int) : Met l yX3_range (ws_ yX3_range cX3_range 1 (some (.object "ValueRange"))) (jd_rm 0 0 0) (jd_Pc [.ref a] (jd_V a r mn mx jd_no)) (va_Sr (fun k => k = r) (fun k => .ref k)) 0 0 (fun _ => False) := by
  refine Met.ofW (cc := cX3_range) (maxL := 1) (ret := (some (.object "ValueRange"))) (by decide) rfl ?_
  intro p e s m args below meth c s₁ B hml hv
  obtain ⟨rfl, hV⟩ := hv
  have hx := B.exec
  have hb := B.bytes
  have hr := B.returns
  have hts := atoms_spec (ws := (ws_ yX3_range cX3_range 1 (some (.object "ValueRange")))) B.pre
  have hts : ∀ w ∈ lw_all, w.before _ s = true := fun w h => hts w (List.mem_cons_of_mem _ h)
  have hown : s.vm.findClass RX3 = some m.cls := findClass_of_methodNamed B.named
  have hlocks := B.notSynchronized
  have hS : va_S jd_no s.heap s.heap [] := va_S.rf
  have hl := lv_entry ([.ref a]) (n := 1) (Nat.le_of_ble_eq_true rfl)
  rw [lg_entry_eq]
  generalize (lg_sl ([.ref a]) ++ List.replicate (1 - (lg_sl ([.ref a])).length) Slot.unset).toArray = ls at hl ⊢
  have hl : lv_has ls 1 [(0, .ref a)] := hl
  refine lv_aload_n hx hb dX3_range_0 rfl (lv_at hl 0 rfl) ?_
  refine jd_getf hx hb hV.2.1 hS hown (hts _ q501) (fun _ h9 => h9) dX3_range_1 ?_
  exact W.aret hx hb hr (Or.inl ⟨_, rfl⟩) (Or.inr ⟨_, rfl⟩) (fun t ht hW => ⟨_, rfl, rfl, ht⟩) (fun _ h => by cases h) dX3_range_4
set_option maxHeartbeats 4000000 in
set_option maxRecDepth 100000 in
/-- ChronoField.checkValidValue -/
theorem metX3_checkValidValue (l : Launch) (a r : Nat) (mn mx : Int) (z : Int) (g1 : -2147483648 ≤ mn) (g4 : mx ≤ 2147483647) (g5 : mn ≤ z) (g6 : z ≤ mx) : Met l yX3_checkValidValue (ws_ yX3_checkValidValue cX3_checkValidValue 3 (some .long)) (jd_rm 3 0 0) (jd_Pc [.ref a, .long (jd_l z)] (jd_V a r mn mx jd_no)) (vp_Sl (fun y => y = jd_l z)) 0 0 (fun _ => False) := by
  refine Met.ofW (cc := cX3_checkValidValue) (maxL := 3) (ret := (some .long)) (by decide) rfl ?_
  intro p e s m args below meth c s₁ B hml hv
  obtain ⟨rfl, hV⟩ := hv
  have hx := B.exec
  have hb := B.bytes
  have hr := B.returns
  have hts := atoms_spec (ws := (ws_ yX3_checkValidValue cX3_checkValidValue 3 (some .long))) B.pre
  have hts : ∀ w ∈ lw_all, w.before _ s = true := fun w h => hts w (List.mem_cons_of_mem _ h)
  have hown : s.vm.findClass RX3 = some m.cls := findClass_of_methodNamed B.named
  have hlocks := B.notSynchronized
  have hS : va_S jd_no s.heap s.heap [] := va_S.rf
  have hl := lv_entry ([.ref a, .long (jd_l z)]) (n := 3) (Nat.le_of_ble_eq_true rfl)
  rw [lg_entry_eq]
  generalize (lg_sl ([.ref a, .long (jd_l z)]) ++ List.replicate (3 - (lg_sl ([.ref a, .long (jd_l z)])).length) Slot.unset).toArray = ls at hl ⊢
  have hl : lv_has ls 3 [(0, .ref a), (1, .long (jd_l z))] := hl
  refine lv_aload_n hx hb dX3_checkValidValue_0 rfl (lv_at hl 0 rfl) ?_
  refine va_csr (W.runV (As := []) (rest := []) ⟨hx, hb, hml, hown, hts⟩ (metX3_range l a r mn mx) (cwV 0 hts (lw_V q39 q40 q41 q7 q42) rfl rfl rfl (by decide +kernel) ⟨Nat.le_of_ble_eq_true rfl, Nat.le_of_ble_eq_true rfl⟩) (jd_preV jd_V.moved (va_Orecv hV.1 hS) hV) rfl rfl hl.1 rfl (lv_room (Nat.le_of_ble_eq_true rfl)) dX3_checkValidValue_1 ⟨Nat.le_of_ble_eq_true rfl, Nat.le_of_ble_eq_true rfl⟩) (fun r_1 hr_1 => ?_)
  obtain rfl : r = r_1 := Eq.symm hr_1
  refine lv_lload_n hx hb dX3_checkValidValue_4 rfl (lv_at hl 1 rfl) ?_
  refine lv_aload_n hx hb dX3_checkValidValue_5 rfl (lv_at hl 0 rfl) ?_
  refine vp_callSl (jd_runV (As := [.long (jd_l z), .ref a]) (rest := []) ⟨hx, hb, hml, hown, hts⟩ (metX12_checkValidValue l r mn mx a z g1 g4 g5 g6) (jd_cwV 2 hts q43 q44 q45 q46 rfl rfl (by decide +kernel) ⟨Nat.le_of_ble_eq_true rfl, Nat.le_of_ble_eq_true rfl⟩) (jd_preV jd_R.moved (va_Orecv hV.2.2.1 hS) hV.2.2) rfl rfl hl.1 rfl (lv_room (Nat.le_of_ble_eq_true rfl)) dX3_checkValidValue_6 ⟨Nat.le_of_ble_eq_true rfl, Nat.le_of_ble_eq_true rfl⟩) (fun r_2 hr_2 => ?_)
  obtain rfl : (jd_l z) = r_2 := Eq.symm hr_2
  exact W.lret hx hb hr (fun t ht hW => ⟨_, rfl, rfl, ht⟩) (fun _ h => by cases h) dX3_checkValidValue_9
set_option maxHeartbeats 4000000 in
set_option maxRecDepth 100000 in
/-- ChronoField.checkValidIntValue -/
theorem metX3_checkValidIntValue (l : Launch) (a r : Nat) (mn mx : Int) (z : Int) (g1 : -2147483648 ≤ mn) (g4 : mx ≤ 2147483647) (g5 : mn ≤ z) (g6 : z ≤ mx) : Met l yX3_checkValidIntValue (ws_ yX3_checkValidIntValue cX3_checkValidIntValue 3 (some .int)) (jd_rm 4 0 0) (jd_Pc [.ref a, .long (jd_l z)] (jd_V a r mn mx jd_no)) (vp_Si (fun y => y = jd_i z)) 0 0 (fun _ => False) := by
  refine Met.ofW (cc := cX3_checkValidIntValue) (maxL := 3) (ret := (some .int)) (by decide) rfl ?_
  intro p e s m args below meth c s₁ B hml hv
  obtain ⟨rfl, hV⟩ := hv
  have hx := B.exec
  have hb := B.bytes
  have hr := B.returns
  have hts := atoms_spec (ws := (ws_ yX3_checkValidIntValue cX3_checkValidIntValue 3 (some .int))) B.pre
  have hts : ∀ w ∈ lw_all, w.before _ s = true := fun w h => hts w (List.mem_cons_of_mem _ h)
  have hown : s.vm.findClass RX3 = some m.cls := findClass_of_methodNamed B.named
  have hlocks := B.notSynchronized
  have hS : va_S jd_no s.heap s.heap [] := va_S.rf
  have hl := lv_entry ([.ref a, .long (jd_l z)]) (n := 3) (Nat.le_of_ble_eq_true rfl)
  rw [lg_entry_eq]
  generalize (lg_sl ([.ref a, .long (jd_l z)]) ++ List.replicate (3 - (lg_sl ([.ref a, .long (jd_l z)])).length) Slot.unset).toArray = ls at hl ⊢
  have hl : lv_has ls 3 [(0, .ref a), (1, .long (jd_l z))] := hl
  refine lv_aload_n hx hb dX3_checkValidIntValue_0 rfl (lv_at hl 0 rfl) ?_
  refine va_csr (W.runV (As := []) (rest := []) ⟨hx, hb, hml, hown, hts⟩ (metX3_range l a r mn mx) (cwV 0 hts (lw_V q39 q40 q41 q7 q42) rfl rfl rfl (by decide +kernel) ⟨Nat.le_of_ble_eq_true rfl, Nat.le_of_ble_eq_true rfl⟩) (jd_preV jd_V.moved (va_Orecv hV.1 hS) hV) rfl rfl hl.1 rfl (lv_room (Nat.le_of_ble_eq_true rfl)) dX3_checkValidIntValue_1 ⟨Nat.le_of_ble_eq_true rfl, Nat.le_of_ble_eq_true rfl⟩) (fun r_1 hr_1 => ?_)
  obtain rfl : r = r_1 := Eq.symm hr_1
  refine lv_lload_n hx hb dX3_checkValidIntValue_4 rfl (lv_at hl 1 rfl) ?_
  refine lv_aload_n hx hb dX3_checkValidIntValue_5 rfl (lv_at hl 0 rfl) ?_
  refine vp_callSi (jd_runV (As := [.long (jd_l z), .ref a]) (rest := []) ⟨hx, hb, hml, hown, hts⟩ (metX12_checkValidIntValue l r mn mx a z g1 g4 g5 g6) (jd_cwV 2 hts q170 q171 q172 q173 rfl rfl (by decide +kernel) ⟨Nat.le_of_ble_eq_true rfl, Nat.le_of_ble_eq_true rfl⟩) (jd_preV jd_R.moved (va_Orecv hV.2.2.1 hS) hV.2.2) rfl rfl hl.1 rfl (lv_room (Nat.le_of_ble_eq_true rfl)) dX3_checkValidIntValue_6 ⟨Nat.le_of_ble_eq_true rfl, Nat.le_of_ble_eq_true rfl⟩) (fun r_2 hr_2 => ?_)
  obtain rfl : (jd_i z) = r_2 := Eq.symm hr_2
  exact W.iret hx hb hr (fun t ht hW => ⟨_, rfl, rfl, ht⟩) (fun _ h => by cases h) dX3_checkValidIntValue_9
set_option maxHeartbeats 4000000 in
set_option maxRecDepth 100000 in
/-- DefaultInterfaceTemporalAccessor() -/
theorem metX1_init (l : Launch) (h0 : Nat) : Met l yX1_init (ws_ yX1_init cX1_init 1 none) (jd_rm 1 0 0) (jd_Pc [.ref h0] (fun _ _ => True)) (va_Sv (fun _ => True)) 0 0 (fun _ => False) := by
  refine Met.ofW (cc := cX1_init) (maxL := 1) (ret := none) (by decide) rfl ?_
  intro p e s m args below meth c s₁ B hml hv
  obtain ⟨rfl, -⟩ := hv
  have hx := B.exec
  have hb := B.bytes
  have hr := B.returns
  have hts := atoms_spec (ws := (ws_ yX1_init cX1_init 1 none)) B.pre
  have hts : ∀ w ∈ lw_all, w.before _ s = true := fun w h => hts w (List.mem_cons_of_mem _ h)
  have hown : s.vm.findClass RX1 = some m.cls := findClass_of_methodNamed B.named
  have hlocks := B.notSynchronized
  have hin : meth.name = "<init>" := (name_of_methodNamed B.named B.method).1
  have hS : va_S jd_no s.heap s.heap [] := va_S.rf
  have hl := lv_entry ([.ref h0]) (n := 1) (Nat.le_of_ble_eq_true rfl)
  rw [lg_entry_eq]
  generalize (lg_sl ([.ref h0]) ++ List.replicate (1 - (lg_sl ([.ref h0])).length) Slot.unset).toArray = ls at hl ⊢
  have hl : lv_has ls 1 [(0, .ref h0)] := hl
  refine lv_aload_n hx hb dX1_init_0 rfl (lv_at hl 0 rfl) ?_
  refine W.objInit hx hb hown (hts _ q136) (hts _ q26) (hts _ q27) rfl (by rw [hml]; exact hl.1) rfl dX1_init_1 (Nat.le_of_ble_eq_true rfl) (Nat.le_of_ble_eq_true rfl) ?_
  refine W.eq (g2 := F0 m 4 ls []) rfl ?_
  exact W.vret hx hb hr (fun t ht hW => ⟨rfl, trivial, ht⟩) (fun _ h => by cases h) dX1_init_4
set_option maxHeartbeats 4000000 in
set_option maxRecDepth 100000 in
/-- DefaultInterfaceTemporal() -/
theorem metX9_init (l : Launch) (h0 : Nat) : Met l yX9_init (ws_ yX9_init cX9_init 1 none) (jd_rm 2 0 0) (jd_Pc [.ref h0] (fun _ _ => True)) (va_Sv (fun _ => True)) 0 0 (fun _ => False) := by
  refine Met.ofW (cc := cX9_init) (maxL := 1) (ret := none) (by decide) rfl ?_
  intro p e s m args below meth c s₁ B hml hv
  obtain ⟨rfl, -⟩ := hv
  have hx := B.exec
  have hb := B.bytes
  have hr := B.returns
  have hts := atoms_spec (ws := (ws_ yX9_init cX9_init 1 none)) B.pre
  have hts : ∀ w ∈ lw_all, w.before _ s = true := fun w h => hts w (List.mem_cons_of_mem _ h)
  have hown : s.vm.findClass RX9 = some m.cls := findClass_of_methodNamed B.named
  have hlocks := B.notSynchronized
  have hin : meth.name = "<init>" := (name_of_methodNamed B.named B.method).1
  have hS : va_S jd_no s.heap s.heap [] := va_S.rf
  have hl := lv_entry ([.ref h0]) (n := 1) (Nat.le_of_ble_eq_true rfl)
  rw [lg_entry_eq]
  generalize (lg_sl ([.ref h0]) ++ List.replicate (1 - (lg_sl ([.ref h0])).length) Slot.unset).toArray = ls at hl ⊢
  have hl : lv_has ls 1 [(0, .ref h0)] := hl
  refine lv_aload_n hx hb dX9_init_0 rfl (lv_at hl 0 rfl) ?_
  refine va_csv (W.runI (As := []) (rest := []) ⟨hx, hb, hml, hown, hts⟩ (metX1_init l h0) (cwI 0 hts (lw_meth q135) rfl rfl rfl (hts _ q4) (hts _ q330) (hts _ q134) rfl (by decide +kernel) ⟨Nat.le_of_ble_eq_true rfl, Nat.le_of_ble_eq_true rfl⟩) (jd_preS jd_mvT trivial) rfl rfl hl.1 rfl (lv_room (Nat.le_of_ble_eq_true rfl)) dX9_init_1 ⟨Nat.le_of_ble_eq_true rfl, Nat.le_of_ble_eq_true rfl⟩) (fun _ => ?_)
  refine W.eq (g2 := F0 m 4 ls []) rfl ?_
  exact W.vret hx hb hr (fun t ht hW => ⟨rfl, trivial, ht⟩) (fun _ h => by cases h) dX9_init_4
set_option maxHeartbeats 4000000 in
set_option maxRecDepth 100000 in
/-- ChronoLocalDate() -/
theorem metX10_init (l : Launch) (h0 : Nat) : Met l yX10_init (ws_ yX10_init cX10_init 1 none) (jd_rm 3 0 0) (jd_Pc [.ref h0] (fun _ _ => True)) (va_Sv (fun _ => True)) 0 0 (fun _ => False) := by
  refine Met.ofW (cc := cX10_init) (maxL := 1) (ret := none) (by decide) rfl ?_
  intro p e s m args below meth c s₁ B hml hv
  obtain ⟨rfl, -⟩ := hv
  have hx := B.exec
  have hb := B.bytes
  have hr := B.returns
  have hts := atoms_spec (ws := (ws_ yX10_init cX10_init 1 none)) B.pre
  have hts : ∀ w ∈ lw_all, w.before _ s = true := fun w h => hts w (List.mem_cons_of_mem _ h)
  have hown : s.vm.findClass RX10 = some m.cls := findClass_of_methodNamed B.named
  have hlocks := B.notSynchronized
  have hin : meth.name = "<init>" := (name_of_methodNamed B.named B.method).1
  have hS : va_S jd_no s.heap s.heap [] := va_S.rf
  have hl := lv_entry ([.ref h0]) (n := 1) (Nat.le_of_ble_eq_true rfl)
  rw [lg_entry_eq]
  generalize (lg_sl ([.ref h0]) ++ List.replicate (1 - (lg_sl ([.ref h0])).length) Slot.unset).toArray = ls at hl ⊢
  have hl : lv_has ls 1 [(0, .ref h0)] := hl
  refine lv_aload_n hx hb dX10_init_0 rfl (lv_at hl 0 rfl) ?_
  refine va_csv (W.runI (As := []) (rest := []) ⟨hx, hb, hml, hown, hts⟩ (metX9_init l h0) (cwI 0 hts (lw_meth q329) rfl rfl rfl (hts _ q17) (hts _ q327) (hts _ q328) rfl (by decide +kernel) ⟨Nat.le_of_ble_eq_true rfl, Nat.le_of_ble_eq_true rfl⟩) (jd_preS jd_mvT trivial) rfl rfl hl.1 rfl (lv_room (Nat.le_of_ble_eq_true rfl)) dX10_init_1 ⟨Nat.le_of_ble_eq_true rfl, Nat.le_of_ble_eq_true rfl⟩) (fun _ => ?_)
  refine W.eq (g2 := F0 m 4 ls []) rfl ?_
  exact W.vret hx hb hr (fun t ht hW => ⟨rfl, trivial, ht⟩) (fun _ h => by cases h) dX10_init_4
end
section
/-! Month, Enum.ordinal, IsoChronology, Jdk8Methods (printed by gen/g07.py) -/
theorem jd_nI {j : Nat} (h : j < 2 ^ 31) : nI j = jd_i j := Int32.toInt_inj.mp (by rw [nI_toInt h, jd_i_int (by omega) (by omega)])
def yX7_ordinal : MethodName := ⟨RX7, "ordinal", "()I"⟩
theorem jd_cand3 (y : Int) : lg_cmp (jd_l y &&& jd_l 3) (jd_l 0) = 0 ↔ y % 4 = 0 := (lg_cmp_eq _ _).trans (jd_and3 y)
theorem jd_tmr (y : Int) {b : Int} (h : 0 < b) : -b < y.tmod b ∧ y.tmod b < b := ⟨Int.lt_tmod_of_pos y h, Int.tmod_lt_of_pos y h⟩
theorem jd_tdr {y b : Int} (h : 0 < b) : (0 ≤ y → 0 ≤ y.tdiv b ∧ y.tdiv b ≤ y) ∧ (y ≤ 0 → y ≤ y.tdiv b ∧ y.tdiv b ≤ 0) := by
  constructor
  · intro g
    rw [jd_td0 b g]
    exact ⟨Int.ediv_nonneg g (by omega), Int.ediv_le_self b g⟩
  · intro g
    rw [jd_td1 b g]
    have h1 := Int.ediv_nonneg (a := -y) (b := b) (by omega) (by omega)
    have h2 := Int.ediv_le_self (a := -y) b (by omega)
    omega
set_option maxHeartbeats 4000000 in
set_option maxRecDepth 100000 in
/-- Enum.ordinal of a month -/
theorem metJ0_ordinal (l : Launch) (j a : Nat) : Met l yJ0_ordinal (ws_ yJ0_ordinal cJ0_ordinal 1 (some .int)) (jd_rm 0 0 0) (jd_Pc [.ref a] (jd_Mo j a jd_no)) (vp_Si (fun z => z = nI j)) 0 0 (fun _ => False) := by
  refine Met.ofW (cc := cJ0_ordinal) (maxL := 1) (ret := (some .int)) (by decide) rfl ?_
  intro p e s m args below meth c s₁ B hml hv
  obtain ⟨rfl, hV⟩ := hv
  have hx := B.exec
  have hb := B.bytes
  have hr := B.returns
  have hts := atoms_spec (ws := (ws_ yJ0_ordinal cJ0_ordinal 1 (some .int))) B.pre
  have hts : ∀ w ∈ lw_all, w.before _ s = true := fun w h => hts w (List.mem_cons_of_mem _ h)
  have hown : s.vm.findClass RJ0 = some m.cls := findClass_of_methodNamed B.named
  have hlocks := B.notSynchronized
  have hS : va_S jd_no s.heap s.heap [] := va_S.rf
  have hl := lv_entry ([.ref a]) (n := 1) (Nat.le_of_ble_eq_true rfl)
  rw [lg_entry_eq]
  generalize (lg_sl ([.ref a]) ++ List.replicate (1 - (lg_sl ([.ref a])).length) Slot.unset).toArray = ls at hl ⊢
  have hl : lv_has ls 1 [(0, .ref a)] := hl
  refine lv_aload_n hx hb dJ0_ordinal_0 rfl (lv_at hl 0 rfl) ?_
  refine jd_getf hx hb hV.2 hS hown (hts _ q504) (fun _ h9 => h9) dJ0_ordinal_1 ?_
  exact W.iret hx hb hr (fun t ht hW => ⟨_, rfl, rfl, ht⟩) (fun _ h => by cases h) dJ0_ordinal_4
set_option maxHeartbeats 4000000 in
set_option maxRecDepth 100000 in
/-- Month.of -/
theorem metX7_of (l : Launch) (g : Nat → Nat) (j : Nat) (hj : j < 12) : Met l yX7_of (ws_ yX7_of cX7_of 1 (some (.object "Month"))) (jd_rm 0 0 0) (jd_Pc [.int (jd_i (((j : Int) + 1)))] (jd_E g jd_no)) (va_Sr (fun k => k = g (8 + j)) (fun k => .ref k)) 0 0 (fun _ => False) := by
  refine Met.ofW (cc := cX7_of) (maxL := 1) (ret := (some (.object "Month"))) (by decide) rfl ?_
  intro p e s m args below meth c s₁ B hml hv
  obtain ⟨rfl, hV⟩ := hv
  have hx := B.exec
  have hb := B.bytes
  have hr := B.returns
  have hts := atoms_spec (ws := (ws_ yX7_of cX7_of 1 (some (.object "Month")))) B.pre
  have hts : ∀ w ∈ lw_all, w.before _ s = true := fun w h => hts w (List.mem_cons_of_mem _ h)
  have hown : s.vm.findClass RX7 = some m.cls := findClass_of_methodNamed B.named
  have hlocks := B.notSynchronized
  have hS : va_S jd_no s.heap s.heap [] := va_S.rf
  have hl := lv_entry ([.int (jd_i (((j : Int) + 1)))]) (n := 1) (Nat.le_of_ble_eq_true rfl)
  rw [lg_entry_eq]
  generalize (lg_sl ([.int (jd_i (((j : Int) + 1)))]) ++ List.replicate (1 - (lg_sl ([.int (jd_i (((j : Int) + 1)))])).length) Slot.unset).toArray = ls at hl ⊢
  have hl : lv_has ls 1 [(0, .int (jd_i (((j : Int) + 1))))] := hl
  refine lv_iload_n hx hb dX7_of_0 rfl (lv_at hl 0 rfl) ?_
  refine lv_iconst (v := jd_i 1) hx hb dX7_of_1 (by decide) ?_
  refine lv_icmp_lt (tgt := 11) hx hb dX7_of_2 (by decide) (fun c => absurd ((jd_i_lt (a := ((j : Int) + 1)) (b := 1) (by omega) (by omega) (by omega) (by omega)).mp c) (by omega)) (fun _ => ?_)
  refine lv_iload_n hx hb dX7_of_5 rfl (lv_at hl 0 rfl) ?_
  refine lv_bipush (v := jd_i 12) hx hb dX7_of_6 (by decide) ?_
  refine lv_icmp_le (tgt := 21) hx hb dX7_of_8 (by decide) (fun _ => ?_) (fun c => absurd ((jd_i_le (a := ((j : Int) + 1)) (b := 12) (by omega) (by omega) (by omega) (by omega)).mpr (by omega)) c)
  refine jd_gets hx hb hV.1 hS hown (hts _ q251) (fun _ h9 => h9) dX7_of_21 ?_
  refine lv_iload_n hx hb dX7_of_24 rfl (lv_at hl 0 rfl) ?_
  refine lv_iconst (v := jd_i 1) hx hb dX7_of_25 (by decide) ?_
  refine lv_isub hx hb dX7_of_26 ?_
  refine jd_ti (jd_i_sub _ _) ?_
  refine jd_ti (y := (nI j)) (by rw [jd_nI (by omega), show (j : Int) + 1 - 1 = j by omega]) ?_
  refine vb_tq hx hb hV.2.1 hS (vp_in_nI hj (by decide)) (v := .ref (g (8 + j))) (by show Value.ref (g (8 + (nI j).toNatClampNeg)) = _; rw [nI_clamp (by omega)]) dX7_of_27 ?_
  exact W.aret hx hb hr (Or.inl ⟨_, rfl⟩) (Or.inr ⟨_, rfl⟩) (fun t ht hW => ⟨_, rfl, rfl, ht⟩) (fun _ h => by cases h) dX7_of_28
set_option maxHeartbeats 4000000 in
set_option maxRecDepth 100000 in
/-- Month.getValue -/
theorem metX7_getValue (l : Launch) (j a : Nat) (hj : j < 12) : Met l yX7_getValue (ws_ yX7_getValue cX7_getValue 1 (some .int)) (jd_rm 1 0 0) (jd_Pc [.ref a] (jd_Mo j a jd_no)) (vp_Si (fun z => z = jd_i ((j : Int) + 1))) 0 0 (fun _ => False) := by
  refine Met.ofW (cc := cX7_getValue) (maxL := 1) (ret := (some .int)) (by decide) rfl ?_
  intro p e s m args below meth c s₁ B hml hv
  obtain ⟨rfl, hV⟩ := hv
  have hx := B.exec
  have hb := B.bytes
  have hr := B.returns
  have hts := atoms_spec (ws := (ws_ yX7_getValue cX7_getValue 1 (some .int))) B.pre
  have hts : ∀ w ∈ lw_all, w.before _ s = true := fun w h => hts w (List.mem_cons_of_mem _ h)
  have hown : s.vm.findClass RX7 = some m.cls := findClass_of_methodNamed B.named
  have hlocks := B.notSynchronized
  have hS : va_S jd_no s.heap s.heap [] := va_S.rf
  have hl := lv_entry ([.ref a]) (n := 1) (Nat.le_of_ble_eq_true rfl)
  rw [lg_entry_eq]
  generalize (lg_sl ([.ref a]) ++ List.replicate (1 - (lg_sl ([.ref a])).length) Slot.unset).toArray = ls at hl ⊢
  have hl : lv_has ls 1 [(0, .ref a)] := hl
  refine lv_aload_n hx hb dX7_getValue_0 rfl (lv_at hl 0 rfl) ?_
  refine vp_callSi (va_runU (As := []) (rest := []) ⟨hx, hb, hml, hown, hts⟩ (metJ0_ordinal l j a) (va_cwU (x := yX7_ordinal) 0 hts (lw_app (lw_in _ [270, 271, 273, 274, 6] (by decide +kernel) (by decide +kernel)) (lw_meth q275)) rfl rfl rfl rfl (by decide +kernel) ⟨Nat.le_of_ble_eq_true rfl, Nat.le_of_ble_eq_true rfl⟩) (jd_preV jd_Mo.moved (va_Orecv hV.1 hS) hV) rfl rfl hl.1 rfl (lv_room (Nat.le_of_ble_eq_true rfl)) dX7_getValue_1 ⟨Nat.le_of_ble_eq_true rfl, Nat.le_of_ble_eq_true rfl⟩).run (fun r_1 hr_1 => ?_)
  obtain rfl : nI j = r_1 := Eq.symm hr_1
  refine jd_ti (y := jd_i ((j : Int))) (jd_nI (by omega)) ?_
  refine lv_iconst (v := jd_i 1) hx hb dX7_getValue_4 (by decide) ?_
  refine lv_iadd hx hb dX7_getValue_5 ?_
  refine jd_ti (jd_i_add _ _) ?_
  exact W.iret hx hb hr (fun t ht hW => ⟨_, rfl, rfl, ht⟩) (fun _ h => by cases h) dX7_getValue_6
set_option maxHeartbeats 4000000 in
set_option maxRecDepth 100000 in
/-- Month.length -/
theorem metX7_length (l : Launch) (j a : Nat) (lp : Bool) (hj : j < 12) : Met l yX7_length (ws_ yX7_length cX7_length 2 (some .int)) (jd_rm 1 0 0) (jd_Pc [.ref a, .int (jd_b lp)] (jd_Mo j a jd_no)) (vp_Si (fun z => z = jd_i (jd_dm lp ((j : Int) + 1)))) 0 0 (fun _ => False) := by
  refine Met.ofW (cc := cX7_length) (maxL := 2) (ret := (some .int)) (by decide) rfl ?_
  intro p e s m args below meth c s₁ B hml hv
  obtain ⟨rfl, hV⟩ := hv
  have hx := B.exec
  have hb := B.bytes
  have hr := B.returns
  have hts := atoms_spec (ws := (ws_ yX7_length cX7_length 2 (some .int))) B.pre
  have hts : ∀ w ∈ lw_all, w.before _ s = true := fun w h => hts w (List.mem_cons_of_mem _ h)
  have hown : s.vm.findClass RX7 = some m.cls := findClass_of_methodNamed B.named
  have hlocks := B.notSynchronized
  have hS : va_S jd_no s.heap s.heap [] := va_S.rf
  have hl := lv_entry ([.ref a, .int (jd_b lp)]) (n := 2) (Nat.le_of_ble_eq_true rfl)
  rw [lg_entry_eq]
  generalize (lg_sl ([.ref a, .int (jd_b lp)]) ++ List.replicate (2 - (lg_sl ([.ref a, .int (jd_b lp)])).length) Slot.unset).toArray = ls at hl ⊢
  have hl : lv_has ls 2 [(0, .ref a), (1, .int (jd_b lp))] := hl
  refine lv_aload_n hx hb dX7_length_0 rfl (lv_at hl 0 rfl) ?_
  refine vp_callSi (va_runU (As := []) (rest := []) ⟨hx, hb, hml, hown, hts⟩ (metJ0_ordinal l j a) (va_cwU (x := yX7_ordinal) 0 hts (lw_app (lw_in _ [270, 271, 273, 274, 6] (by decide +kernel) (by decide +kernel)) (lw_meth q275)) rfl rfl rfl rfl (by decide +kernel) ⟨Nat.le_of_ble_eq_true rfl, Nat.le_of_ble_eq_true rfl⟩) (jd_preV jd_Mo.moved (va_Orecv hV.1 hS) hV) rfl rfl hl.1 rfl (lv_room (Nat.le_of_ble_eq_true rfl)) dX7_length_1 ⟨Nat.le_of_ble_eq_true rfl, Nat.le_of_ble_eq_true rfl⟩).run (fun r_1 hr_1 => ?_)
  obtain rfl : nI j = r_1 := Eq.symm hr_1
  rcases (show j = 0 ∨ j = 1 ∨ j = 2 ∨ j = 3 ∨ j = 4 ∨ j = 5 ∨ j = 6 ∨ j = 7 ∨ j = 8 ∨ j = 9 ∨ j = 10 ∨ j = 11 by omega) with rfl | rfl | rfl | rfl | rfl | rfl | rfl | rfl | rfl | rfl | rfl | rfl
  · skip
    refine lv_tableOut (tgt := 75) hx hb dX7_length_4 (by decide) (by decide) ?_
    refine lv_bipush (v := jd_i 31) hx hb dX7_length_75 (by decide) ?_
    exact W.iret hx hb hr (fun t ht hW => ⟨_, rfl, (by cases lp <;> decide), ht⟩) (fun _ h => by cases h) dX7_length_77
  · skip
    refine lv_tableIn (off := 56) (tgt := 60) hx hb dX7_length_4 (by decide) (by decide) (by decide) (by decide) ?_
    refine lv_iload_n hx hb dX7_length_60 rfl (lv_at hl 1 rfl) ?_
    refine lv_if_eq (tgt := 69) hx hb dX7_length_61 (by decide) (fun h => ?_) (fun h => ?_)
    · obtain rfl : lp = false := jd_b0.mp h
      refine lv_bipush (v := jd_i 28) hx hb dX7_length_69 (by decide) ?_
      exact W.iret hx hb hr (fun t ht hW => ⟨_, rfl, (by decide), ht⟩) (fun _ h => by cases h) dX7_length_71
    · obtain rfl : lp = true := by
        cases lp
        · exact absurd rfl h
        · rfl
      refine lv_bipush (v := jd_i 29) hx hb dX7_length_64 (by decide) ?_
      refine lv_goto (tgt := 71) hx hb dX7_length_66 (by decide) ?_
      exact W.iret hx hb hr (fun t ht hW => ⟨_, rfl, (by decide), ht⟩) (fun _ h => by cases h) dX7_length_71
  · skip
    refine lv_tableIn (off := 71) (tgt := 75) hx hb dX7_length_4 (by decide) (by decide) (by decide) (by decide) ?_
    refine lv_bipush (v := jd_i 31) hx hb dX7_length_75 (by decide) ?_
    exact W.iret hx hb hr (fun t ht hW => ⟨_, rfl, (by cases lp <;> decide), ht⟩) (fun _ h => by cases h) dX7_length_77
  · skip
    refine lv_tableIn (off := 68) (tgt := 72) hx hb dX7_length_4 (by decide) (by decide) (by decide) (by decide) ?_
    refine lv_bipush (v := jd_i 30) hx hb dX7_length_72 (by decide) ?_
    exact W.iret hx hb hr (fun t ht hW => ⟨_, rfl, (by cases lp <;> decide), ht⟩) (fun _ h => by cases h) dX7_length_74
  · skip
    refine lv_tableIn (off := 71) (tgt := 75) hx hb dX7_length_4 (by decide) (by decide) (by decide) (by decide) ?_
    refine lv_bipush (v := jd_i 31) hx hb dX7_length_75 (by decide) ?_
    exact W.iret hx hb hr (fun t ht hW => ⟨_, rfl, (by cases lp <;> decide), ht⟩) (fun _ h => by cases h) dX7_length_77
  · skip
    refine lv_tableIn (off := 68) (tgt := 72) hx hb dX7_length_4 (by decide) (by decide) (by decide) (by decide) ?_
    refine lv_bipush (v := jd_i 30) hx hb dX7_length_72 (by decide) ?_
    exact W.iret hx hb hr (fun t ht hW => ⟨_, rfl, (by cases lp <;> decide), ht⟩) (fun _ h => by cases h) dX7_length_74
  · skip
    refine lv_tableIn (off := 71) (tgt := 75) hx hb dX7_length_4 (by decide) (by decide) (by decide) (by decide) ?_
    refine lv_bipush (v := jd_i 31) hx hb dX7_length_75 (by decide) ?_
    exact W.iret hx hb hr (fun t ht hW => ⟨_, rfl, (by cases lp <;> decide), ht⟩) (fun _ h => by cases h) dX7_length_77
  · skip
    refine lv_tableIn (off := 71) (tgt := 75) hx hb dX7_length_4 (by decide) (by decide) (by decide) (by decide) ?_
    refine lv_bipush (v := jd_i 31) hx hb dX7_length_75 (by decide) ?_
    exact W.iret hx hb hr (fun t ht hW => ⟨_, rfl, (by cases lp <;> decide), ht⟩) (fun _ h => by cases h) dX7_length_77
  · skip
    refine lv_tableIn (off := 68) (tgt := 72) hx hb dX7_length_4 (by decide) (by decide) (by decide) (by decide) ?_
    refine lv_bipush (v := jd_i 30) hx hb dX7_length_72 (by decide) ?_
    exact W.iret hx hb hr (fun t ht hW => ⟨_, rfl, (by cases lp <;> decide), ht⟩) (fun _ h => by cases h) dX7_length_74
  · skip
    refine lv_tableIn (off := 71) (tgt := 75) hx hb dX7_length_4 (by decide) (by decide) (by decide) (by decide) ?_
    refine lv_bipush (v := jd_i 31) hx hb dX7_length_75 (by decide) ?_
    exact W.iret hx hb hr (fun t ht hW => ⟨_, rfl, (by cases lp <;> decide), ht⟩) (fun _ h => by cases h) dX7_length_77
  · skip
    refine lv_tableIn (off := 68) (tgt := 72) hx hb dX7_length_4 (by decide) (by decide) (by decide) (by decide) ?_
    refine lv_bipush (v := jd_i 30) hx hb dX7_length_72 (by decide) ?_
    exact W.iret hx hb hr (fun t ht hW => ⟨_, rfl, (by cases lp <;> decide), ht⟩) (fun _ h => by cases h) dX7_length_74
  · skip
    refine lv_tableOut (tgt := 75) hx hb dX7_length_4 (by decide) (by decide) ?_
    refine lv_bipush (v := jd_i 31) hx hb dX7_length_75 (by decide) ?_
    exact W.iret hx hb hr (fun t ht hW => ⟨_, rfl, (by cases lp <;> decide), ht⟩) (fun _ h => by cases h) dX7_length_77
set_option maxHeartbeats 4000000 in
set_option maxRecDepth 100000 in
/-- IsoChronology.isLeapYear -/
theorem metX8_isLeapYear (l : Launch) (a : Nat) (y : Int) (y1 : -2147483648 ≤ y) (y2 : y ≤ 2147483647) : Met l yX8_isLeapYear (ws_ yX8_isLeapYear cX8_isLeapYear 3 (some .boolean)) (jd_rm 0 0 0) (jd_Pc [.ref a, .long (jd_l y)] (fun _ _ => True)) (vp_Si (fun z => z = jd_b (jd_lp y))) 0 0 (fun _ => False) := by
  refine Met.ofW (cc := cX8_isLeapYear) (maxL := 3) (ret := (some .boolean)) (by decide) rfl ?_
  intro p e s m args below meth c s₁ B hml hv
  obtain ⟨rfl, -⟩ := hv
  have hx := B.exec
  have hb := B.bytes
  have hr := B.returns
  have hts := atoms_spec (ws := (ws_ yX8_isLeapYear cX8_isLeapYear 3 (some .boolean))) B.pre
  have hts : ∀ w ∈ lw_all, w.before _ s = true := fun w h => hts w (List.mem_cons_of_mem _ h)
  have hown : s.vm.findClass RX8 = some m.cls := findClass_of_methodNamed B.named
  have hlocks := B.notSynchronized
  have t1 := jd_tmr y (b := 100) (by decide)
  have t4 := jd_tmr y (b := 400) (by decide)
  have z1 := jd_tm_zero (a := y) (b := 100) (by decide)
  have z4 := jd_tm_zero (a := y) (b := 400) (by decide)
  have hS : va_S jd_no s.heap s.heap [] := va_S.rf
  have hl := lv_entry ([.ref a, .long (jd_l y)]) (n := 3) (Nat.le_of_ble_eq_true rfl)
  rw [lg_entry_eq]
  generalize (lg_sl ([.ref a, .long (jd_l y)]) ++ List.replicate (3 - (lg_sl ([.ref a, .long (jd_l y)])).length) Slot.unset).toArray = ls at hl ⊢
  have hl : lv_has ls 3 [(0, .ref a), (1, .long (jd_l y))] := hl
  refine lv_lload_n hx hb dX8_isLeapYear_0 rfl (lv_at hl 1 rfl) ?_
  refine lv_ldc2 (v := jd_l 3) hx hb hown (hts _ q263) dX8_isLeapYear_1 ?_
  refine lv_land hx hb dX8_isLeapYear_4 ?_
  refine lv_lconst (v := jd_l 0) hx hb dX8_isLeapYear_5 (by decide) ?_
  refine W.lcmp hx hb dX8_isLeapYear_6 ?_
  refine lv_if_ne (tgt := 34) hx hb dX8_isLeapYear_7 (by decide) (fun c1 => ?_) (fun c1 => ?_)
  · have c1 : ¬ (y % 4 = 0) := fun z => c1 ((jd_cand3 y).mpr z)
    refine lv_iconst (v := jd_i 0) hx hb dX8_isLeapYear_34 (by decide) ?_
    exact W.zret hx hb hr rfl (fun t ht hW => ⟨_, rfl, (by rw [jd_lp_f (by omega)]; decide), ht⟩) (fun _ h => by cases h) dX8_isLeapYear_35
  · have c1 : y % 4 = 0 := (jd_cand3 y).mp c1
    refine lv_lload_n hx hb dX8_isLeapYear_10 rfl (lv_at hl 1 rfl) ?_
    refine lv_ldc2 (v := jd_l 100) hx hb hown (hts _ q264) dX8_isLeapYear_11 ?_
    refine lv_lrem hx hb dX8_isLeapYear_14 (by decide) ?_
    refine jd_tl (jd_l_rem (by omega) (by omega) (by decide) (by decide)) ?_
    refine lv_lconst (v := jd_l 0) hx hb dX8_isLeapYear_15 (by decide) ?_
    refine W.lcmp hx hb dX8_isLeapYear_16 ?_
    refine lv_if_ne (tgt := 30) hx hb dX8_isLeapYear_17 (by decide) (fun c2 => ?_) (fun c2 => ?_)
    · have c2 : ¬ ((y.tmod 100) = 0) := fun z => c2 ((jd_ceq (a := y.tmod 100) (b := 0) (by omega) (by omega) (by omega) (by omega)).mpr z)
      refine lv_iconst (v := jd_i 1) hx hb dX8_isLeapYear_30 (by decide) ?_
      refine lv_goto (tgt := 35) hx hb dX8_isLeapYear_31 (by decide) ?_
      exact W.zret hx hb hr rfl (fun t ht hW => ⟨_, rfl, (by rw [jd_lp_t (by omega)]; decide), ht⟩) (fun _ h => by cases h) dX8_isLeapYear_35
    · have c2 : (y.tmod 100) = 0 := (jd_ceq (a := y.tmod 100) (b := 0) (by omega) (by omega) (by omega) (by omega)).mp c2
      refine lv_lload_n hx hb dX8_isLeapYear_20 rfl (lv_at hl 1 rfl) ?_
      refine lv_ldc2 (v := jd_l 400) hx hb hown (hts _ q265) dX8_isLeapYear_21 ?_
      refine lv_lrem hx hb dX8_isLeapYear_24 (by decide) ?_
      refine jd_tl (jd_l_rem (by omega) (by omega) (by decide) (by decide)) ?_
      refine lv_lconst (v := jd_l 0) hx hb dX8_isLeapYear_25 (by decide) ?_
      refine W.lcmp hx hb dX8_isLeapYear_26 ?_
      refine lv_if_ne (tgt := 34) hx hb dX8_isLeapYear_27 (by decide) (fun c3 => ?_) (fun c3 => ?_)
      · have c3 : ¬ ((y.tmod 400) = 0) := fun z => c3 ((jd_ceq (a := y.tmod 400) (b := 0) (by omega) (by omega) (by omega) (by omega)).mpr z)
        refine lv_iconst (v := jd_i 0) hx hb dX8_isLeapYear_34 (by decide) ?_
        exact W.zret hx hb hr rfl (fun t ht hW => ⟨_, rfl, (by rw [jd_lp_f (by omega)]; decide), ht⟩) (fun _ h => by cases h) dX8_isLeapYear_35
      · have c3 : (y.tmod 400) = 0 := (jd_ceq (a := y.tmod 400) (b := 0) (by omega) (by omega) (by omega) (by omega)).mp c3
        refine lv_iconst (v := jd_i 1) hx hb dX8_isLeapYear_30 (by decide) ?_
        refine lv_goto (tgt := 35) hx hb dX8_isLeapYear_31 (by decide) ?_
        exact W.zret hx hb hr rfl (fun t ht hW => ⟨_, rfl, (by rw [jd_lp_t (by omega)]; decide), ht⟩) (fun _ h => by cases h) dX8_isLeapYear_35
set_option maxHeartbeats 4000000 in
set_option maxRecDepth 100000 in
/-- Jdk8Methods.floorDiv by 12 -/
theorem metX6_floorDiv (l : Launch) (a : Int) (a1 : -1000000000000000 ≤ a) (a2 : a ≤ 1000000000000000) : Met l yX6_floorDiv (ws_ yX6_floorDiv cX6_floorDiv 4 (some .long)) (jd_rm 0 0 0) (jd_Pc [.long (jd_l a), .long (jd_l 12)] (fun _ _ => True)) (vp_Sl (fun z => z = jd_l (a / 12))) 0 0 (fun _ => False) := by
  refine Met.ofW (cc := cX6_floorDiv) (maxL := 4) (ret := (some .long)) (by decide) rfl ?_
  intro p e s m args below meth c s₁ B hml hv
  obtain ⟨rfl, -⟩ := hv
  have hx := B.exec
  have hb := B.bytes
  have hr := B.returns
  have hts := atoms_spec (ws := (ws_ yX6_floorDiv cX6_floorDiv 4 (some .long))) B.pre
  have hts : ∀ w ∈ lw_all, w.before _ s = true := fun w h => hts w (List.mem_cons_of_mem _ h)
  have hown : s.vm.findClass RX6 = some m.cls := findClass_of_methodNamed B.named
  have hlocks := B.notSynchronized
  have hS : va_S jd_no s.heap s.heap [] := va_S.rf
  have hl := lv_entry ([.long (jd_l a), .long (jd_l 12)]) (n := 4) (Nat.le_of_ble_eq_true rfl)
  rw [lg_entry_eq]
  generalize (lg_sl ([.long (jd_l a), .long (jd_l 12)]) ++ List.replicate (4 - (lg_sl ([.long (jd_l a), .long (jd_l 12)])).length) Slot.unset).toArray = ls at hl ⊢
  have hl : lv_has ls 4 [(0, .long (jd_l a)), (2, .long (jd_l 12))] := hl
  refine lv_lload_n hx hb dX6_floorDiv_0 rfl (lv_at hl 0 rfl) ?_
  refine lv_lconst (v := jd_l 0) hx hb dX6_floorDiv_1 (by decide) ?_
  refine W.lcmp hx hb dX6_floorDiv_2 ?_
  refine lv_if_lt (tgt := 12) hx hb dX6_floorDiv_3 (by decide) (fun c1 => ?_) (fun c1 => ?_)
  · have c1 : a < 0 := (jd_clt (a := a) (b := 0) (by omega) (by omega) (by omega) (by omega)).mp c1
    refine lv_lload_n hx hb dX6_floorDiv_12 rfl (lv_at hl 0 rfl) ?_
    refine lv_lconst (v := jd_l 1) hx hb dX6_floorDiv_13 (by decide) ?_
    refine lv_ladd hx hb dX6_floorDiv_14 ?_
    refine jd_tl (jd_l_add _ _) ?_
    refine lv_lload_n hx hb dX6_floorDiv_15 rfl (lv_at hl 1 rfl) ?_
    refine lv_ldiv hx hb dX6_floorDiv_16 (by decide) ?_
    refine jd_tl (jd_l_div (by omega) (by omega) (by decide) (by decide)) ?_
    refine lv_lconst (v := jd_l 1) hx hb dX6_floorDiv_17 (by decide) ?_
    refine lv_lsub hx hb dX6_floorDiv_18 ?_
    refine jd_tl (jd_l_sub _ _) ?_
    exact W.lret hx hb hr (fun t ht hW => ⟨_, rfl, (by rw [jd_fd1 c1]), ht⟩) (fun _ h => by cases h) dX6_floorDiv_19
  · have c1 : ¬ (a < 0) := fun z => c1 ((jd_clt (a := a) (b := 0) (by omega) (by omega) (by omega) (by omega)).mpr z)
    refine lv_lload_n hx hb dX6_floorDiv_6 rfl (lv_at hl 0 rfl) ?_
    refine lv_lload_n hx hb dX6_floorDiv_7 rfl (lv_at hl 1 rfl) ?_
    refine lv_ldiv hx hb dX6_floorDiv_8 (by decide) ?_
    refine jd_tl (jd_l_div (by omega) (by omega) (by decide) (by decide)) ?_
    refine lv_goto (tgt := 19) hx hb dX6_floorDiv_9 (by decide) ?_
    exact W.lret hx hb hr (fun t ht hW => ⟨_, rfl, (by rw [jd_td0 12 (by omega)]), ht⟩) (fun _ h => by cases h) dX6_floorDiv_19
set_option maxHeartbeats 4000000 in
set_option maxRecDepth 100000 in
/-- Jdk8Methods.floorMod by 12 -/
theorem metX6_floorMod (l : Launch) (a : Int) (a1 : -1000000000000000 ≤ a) (a2 : a ≤ 1000000000000000) : Met l yX6_floorMod (ws_ yX6_floorMod cX6_floorMod 3 (some .int)) (jd_rm 0 0 0) (jd_Pc [.long (jd_l a), .int (jd_i 12)] (fun _ _ => True)) (vp_Si (fun z => z = jd_i (a % 12))) 0 0 (fun _ => False) := by
  refine Met.ofW (cc := cX6_floorMod) (maxL := 3) (ret := (some .int)) (by decide) rfl ?_
  intro p e s m args below meth c s₁ B hml hv
  obtain ⟨rfl, -⟩ := hv
  have hx := B.exec
  have hb := B.bytes
  have hr := B.returns
  have hts := atoms_spec (ws := (ws_ yX6_floorMod cX6_floorMod 3 (some .int))) B.pre
  have hts : ∀ w ∈ lw_all, w.before _ s = true := fun w h => hts w (List.mem_cons_of_mem _ h)
  have hown : s.vm.findClass RX6 = some m.cls := findClass_of_methodNamed B.named
  have hlocks := B.notSynchronized
  have t1 := jd_tmr a (b := 12) (by decide)
  have hS : va_S jd_no s.heap s.heap [] := va_S.rf
  have hl := lv_entry ([.long (jd_l a), .int (jd_i 12)]) (n := 3) (Nat.le_of_ble_eq_true rfl)
  rw [lg_entry_eq]
  generalize (lg_sl ([.long (jd_l a), .int (jd_i 12)]) ++ List.replicate (3 - (lg_sl ([.long (jd_l a), .int (jd_i 12)])).length) Slot.unset).toArray = ls at hl ⊢
  have hl : lv_has ls 3 [(0, .long (jd_l a)), (2, .int (jd_i 12))] := hl
  refine lv_lload_n hx hb dX6_floorMod_0 rfl (lv_at hl 0 rfl) ?_
  refine lv_iload_n hx hb dX6_floorMod_1 rfl (lv_at hl 1 rfl) ?_
  refine lv_i2l (v := jd_l 12) hx hb dX6_floorMod_2 (jd_i2l (by omega) (by omega)) ?_
  refine lv_lrem hx hb dX6_floorMod_3 (by decide) ?_
  refine jd_tl (jd_l_rem (by omega) (by omega) (by decide) (by decide)) ?_
  refine lv_iload_n hx hb dX6_floorMod_4 rfl (lv_at hl 1 rfl) ?_
  refine lv_i2l (v := jd_l 12) hx hb dX6_floorMod_5 (jd_i2l (by omega) (by omega)) ?_
  refine lv_ladd hx hb dX6_floorMod_6 ?_
  refine jd_tl (jd_l_add _ _) ?_
  refine lv_iload_n hx hb dX6_floorMod_7 rfl (lv_at hl 1 rfl) ?_
  refine lv_i2l (v := jd_l 12) hx hb dX6_floorMod_8 (jd_i2l (by omega) (by omega)) ?_
  refine lv_lrem hx hb dX6_floorMod_9 (by decide) ?_
  refine jd_tl (jd_l_rem (by omega) (by omega) (by decide) (by decide)) ?_
  refine lv_l2i (v := jd_i (((a.tmod 12) + 12).tmod 12)) hx hb dX6_floorMod_10 (jd_l2i _) ?_
  exact W.iret hx hb hr (fun t ht hW => ⟨_, rfl, (by rw [jd_fm]), ht⟩) (fun _ h => by cases h) dX6_floorMod_11
end
section
/-! LocalDate (printed by gen/g08.py) -/
section JTAIL
variable {p : Program} {l : Launch} {e : Env} {R : Room} {s : State} {m : MethodId} {args : Array Value} {below : List Frame} {meth : Method} {c : Code} {H : Heap} {locs : List Loc} {cells slots : Nat} {Q : State → Prop}
/-- a road's end that two branches share -/
theorem jd_tail {g1 g2 : JFrame} (k : W p l e R s m args below meth c H locs cells slots Q g2 → W p l e R s m args below meth c H locs cells slots Q g1) (t : W p l e R s m args below meth c H locs cells slots Q g2) : W p l e R s m args below meth c H locs cells slots Q g1 := k t
theorem jd_tails {n pc : Nat} {lv : List (Nat × Value)} {st : List Value} {g1 : JFrame} (k : (∀ ls : Array Slot, lv_has ls n lv → W p l e R s m args below meth c H locs cells slots Q (F0 m pc ls st)) → W p l e R s m args below meth c H locs cells slots Q g1) (t : ∀ ls : Array Slot, lv_has ls n lv → W p l e R s m args below meth c H locs cells slots Q (F0 m pc ls st)) : W p l e R s m args below meth c H locs cells slots Q g1 := k t
end JTAIL
theorem jd_i2s' {z : Int} (h1 : 0 ≤ z) (h2 : z < 40) : (jd_i z).toInt16.toInt32 = jd_i z := by
  obtain ⟨n, rfl⟩ := Int.eq_ofNat_of_zero_le h1
  exact jd_i2s n (by omega)
theorem jd_ns {z : Int} (h1 : 0 ≤ z) (h2 : z < 40) : narrow .short (.int (jd_i z)) = .int (jd_i z) := by
  have h := pk_ns (jd_i z)
  rwa [jd_i2s' h1 h2] at h
theorem jd_fs {z : Int} (h1 : 0 ≤ z) (h2 : z < 40) : fits .short (.int (jd_i z)) = true := by
  have h := pk_fs (jd_i z)
  rwa [jd_i2s' h1 h2] at h
set_option maxHeartbeats 4000000 in
set_option maxRecDepth 100000 in
/-- LocalDate(int, int, int) -/
theorem metX11_init (l : Launch) (D : va_G) (h0 sz : Nat) (y mo d : Int) (m1 : 0 ≤ mo) (m2 : mo < 40) (d1 : 0 ≤ d) (d2 : d < 40) : Met l yX11_init (ws_ yX11_init cX11_init 4 none) (jd_rm 4 0 0) (jd_Pc [.ref h0, .int (jd_i y), .int (jd_i mo), .int (jd_i d)] (fun U H => H.size = sz ∧ va_P D jd_cl [(h0, .inr (2, [.int 0, .int 0, .int 0]))] H ∧ va_K D jd_cl [] U)) (va_Qv (fun _ : Unit => True) (fun _ t => va_P D jd_cl [jd_ld h0 y mo d] t.heap ∧ va_K D jd_cl [] t ∧ va_D (va_A [(h0, .inr (2, [.int 0, .int 0, .int 0]))] sz) [jd_ld h0 y mo d]) (va_A [(h0, .inr (2, [.int 0, .int 0, .int 0]))] sz)) 0 0 (va_A [(h0, .inr (2, [.int 0, .int 0, .int 0]))] sz) := by
  refine Met.ofW (cc := cX11_init) (maxL := 4) (ret := none) (by decide) rfl ?_
  intro p e s m args below meth c s₁ B hml hv
  obtain ⟨rfl, hsz, hP, hK⟩ := hv
  have hx := B.exec
  have hb := B.bytes
  have hr := B.returns
  have hts := atoms_spec (ws := (ws_ yX11_init cX11_init 4 none)) B.pre
  have hts : ∀ w ∈ lw_all, w.before _ s = true := fun w h => hts w (List.mem_cons_of_mem _ h)
  have hown : s.vm.findClass RX11 = some m.cls := findClass_of_methodNamed B.named
  have hlocks := B.notSynchronized
  have hin : meth.name = "<init>" := (name_of_methodNamed B.named B.method).1
  subst hsz
  have hD : va_D (va_A [(h0, .inr (2, [.int 0, .int 0, .int 0]))] s.heap.size) [(h0, .inr (2, [.int 0, .int 0, .int 0]))] := jd_D1 (Or.inl ⟨0, _, rfl⟩)
  generalize hAe : va_A [(h0, .inr (2, [.int 0, .int 0, .int 0]))] s.heap.size = A at hD ⊢
  have hA : ∀ q : Nat, s.heap.size ≤ q → A q := fun q h => by rw [← hAe]; exact Or.inr h
  have hS : va_S A s.heap s.heap [] := va_S.rf
  have hl := lv_entry ([.ref h0, .int (jd_i y), .int (jd_i mo), .int (jd_i d)]) (n := 4) (Nat.le_of_ble_eq_true rfl)
  rw [lg_entry_eq]
  generalize (lg_sl ([.ref h0, .int (jd_i y), .int (jd_i mo), .int (jd_i d)]) ++ List.replicate (4 - (lg_sl ([.ref h0, .int (jd_i y), .int (jd_i mo), .int (jd_i d)])).length) Slot.unset).toArray = ls at hl ⊢
  have hl : lv_has ls 4 [(0, .ref h0), (1, .int (jd_i y)), (2, .int (jd_i mo)), (3, .int (jd_i d))] := hl
  refine lv_aload_n hx hb dX11_init_0 rfl (lv_at hl 0 rfl) ?_
  refine va_csv (W.runI (As := []) (rest := []) ⟨hx, hb, hml, hown, hts⟩ (metX10_init l h0) (cwI 0 hts (lw_meth q326) rfl rfl rfl (hts _ q18) (hts _ q324) (hts _ q325) rfl (by decide +kernel) ⟨Nat.le_of_ble_eq_true rfl, Nat.le_of_ble_eq_true rfl⟩) (jd_preS jd_mvT trivial) rfl rfl hl.1 rfl (lv_room (Nat.le_of_ble_eq_true rfl)) dX11_init_1 ⟨Nat.le_of_ble_eq_true rfl, Nat.le_of_ble_eq_true rfl⟩) (fun _ => ?_)
  refine W.eq (g2 := F0 m 4 ls []) rfl ?_
  refine lv_aload_n hx hb dX11_init_4 rfl (lv_at hl 0 rfl) ?_
  refine lv_iload_n hx hb dX11_init_5 rfl (lv_at hl 1 rfl) ?_
  refine va_putF (D := D) (ci := 2) (v := .int (jd_i y)) (ty := .int) (C := RX11) (T := TX11) (N := 3) hx hb hts in_X11 tyX11 tyX11_ok nmX11 hown hK hP hD hS 0 rfl rfl 0 (by decide) (hts _ q331) (fun _ h9 => h9) rfl hin rfl (by decide +kernel) rfl rfl (Nat.le_of_ble_eq_true rfl) dX11_init_6 (fun H locs hP hD hS => ?_)
  have hP : va_P D jd_cl [(h0, .inr (2, [.int (jd_i y), .int 0, .int 0]))] H := hP
  have hD : va_D A [(h0, .inr (2, [.int (jd_i y), .int 0, .int 0]))] := hD
  refine lv_aload_n hx hb dX11_init_9 rfl (lv_at hl 0 rfl) ?_
  refine lv_iload_n hx hb dX11_init_10 rfl (lv_at hl 2 rfl) ?_
  refine lv_i2s (v := jd_i mo) hx hb dX11_init_11 (jd_i2s' m1 m2) ?_
  refine va_putF (D := D) (ci := 2) (v := .int (jd_i mo)) (ty := .short) (C := RX11) (T := TX11) (N := 3) hx hb hts in_X11 tyX11 tyX11_ok nmX11 hown hK hP hD hS 0 rfl rfl 1 (by decide) (hts _ q332) (fun _ h9 => h9) rfl hin rfl (by decide +kernel) (jd_ns m1 m2) (jd_fs m1 m2) (Nat.le_of_ble_eq_true rfl) dX11_init_12 (fun H locs hP hD hS => ?_)
  have hP : va_P D jd_cl [(h0, .inr (2, [.int (jd_i y), .int (jd_i mo), .int 0]))] H := hP
  have hD : va_D A [(h0, .inr (2, [.int (jd_i y), .int (jd_i mo), .int 0]))] := hD
  refine lv_aload_n hx hb dX11_init_15 rfl (lv_at hl 0 rfl) ?_
  refine lv_iload_n hx hb dX11_init_16 rfl (lv_at hl 3 rfl) ?_
  refine lv_i2s (v := jd_i d) hx hb dX11_init_17 (jd_i2s' d1 d2) ?_
  refine va_putF (D := D) (ci := 2) (v := .int (jd_i d)) (ty := .short) (C := RX11) (T := TX11) (N := 3) hx hb hts in_X11 tyX11 tyX11_ok nmX11 hown hK hP hD hS 0 rfl rfl 2 (by decide) (hts _ q333) (fun _ h9 => h9) rfl hin rfl (by decide +kernel) (jd_ns d1 d2) (jd_fs d1 d2) (Nat.le_of_ble_eq_true rfl) dX11_init_18 (fun H locs hP hD hS => ?_)
  have hP : va_P D jd_cl [(h0, .inr (2, [.int (jd_i y), .int (jd_i mo), .int (jd_i d)]))] H := hP
  have hD : va_D A [(h0, .inr (2, [.int (jd_i y), .int (jd_i mo), .int (jd_i d)]))] := hD
  exact W.vret hx hb hr (fun t ht hW => ⟨⟨(), rfl, trivial, by rw [ht]; exact hP, va_K.moved hW.alike hK, hD⟩, hS.F ht⟩) hS.2.2 dX11_init_21
set_option maxHeartbeats 4000000 in
set_option maxRecDepth 100000 in
/-- LocalDate.create -/
theorem metX11_create (l : Launch) (D : va_G) (g : Nat → Nat) (j a sz : Nat) (y d : Int) (y1 : -999999999 ≤ y) (y2 : y ≤ 999999999) (hj : j < 12) (d1 : 1 ≤ d) (d2 : d ≤ jd_dm (jd_lp y) ((j : Int) + 1)) : Met l yX11_create (ws_ yX11_create cX11_create 3 (some (.object "LocalDate"))) (jd_rm 5 1 3) (jd_Pc [.int (jd_i y), .ref a, .int (jd_i d)] (fun U H => H.size = sz ∧ va_K D jd_cl [] U ∧ jd_Mo j a (va_A [] sz) U H ∧ jd_I g (va_A [] sz) U H)) (va_Qr (fun _ : Unit => True) (fun _ a t => va_P D jd_cl [jd_ld a y ((j : Int) + 1) d] t.heap ∧ va_K D jd_cl [] t ∧ va_D (va_A [] sz) [jd_ld a y ((j : Int) + 1) d]) (va_A [] sz)) 1 3 (va_A [] sz) := by
  refine Met.ofW (cc := cX11_create) (maxL := 3) (ret := (some (.object "LocalDate"))) (by decide) rfl ?_
  intro p e s m args below meth c s₁ B hml hv
  obtain ⟨rfl, hsz, hK, hM, hI⟩ := hv
  have hx := B.exec
  have hb := B.bytes
  have hr := B.returns
  have hts := atoms_spec (ws := (ws_ yX11_create cX11_create 3 (some (.object "LocalDate")))) B.pre
  have hts : ∀ w ∈ lw_all, w.before _ s = true := fun w h => hts w (List.mem_cons_of_mem _ h)
  have hown : s.vm.findClass RX11 = some m.cls := findClass_of_methodNamed B.named
  have hlocks := B.notSynchronized
  have d3 := jd_dm_rg (jd_lp y) ((j : Int) + 1)
  subst hsz
  have hD : va_D (va_A [] s.heap.size) [] := jd_D0
  have hP : va_P D jd_cl [] s.heap := jd_P0
  generalize hAe : va_A [] s.heap.size = A at hD hM hI ⊢
  have hA : ∀ q : Nat, s.heap.size ≤ q → A q := fun q h => by rw [← hAe]; exact Or.inr h
  have hS : va_S A s.heap s.heap [] := va_S.rf
  have hl := lv_entry ([.int (jd_i y), .ref a, .int (jd_i d)]) (n := 3) (Nat.le_of_ble_eq_true rfl)
  rw [lg_entry_eq]
  generalize (lg_sl ([.int (jd_i y), .ref a, .int (jd_i d)]) ++ List.replicate (3 - (lg_sl ([.int (jd_i y), .ref a, .int (jd_i d)])).length) Slot.unset).toArray = ls at hl ⊢
  have hl : lv_has ls 3 [(0, .int (jd_i y)), (1, .ref a), (2, .int (jd_i d))] := hl
  refine jd_tail (g2 := F0 m 48 ls []) (fun tail => ?_) ?_
  · skip
    refine lv_iload_n hx hb dX11_create_0 rfl (lv_at hl 2 rfl) ?_
    refine lv_bipush (v := jd_i 28) hx hb dX11_create_1 (by decide) ?_
    refine lv_icmp_le (tgt := 48) hx hb dX11_create_3 (by decide) (fun c1 => ?_) (fun c1 => ?_)
    · have c1 : d ≤ 28 := (jd_i_le (a := d) (b := 28) (by omega) (by omega) (by omega) (by omega)).mp c1
      exact tail
    · have c1 : ¬ (d ≤ 28) := fun z => c1 ((jd_i_le (a := d) (b := 28) (by omega) (by omega) (by omega) (by omega)).mpr z)
      refine lv_iload_n hx hb dX11_create_6 rfl (lv_at hl 2 rfl) ?_
      refine lv_aload_n hx hb dX11_create_7 rfl (lv_at hl 1 rfl) ?_
      refine jd_gets hx hb hI.1 hS hown (hts _ q309) (fun _ h9 => h9) dX11_create_8 ?_
      refine lv_iload_n hx hb dX11_create_11 rfl (lv_at hl 0 rfl) ?_
      refine lv_i2l (v := jd_l y) hx hb dX11_create_12 (jd_i2l (by omega) (by omega)) ?_
      refine vp_callSi (W.runV (As := [.long (jd_l y)]) (rest := [.ref a, .int (jd_i d)]) ⟨hx, hb, hml, hown, hts⟩ (metX8_isLeapYear l (g 7) y (by omega) (by omega)) (cwV 1 hts (lw_V q310 q260 q261 q16 q262) rfl rfl rfl (by decide +kernel) ⟨Nat.le_of_ble_eq_true rfl, Nat.le_of_ble_eq_true rfl⟩) (jd_preV jd_mvT (va_Orecv hI.2 hS) trivial) rfl rfl hl.1 rfl (lv_room (Nat.le_of_ble_eq_true rfl)) dX11_create_13 ⟨Nat.le_of_ble_eq_true rfl, Nat.le_of_ble_eq_true rfl⟩) (fun r_1 hr_1 => ?_)
      obtain rfl : (jd_b (jd_lp y)) = r_1 := Eq.symm hr_1
      refine vp_callSi (W.runV (As := [.int (jd_b (jd_lp y))]) (rest := [.int (jd_i d)]) ⟨hx, hb, hml, hown, hts⟩ (metX7_length l j a (jd_lp y) hj) (cwV 1 hts (lw_V q311 q267 q268 q14 q269) rfl rfl rfl (by decide +kernel) ⟨Nat.le_of_ble_eq_true rfl, Nat.le_of_ble_eq_true rfl⟩) (jd_preV jd_Mo.moved (va_Orecv hM.1 hS) (hM.narrow jd_nn)) rfl rfl hl.1 rfl (lv_room (Nat.le_of_ble_eq_true rfl)) dX11_create_16 ⟨Nat.le_of_ble_eq_true rfl, Nat.le_of_ble_eq_true rfl⟩) (fun r_2 hr_2 => ?_)
      obtain rfl : (jd_i ((jd_dm (jd_lp y) ((j : Int) + 1)))) = r_2 := Eq.symm hr_2
      refine lv_icmp_le (tgt := 48) hx hb dX11_create_19 (by decide) (fun _ => ?_) (fun c => absurd ((jd_i_le (a := d) (b := (jd_dm (jd_lp y) ((j : Int) + 1))) (by omega) (by omega) (by omega) (by omega)).mpr (by omega)) c)
      exact tail
  · skip
    refine va_new (ci := 2) (fs := [.int 0, .int 0, .int 0]) (C := RX11) (T := TX11) (N := 3) hx hb hts in_X11 tyX11 tyX11_ok hown (hts _ q315) (hts _ q316) (hts _ q19) hK hP hD hS hA rfl (fun j hj => by rcases (show j = 0 ∨ j = 1 ∨ j = 2 by omega) with rfl | rfl | rfl <;> rfl) (Nat.le_of_ble_eq_true rfl) (Nat.le_of_ble_eq_true rfl) dX11_create_48 (fun q H hP hD hS => ?_)
    have hP : va_P D jd_cl [(q, .inr (2, [.int 0, .int 0, .int 0]))] H := hP
    have hD : va_D A [(q, .inr (2, [.int 0, .int 0, .int 0]))] := hD
    refine lv_dup hx hb dX11_create_51 rfl ?_
    refine lv_iload_n hx hb dX11_create_52 rfl (lv_at hl 0 rfl) ?_
    refine lv_aload_n hx hb dX11_create_53 rfl (lv_at hl 1 rfl) ?_
    refine vp_callSi (W.runV (As := []) (rest := [.int (jd_i y), .ref q, .ref q]) ⟨hx, hb, hml, hown, hts⟩ (metX7_getValue l j a hj) (cwV 0 hts (lw_V q317 q318 q319 q14 q320) rfl rfl rfl (by decide +kernel) ⟨Nat.le_of_ble_eq_true rfl, Nat.le_of_ble_eq_true rfl⟩) (jd_preV jd_Mo.moved (va_Orecv hM.1 hS) ((hM.kept hS.2.1).narrow jd_nn)) rfl rfl hl.1 rfl (lv_room (Nat.le_of_ble_eq_true rfl)) dX11_create_54 ⟨Nat.le_of_ble_eq_true rfl, Nat.le_of_ble_eq_true rfl⟩) (fun r_1 hr_1 => ?_)
    obtain rfl : (jd_i (((j : Int) + 1))) = r_1 := Eq.symm hr_1
    refine lv_iload_n hx hb dX11_create_57 rfl (lv_at hl 2 rfl) ?_
    have hFc := va_free (wc := [(q, .inr (2, [.int 0, .int 0, .int 0]))]) hD hS hA [0] rfl
    refine va_callv (va_runI (As := [.int (jd_i y), .int (jd_i (((j : Int) + 1))), .int (jd_i d)]) (rest := [.ref q]) ⟨hx, hb, hml, hown, hts⟩ (metX11_init l D q H.size y ((j : Int) + 1) d (by omega) (by omega) (by omega) (by omega)) (cwI 3 hts (lw_meth q323) rfl rfl rfl (hts _ q19) (hts _ q321) (hts _ q322) rfl (by decide +kernel) ⟨Nat.le_of_ble_eq_true rfl, Nat.le_of_ble_eq_true rfl⟩) (jd_preS (jd_mvA (jd_mvZ _) (jd_mvA (jd_mvP _ _ _) (jd_mvK _ _ _))) ⟨rfl, hP, hK⟩) rfl rfl hl.1 rfl (lv_room (Nat.le_of_ble_eq_true rfl)) dX11_create_58 ⟨Nat.le_of_ble_eq_true rfl, Nat.le_of_ble_eq_true rfl⟩) hS (fun q _ h => hFc q h) hFc (fun u_ t H1 locs ht hvm hw1 hB hz1 hk1 hS => ?_)
    obtain ⟨hP1, hK1, hD1⟩ := hB
    rw [ht] at hP1
    obtain ⟨hP, hD⟩ := va_join (wr := []) (w1 := [jd_ld q y ((j : Int) + 1) d]) hP hD [0] [] rfl rfl (by decide) (by decide) hk1 hFc hP1 hD1
    generalize H1 = H at hP hS ⊢
    have hP : va_P D jd_cl [jd_ld q y ((j : Int) + 1) d] H := hP
    have hD : va_D A [jd_ld q y ((j : Int) + 1) d] := hD
    exact W.aret hx hb hr (Or.inl ⟨_, rfl⟩) (Or.inr ⟨_, rfl⟩) (fun t ht hW => ⟨⟨(), q, rfl, trivial, by rw [ht]; exact hP, va_K.moved hW.alike hK, hD⟩, hS.F ht⟩) hS.2.2 dX11_create_61
set_option maxHeartbeats 4000000 in
set_option maxRecDepth 100000 in
/-- LocalDate.of -/
theorem metX11_of (l : Launch) (D : va_G) (g : Nat → Nat) (j sz : Nat) (y d : Int) (y1 : -999999999 ≤ y) (y2 : y ≤ 999999999) (hj : j < 12) (d1 : 1 ≤ d) (d2 : d ≤ jd_dm (jd_lp y) ((j : Int) + 1)) : Met l yX11_of (ws_ yX11_of cX11_of 3 (some (.object "LocalDate"))) (jd_rm 6 1 3) (jd_Pc [.int (jd_i y), .int (jd_i (((j : Int) + 1))), .int (jd_i d)] (fun U H => H.size = sz ∧ va_K D jd_cl [] U ∧ jd_C g (va_A [] sz) U H)) (va_Qr (fun _ : Unit => True) (fun _ a t => va_P D jd_cl [jd_ld a y ((j : Int) + 1) d] t.heap ∧ va_K D jd_cl [] t ∧ va_D (va_A [] sz) [jd_ld a y ((j : Int) + 1) d]) (va_A [] sz)) 1 3 (va_A [] sz) := by
  refine Met.ofW (cc := cX11_of) (maxL := 3) (ret := (some (.object "LocalDate"))) (by decide) rfl ?_
  intro p e s m args below meth c s₁ B hml hv
  obtain ⟨rfl, hsz, hK, hC⟩ := hv
  have hx := B.exec
  have hb := B.bytes
  have hr := B.returns
  have hts := atoms_spec (ws := (ws_ yX11_of cX11_of 3 (some (.object "LocalDate")))) B.pre
  have hts : ∀ w ∈ lw_all, w.before _ s = true := fun w h => hts w (List.mem_cons_of_mem _ h)
  have hown : s.vm.findClass RX11 = some m.cls := findClass_of_methodNamed B.named
  have hlocks := B.notSynchronized
  have d3 := jd_dm_rg (jd_lp y) ((j : Int) + 1)
  subst hsz
  have hD : va_D (va_A [] s.heap.size) [] := jd_D0
  have hP : va_P D jd_cl [] s.heap := jd_P0
  generalize hAe : va_A [] s.heap.size = A at hD hC ⊢
  have hA : ∀ q : Nat, s.heap.size ≤ q → A q := fun q h => by rw [← hAe]; exact Or.inr h
  have hS : va_S A s.heap s.heap [] := va_S.rf
  have hl := lv_entry ([.int (jd_i y), .int (jd_i (((j : Int) + 1))), .int (jd_i d)]) (n := 3) (Nat.le_of_ble_eq_true rfl)
  rw [lg_entry_eq]
  generalize (lg_sl ([.int (jd_i y), .int (jd_i (((j : Int) + 1))), .int (jd_i d)]) ++ List.replicate (3 - (lg_sl ([.int (jd_i y), .int (jd_i (((j : Int) + 1))), .int (jd_i d)])).length) Slot.unset).toArray = ls at hl ⊢
  have hl : lv_has ls 3 [(0, .int (jd_i y)), (1, .int (jd_i (((j : Int) + 1)))), (2, .int (jd_i d))] := hl
  refine jd_gets hx hb hC.1.1 hS hown (hts _ q300) (fun _ h9 => h9) dX11_of_0 ?_
  refine lv_iload_n hx hb dX11_of_3 rfl (lv_at hl 0 rfl) ?_
  refine lv_i2l (v := jd_l y) hx hb dX11_of_4 (jd_i2l (by omega) (by omega)) ?_
  refine vp_callSl (W.runV (As := [.long (jd_l y)]) (rest := []) ⟨hx, hb, hml, hown, hts⟩ (metX3_checkValidValue l (g 0) (g 1) (-999999999) 999999999 y (by omega) (by omega) (by omega) (by omega)) (cwV 1 hts (lw_V q301 q36 q37 q7 q38) rfl rfl rfl (by decide +kernel) ⟨Nat.le_of_ble_eq_true rfl, Nat.le_of_ble_eq_true rfl⟩) (jd_preV jd_V.moved (va_Orecv hC.1.2.1 hS) (hC.1.2.narrow jd_nn)) rfl rfl hl.1 rfl (lv_room (Nat.le_of_ble_eq_true rfl)) dX11_of_5 ⟨Nat.le_of_ble_eq_true rfl, Nat.le_of_ble_eq_true rfl⟩) (fun r_1 hr_1 => ?_)
  obtain rfl : (jd_l y) = r_1 := Eq.symm hr_1
  refine lv_pop2_2 hx hb dX11_of_8 rfl ?_
  refine jd_gets hx hb hC.2.1.1 hS hown (hts _ q302) (fun _ h9 => h9) dX11_of_9 ?_
  refine lv_iload_n hx hb dX11_of_12 rfl (lv_at hl 1 rfl) ?_
  refine lv_i2l (v := jd_l (((j : Int) + 1))) hx hb dX11_of_13 (jd_i2l (by omega) (by omega)) ?_
  refine vp_callSl (W.runV (As := [.long (jd_l (((j : Int) + 1)))]) (rest := []) ⟨hx, hb, hml, hown, hts⟩ (metX3_checkValidValue l (g 2) (g 3) 1 12 ((j : Int) + 1) (by omega) (by omega) (by omega) (by omega)) (cwV 1 hts (lw_V q301 q36 q37 q7 q38) rfl rfl rfl (by decide +kernel) ⟨Nat.le_of_ble_eq_true rfl, Nat.le_of_ble_eq_true rfl⟩) (jd_preV jd_V.moved (va_Orecv hC.2.1.2.1 hS) (hC.2.1.2.narrow jd_nn)) rfl rfl hl.1 rfl (lv_room (Nat.le_of_ble_eq_true rfl)) dX11_of_14 ⟨Nat.le_of_ble_eq_true rfl, Nat.le_of_ble_eq_true rfl⟩) (fun r_2 hr_2 => ?_)
  obtain rfl : (jd_l (((j : Int) + 1))) = r_2 := Eq.symm hr_2
  refine lv_pop2_2 hx hb dX11_of_17 rfl ?_
  refine jd_gets hx hb hC.2.2.1.1 hS hown (hts _ q303) (fun _ h9 => h9) dX11_of_18 ?_
  refine lv_iload_n hx hb dX11_of_21 rfl (lv_at hl 2 rfl) ?_
  refine lv_i2l (v := jd_l d) hx hb dX11_of_22 (jd_i2l (by omega) (by omega)) ?_
  refine vp_callSl (W.runV (As := [.long (jd_l d)]) (rest := []) ⟨hx, hb, hml, hown, hts⟩ (metX3_checkValidValue l (g 4) (g 5) 1 31 d (by omega) (by omega) (by omega) (by omega)) (cwV 1 hts (lw_V q301 q36 q37 q7 q38) rfl rfl rfl (by decide +kernel) ⟨Nat.le_of_ble_eq_true rfl, Nat.le_of_ble_eq_true rfl⟩) (jd_preV jd_V.moved (va_Orecv hC.2.2.1.2.1 hS) (hC.2.2.1.2.narrow jd_nn)) rfl rfl hl.1 rfl (lv_room (Nat.le_of_ble_eq_true rfl)) dX11_of_23 ⟨Nat.le_of_ble_eq_true rfl, Nat.le_of_ble_eq_true rfl⟩) (fun r_3 hr_3 => ?_)
  obtain rfl : (jd_l d) = r_3 := Eq.symm hr_3
  refine lv_pop2_2 hx hb dX11_of_26 rfl ?_
  refine lv_iload_n hx hb dX11_of_27 rfl (lv_at hl 0 rfl) ?_
  refine lv_iload_n hx hb dX11_of_28 rfl (lv_at hl 1 rfl) ?_
  refine va_csr (W.runS (As := [.int (jd_i (((j : Int) + 1)))]) (rest := [.int (jd_i y)]) ⟨hx, hb, hml, hown, hts⟩ (metX7_of l g j hj) (va_cwS 1 hts (lw_S q305 q246 q14 q247) rfl rfl rfl (by decide +kernel) ⟨Nat.le_of_ble_eq_true rfl, Nat.le_of_ble_eq_true rfl⟩) (jd_preS jd_E.moved (hC.2.2.2.1.narrow jd_nn)) rfl rfl hl.1 rfl (lv_room (Nat.le_of_ble_eq_true rfl)) dX11_of_29 ⟨Nat.le_of_ble_eq_true rfl, Nat.le_of_ble_eq_true rfl⟩) (fun r_4 hr_4 => ?_)
  obtain rfl : ((g (8 + j))) = r_4 := Eq.symm hr_4
  refine lv_iload_n hx hb dX11_of_32 rfl (lv_at hl 2 rfl) ?_
  have hFc := va_free (wc := []) hD hS hA [] rfl
  refine va_callr (va_runS (As := [.int (jd_i y), .ref ((g (8 + j))), .int (jd_i d)]) (rest := []) ⟨hx, hb, hml, hown, hts⟩ (metX11_create l D g j (g (8 + j)) s.heap.size y d y1 y2 hj d1 d2) (va_cwS 3 hts (lw_S q306 q307 q19 q308) rfl rfl rfl (by decide +kernel) ⟨Nat.le_of_ble_eq_true rfl, Nat.le_of_ble_eq_true rfl⟩) (jd_preS (jd_mvA (jd_mvZ _) (jd_mvA (jd_mvK _ _ _) (jd_mvA jd_Mo.moved jd_I.moved))) ⟨rfl, hK, (hC.2.2.2.1.2.2 j hj).narrow hFc, hC.2.2.2.2.narrow hFc⟩) rfl rfl hl.1 rfl (lv_room (Nat.le_of_ble_eq_true rfl)) dX11_of_33 ⟨Nat.le_of_ble_eq_true rfl, Nat.le_of_ble_eq_true rfl⟩) hS (fun q _ h => hFc q h) hFc (fun u_ q t H1 locs ht hvm hw1 hB hz1 hk1 hS => ?_)
  obtain ⟨hP1, hK1, hD1⟩ := hB
  rw [ht] at hP1
  obtain ⟨hP, hD⟩ := va_join (wr := []) (w1 := [jd_ld q y ((j : Int) + 1) d]) hP hD [] [] rfl rfl (by decide) (by decide) hk1 hFc hP1 hD1
  generalize H1 = H at hP hS ⊢
  have hP : va_P D jd_cl [jd_ld q y ((j : Int) + 1) d] H := hP
  have hD : va_D A [jd_ld q y ((j : Int) + 1) d] := hD
  exact W.aret hx hb hr (Or.inl ⟨_, rfl⟩) (Or.inr ⟨_, rfl⟩) (fun t ht hW => ⟨⟨(), q, rfl, trivial, by rw [ht]; exact hP, va_K.moved hW.alike hK, hD⟩, hS.F ht⟩) hS.2.2 dX11_of_36
set_option maxHeartbeats 4000000 in
set_option maxRecDepth 100000 in
/-- LocalDate.isLeapYear -/
theorem metX11_isLeapYear (l : Launch) (D : va_G) (g : Nat → Nat) (h0 : Nat) (y mo d : Int) (y1 : -999999999 ≤ y) (y2 : y ≤ 999999999) : Met l yX11_isLeapYear (ws_ yX11_isLeapYear cX11_isLeapYear 1 (some .boolean)) (jd_rm 1 0 0) (jd_Pc [.ref h0] (fun U H => va_P D jd_cl [jd_ld h0 y mo d] H ∧ va_K D jd_cl [] U ∧ jd_I g jd_no U H)) (vp_Si (fun z => z = jd_b (jd_lp y))) 0 0 (fun _ => False) := by
  refine Met.ofW (cc := cX11_isLeapYear) (maxL := 1) (ret := (some .boolean)) (by decide) rfl ?_
  intro p e s m args below meth c s₁ B hml hv
  obtain ⟨rfl, hP, hK, hI⟩ := hv
  have hx := B.exec
  have hb := B.bytes
  have hr := B.returns
  have hts := atoms_spec (ws := (ws_ yX11_isLeapYear cX11_isLeapYear 1 (some .boolean))) B.pre
  have hts : ∀ w ∈ lw_all, w.before _ s = true := fun w h => hts w (List.mem_cons_of_mem _ h)
  have hown : s.vm.findClass RX11 = some m.cls := findClass_of_methodNamed B.named
  have hlocks := B.notSynchronized
  have hS : va_S jd_no s.heap s.heap [] := va_S.rf
  have hl := lv_entry ([.ref h0]) (n := 1) (Nat.le_of_ble_eq_true rfl)
  rw [lg_entry_eq]
  generalize (lg_sl ([.ref h0]) ++ List.replicate (1 - (lg_sl ([.ref h0])).length) Slot.unset).toArray = ls at hl ⊢
  have hl : lv_has ls 1 [(0, .ref h0)] := hl
  refine jd_gets hx hb hI.1 hS hown (hts _ q309) (fun _ h9 => h9) dX11_isLeapYear_0 ?_
  refine lv_aload_n hx hb dX11_isLeapYear_3 rfl (lv_at hl 0 rfl) ?_
  refine va_get (D := D) (ci := 2) (v := .int (jd_i y)) (C := RX11) (T := TX11) (N := 3) hx hb hts in_X11 hown hK hP 0 rfl rfl 0 (by decide) (hts _ q331) (fun _ h9 => h9) rfl dX11_isLeapYear_4 ?_
  refine lv_i2l (v := jd_l y) hx hb dX11_isLeapYear_7 (jd_i2l (by omega) (by omega)) ?_
  refine vp_callSi (W.runV (As := [.long (jd_l y)]) (rest := []) ⟨hx, hb, hml, hown, hts⟩ (metX8_isLeapYear l (g 7) y (by omega) (by omega)) (cwV 1 hts (lw_V q310 q260 q261 q16 q262) rfl rfl rfl (by decide +kernel) ⟨Nat.le_of_ble_eq_true rfl, Nat.le_of_ble_eq_true rfl⟩) (jd_preV jd_mvT (va_Orecv hI.2 hS) trivial) rfl rfl hl.1 rfl (lv_room (Nat.le_of_ble_eq_true rfl)) dX11_isLeapYear_8 ⟨Nat.le_of_ble_eq_true rfl, Nat.le_of_ble_eq_true rfl⟩) (fun r_1 hr_1 => ?_)
  obtain rfl : (jd_b (jd_lp y)) = r_1 := Eq.symm hr_1
  exact W.zret hx hb hr (by cases jd_lp y <;> rfl) (fun t ht hW => ⟨_, rfl, rfl, ht⟩) (fun _ h => by cases h) dX11_isLeapYear_11
set_option maxHeartbeats 4000000 in
set_option maxRecDepth 100000 in
/-- LocalDate.toEpochDay -/
theorem metX11_toEpochDay (l : Launch) (D : va_G) (g : Nat → Nat) (h0 : Nat) (y mo d : Int) (y1 : -9000000 ≤ y) (y2 : y ≤ 9000000) (m1 : 1 ≤ mo) (m2 : mo ≤ 12) (d1 : 1 ≤ d) (d2 : d ≤ 31) : Met l yX11_toEpochDay (ws_ yX11_toEpochDay cX11_toEpochDay 7 (some .long)) (jd_rm 2 0 0) (jd_Pc [.ref h0] (fun U H => va_P D jd_cl [jd_ld h0 y mo d] H ∧ va_K D jd_cl [] U ∧ jd_I g jd_no U H)) (vp_Sl (fun z => z = jd_l (jd_ed y mo + (d - 1)))) 0 0 (fun _ => False) := by
  refine Met.ofW (cc := cX11_toEpochDay) (maxL := 7) (ret := (some .long)) (by decide) rfl ?_
  intro p e s m args below meth c s₁ B hml hv
  obtain ⟨rfl, hP, hK, hI⟩ := hv
  have hx := B.exec
  have hb := B.bytes
  have hr := B.returns
  have hts := atoms_spec (ws := (ws_ yX11_toEpochDay cX11_toEpochDay 7 (some .long))) B.pre
  have hts : ∀ w ∈ lw_all, w.before _ s = true := fun w h => hts w (List.mem_cons_of_mem _ h)
  have hown : s.vm.findClass RX11 = some m.cls := findClass_of_methodNamed B.named
  have hlocks := B.notSynchronized
  have t4 := jd_tdr (y := y) (b := 4) (by decide)
  have t5 := jd_tdr (y := y) (b := 100) (by decide)
  have t6 := jd_tdr (y := y) (b := 400) (by decide)
  have hS : va_S jd_no s.heap s.heap [] := va_S.rf
  have hl := lv_entry ([.ref h0]) (n := 7) (Nat.le_of_ble_eq_true rfl)
  rw [lg_entry_eq]
  generalize (lg_sl ([.ref h0]) ++ List.replicate (7 - (lg_sl ([.ref h0])).length) Slot.unset).toArray = ls at hl ⊢
  have hl : lv_has ls 7 [(0, .ref h0)] := hl
  refine lv_aload_n hx hb dX11_toEpochDay_0 rfl (lv_at hl 0 rfl) ?_
  refine va_get (D := D) (ci := 2) (v := .int (jd_i y)) (C := RX11) (T := TX11) (N := 3) hx hb hts in_X11 hown hK hP 0 rfl rfl 0 (by decide) (hts _ q331) (fun _ h9 => h9) rfl dX11_toEpochDay_1 ?_
  refine lv_i2l (v := jd_l y) hx hb dX11_toEpochDay_4 (jd_i2l (by omega) (by omega)) ?_
  refine lv_lstore_n (lv' := [(1, .long (jd_l y)), (0, .ref h0)]) hx hb dX11_toEpochDay_5 rfl hl (by decide) rfl (fun ls hl => ?_)
  refine lv_aload_n hx hb dX11_toEpochDay_6 rfl (lv_at hl 1 rfl) ?_
  refine va_get (D := D) (ci := 2) (v := .int (jd_i mo)) (C := RX11) (T := TX11) (N := 3) hx hb hts in_X11 hown hK hP 0 rfl rfl 1 (by decide) (hts _ q332) (fun _ h9 => h9) rfl dX11_toEpochDay_7 ?_
  refine lv_i2l (v := jd_l mo) hx hb dX11_toEpochDay_10 (jd_i2l (by omega) (by omega)) ?_
  refine lv_lstore_n (lv' := [(3, .long (jd_l mo)), (1, .long (jd_l y)), (0, .ref h0)]) hx hb dX11_toEpochDay_11 rfl hl (by decide) rfl (fun ls hl => ?_)
  refine lv_lconst (v := jd_l 0) hx hb dX11_toEpochDay_12 (by decide) ?_
  refine lv_lstore (lv' := [(5, .long (jd_l 0)), (3, .long (jd_l mo)), (1, .long (jd_l y)), (0, .ref h0)]) hx hb dX11_toEpochDay_13 hl (by decide) rfl (fun ls hl => ?_)
  refine lv_lload hx hb dX11_toEpochDay_15 (lv_at hl 0 rfl) ?_
  refine lv_ldc2 (v := jd_l 365) hx hb hown (hts _ q345) dX11_toEpochDay_17 ?_
  refine lv_lload_n hx hb dX11_toEpochDay_20 rfl (lv_at hl 2 rfl) ?_
  refine lv_lmul hx hb dX11_toEpochDay_21 ?_
  refine jd_tl (jd_l_mul _ _) ?_
  refine lv_ladd hx hb dX11_toEpochDay_22 ?_
  refine jd_tl (jd_l_add _ _) ?_
  refine lv_lstore (lv' := [(5, .long (jd_l (0 + (365 * y)))), (3, .long (jd_l mo)), (1, .long (jd_l y)), (0, .ref h0)]) hx hb dX11_toEpochDay_23 hl (by decide) rfl (fun ls hl => ?_)
  refine lv_lload_n hx hb dX11_toEpochDay_25 rfl (lv_at hl 2 rfl) ?_
  refine lv_lconst (v := jd_l 0) hx hb dX11_toEpochDay_26 (by decide) ?_
  refine jd_tails (n := 7) (pc := 90) (lv := [(5, .long (jd_l (365 * y + ((y + 3) / 4 - (y + 99) / 100 + (y + 399) / 400)))), (3, .long (jd_l mo)), (1, .long (jd_l y)), (0, .ref h0)]) (st := []) (fun tail => ?_) (fun ls hl => ?_)
  · skip
    refine W.lcmp hx hb dX11_toEpochDay_27 ?_
    refine lv_if_lt (tgt := 68) hx hb dX11_toEpochDay_28 (by decide) (fun c1 => ?_) (fun c1 => ?_)
    · have c1 : y < 0 := (jd_clt (a := y) (b := 0) (by omega) (by omega) (by omega) (by omega)).mp c1
      refine lv_lload hx hb dX11_toEpochDay_68 (lv_at hl 0 rfl) ?_
      refine lv_lload_n hx hb dX11_toEpochDay_70 rfl (lv_at hl 2 rfl) ?_
      refine lv_ldc2 hx hb hown (hts _ q352) dX11_toEpochDay_71 ?_
      refine jd_tl (y := jd_l (-4)) (by decide) ?_
      refine lv_ldiv hx hb dX11_toEpochDay_74 (by decide) ?_
      refine jd_tl (jd_l_div (by omega) (by omega) (by decide) (by decide)) ?_
      refine lv_lload_n hx hb dX11_toEpochDay_75 rfl (lv_at hl 2 rfl) ?_
      refine lv_ldc2 hx hb hown (hts _ q353) dX11_toEpochDay_76 ?_
      refine jd_tl (y := jd_l (-100)) (by decide) ?_
      refine lv_ldiv hx hb dX11_toEpochDay_79 (by decide) ?_
      refine jd_tl (jd_l_div (by omega) (by omega) (by decide) (by decide)) ?_
      refine lv_lsub hx hb dX11_toEpochDay_80 ?_
      refine jd_tl (jd_l_sub _ _) ?_
      refine lv_lload_n hx hb dX11_toEpochDay_81 rfl (lv_at hl 2 rfl) ?_
      refine lv_ldc2 hx hb hown (hts _ q354) dX11_toEpochDay_82 ?_
      refine jd_tl (y := jd_l (-400)) (by decide) ?_
      refine lv_ldiv hx hb dX11_toEpochDay_85 (by decide) ?_
      refine jd_tl (jd_l_div (by omega) (by omega) (by decide) (by decide)) ?_
      refine lv_ladd hx hb dX11_toEpochDay_86 ?_
      refine jd_tl (jd_l_add _ _) ?_
      refine lv_lsub hx hb dX11_toEpochDay_87 ?_
      refine jd_tl (jd_l_sub _ _) ?_
      refine jd_tl (y := jd_l (365 * y + ((y + 3) / 4 - (y + 99) / 100 + (y + 399) / 400))) (by rw [← jd_class_neg (by omega)]; congr 1; omega) ?_
      refine lv_lstore (lv' := [(5, .long (jd_l (365 * y + ((y + 3) / 4 - (y + 99) / 100 + (y + 399) / 400)))), (3, .long (jd_l mo)), (1, .long (jd_l y)), (0, .ref h0)]) hx hb dX11_toEpochDay_88 hl (by decide) rfl (fun ls hl => ?_)
      exact tail ls hl
    · have c1 : ¬ (y < 0) := fun z => c1 ((jd_clt (a := y) (b := 0) (by omega) (by omega) (by omega) (by omega)).mpr z)
      refine lv_lload hx hb dX11_toEpochDay_31 (lv_at hl 0 rfl) ?_
      refine lv_lload_n hx hb dX11_toEpochDay_33 rfl (lv_at hl 2 rfl) ?_
      refine lv_ldc2 (v := jd_l 3) hx hb hown (hts _ q346) dX11_toEpochDay_34 ?_
      refine lv_ladd hx hb dX11_toEpochDay_37 ?_
      refine jd_tl (jd_l_add _ _) ?_
      refine lv_ldc2 (v := jd_l 4) hx hb hown (hts _ q347) dX11_toEpochDay_38 ?_
      refine lv_ldiv hx hb dX11_toEpochDay_41 (by decide) ?_
      refine jd_tl (jd_l_div (by omega) (by omega) (by decide) (by decide)) ?_
      refine lv_lload_n hx hb dX11_toEpochDay_42 rfl (lv_at hl 2 rfl) ?_
      refine lv_ldc2 (v := jd_l 99) hx hb hown (hts _ q348) dX11_toEpochDay_43 ?_
      refine lv_ladd hx hb dX11_toEpochDay_46 ?_
      refine jd_tl (jd_l_add _ _) ?_
      refine lv_ldc2 (v := jd_l 100) hx hb hown (hts _ q349) dX11_toEpochDay_47 ?_
      refine lv_ldiv hx hb dX11_toEpochDay_50 (by decide) ?_
      refine jd_tl (jd_l_div (by omega) (by omega) (by decide) (by decide)) ?_
      refine lv_lsub hx hb dX11_toEpochDay_51 ?_
      refine jd_tl (jd_l_sub _ _) ?_
      refine lv_lload_n hx hb dX11_toEpochDay_52 rfl (lv_at hl 2 rfl) ?_
      refine lv_ldc2 (v := jd_l 399) hx hb hown (hts _ q350) dX11_toEpochDay_53 ?_
      refine lv_ladd hx hb dX11_toEpochDay_56 ?_
      refine jd_tl (jd_l_add _ _) ?_
      refine lv_ldc2 (v := jd_l 400) hx hb hown (hts _ q351) dX11_toEpochDay_57 ?_
      refine lv_ldiv hx hb dX11_toEpochDay_60 (by decide) ?_
      refine jd_tl (jd_l_div (by omega) (by omega) (by decide) (by decide)) ?_
      refine lv_ladd hx hb dX11_toEpochDay_61 ?_
      refine jd_tl (jd_l_add _ _) ?_
      refine lv_ladd hx hb dX11_toEpochDay_62 ?_
      refine jd_tl (jd_l_add _ _) ?_
      refine jd_tl (y := jd_l (365 * y + ((y + 3) / 4 - (y + 99) / 100 + (y + 399) / 400))) (by rw [← jd_class_pos (by omega)]; congr 1; omega) ?_
      refine lv_lstore (lv' := [(5, .long (jd_l (365 * y + ((y + 3) / 4 - (y + 99) / 100 + (y + 399) / 400)))), (3, .long (jd_l mo)), (1, .long (jd_l y)), (0, .ref h0)]) hx hb dX11_toEpochDay_63 hl (by decide) rfl (fun ls hl => ?_)
      refine lv_goto (tgt := 90) hx hb dX11_toEpochDay_65 (by decide) ?_
      exact tail ls hl
  · skip
    refine lv_lload hx hb dX11_toEpochDay_90 (lv_at hl 0 rfl) ?_
    refine lv_ldc2 (v := jd_l 367) hx hb hown (hts _ q355) dX11_toEpochDay_92 ?_
    refine lv_lload_n hx hb dX11_toEpochDay_95 rfl (lv_at hl 1 rfl) ?_
    refine lv_lmul hx hb dX11_toEpochDay_96 ?_
    refine jd_tl (jd_l_mul _ _) ?_
    refine lv_ldc2 (v := jd_l 362) hx hb hown (hts _ q356) dX11_toEpochDay_97 ?_
    refine lv_lsub hx hb dX11_toEpochDay_100 ?_
    refine jd_tl (jd_l_sub _ _) ?_
    refine lv_ldc2 (v := jd_l 12) hx hb hown (hts _ q357) dX11_toEpochDay_101 ?_
    refine lv_ldiv hx hb dX11_toEpochDay_104 (by decide) ?_
    refine jd_tl (jd_l_div (by omega) (by omega) (by decide) (by decide)) ?_
    refine lv_ladd hx hb dX11_toEpochDay_105 ?_
    refine jd_tl (jd_l_add _ _) ?_
    refine lv_lstore (lv' := [(5, .long (jd_l ((365 * y + ((y + 3) / 4 - (y + 99) / 100 + (y + 399) / 400)) + (((367 * mo) - 362).tdiv 12)))), (3, .long (jd_l mo)), (1, .long (jd_l y)), (0, .ref h0)]) hx hb dX11_toEpochDay_106 hl (by decide) rfl (fun ls hl => ?_)
    refine lv_lload hx hb dX11_toEpochDay_108 (lv_at hl 0 rfl) ?_
    refine lv_aload_n hx hb dX11_toEpochDay_110 rfl (lv_at hl 3 rfl) ?_
    refine va_get (D := D) (ci := 2) (v := .int (jd_i d)) (C := RX11) (T := TX11) (N := 3) hx hb hts in_X11 hown hK hP 0 rfl rfl 2 (by decide) (hts _ q333) (fun _ h9 => h9) rfl dX11_toEpochDay_111 ?_
    refine lv_iconst (v := jd_i 1) hx hb dX11_toEpochDay_114 (by decide) ?_
    refine lv_isub hx hb dX11_toEpochDay_115 ?_
    refine jd_ti (jd_i_sub _ _) ?_
    refine lv_i2l (v := jd_l (d - 1)) hx hb dX11_toEpochDay_116 (jd_i2l (by omega) (by omega)) ?_
    refine lv_ladd hx hb dX11_toEpochDay_117 ?_
    refine jd_tl (jd_l_add _ _) ?_
    refine lv_lstore (lv' := [(5, .long (jd_l (((365 * y + ((y + 3) / 4 - (y + 99) / 100 + (y + 399) / 400)) + (((367 * mo) - 362).tdiv 12)) + (d - 1)))), (3, .long (jd_l mo)), (1, .long (jd_l y)), (0, .ref h0)]) hx hb dX11_toEpochDay_118 hl (by decide) rfl (fun ls hl => ?_)
    refine lv_lload_n hx hb dX11_toEpochDay_120 rfl (lv_at hl 1 rfl) ?_
    refine lv_ldc2 (v := jd_l 2) hx hb hown (hts _ q358) dX11_toEpochDay_121 ?_
    refine W.lcmp hx hb dX11_toEpochDay_124 ?_
    refine lv_if_le (tgt := 147) hx hb dX11_toEpochDay_125 (by decide) (fun c1 => ?_) (fun c1 => ?_)
    · have c1 : mo ≤ 2 := (jd_cle (a := mo) (b := 2) (by omega) (by omega) (by omega) (by omega)).mp c1
      refine lv_lload hx hb dX11_toEpochDay_147 (lv_at hl 0 rfl) ?_
      refine lv_ldc2 (v := jd_l 719528) hx hb hown (hts _ q363) dX11_toEpochDay_149 ?_
      refine lv_lsub hx hb dX11_toEpochDay_152 ?_
      refine jd_tl (jd_l_sub _ _) ?_
      exact W.lret hx hb hr (fun t ht hW => ⟨_, rfl, (by rw [jd_td0 12 (by omega)]; unfold jd_ed; rw [if_neg (show ¬ 2 < mo by omega)]; congr 1; omega), ht⟩) (fun _ h => by cases h) dX11_toEpochDay_153
    · have c1 : ¬ (mo ≤ 2) := fun z => c1 ((jd_cle (a := mo) (b := 2) (by omega) (by omega) (by omega) (by omega)).mpr z)
      refine lv_lload hx hb dX11_toEpochDay_128 (lv_at hl 0 rfl) ?_
      refine lv_lconst (v := jd_l 1) hx hb dX11_toEpochDay_130 (by decide) ?_
      refine lv_lsub hx hb dX11_toEpochDay_131 ?_
      refine jd_tl (jd_l_sub _ _) ?_
      refine lv_lstore (lv' := [(5, .long (jd_l ((((365 * y + ((y + 3) / 4 - (y + 99) / 100 + (y + 399) / 400)) + (((367 * mo) - 362).tdiv 12)) + (d - 1)) - 1))), (3, .long (jd_l mo)), (1, .long (jd_l y)), (0, .ref h0)]) hx hb dX11_toEpochDay_132 hl (by decide) rfl (fun ls hl => ?_)
      refine lv_aload_n hx hb dX11_toEpochDay_134 rfl (lv_at hl 3 rfl) ?_
      refine vp_callSi (W.runV (As := []) (rest := []) ⟨hx, hb, hml, hown, hts⟩ (metX11_isLeapYear l D g h0 y mo d (by omega) (by omega)) (cwV 0 hts (lw_V q359 q360 q361 q19 q362) rfl rfl rfl (by decide +kernel) ⟨Nat.le_of_ble_eq_true rfl, Nat.le_of_ble_eq_true rfl⟩) (jd_preV (jd_mvA (jd_mvP _ _ _) (jd_mvA (jd_mvK _ _ _) jd_I.moved)) (va_recv hK hP (ci := 2) (q0 := 0) rfl rfl) ⟨hP, hK, hI⟩) rfl rfl hl.1 rfl (lv_room (Nat.le_of_ble_eq_true rfl)) dX11_toEpochDay_135 ⟨Nat.le_of_ble_eq_true rfl, Nat.le_of_ble_eq_true rfl⟩) (fun r_1 hr_1 => ?_)
      obtain rfl : (jd_b (jd_lp y)) = r_1 := Eq.symm hr_1
      refine lv_if_ne (tgt := 147) hx hb dX11_toEpochDay_138 (by decide) (fun c2 => ?_) (fun c2 => ?_)
      · have c3 : jd_lp y = true := jd_b1 c2
        refine lv_lload hx hb dX11_toEpochDay_147 (lv_at hl 0 rfl) ?_
        refine lv_ldc2 (v := jd_l 719528) hx hb hown (hts _ q363) dX11_toEpochDay_149 ?_
        refine lv_lsub hx hb dX11_toEpochDay_152 ?_
        refine jd_tl (jd_l_sub _ _) ?_
        exact W.lret hx hb hr (fun t ht hW => ⟨_, rfl, (by rw [jd_td0 12 (by omega)]; unfold jd_ed; rw [if_pos (show 2 < mo by omega), if_pos c3]; congr 1; omega), ht⟩) (fun _ h => by cases h) dX11_toEpochDay_153
      · have c3 : jd_lp y = false := jd_b0.mp c2
        refine lv_lload hx hb dX11_toEpochDay_141 (lv_at hl 0 rfl) ?_
        refine lv_lconst (v := jd_l 1) hx hb dX11_toEpochDay_143 (by decide) ?_
        refine lv_lsub hx hb dX11_toEpochDay_144 ?_
        refine jd_tl (jd_l_sub _ _) ?_
        refine lv_lstore (lv' := [(5, .long (jd_l (((((365 * y + ((y + 3) / 4 - (y + 99) / 100 + (y + 399) / 400)) + (((367 * mo) - 362).tdiv 12)) + (d - 1)) - 1) - 1))), (3, .long (jd_l mo)), (1, .long (jd_l y)), (0, .ref h0)]) hx hb dX11_toEpochDay_145 hl (by decide) rfl (fun ls hl => ?_)
        refine lv_lload hx hb dX11_toEpochDay_147 (lv_at hl 0 rfl) ?_
        refine lv_ldc2 (v := jd_l 719528) hx hb hown (hts _ q363) dX11_toEpochDay_149 ?_
        refine lv_lsub hx hb dX11_toEpochDay_152 ?_
        refine jd_tl (jd_l_sub _ _) ?_
        exact W.lret hx hb hr (fun t ht hW => ⟨_, rfl, (by rw [jd_td0 12 (by omega)]; unfold jd_ed; rw [if_pos (show 2 < mo by omega), c3, if_neg (show ¬ (false = true) by decide)]; congr 1; omega), ht⟩) (fun _ h => by cases h) dX11_toEpochDay_153
end
section
/-! YearMonth (printed by gen/g09.py) -/
set_option maxHeartbeats 4000000 in
set_option maxRecDepth 100000 in
/-- YearMonth(int, int) -/
theorem metX2_init (l : Launch) (D : va_G) (h0 sz : Nat) (y mo : Int) : Met l yX2_init (ws_ yX2_init cX2_init 3 none) (jd_rm 2 0 0) (jd_Pc [.ref h0, .int (jd_i y), .int (jd_i mo)] (fun U H => H.size = sz ∧ va_P D jd_cl [(h0, .inr (1, [.int 0, .int 0]))] H ∧ va_K D jd_cl [] U)) (va_Qv (fun _ : Unit => True) (fun _ t => va_P D jd_cl [jd_ym h0 y mo] t.heap ∧ va_K D jd_cl [] t ∧ va_D (va_A [(h0, .inr (1, [.int 0, .int 0]))] sz) [jd_ym h0 y mo]) (va_A [(h0, .inr (1, [.int 0, .int 0]))] sz)) 0 0 (va_A [(h0, .inr (1, [.int 0, .int 0]))] sz) := by
  refine Met.ofW (cc := cX2_init) (maxL := 3) (ret := none) (by decide) rfl ?_
  intro p e s m args below meth c s₁ B hml hv
  obtain ⟨rfl, hsz, hP, hK⟩ := hv
  have hx := B.exec
  have hb := B.bytes
  have hr := B.returns
  have hts := atoms_spec (ws := (ws_ yX2_init cX2_init 3 none)) B.pre
  have hts : ∀ w ∈ lw_all, w.before _ s = true := fun w h => hts w (List.mem_cons_of_mem _ h)
  have hown : s.vm.findClass RX2 = some m.cls := findClass_of_methodNamed B.named
  have hlocks := B.notSynchronized
  have hin : meth.name = "<init>" := (name_of_methodNamed B.named B.method).1
  subst hsz
  have hD : va_D (va_A [(h0, .inr (1, [.int 0, .int 0]))] s.heap.size) [(h0, .inr (1, [.int 0, .int 0]))] := jd_D1 (Or.inl ⟨0, _, rfl⟩)
  generalize hAe : va_A [(h0, .inr (1, [.int 0, .int 0]))] s.heap.size = A at hD ⊢
  have hA : ∀ q : Nat, s.heap.size ≤ q → A q := fun q h => by rw [← hAe]; exact Or.inr h
  have hS : va_S A s.heap s.heap [] := va_S.rf
  have hl := lv_entry ([.ref h0, .int (jd_i y), .int (jd_i mo)]) (n := 3) (Nat.le_of_ble_eq_true rfl)
  rw [lg_entry_eq]
  generalize (lg_sl ([.ref h0, .int (jd_i y), .int (jd_i mo)]) ++ List.replicate (3 - (lg_sl ([.ref h0, .int (jd_i y), .int (jd_i mo)])).length) Slot.unset).toArray = ls at hl ⊢
  have hl : lv_has ls 3 [(0, .ref h0), (1, .int (jd_i y)), (2, .int (jd_i mo))] := hl
  refine lv_aload_n hx hb dX2_init_0 rfl (lv_at hl 0 rfl) ?_
  refine va_csv (W.runI (As := []) (rest := []) ⟨hx, hb, hml, hown, hts⟩ (metX1_init l h0) (cwI 0 hts (lw_meth q135) rfl rfl rfl (hts _ q4) (hts _ q133) (hts _ q134) rfl (by decide +kernel) ⟨Nat.le_of_ble_eq_true rfl, Nat.le_of_ble_eq_true rfl⟩) (jd_preS jd_mvT trivial) rfl rfl hl.1 rfl (lv_room (Nat.le_of_ble_eq_true rfl)) dX2_init_1 ⟨Nat.le_of_ble_eq_true rfl, Nat.le_of_ble_eq_true rfl⟩) (fun _ => ?_)
  refine W.eq (g2 := F0 m 4 ls []) rfl ?_
  refine lv_aload_n hx hb dX2_init_4 rfl (lv_at hl 0 rfl) ?_
  refine lv_iload_n hx hb dX2_init_5 rfl (lv_at hl 1 rfl) ?_
  refine va_putF (D := D) (ci := 1) (v := .int (jd_i y)) (ty := .int) (C := RX2) (T := TX2) (N := 2) hx hb hts in_X2 tyX2 tyX2_ok nmX2 hown hK hP hD hS 0 rfl rfl 0 (by decide) (hts _ q137) (fun _ h9 => h9) rfl hin rfl (by decide +kernel) rfl rfl (Nat.le_of_ble_eq_true rfl) dX2_init_6 (fun H locs hP hD hS => ?_)
  have hP : va_P D jd_cl [(h0, .inr (1, [.int (jd_i y), .int 0]))] H := hP
  have hD : va_D A [(h0, .inr (1, [.int (jd_i y), .int 0]))] := hD
  refine lv_aload_n hx hb dX2_init_9 rfl (lv_at hl 0 rfl) ?_
  refine lv_iload_n hx hb dX2_init_10 rfl (lv_at hl 2 rfl) ?_
  refine va_putF (D := D) (ci := 1) (v := .int (jd_i mo)) (ty := .int) (C := RX2) (T := TX2) (N := 2) hx hb hts in_X2 tyX2 tyX2_ok nmX2 hown hK hP hD hS 0 rfl rfl 1 (by decide) (hts _ q138) (fun _ h9 => h9) rfl hin rfl (by decide +kernel) rfl rfl (Nat.le_of_ble_eq_true rfl) dX2_init_11 (fun H locs hP hD hS => ?_)
  have hP : va_P D jd_cl [jd_ym h0 y mo] H := hP
  have hD : va_D A [jd_ym h0 y mo] := hD
  exact W.vret hx hb hr (fun t ht hW => ⟨⟨(), rfl, trivial, by rw [ht]; exact hP, va_K.moved hW.alike hK, hD⟩, hS.F ht⟩) hS.2.2 dX2_init_14
set_option maxHeartbeats 4000000 in
set_option maxRecDepth 100000 in
/-- YearMonth.of -/
theorem metX2_of (l : Launch) (D : va_G) (g : Nat → Nat) (sz : Nat) (y mo : Int) (y1 : -999999999 ≤ y) (y2 : y ≤ 999999999) (m1 : 1 ≤ mo) (m2 : mo ≤ 12) : Met l yX2_of (ws_ yX2_of cX2_of 2 (some (.object "YearMonth"))) (jd_rm 4 1 2) (jd_Pc [.int (jd_i y), .int (jd_i mo)] (fun U H => H.size = sz ∧ va_K D jd_cl [] U ∧ jd_C g (va_A [] sz) U H)) (va_Qr (fun _ : Unit => True) (fun _ a t => va_P D jd_cl [jd_ym a y mo] t.heap ∧ va_K D jd_cl [] t ∧ va_D (va_A [] sz) [jd_ym a y mo]) (va_A [] sz)) 1 2 (va_A [] sz) := by
  refine Met.ofW (cc := cX2_of) (maxL := 2) (ret := (some (.object "YearMonth"))) (by decide) rfl ?_
  intro p e s m args below meth c s₁ B hml hv
  obtain ⟨rfl, hsz, hK, hC⟩ := hv
  have hx := B.exec
  have hb := B.bytes
  have hr := B.returns
  have hts := atoms_spec (ws := (ws_ yX2_of cX2_of 2 (some (.object "YearMonth")))) B.pre
  have hts : ∀ w ∈ lw_all, w.before _ s = true := fun w h => hts w (List.mem_cons_of_mem _ h)
  have hown : s.vm.findClass RX2 = some m.cls := findClass_of_methodNamed B.named
  have hlocks := B.notSynchronized
  subst hsz
  have hD : va_D (va_A [] s.heap.size) [] := jd_D0
  have hP : va_P D jd_cl [] s.heap := jd_P0
  generalize hAe : va_A [] s.heap.size = A at hD hC ⊢
  have hA : ∀ q : Nat, s.heap.size ≤ q → A q := fun q h => by rw [← hAe]; exact Or.inr h
  have hS : va_S A s.heap s.heap [] := va_S.rf
  have hl := lv_entry ([.int (jd_i y), .int (jd_i mo)]) (n := 2) (Nat.le_of_ble_eq_true rfl)
  rw [lg_entry_eq]
  generalize (lg_sl ([.int (jd_i y), .int (jd_i mo)]) ++ List.replicate (2 - (lg_sl ([.int (jd_i y), .int (jd_i mo)])).length) Slot.unset).toArray = ls at hl ⊢
  have hl : lv_has ls 2 [(0, .int (jd_i y)), (1, .int (jd_i mo))] := hl
  refine jd_gets hx hb hC.1.1 hS hown (hts _ q33) (fun _ h9 => h9) dX2_of_0 ?_
  refine lv_iload_n hx hb dX2_of_3 rfl (lv_at hl 0 rfl) ?_
  refine lv_i2l (v := jd_l y) hx hb dX2_of_4 (jd_i2l (by omega) (by omega)) ?_
  refine vp_callSl (W.runV (As := [.long (jd_l y)]) (rest := []) ⟨hx, hb, hml, hown, hts⟩ (metX3_checkValidValue l (g 0) (g 1) (-999999999) 999999999 y (by omega) (by omega) (by omega) (by omega)) (cwV 1 hts (lw_V q35 q36 q37 q7 q38) rfl rfl rfl (by decide +kernel) ⟨Nat.le_of_ble_eq_true rfl, Nat.le_of_ble_eq_true rfl⟩) (jd_preV jd_V.moved (va_Orecv hC.1.2.1 hS) (hC.1.2.narrow jd_nn)) rfl rfl hl.1 rfl (lv_room (Nat.le_of_ble_eq_true rfl)) dX2_of_5 ⟨Nat.le_of_ble_eq_true rfl, Nat.le_of_ble_eq_true rfl⟩) (fun r_1 hr_1 => ?_)
  obtain rfl : (jd_l y) = r_1 := Eq.symm hr_1
  refine lv_pop2_2 hx hb dX2_of_8 rfl ?_
  refine jd_gets hx hb hC.2.1.1 hS hown (hts _ q126) (fun _ h9 => h9) dX2_of_9 ?_
  refine lv_iload_n hx hb dX2_of_12 rfl (lv_at hl 1 rfl) ?_
  refine lv_i2l (v := jd_l mo) hx hb dX2_of_13 (jd_i2l (by omega) (by omega)) ?_
  refine vp_callSl (W.runV (As := [.long (jd_l mo)]) (rest := []) ⟨hx, hb, hml, hown, hts⟩ (metX3_checkValidValue l (g 2) (g 3) 1 12 mo (by omega) (by omega) (by omega) (by omega)) (cwV 1 hts (lw_V q35 q36 q37 q7 q38) rfl rfl rfl (by decide +kernel) ⟨Nat.le_of_ble_eq_true rfl, Nat.le_of_ble_eq_true rfl⟩) (jd_preV jd_V.moved (va_Orecv hC.2.1.2.1 hS) (hC.2.1.2.narrow jd_nn)) rfl rfl hl.1 rfl (lv_room (Nat.le_of_ble_eq_true rfl)) dX2_of_14 ⟨Nat.le_of_ble_eq_true rfl, Nat.le_of_ble_eq_true rfl⟩) (fun r_2 hr_2 => ?_)
  obtain rfl : (jd_l mo) = r_2 := Eq.symm hr_2
  refine lv_pop2_2 hx hb dX2_of_17 rfl ?_
  refine va_new (ci := 1) (fs := [.int 0, .int 0]) (C := RX2) (T := TX2) (N := 2) hx hb hts in_X2 tyX2 tyX2_ok hown (hts _ q128) (hts _ q129) (hts _ q5) hK hP hD hS hA rfl (fun j hj => by rcases (show j = 0 ∨ j = 1 by omega) with rfl | rfl <;> rfl) (Nat.le_of_ble_eq_true rfl) (Nat.le_of_ble_eq_true rfl) dX2_of_18 (fun q H hP hD hS => ?_)
  have hP : va_P D jd_cl [(q, .inr (1, [.int 0, .int 0]))] H := hP
  have hD : va_D A [(q, .inr (1, [.int 0, .int 0]))] := hD
  refine lv_dup hx hb dX2_of_21 rfl ?_
  refine lv_iload_n hx hb dX2_of_22 rfl (lv_at hl 0 rfl) ?_
  refine lv_iload_n hx hb dX2_of_23 rfl (lv_at hl 1 rfl) ?_
  have hFc := va_free (wc := [(q, .inr (1, [.int 0, .int 0]))]) hD hS hA [0] rfl
  refine va_callv (va_runI (As := [.int (jd_i y), .int (jd_i mo)]) (rest := [.ref q]) ⟨hx, hb, hml, hown, hts⟩ (metX2_init l D q H.size y mo) (cwI 2 hts (lw_meth q132) rfl rfl rfl (hts _ q5) (hts _ q130) (hts _ q131) rfl (by decide +kernel) ⟨Nat.le_of_ble_eq_true rfl, Nat.le_of_ble_eq_true rfl⟩) (jd_preS (jd_mvA (jd_mvZ _) (jd_mvA (jd_mvP _ _ _) (jd_mvK _ _ _))) ⟨rfl, hP, hK⟩) rfl rfl hl.1 rfl (lv_room (Nat.le_of_ble_eq_true rfl)) dX2_of_24 ⟨Nat.le_of_ble_eq_true rfl, Nat.le_of_ble_eq_true rfl⟩) hS (fun q _ h => hFc q h) hFc (fun u_ t H1 locs ht hvm hw1 hB hz1 hk1 hS => ?_)
  obtain ⟨hP1, hK1, hD1⟩ := hB
  rw [ht] at hP1
  obtain ⟨hP, hD⟩ := va_join (wr := []) (w1 := [jd_ym q y mo]) hP hD [0] [] rfl rfl (by decide) (by decide) hk1 hFc hP1 hD1
  generalize H1 = H at hP hS ⊢
  have hP : va_P D jd_cl [jd_ym q y mo] H := hP
  have hD : va_D A [jd_ym q y mo] := hD
  exact W.aret hx hb hr (Or.inl ⟨_, rfl⟩) (Or.inr ⟨_, rfl⟩) (fun t ht hW => ⟨⟨(), q, rfl, trivial, by rw [ht]; exact hP, va_K.moved hW.alike hK, hD⟩, hS.F ht⟩) hS.2.2 dX2_of_27
set_option maxHeartbeats 4000000 in
set_option maxRecDepth 100000 in
/-- YearMonth.with -/
theorem metX2_with (l : Launch) (D : va_G) (h0 sz : Nat) (y mo ny nm : Int) (y1 : -999999999 ≤ y) (y2 : y ≤ 999999999) (m1 : 1 ≤ mo) (m2 : mo ≤ 12) (y3 : -999999999 ≤ ny) (y4 : ny ≤ 999999999) (m3 : 1 ≤ nm) (m4 : nm ≤ 12) : Met l yX2_with (ws_ yX2_with cX2_with 3 (some (.object "YearMonth"))) (jd_rm 3 1 2) (jd_Pc [.ref h0, .int (jd_i ny), .int (jd_i nm)] (fun U H => H.size = sz ∧ va_P D jd_cl [jd_ym h0 y mo] H ∧ va_K D jd_cl [] U)) (va_Qr (fun _ : Unit => True) (fun _ a t => va_P D jd_cl [jd_ym a ny nm] t.heap ∧ va_K D jd_cl [] t ∧ va_D (va_A [jd_ym h0 y mo] sz) [jd_ym a ny nm]) (va_A [jd_ym h0 y mo] sz)) 1 2 (va_A [jd_ym h0 y mo] sz) := by
  refine Met.ofW (cc := cX2_with) (maxL := 3) (ret := (some (.object "YearMonth"))) (by decide) rfl ?_
  intro p e s m args below meth c s₁ B hml hv
  obtain ⟨rfl, hsz, hP, hK⟩ := hv
  have hx := B.exec
  have hb := B.bytes
  have hr := B.returns
  have hts := atoms_spec (ws := (ws_ yX2_with cX2_with 3 (some (.object "YearMonth")))) B.pre
  have hts : ∀ w ∈ lw_all, w.before _ s = true := fun w h => hts w (List.mem_cons_of_mem _ h)
  have hown : s.vm.findClass RX2 = some m.cls := findClass_of_methodNamed B.named
  have hlocks := B.notSynchronized
  subst hsz
  have hD : va_D (va_A [jd_ym h0 y mo] s.heap.size) [jd_ym h0 y mo] := jd_D1 (Or.inl ⟨0, _, rfl⟩)
  generalize hAe : va_A [jd_ym h0 y mo] s.heap.size = A at hD ⊢
  have hA : ∀ q : Nat, s.heap.size ≤ q → A q := fun q h => by rw [← hAe]; exact Or.inr h
  have hS : va_S A s.heap s.heap [] := va_S.rf
  have hl := lv_entry ([.ref h0, .int (jd_i ny), .int (jd_i nm)]) (n := 3) (Nat.le_of_ble_eq_true rfl)
  rw [lg_entry_eq]
  generalize (lg_sl ([.ref h0, .int (jd_i ny), .int (jd_i nm)]) ++ List.replicate (3 - (lg_sl ([.ref h0, .int (jd_i ny), .int (jd_i nm)])).length) Slot.unset).toArray = ls at hl ⊢
  have hl : lv_has ls 3 [(0, .ref h0), (1, .int (jd_i ny)), (2, .int (jd_i nm))] := hl
  refine jd_tail (g2 := F0 m 18 ls []) (fun tail => ?_) ?_
  · skip
    refine lv_aload_n hx hb dX2_with_0 rfl (lv_at hl 0 rfl) ?_
    refine va_get (D := D) (ci := 1) (v := .int (jd_i y)) (C := RX2) (T := TX2) (N := 2) hx hb hts in_X2 hown hK hP 0 rfl rfl 0 (by decide) (hts _ q137) (fun _ h9 => h9) rfl dX2_with_1 ?_
    refine lv_iload_n hx hb dX2_with_4 rfl (lv_at hl 1 rfl) ?_
    refine lv_icmp_ne (tgt := 18) hx hb dX2_with_5 (by decide) (fun c1 => ?_) (fun c1 => ?_)
    · have c1 : ¬ (y = ny) := fun z => c1 ((jd_i_eq (a := y) (b := ny) (by omega) (by omega) (by omega) (by omega)).mpr z)
      exact tail
    · have c1 : y = ny := (jd_i_eq (a := y) (b := ny) (by omega) (by omega) (by omega) (by omega)).mp c1
      refine lv_aload_n hx hb dX2_with_8 rfl (lv_at hl 0 rfl) ?_
      refine va_get (D := D) (ci := 1) (v := .int (jd_i mo)) (C := RX2) (T := TX2) (N := 2) hx hb hts in_X2 hown hK hP 0 rfl rfl 1 (by decide) (hts _ q138) (fun _ h9 => h9) rfl dX2_with_9 ?_
      refine lv_iload_n hx hb dX2_with_12 rfl (lv_at hl 2 rfl) ?_
      refine lv_icmp_ne (tgt := 18) hx hb dX2_with_13 (by decide) (fun c2 => ?_) (fun c2 => ?_)
      · have c2 : ¬ (mo = nm) := fun z => c2 ((jd_i_eq (a := mo) (b := nm) (by omega) (by omega) (by omega) (by omega)).mpr z)
        exact tail
      · have c2 : mo = nm := (jd_i_eq (a := mo) (b := nm) (by omega) (by omega) (by omega) (by omega)).mp c2
        refine lv_aload_n hx hb dX2_with_16 rfl (lv_at hl 0 rfl) ?_
        refine W.widen (k := 1) (n := 2) (Nat.le_of_ble_eq_true rfl) (Nat.le_of_ble_eq_true rfl) ?_
        subst c1
        subst c2
        exact W.aret hx hb hr (Or.inl ⟨_, rfl⟩) (Or.inr ⟨_, rfl⟩) (fun t ht hW => ⟨⟨(), h0, rfl, trivial, by rw [ht]; exact hP, va_K.moved hW.alike hK, hD⟩, hS.F ht⟩) hS.2.2 dX2_with_17
  · skip
    refine va_new (ci := 1) (fs := [.int 0, .int 0]) (C := RX2) (T := TX2) (N := 2) hx hb hts in_X2 tyX2 tyX2_ok hown (hts _ q128) (hts _ q129) (hts _ q5) hK hP hD hS hA rfl (fun j hj => by rcases (show j = 0 ∨ j = 1 by omega) with rfl | rfl <;> rfl) (Nat.le_of_ble_eq_true rfl) (Nat.le_of_ble_eq_true rfl) dX2_with_18 (fun q H hP hD hS => ?_)
    have hP : va_P D jd_cl [jd_ym h0 y mo, (q, .inr (1, [.int 0, .int 0]))] H := hP
    have hD : va_D A [jd_ym h0 y mo, (q, .inr (1, [.int 0, .int 0]))] := hD
    refine lv_dup hx hb dX2_with_21 rfl ?_
    refine lv_iload_n hx hb dX2_with_22 rfl (lv_at hl 1 rfl) ?_
    refine lv_iload_n hx hb dX2_with_23 rfl (lv_at hl 2 rfl) ?_
    have hFc := va_free (wc := [(q, .inr (1, [.int 0, .int 0]))]) hD hS hA [1] rfl
    refine va_callv (va_runI (As := [.int (jd_i ny), .int (jd_i nm)]) (rest := [.ref q]) ⟨hx, hb, hml, hown, hts⟩ (metX2_init l D q H.size ny nm) (cwI 2 hts (lw_meth q132) rfl rfl rfl (hts _ q5) (hts _ q130) (hts _ q131) rfl (by decide +kernel) ⟨Nat.le_of_ble_eq_true rfl, Nat.le_of_ble_eq_true rfl⟩) (jd_preS (jd_mvA (jd_mvZ _) (jd_mvA (jd_mvP _ _ _) (jd_mvK _ _ _))) ⟨rfl, hP.sub [1] rfl, hK⟩) rfl rfl hl.1 rfl (lv_room (Nat.le_of_ble_eq_true rfl)) dX2_with_24 ⟨Nat.le_of_ble_eq_true rfl, Nat.le_of_ble_eq_true rfl⟩) hS (fun q _ h => hFc q h) hFc (fun u_ t H1 locs ht hvm hw1 hB hz1 hk1 hS => ?_)
    obtain ⟨hP1, hK1, hD1⟩ := hB
    rw [ht] at hP1
    obtain ⟨hP, hD⟩ := va_join (wr := [jd_ym h0 y mo]) (w1 := [jd_ym q ny nm]) hP hD [1] [0] rfl rfl (by decide) (by decide) hk1 hFc hP1 hD1
    generalize H1 = H at hP hS ⊢
    have hP : va_P D jd_cl [jd_ym h0 y mo, jd_ym q ny nm] H := hP
    have hD : va_D A [jd_ym h0 y mo, jd_ym q ny nm] := hD
    have hP := hP.sub (ws' := [jd_ym q ny nm]) [1] rfl
    have hD := hD.sub (ws' := [jd_ym q ny nm]) [1] (by decide) rfl
    exact W.aret hx hb hr (Or.inl ⟨_, rfl⟩) (Or.inr ⟨_, rfl⟩) (fun t ht hW => ⟨⟨(), q, rfl, trivial, by rw [ht]; exact hP, va_K.moved hW.alike hK, hD⟩, hS.F ht⟩) hS.2.2 dX2_with_27
set_option maxHeartbeats 4000000 in
set_option maxRecDepth 100000 in
/-- YearMonth.withYear -/
theorem metX2_withYear (l : Launch) (D : va_G) (g : Nat → Nat) (h0 sz : Nat) (y mo : Int) (ny : Int) (y1 : -999999999 ≤ y) (y2 : y ≤ 999999999) (m1 : 1 ≤ mo) (m2 : mo ≤ 12) (y3 : -999999999 ≤ ny) (y4 : ny ≤ 999999999) : Met l yX2_withYear (ws_ yX2_withYear cX2_withYear 2 (some (.object "YearMonth"))) (jd_rm 4 1 2) (jd_Pc [.ref h0, .int (jd_i ny)] (fun U H => H.size = sz ∧ va_P D jd_cl [jd_ym h0 y mo] H ∧ va_K D jd_cl [] U ∧ jd_C g (va_A [jd_ym h0 y mo] sz) U H)) (va_Qr (fun _ : Unit => True) (fun _ a t => va_P D jd_cl [jd_ym a ny mo] t.heap ∧ va_K D jd_cl [] t ∧ va_D (va_A [jd_ym h0 y mo] sz) [jd_ym a ny mo]) (va_A [jd_ym h0 y mo] sz)) 1 2 (va_A [jd_ym h0 y mo] sz) := by
  refine Met.ofW (cc := cX2_withYear) (maxL := 2) (ret := (some (.object "YearMonth"))) (by decide) rfl ?_
  intro p e s m args below meth c s₁ B hml hv
  obtain ⟨rfl, hsz, hP, hK, hC⟩ := hv
  have hx := B.exec
  have hb := B.bytes
  have hr := B.returns
  have hts := atoms_spec (ws := (ws_ yX2_withYear cX2_withYear 2 (some (.object "YearMonth")))) B.pre
  have hts : ∀ w ∈ lw_all, w.before _ s = true := fun w h => hts w (List.mem_cons_of_mem _ h)
  have hown : s.vm.findClass RX2 = some m.cls := findClass_of_methodNamed B.named
  have hlocks := B.notSynchronized
  subst hsz
  have hD : va_D (va_A [jd_ym h0 y mo] s.heap.size) [jd_ym h0 y mo] := jd_D1 (Or.inl ⟨0, _, rfl⟩)
  generalize hAe : va_A [jd_ym h0 y mo] s.heap.size = A at hD hC ⊢
  have hA : ∀ q : Nat, s.heap.size ≤ q → A q := fun q h => by rw [← hAe]; exact Or.inr h
  have hS : va_S A s.heap s.heap [] := va_S.rf
  have hl := lv_entry ([.ref h0, .int (jd_i ny)]) (n := 2) (Nat.le_of_ble_eq_true rfl)
  rw [lg_entry_eq]
  generalize (lg_sl ([.ref h0, .int (jd_i ny)]) ++ List.replicate (2 - (lg_sl ([.ref h0, .int (jd_i ny)])).length) Slot.unset).toArray = ls at hl ⊢
  have hl : lv_has ls 2 [(0, .ref h0), (1, .int (jd_i ny))] := hl
  refine jd_gets hx hb hC.1.1 hS hown (hts _ q33) (fun _ h9 => h9) dX2_withYear_0 ?_
  refine lv_iload_n hx hb dX2_withYear_3 rfl (lv_at hl 1 rfl) ?_
  refine lv_i2l (v := jd_l ny) hx hb dX2_withYear_4 (jd_i2l (by omega) (by omega)) ?_
  refine vp_callSl (W.runV (As := [.long (jd_l ny)]) (rest := []) ⟨hx, hb, hml, hown, hts⟩ (metX3_checkValidValue l (g 0) (g 1) (-999999999) 999999999 ny (by omega) (by omega) (by omega) (by omega)) (cwV 1 hts (lw_V q35 q36 q37 q7 q38) rfl rfl rfl (by decide +kernel) ⟨Nat.le_of_ble_eq_true rfl, Nat.le_of_ble_eq_true rfl⟩) (jd_preV jd_V.moved (va_Orecv hC.1.2.1 hS) (hC.1.2.narrow jd_nn)) rfl rfl hl.1 rfl (lv_room (Nat.le_of_ble_eq_true rfl)) dX2_withYear_5 ⟨Nat.le_of_ble_eq_true rfl, Nat.le_of_ble_eq_true rfl⟩) (fun r_1 hr_1 => ?_)
  obtain rfl : (jd_l ny) = r_1 := Eq.symm hr_1
  refine lv_pop2_2 hx hb dX2_withYear_8 rfl ?_
  refine lv_aload_n hx hb dX2_withYear_9 rfl (lv_at hl 0 rfl) ?_
  refine lv_iload_n hx hb dX2_withYear_10 rfl (lv_at hl 1 rfl) ?_
  refine lv_aload_n hx hb dX2_withYear_11 rfl (lv_at hl 0 rfl) ?_
  refine va_get (D := D) (ci := 1) (v := .int (jd_i mo)) (C := RX2) (T := TX2) (N := 2) hx hb hts in_X2 hown hK hP 0 rfl rfl 1 (by decide) (hts _ q138) (fun _ h9 => h9) rfl dX2_withYear_12 ?_
  have hFc := va_free (wc := [jd_ym h0 y mo]) hD hS hA [0] rfl
  refine va_callr (va_runV (As := [.int (jd_i ny), .int (jd_i mo)]) (rest := []) ⟨hx, hb, hml, hown, hts⟩ (metX2_with l D h0 s.heap.size y mo ny mo y1 y2 m1 m2 (by omega) (by omega) (by omega) (by omega)) (cwV 2 hts (lw_V q187 q189 qs1 q5 q190) rfl rfl rfl (by decide +kernel) ⟨Nat.le_of_ble_eq_true rfl, Nat.le_of_ble_eq_true rfl⟩) (jd_preV (jd_mvA (jd_mvZ _) (jd_mvA (jd_mvP _ _ _) (jd_mvK _ _ _))) (va_recv hK hP (ci := 1) (q0 := 0) rfl rfl) ⟨rfl, hP, hK⟩) rfl rfl hl.1 rfl (lv_room (Nat.le_of_ble_eq_true rfl)) dX2_withYear_15 ⟨Nat.le_of_ble_eq_true rfl, Nat.le_of_ble_eq_true rfl⟩) hS (fun q _ h => hFc q h) hFc (fun u_ q t H1 locs ht hvm hw1 hB hz1 hk1 hS => ?_)
  obtain ⟨hP1, hK1, hD1⟩ := hB
  rw [ht] at hP1
  obtain ⟨hP, hD⟩ := va_join (wr := []) (w1 := [jd_ym q ny mo]) hP hD [0] [] rfl rfl (by decide) (by decide) hk1 hFc hP1 hD1
  generalize H1 = H at hP hS ⊢
  have hP : va_P D jd_cl [jd_ym q ny mo] H := hP
  have hD : va_D A [jd_ym q ny mo] := hD
  exact W.aret hx hb hr (Or.inl ⟨_, rfl⟩) (Or.inr ⟨_, rfl⟩) (fun t ht hW => ⟨⟨(), q, rfl, trivial, by rw [ht]; exact hP, va_K.moved hW.alike hK, hD⟩, hS.F ht⟩) hS.2.2 dX2_withYear_18
set_option maxHeartbeats 4000000 in
set_option maxRecDepth 100000 in
/-- YearMonth.withMonth -/
theorem metX2_withMonth (l : Launch) (D : va_G) (g : Nat → Nat) (h0 sz : Nat) (y mo : Int) (nm : Int) (y1 : -999999999 ≤ y) (y2 : y ≤ 999999999) (m1 : 1 ≤ mo) (m2 : mo ≤ 12) (m3 : 1 ≤ nm) (m4 : nm ≤ 12) : Met l yX2_withMonth (ws_ yX2_withMonth cX2_withMonth 2 (some (.object "YearMonth"))) (jd_rm 4 1 2) (jd_Pc [.ref h0, .int (jd_i nm)] (fun U H => H.size = sz ∧ va_P D jd_cl [jd_ym h0 y mo] H ∧ va_K D jd_cl [] U ∧ jd_C g (va_A [jd_ym h0 y mo] sz) U H)) (va_Qr (fun _ : Unit => True) (fun _ a t => va_P D jd_cl [jd_ym a y nm] t.heap ∧ va_K D jd_cl [] t ∧ va_D (va_A [jd_ym h0 y mo] sz) [jd_ym a y nm]) (va_A [jd_ym h0 y mo] sz)) 1 2 (va_A [jd_ym h0 y mo] sz) := by
  refine Met.ofW (cc := cX2_withMonth) (maxL := 2) (ret := (some (.object "YearMonth"))) (by decide) rfl ?_
  intro p e s m args below meth c s₁ B hml hv
  obtain ⟨rfl, hsz, hP, hK, hC⟩ := hv
  have hx := B.exec
  have hb := B.bytes
  have hr := B.returns
  have hts := atoms_spec (ws := (ws_ yX2_withMonth cX2_withMonth 2 (some (.object "YearMonth")))) B.pre
  have hts : ∀ w ∈ lw_all, w.before _ s = true := fun w h => hts w (List.mem_cons_of_mem _ h)
  have hown : s.vm.findClass RX2 = some m.cls := findClass_of_methodNamed B.named
  have hlocks := B.notSynchronized
  subst hsz
  have hD : va_D (va_A [jd_ym h0 y mo] s.heap.size) [jd_ym h0 y mo] := jd_D1 (Or.inl ⟨0, _, rfl⟩)
  generalize hAe : va_A [jd_ym h0 y mo] s.heap.size = A at hD hC ⊢
  have hA : ∀ q : Nat, s.heap.size ≤ q → A q := fun q h => by rw [← hAe]; exact Or.inr h
  have hS : va_S A s.heap s.heap [] := va_S.rf
  have hl := lv_entry ([.ref h0, .int (jd_i nm)]) (n := 2) (Nat.le_of_ble_eq_true rfl)
  rw [lg_entry_eq]
  generalize (lg_sl ([.ref h0, .int (jd_i nm)]) ++ List.replicate (2 - (lg_sl ([.ref h0, .int (jd_i nm)])).length) Slot.unset).toArray = ls at hl ⊢
  have hl : lv_has ls 2 [(0, .ref h0), (1, .int (jd_i nm))] := hl
  refine jd_gets hx hb hC.2.1.1 hS hown (hts _ q126) (fun _ h9 => h9) dX2_withMonth_0 ?_
  refine lv_iload_n hx hb dX2_withMonth_3 rfl (lv_at hl 1 rfl) ?_
  refine lv_i2l (v := jd_l nm) hx hb dX2_withMonth_4 (jd_i2l (by omega) (by omega)) ?_
  refine vp_callSl (W.runV (As := [.long (jd_l nm)]) (rest := []) ⟨hx, hb, hml, hown, hts⟩ (metX3_checkValidValue l (g 2) (g 3) 1 12 nm (by omega) (by omega) (by omega) (by omega)) (cwV 1 hts (lw_V q35 q36 q37 q7 q38) rfl rfl rfl (by decide +kernel) ⟨Nat.le_of_ble_eq_true rfl, Nat.le_of_ble_eq_true rfl⟩) (jd_preV jd_V.moved (va_Orecv hC.2.1.2.1 hS) (hC.2.1.2.narrow jd_nn)) rfl rfl hl.1 rfl (lv_room (Nat.le_of_ble_eq_true rfl)) dX2_withMonth_5 ⟨Nat.le_of_ble_eq_true rfl, Nat.le_of_ble_eq_true rfl⟩) (fun r_1 hr_1 => ?_)
  obtain rfl : (jd_l nm) = r_1 := Eq.symm hr_1
  refine lv_pop2_2 hx hb dX2_withMonth_8 rfl ?_
  refine lv_aload_n hx hb dX2_withMonth_9 rfl (lv_at hl 0 rfl) ?_
  refine lv_aload_n hx hb dX2_withMonth_10 rfl (lv_at hl 0 rfl) ?_
  refine va_get (D := D) (ci := 1) (v := .int (jd_i y)) (C := RX2) (T := TX2) (N := 2) hx hb hts in_X2 hown hK hP 0 rfl rfl 0 (by decide) (hts _ q137) (fun _ h9 => h9) rfl dX2_withMonth_11 ?_
  refine lv_iload_n hx hb dX2_withMonth_14 rfl (lv_at hl 1 rfl) ?_
  have hFc := va_free (wc := [jd_ym h0 y mo]) hD hS hA [0] rfl
  refine va_callr (va_runV (As := [.int (jd_i y), .int (jd_i nm)]) (rest := []) ⟨hx, hb, hml, hown, hts⟩ (metX2_with l D h0 s.heap.size y mo y nm y1 y2 m1 m2 (by omega) (by omega) (by omega) (by omega)) (cwV 2 hts (lw_V q187 q189 qs1 q5 q190) rfl rfl rfl (by decide +kernel) ⟨Nat.le_of_ble_eq_true rfl, Nat.le_of_ble_eq_true rfl⟩) (jd_preV (jd_mvA (jd_mvZ _) (jd_mvA (jd_mvP _ _ _) (jd_mvK _ _ _))) (va_recv hK hP (ci := 1) (q0 := 0) rfl rfl) ⟨rfl, hP, hK⟩) rfl rfl hl.1 rfl (lv_room (Nat.le_of_ble_eq_true rfl)) dX2_withMonth_15 ⟨Nat.le_of_ble_eq_true rfl, Nat.le_of_ble_eq_true rfl⟩) hS (fun q _ h => hFc q h) hFc (fun u_ q t H1 locs ht hvm hw1 hB hz1 hk1 hS => ?_)
  obtain ⟨hP1, hK1, hD1⟩ := hB
  rw [ht] at hP1
  obtain ⟨hP, hD⟩ := va_join (wr := []) (w1 := [jd_ym q y nm]) hP hD [0] [] rfl rfl (by decide) (by decide) hk1 hFc hP1 hD1
  generalize H1 = H at hP hS ⊢
  have hP : va_P D jd_cl [jd_ym q y nm] H := hP
  have hD : va_D A [jd_ym q y nm] := hD
  exact W.aret hx hb hr (Or.inl ⟨_, rfl⟩) (Or.inr ⟨_, rfl⟩) (fun t ht hW => ⟨⟨(), q, rfl, trivial, by rw [ht]; exact hP, va_K.moved hW.alike hK, hD⟩, hS.F ht⟩) hS.2.2 dX2_withMonth_18
set_option maxHeartbeats 4000000 in
set_option maxRecDepth 100000 in
/-- YearMonth.plusYears -/
theorem metX2_plusYears (l : Launch) (D : va_G) (g : Nat → Nat) (h0 sz : Nat) (y mo : Int) (n : Int) (b1 : -9000000 ≤ y) (b2 : y ≤ 9000000) (m1 : 1 ≤ mo) (m2 : mo ≤ 12) (n1 : -999999 ≤ n) (n2 : n ≤ 999999) : Met l yX2_plusYears (ws_ yX2_plusYears cX2_plusYears 4 (some (.object "YearMonth"))) (jd_rm 5 1 2) (jd_Pc [.ref h0, .long (jd_l n)] (fun U H => H.size = sz ∧ va_P D jd_cl [jd_ym h0 y mo] H ∧ va_K D jd_cl [] U ∧ jd_C g (va_A [jd_ym h0 y mo] sz) U H)) (va_Qr (fun _ : Unit => True) (fun _ a t => va_P D jd_cl [jd_ym a (y + n) mo] t.heap ∧ va_K D jd_cl [] t ∧ va_D (va_A [jd_ym h0 y mo] sz) [jd_ym a (y + n) mo]) (va_A [jd_ym h0 y mo] sz)) 1 2 (va_A [jd_ym h0 y mo] sz) := by
  refine Met.ofW (cc := cX2_plusYears) (maxL := 4) (ret := (some (.object "YearMonth"))) (by decide) rfl ?_
  intro p e s m args below meth c s₁ B hml hv
  obtain ⟨rfl, hsz, hP, hK, hC⟩ := hv
  have hx := B.exec
  have hb := B.bytes
  have hr := B.returns
  have hts := atoms_spec (ws := (ws_ yX2_plusYears cX2_plusYears 4 (some (.object "YearMonth")))) B.pre
  have hts : ∀ w ∈ lw_all, w.before _ s = true := fun w h => hts w (List.mem_cons_of_mem _ h)
  have hown : s.vm.findClass RX2 = some m.cls := findClass_of_methodNamed B.named
  have hlocks := B.notSynchronized
  have y1 : -999999999 ≤ y := by omega
  have y2 : y ≤ 999999999 := by omega
  subst hsz
  have hD : va_D (va_A [jd_ym h0 y mo] s.heap.size) [jd_ym h0 y mo] := jd_D1 (Or.inl ⟨0, _, rfl⟩)
  generalize hAe : va_A [jd_ym h0 y mo] s.heap.size = A at hD hC ⊢
  have hA : ∀ q : Nat, s.heap.size ≤ q → A q := fun q h => by rw [← hAe]; exact Or.inr h
  have hS : va_S A s.heap s.heap [] := va_S.rf
  have hl := lv_entry ([.ref h0, .long (jd_l n)]) (n := 4) (Nat.le_of_ble_eq_true rfl)
  rw [lg_entry_eq]
  generalize (lg_sl ([.ref h0, .long (jd_l n)]) ++ List.replicate (4 - (lg_sl ([.ref h0, .long (jd_l n)])).length) Slot.unset).toArray = ls at hl ⊢
  have hl : lv_has ls 4 [(0, .ref h0), (1, .long (jd_l n))] := hl
  refine lv_lload_n hx hb dX2_plusYears_0 rfl (lv_at hl 1 rfl) ?_
  refine lv_lconst (v := jd_l 0) hx hb dX2_plusYears_1 (by decide) ?_
  refine W.lcmp hx hb dX2_plusYears_2 ?_
  refine lv_if_ne (tgt := 8) hx hb dX2_plusYears_3 (by decide) (fun c1 => ?_) (fun c1 => ?_)
  · have c1 : ¬ (n = 0) := fun z => c1 ((jd_ceq (a := n) (b := 0) (by omega) (by omega) (by omega) (by omega)).mpr z)
    refine jd_gets hx hb hC.1.1 hS hown (hts _ q33) (fun _ h9 => h9) dX2_plusYears_8 ?_
    refine lv_aload_n hx hb dX2_plusYears_11 rfl (lv_at hl 0 rfl) ?_
    refine va_get (D := D) (ci := 1) (v := .int (jd_i y)) (C := RX2) (T := TX2) (N := 2) hx hb hts in_X2 hown hK hP 0 rfl rfl 0 (by decide) (hts _ q137) (fun _ h9 => h9) rfl dX2_plusYears_12 ?_
    refine lv_i2l (v := jd_l y) hx hb dX2_plusYears_15 (jd_i2l (by omega) (by omega)) ?_
    refine lv_lload_n hx hb dX2_plusYears_16 rfl (lv_at hl 1 rfl) ?_
    refine lv_ladd hx hb dX2_plusYears_17 ?_
    refine jd_tl (jd_l_add _ _) ?_
    refine vp_callSi (W.runV (As := [.long (jd_l (y + n))]) (rest := []) ⟨hx, hb, hml, hown, hts⟩ (metX3_checkValidIntValue l (g 0) (g 1) (-999999999) 999999999 (y + n) (by omega) (by omega) (by omega) (by omega)) (cwV 1 hts (lw_V q166 q167 q168 q7 q169) rfl rfl rfl (by decide +kernel) ⟨Nat.le_of_ble_eq_true rfl, Nat.le_of_ble_eq_true rfl⟩) (jd_preV jd_V.moved (va_Orecv hC.1.2.1 hS) (hC.1.2.narrow jd_nn)) rfl rfl hl.1 rfl (lv_room (Nat.le_of_ble_eq_true rfl)) dX2_plusYears_18 ⟨Nat.le_of_ble_eq_true rfl, Nat.le_of_ble_eq_true rfl⟩) (fun r_1 hr_1 => ?_)
    obtain rfl : (jd_i ((y + n))) = r_1 := Eq.symm hr_1
    refine lv_istore_n (lv' := [(3, .int (jd_i (y + n))), (0, .ref h0), (1, .long (jd_l n))]) hx hb dX2_plusYears_21 rfl hl (by decide) rfl (fun ls hl => ?_)
    refine lv_aload_n hx hb dX2_plusYears_22 rfl (lv_at hl 1 rfl) ?_
    refine lv_iload_n hx hb dX2_plusYears_23 rfl (lv_at hl 0 rfl) ?_
    refine lv_aload_n hx hb dX2_plusYears_24 rfl (lv_at hl 1 rfl) ?_
    refine va_get (D := D) (ci := 1) (v := .int (jd_i mo)) (C := RX2) (T := TX2) (N := 2) hx hb hts in_X2 hown hK hP 0 rfl rfl 1 (by decide) (hts _ q138) (fun _ h9 => h9) rfl dX2_plusYears_25 ?_
    have hFc := va_free (wc := [jd_ym h0 y mo]) hD hS hA [0] rfl
    refine va_callr (va_runV (As := [.int (jd_i (y + n)), .int (jd_i mo)]) (rest := []) ⟨hx, hb, hml, hown, hts⟩ (metX2_with l D h0 s.heap.size y mo (y + n) mo y1 y2 m1 m2 (by omega) (by omega) (by omega) (by omega)) (cwV 2 hts (lw_V q187 q189 qs1 q5 q190) rfl rfl rfl (by decide +kernel) ⟨Nat.le_of_ble_eq_true rfl, Nat.le_of_ble_eq_true rfl⟩) (jd_preV (jd_mvA (jd_mvZ _) (jd_mvA (jd_mvP _ _ _) (jd_mvK _ _ _))) (va_recv hK hP (ci := 1) (q0 := 0) rfl rfl) ⟨rfl, hP, hK⟩) rfl rfl hl.1 rfl (lv_room (Nat.le_of_ble_eq_true rfl)) dX2_plusYears_28 ⟨Nat.le_of_ble_eq_true rfl, Nat.le_of_ble_eq_true rfl⟩) hS (fun q _ h => hFc q h) hFc (fun u_ q t H1 locs ht hvm hw1 hB hz1 hk1 hS => ?_)
    obtain ⟨hP1, hK1, hD1⟩ := hB
    rw [ht] at hP1
    obtain ⟨hP, hD⟩ := va_join (wr := []) (w1 := [jd_ym q (y + n) mo]) hP hD [0] [] rfl rfl (by decide) (by decide) hk1 hFc hP1 hD1
    generalize H1 = H at hP hS ⊢
    have hP : va_P D jd_cl [jd_ym q (y + n) mo] H := hP
    have hD : va_D A [jd_ym q (y + n) mo] := hD
    exact W.aret hx hb hr (Or.inl ⟨_, rfl⟩) (Or.inr ⟨_, rfl⟩) (fun t ht hW => ⟨⟨(), q, rfl, trivial, by rw [ht]; exact hP, va_K.moved hW.alike hK, hD⟩, hS.F ht⟩) hS.2.2 dX2_plusYears_31
  · have c1 : n = 0 := (jd_ceq (a := n) (b := 0) (by omega) (by omega) (by omega) (by omega)).mp c1
    refine lv_aload_n hx hb dX2_plusYears_6 rfl (lv_at hl 0 rfl) ?_
    refine W.widen (k := 1) (n := 2) (Nat.le_of_ble_eq_true rfl) (Nat.le_of_ble_eq_true rfl) ?_
    rw [show y + n = y by omega]
    exact W.aret hx hb hr (Or.inl ⟨_, rfl⟩) (Or.inr ⟨_, rfl⟩) (fun t ht hW => ⟨⟨(), h0, rfl, trivial, by rw [ht]; exact hP, va_K.moved hW.alike hK, hD⟩, hS.F ht⟩) hS.2.2 dX2_plusYears_7
set_option maxHeartbeats 4000000 in
set_option maxRecDepth 100000 in
/-- YearMonth.plusMonths -/
theorem metX2_plusMonths (l : Launch) (D : va_G) (g : Nat → Nat) (h0 sz : Nat) (y mo : Int) (n : Int) (b1 : -9000000 ≤ y) (b2 : y ≤ 9000000) (m1 : 1 ≤ mo) (m2 : mo ≤ 12) (n1 : -999999 ≤ n) (n2 : n ≤ 999999) : Met l yX2_plusMonths (ws_ yX2_plusMonths cX2_plusMonths 9 (some (.object "YearMonth"))) (jd_rm 5 1 2) (jd_Pc [.ref h0, .long (jd_l n)] (fun U H => H.size = sz ∧ va_P D jd_cl [jd_ym h0 y mo] H ∧ va_K D jd_cl [] U ∧ jd_C g (va_A [jd_ym h0 y mo] sz) U H)) (va_Qr (fun _ : Unit => True) (fun _ a t => va_P D jd_cl [jd_ym a ((y * 12 + (mo - 1) + n) / 12) ((y * 12 + (mo - 1) + n) % 12 + 1)] t.heap ∧ va_K D jd_cl [] t ∧ va_D (va_A [jd_ym h0 y mo] sz) [jd_ym a ((y * 12 + (mo - 1) + n) / 12) ((y * 12 + (mo - 1) + n) % 12 + 1)]) (va_A [jd_ym h0 y mo] sz)) 1 2 (va_A [jd_ym h0 y mo] sz) := by
  refine Met.ofW (cc := cX2_plusMonths) (maxL := 9) (ret := (some (.object "YearMonth"))) (by decide) rfl ?_
  intro p e s m args below meth c s₁ B hml hv
  obtain ⟨rfl, hsz, hP, hK, hC⟩ := hv
  have hx := B.exec
  have hb := B.bytes
  have hr := B.returns
  have hts := atoms_spec (ws := (ws_ yX2_plusMonths cX2_plusMonths 9 (some (.object "YearMonth")))) B.pre
  have hts : ∀ w ∈ lw_all, w.before _ s = true := fun w h => hts w (List.mem_cons_of_mem _ h)
  have hown : s.vm.findClass RX2 = some m.cls := findClass_of_methodNamed B.named
  have hlocks := B.notSynchronized
  have y1 : -999999999 ≤ y := by omega
  have y2 : y ≤ 999999999 := by omega
  subst hsz
  have hD : va_D (va_A [jd_ym h0 y mo] s.heap.size) [jd_ym h0 y mo] := jd_D1 (Or.inl ⟨0, _, rfl⟩)
  generalize hAe : va_A [jd_ym h0 y mo] s.heap.size = A at hD hC ⊢
  have hA : ∀ q : Nat, s.heap.size ≤ q → A q := fun q h => by rw [← hAe]; exact Or.inr h
  have hS : va_S A s.heap s.heap [] := va_S.rf
  have hl := lv_entry ([.ref h0, .long (jd_l n)]) (n := 9) (Nat.le_of_ble_eq_true rfl)
  rw [lg_entry_eq]
  generalize (lg_sl ([.ref h0, .long (jd_l n)]) ++ List.replicate (9 - (lg_sl ([.ref h0, .long (jd_l n)])).length) Slot.unset).toArray = ls at hl ⊢
  have hl : lv_has ls 9 [(0, .ref h0), (1, .long (jd_l n))] := hl
  refine lv_lload_n hx hb dX2_plusMonths_0 rfl (lv_at hl 1 rfl) ?_
  refine lv_lconst (v := jd_l 0) hx hb dX2_plusMonths_1 (by decide) ?_
  refine W.lcmp hx hb dX2_plusMonths_2 ?_
  refine lv_if_ne (tgt := 8) hx hb dX2_plusMonths_3 (by decide) (fun c1 => ?_) (fun c1 => ?_)
  · have c1 : ¬ (n = 0) := fun z => c1 ((jd_ceq (a := n) (b := 0) (by omega) (by omega) (by omega) (by omega)).mpr z)
    refine lv_aload_n hx hb dX2_plusMonths_8 rfl (lv_at hl 0 rfl) ?_
    refine va_get (D := D) (ci := 1) (v := .int (jd_i y)) (C := RX2) (T := TX2) (N := 2) hx hb hts in_X2 hown hK hP 0 rfl rfl 0 (by decide) (hts _ q137) (fun _ h9 => h9) rfl dX2_plusMonths_9 ?_
    refine lv_i2l (v := jd_l y) hx hb dX2_plusMonths_12 (jd_i2l (by omega) (by omega)) ?_
    refine lv_ldc2 (v := jd_l 12) hx hb hown (hts _ q162) dX2_plusMonths_13 ?_
    refine lv_lmul hx hb dX2_plusMonths_16 ?_
    refine jd_tl (jd_l_mul _ _) ?_
    refine lv_aload_n hx hb dX2_plusMonths_17 rfl (lv_at hl 0 rfl) ?_
    refine va_get (D := D) (ci := 1) (v := .int (jd_i mo)) (C := RX2) (T := TX2) (N := 2) hx hb hts in_X2 hown hK hP 0 rfl rfl 1 (by decide) (hts _ q138) (fun _ h9 => h9) rfl dX2_plusMonths_18 ?_
    refine lv_iconst (v := jd_i 1) hx hb dX2_plusMonths_21 (by decide) ?_
    refine lv_isub hx hb dX2_plusMonths_22 ?_
    refine jd_ti (jd_i_sub _ _) ?_
    refine lv_i2l (v := jd_l (mo - 1)) hx hb dX2_plusMonths_23 (jd_i2l (by omega) (by omega)) ?_
    refine lv_ladd hx hb dX2_plusMonths_24 ?_
    refine jd_tl (jd_l_add _ _) ?_
    refine lv_lstore_n (lv' := [(3, .long (jd_l ((y * 12) + (mo - 1)))), (0, .ref h0), (1, .long (jd_l n))]) hx hb dX2_plusMonths_25 rfl hl (by decide) rfl (fun ls hl => ?_)
    refine lv_lload_n hx hb dX2_plusMonths_26 rfl (lv_at hl 0 rfl) ?_
    refine lv_lload_n hx hb dX2_plusMonths_27 rfl (lv_at hl 2 rfl) ?_
    refine lv_ladd hx hb dX2_plusMonths_28 ?_
    refine jd_tl (jd_l_add _ _) ?_
    refine lv_lstore (lv' := [(5, .long (jd_l (((y * 12) + (mo - 1)) + n))), (3, .long (jd_l ((y * 12) + (mo - 1)))), (0, .ref h0), (1, .long (jd_l n))]) hx hb dX2_plusMonths_29 hl (by decide) rfl (fun ls hl => ?_)
    refine jd_gets hx hb hC.1.1 hS hown (hts _ q33) (fun _ h9 => h9) dX2_plusMonths_31 ?_
    refine lv_lload hx hb dX2_plusMonths_34 (lv_at hl 0 rfl) ?_
    refine lv_ldc2 (v := jd_l 12) hx hb hown (hts _ q162) dX2_plusMonths_36 ?_
    refine vp_callSl (W.runS (As := [.long (jd_l (((y * 12) + (mo - 1)) + n)), .long (jd_l 12)]) (rest := [.ref (g 0)]) ⟨hx, hb, hml, hown, hts⟩ (metX6_floorDiv l (y * 12 + (mo - 1) + n) (by omega) (by omega)) (va_cwS 2 hts (lw_S q163 q164 q13 q165) rfl rfl rfl (by decide +kernel) ⟨Nat.le_of_ble_eq_true rfl, Nat.le_of_ble_eq_true rfl⟩) (jd_preS jd_mvT trivial) rfl rfl hl.1 rfl (lv_room (Nat.le_of_ble_eq_true rfl)) dX2_plusMonths_39 ⟨Nat.le_of_ble_eq_true rfl, Nat.le_of_ble_eq_true rfl⟩) (fun r_1 hr_1 => ?_)
    obtain rfl : (jd_l (((y * 12 + (mo - 1) + n) / 12))) = r_1 := Eq.symm hr_1
    refine vp_callSi (W.runV (As := [.long (jd_l ((y * 12 + (mo - 1) + n) / 12))]) (rest := []) ⟨hx, hb, hml, hown, hts⟩ (metX3_checkValidIntValue l (g 0) (g 1) (-999999999) 999999999 ((y * 12 + (mo - 1) + n) / 12) (by omega) (by omega) (by omega) (by omega)) (cwV 1 hts (lw_V q166 q167 q168 q7 q169) rfl rfl rfl (by decide +kernel) ⟨Nat.le_of_ble_eq_true rfl, Nat.le_of_ble_eq_true rfl⟩) (jd_preV jd_V.moved (va_Orecv hC.1.2.1 hS) (hC.1.2.narrow jd_nn)) rfl rfl hl.1 rfl (lv_room (Nat.le_of_ble_eq_true rfl)) dX2_plusMonths_42 ⟨Nat.le_of_ble_eq_true rfl, Nat.le_of_ble_eq_true rfl⟩) (fun r_2 hr_2 => ?_)
    obtain rfl : (jd_i (((y * 12 + (mo - 1) + n) / 12))) = r_2 := Eq.symm hr_2
    refine lv_istore (lv' := [(7, .int (jd_i ((y * 12 + (mo - 1) + n) / 12))), (5, .long (jd_l (((y * 12) + (mo - 1)) + n))), (3, .long (jd_l ((y * 12) + (mo - 1)))), (0, .ref h0), (1, .long (jd_l n))]) hx hb dX2_plusMonths_45 hl (by decide) rfl (fun ls hl => ?_)
    refine lv_lload hx hb dX2_plusMonths_47 (lv_at hl 1 rfl) ?_
    refine lv_bipush (v := jd_i 12) hx hb dX2_plusMonths_49 (by decide) ?_
    refine vp_callSi (W.runS (As := [.long (jd_l (((y * 12) + (mo - 1)) + n)), .int (jd_i 12)]) (rest := []) ⟨hx, hb, hml, hown, hts⟩ (metX6_floorMod l (y * 12 + (mo - 1) + n) (by omega) (by omega)) (va_cwS 2 hts (lw_S q184 q185 q13 q186) rfl rfl rfl (by decide +kernel) ⟨Nat.le_of_ble_eq_true rfl, Nat.le_of_ble_eq_true rfl⟩) (jd_preS jd_mvT trivial) rfl rfl hl.1 rfl (lv_room (Nat.le_of_ble_eq_true rfl)) dX2_plusMonths_51 ⟨Nat.le_of_ble_eq_true rfl, Nat.le_of_ble_eq_true rfl⟩) (fun r_3 hr_3 => ?_)
    obtain rfl : (jd_i (((y * 12 + (mo - 1) + n) % 12))) = r_3 := Eq.symm hr_3
    refine lv_iconst (v := jd_i 1) hx hb dX2_plusMonths_54 (by decide) ?_
    refine lv_iadd hx hb dX2_plusMonths_55 ?_
    refine jd_ti (jd_i_add _ _) ?_
    refine lv_istore (lv' := [(8, .int (jd_i (((y * 12 + (mo - 1) + n) % 12) + 1))), (7, .int (jd_i ((y * 12 + (mo - 1) + n) / 12))), (5, .long (jd_l (((y * 12) + (mo - 1)) + n))), (3, .long (jd_l ((y * 12) + (mo - 1)))), (0, .ref h0), (1, .long (jd_l n))]) hx hb dX2_plusMonths_56 hl (by decide) rfl (fun ls hl => ?_)
    refine lv_aload_n hx hb dX2_plusMonths_58 rfl (lv_at hl 4 rfl) ?_
    refine lv_iload hx hb dX2_plusMonths_59 (lv_at hl 1 rfl) ?_
    refine lv_iload hx hb dX2_plusMonths_61 (lv_at hl 0 rfl) ?_
    have hFc := va_free (wc := [jd_ym h0 y mo]) hD hS hA [0] rfl
    refine va_callr (va_runV (As := [.int (jd_i ((y * 12 + (mo - 1) + n) / 12)), .int (jd_i (((y * 12 + (mo - 1) + n) % 12) + 1))]) (rest := []) ⟨hx, hb, hml, hown, hts⟩ (metX2_with l D h0 s.heap.size y mo ((y * 12 + (mo - 1) + n) / 12) ((y * 12 + (mo - 1) + n) % 12 + 1) y1 y2 m1 m2 (by omega) (by omega) (by omega) (by omega)) (cwV 2 hts (lw_V q187 q189 qs1 q5 q190) rfl rfl rfl (by decide +kernel) ⟨Nat.le_of_ble_eq_true rfl, Nat.le_of_ble_eq_true rfl⟩) (jd_preV (jd_mvA (jd_mvZ _) (jd_mvA (jd_mvP _ _ _) (jd_mvK _ _ _))) (va_recv hK hP (ci := 1) (q0 := 0) rfl rfl) ⟨rfl, hP, hK⟩) rfl rfl hl.1 rfl (lv_room (Nat.le_of_ble_eq_true rfl)) dX2_plusMonths_63 ⟨Nat.le_of_ble_eq_true rfl, Nat.le_of_ble_eq_true rfl⟩) hS (fun q _ h => hFc q h) hFc (fun u_ q t H1 locs ht hvm hw1 hB hz1 hk1 hS => ?_)
    obtain ⟨hP1, hK1, hD1⟩ := hB
    rw [ht] at hP1
    obtain ⟨hP, hD⟩ := va_join (wr := []) (w1 := [jd_ym q ((y * 12 + (mo - 1) + n) / 12) ((y * 12 + (mo - 1) + n) % 12 + 1)]) hP hD [0] [] rfl rfl (by decide) (by decide) hk1 hFc hP1 hD1
    generalize H1 = H at hP hS ⊢
    have hP : va_P D jd_cl [jd_ym q ((y * 12 + (mo - 1) + n) / 12) ((y * 12 + (mo - 1) + n) % 12 + 1)] H := hP
    have hD : va_D A [jd_ym q ((y * 12 + (mo - 1) + n) / 12) ((y * 12 + (mo - 1) + n) % 12 + 1)] := hD
    exact W.aret hx hb hr (Or.inl ⟨_, rfl⟩) (Or.inr ⟨_, rfl⟩) (fun t ht hW => ⟨⟨(), q, rfl, trivial, by rw [ht]; exact hP, va_K.moved hW.alike hK, hD⟩, hS.F ht⟩) hS.2.2 dX2_plusMonths_66
  · have c1 : n = 0 := (jd_ceq (a := n) (b := 0) (by omega) (by omega) (by omega) (by omega)).mp c1
    refine lv_aload_n hx hb dX2_plusMonths_6 rfl (lv_at hl 0 rfl) ?_
    refine W.widen (k := 1) (n := 2) (Nat.le_of_ble_eq_true rfl) (Nat.le_of_ble_eq_true rfl) ?_
    rw [show (y * 12 + (mo - 1) + n) / 12 = y by omega, show (y * 12 + (mo - 1) + n) % 12 + 1 = mo by omega]
    exact W.aret hx hb hr (Or.inl ⟨_, rfl⟩) (Or.inr ⟨_, rfl⟩) (fun t ht hW => ⟨⟨(), h0, rfl, trivial, by rw [ht]; exact hP, va_K.moved hW.alike hK, hD⟩, hS.F ht⟩) hS.2.2 dX2_plusMonths_7
set_option maxHeartbeats 4000000 in
set_option maxRecDepth 100000 in
/-- YearMonth.getYear -/
theorem metX2_getYear (l : Launch) (D : va_G) (h0 : Nat) (y mo : Int) : Met l yX2_getYear (ws_ yX2_getYear cX2_getYear 1 (some .int)) (jd_rm 0 0 0) (jd_Pc [.ref h0] (fun U H => va_P D jd_cl [jd_ym h0 y mo] H ∧ va_K D jd_cl [] U)) (vp_Si (fun z => z = jd_i y)) 0 0 (fun _ => False) := by
  refine Met.ofW (cc := cX2_getYear) (maxL := 1) (ret := (some .int)) (by decide) rfl ?_
  intro p e s m args below meth c s₁ B hml hv
  obtain ⟨rfl, hP, hK⟩ := hv
  have hx := B.exec
  have hb := B.bytes
  have hr := B.returns
  have hts := atoms_spec (ws := (ws_ yX2_getYear cX2_getYear 1 (some .int))) B.pre
  have hts : ∀ w ∈ lw_all, w.before _ s = true := fun w h => hts w (List.mem_cons_of_mem _ h)
  have hown : s.vm.findClass RX2 = some m.cls := findClass_of_methodNamed B.named
  have hlocks := B.notSynchronized
  have hS : va_S jd_no s.heap s.heap [] := va_S.rf
  have hl := lv_entry ([.ref h0]) (n := 1) (Nat.le_of_ble_eq_true rfl)
  rw [lg_entry_eq]
  generalize (lg_sl ([.ref h0]) ++ List.replicate (1 - (lg_sl ([.ref h0])).length) Slot.unset).toArray = ls at hl ⊢
  have hl : lv_has ls 1 [(0, .ref h0)] := hl
  refine lv_aload_n hx hb dX2_getYear_0 rfl (lv_at hl 0 rfl) ?_
  refine va_get (D := D) (ci := 1) (v := .int (jd_i y)) (C := RX2) (T := TX2) (N := 2) hx hb hts in_X2 hown hK hP 0 rfl rfl 0 (by decide) (hts _ q137) (fun _ h9 => h9) rfl dX2_getYear_1 ?_
  exact W.iret hx hb hr (fun t ht hW => ⟨_, rfl, rfl, ht⟩) (fun _ h => by cases h) dX2_getYear_4
set_option maxHeartbeats 4000000 in
set_option maxRecDepth 100000 in
/-- YearMonth.getMonthValue -/
theorem metX2_getMonthValue (l : Launch) (D : va_G) (h0 : Nat) (y mo : Int) : Met l yX2_getMonthValue (ws_ yX2_getMonthValue cX2_getMonthValue 1 (some .int)) (jd_rm 0 0 0) (jd_Pc [.ref h0] (fun U H => va_P D jd_cl [jd_ym h0 y mo] H ∧ va_K D jd_cl [] U)) (vp_Si (fun z => z = jd_i mo)) 0 0 (fun _ => False) := by
  refine Met.ofW (cc := cX2_getMonthValue) (maxL := 1) (ret := (some .int)) (by decide) rfl ?_
  intro p e s m args below meth c s₁ B hml hv
  obtain ⟨rfl, hP, hK⟩ := hv
  have hx := B.exec
  have hb := B.bytes
  have hr := B.returns
  have hts := atoms_spec (ws := (ws_ yX2_getMonthValue cX2_getMonthValue 1 (some .int))) B.pre
  have hts : ∀ w ∈ lw_all, w.before _ s = true := fun w h => hts w (List.mem_cons_of_mem _ h)
  have hown : s.vm.findClass RX2 = some m.cls := findClass_of_methodNamed B.named
  have hlocks := B.notSynchronized
  have hS : va_S jd_no s.heap s.heap [] := va_S.rf
  have hl := lv_entry ([.ref h0]) (n := 1) (Nat.le_of_ble_eq_true rfl)
  rw [lg_entry_eq]
  generalize (lg_sl ([.ref h0]) ++ List.replicate (1 - (lg_sl ([.ref h0])).length) Slot.unset).toArray = ls at hl ⊢
  have hl : lv_has ls 1 [(0, .ref h0)] := hl
  refine lv_aload_n hx hb dX2_getMonthValue_0 rfl (lv_at hl 0 rfl) ?_
  refine va_get (D := D) (ci := 1) (v := .int (jd_i mo)) (C := RX2) (T := TX2) (N := 2) hx hb hts in_X2 hown hK hP 0 rfl rfl 1 (by decide) (hts _ q138) (fun _ h9 => h9) rfl dX2_getMonthValue_1 ?_
  exact W.iret hx hb hr (fun t ht hW => ⟨_, rfl, rfl, ht⟩) (fun _ h => by cases h) dX2_getMonthValue_4
set_option maxHeartbeats 4000000 in
set_option maxRecDepth 100000 in
/-- YearMonth.getMonth -/
theorem metX2_getMonth (l : Launch) (D : va_G) (g : Nat → Nat) (h0 : Nat) (y : Int) (j : Nat) (hj : j < 12) : Met l yX2_getMonth (ws_ yX2_getMonth cX2_getMonth 1 (some (.object "Month"))) (jd_rm 1 0 0) (jd_Pc [.ref h0] (fun U H => va_P D jd_cl [jd_ym h0 y ((j : Int) + 1)] H ∧ va_K D jd_cl [] U ∧ jd_E g jd_no U H)) (va_Sr (fun k => k = g (8 + j)) (fun k => .ref k)) 0 0 (fun _ => False) := by
  refine Met.ofW (cc := cX2_getMonth) (maxL := 1) (ret := (some (.object "Month"))) (by decide) rfl ?_
  intro p e s m args below meth c s₁ B hml hv
  obtain ⟨rfl, hP, hK, hE⟩ := hv
  have hx := B.exec
  have hb := B.bytes
  have hr := B.returns
  have hts := atoms_spec (ws := (ws_ yX2_getMonth cX2_getMonth 1 (some (.object "Month")))) B.pre
  have hts : ∀ w ∈ lw_all, w.before _ s = true := fun w h => hts w (List.mem_cons_of_mem _ h)
  have hown : s.vm.findClass RX2 = some m.cls := findClass_of_methodNamed B.named
  have hlocks := B.notSynchronized
  have hS : va_S jd_no s.heap s.heap [] := va_S.rf
  have hl := lv_entry ([.ref h0]) (n := 1) (Nat.le_of_ble_eq_true rfl)
  rw [lg_entry_eq]
  generalize (lg_sl ([.ref h0]) ++ List.replicate (1 - (lg_sl ([.ref h0])).length) Slot.unset).toArray = ls at hl ⊢
  have hl : lv_has ls 1 [(0, .ref h0)] := hl
  refine lv_aload_n hx hb dX2_getMonth_0 rfl (lv_at hl 0 rfl) ?_
  refine va_get (D := D) (ci := 1) (v := .int (jd_i (((j : Int) + 1)))) (C := RX2) (T := TX2) (N := 2) hx hb hts in_X2 hown hK hP 0 rfl rfl 1 (by decide) (hts _ q138) (fun _ h9 => h9) rfl dX2_getMonth_1 ?_
  refine va_csr (W.runS (As := [.int (jd_i (((j : Int) + 1)))]) (rest := []) ⟨hx, hb, hml, hown, hts⟩ (metX7_of l g j hj) (va_cwS 1 hts (lw_S q245 q246 q14 q247) rfl rfl rfl (by decide +kernel) ⟨Nat.le_of_ble_eq_true rfl, Nat.le_of_ble_eq_true rfl⟩) (jd_preS jd_E.moved hE) rfl rfl hl.1 rfl (lv_room (Nat.le_of_ble_eq_true rfl)) dX2_getMonth_4 ⟨Nat.le_of_ble_eq_true rfl, Nat.le_of_ble_eq_true rfl⟩) (fun r_1 hr_1 => ?_)
  obtain rfl : ((g (8 + j))) = r_1 := Eq.symm hr_1
  exact W.aret hx hb hr (Or.inl ⟨_, rfl⟩) (Or.inr ⟨_, rfl⟩) (fun t ht hW => ⟨_, rfl, rfl, ht⟩) (fun _ h => by cases h) dX2_getMonth_7
set_option maxHeartbeats 4000000 in
set_option maxRecDepth 100000 in
/-- YearMonth.isLeapYear -/
theorem metX2_isLeapYear (l : Launch) (D : va_G) (g : Nat → Nat) (h0 : Nat) (y mo : Int) (y1 : -999999999 ≤ y) (y2 : y ≤ 999999999) : Met l yX2_isLeapYear (ws_ yX2_isLeapYear cX2_isLeapYear 1 (some .boolean)) (jd_rm 1 0 0) (jd_Pc [.ref h0] (fun U H => va_P D jd_cl [jd_ym h0 y mo] H ∧ va_K D jd_cl [] U ∧ jd_I g jd_no U H)) (vp_Si (fun z => z = jd_b (jd_lp y))) 0 0 (fun _ => False) := by
  refine Met.ofW (cc := cX2_isLeapYear) (maxL := 1) (ret := (some .boolean)) (by decide) rfl ?_
  intro p e s m args below meth c s₁ B hml hv
  obtain ⟨rfl, hP, hK, hI⟩ := hv
  have hx := B.exec
  have hb := B.bytes
  have hr := B.returns
  have hts := atoms_spec (ws := (ws_ yX2_isLeapYear cX2_isLeapYear 1 (some .boolean))) B.pre
  have hts : ∀ w ∈ lw_all, w.before _ s = true := fun w h => hts w (List.mem_cons_of_mem _ h)
  have hown : s.vm.findClass RX2 = some m.cls := findClass_of_methodNamed B.named
  have hlocks := B.notSynchronized
  have hS : va_S jd_no s.heap s.heap [] := va_S.rf
  have hl := lv_entry ([.ref h0]) (n := 1) (Nat.le_of_ble_eq_true rfl)
  rw [lg_entry_eq]
  generalize (lg_sl ([.ref h0]) ++ List.replicate (1 - (lg_sl ([.ref h0])).length) Slot.unset).toArray = ls at hl ⊢
  have hl : lv_has ls 1 [(0, .ref h0)] := hl
  refine jd_gets hx hb hI.1 hS hown (hts _ q257) (fun _ h9 => h9) dX2_isLeapYear_0 ?_
  refine lv_aload_n hx hb dX2_isLeapYear_3 rfl (lv_at hl 0 rfl) ?_
  refine va_get (D := D) (ci := 1) (v := .int (jd_i y)) (C := RX2) (T := TX2) (N := 2) hx hb hts in_X2 hown hK hP 0 rfl rfl 0 (by decide) (hts _ q137) (fun _ h9 => h9) rfl dX2_isLeapYear_4 ?_
  refine lv_i2l (v := jd_l y) hx hb dX2_isLeapYear_7 (jd_i2l (by omega) (by omega)) ?_
  refine vp_callSi (W.runV (As := [.long (jd_l y)]) (rest := []) ⟨hx, hb, hml, hown, hts⟩ (metX8_isLeapYear l (g 7) y (by omega) (by omega)) (cwV 1 hts (lw_V q259 q260 q261 q16 q262) rfl rfl rfl (by decide +kernel) ⟨Nat.le_of_ble_eq_true rfl, Nat.le_of_ble_eq_true rfl⟩) (jd_preV jd_mvT (va_Orecv hI.2 hS) trivial) rfl rfl hl.1 rfl (lv_room (Nat.le_of_ble_eq_true rfl)) dX2_isLeapYear_8 ⟨Nat.le_of_ble_eq_true rfl, Nat.le_of_ble_eq_true rfl⟩) (fun r_1 hr_1 => ?_)
  obtain rfl : (jd_b (jd_lp y)) = r_1 := Eq.symm hr_1
  exact W.zret hx hb hr (by cases jd_lp y <;> rfl) (fun t ht hW => ⟨_, rfl, rfl, ht⟩) (fun _ h => by cases h) dX2_isLeapYear_11
set_option maxHeartbeats 4000000 in
set_option maxRecDepth 100000 in
/-- YearMonth.lengthOfMonth -/
theorem metX2_lengthOfMonth (l : Launch) (D : va_G) (g : Nat → Nat) (h0 : Nat) (y : Int) (j : Nat) (hj : j < 12) (y1 : -999999999 ≤ y) (y2 : y ≤ 999999999) : Met l yX2_lengthOfMonth (ws_ yX2_lengthOfMonth cX2_lengthOfMonth 1 (some .int)) (jd_rm 2 0 0) (jd_Pc [.ref h0] (fun U H => va_P D jd_cl [jd_ym h0 y ((j : Int) + 1)] H ∧ va_K D jd_cl [] U ∧ jd_E g jd_no U H ∧ jd_I g jd_no U H)) (vp_Si (fun z => z = jd_i (jd_dm (jd_lp y) ((j : Int) + 1)))) 0 0 (fun _ => False) := by
  refine Met.ofW (cc := cX2_lengthOfMonth) (maxL := 1) (ret := (some .int)) (by decide) rfl ?_
  intro p e s m args below meth c s₁ B hml hv
  obtain ⟨rfl, hP, hK, hE, hI⟩ := hv
  have hx := B.exec
  have hb := B.bytes
  have hr := B.returns
  have hts := atoms_spec (ws := (ws_ yX2_lengthOfMonth cX2_lengthOfMonth 1 (some .int))) B.pre
  have hts : ∀ w ∈ lw_all, w.before _ s = true := fun w h => hts w (List.mem_cons_of_mem _ h)
  have hown : s.vm.findClass RX2 = some m.cls := findClass_of_methodNamed B.named
  have hlocks := B.notSynchronized
  have hS : va_S jd_no s.heap s.heap [] := va_S.rf
  have hl := lv_entry ([.ref h0]) (n := 1) (Nat.le_of_ble_eq_true rfl)
  rw [lg_entry_eq]
  generalize (lg_sl ([.ref h0]) ++ List.replicate (1 - (lg_sl ([.ref h0])).length) Slot.unset).toArray = ls at hl ⊢
  have hl : lv_has ls 1 [(0, .ref h0)] := hl
  refine lv_aload_n hx hb dX2_lengthOfMonth_0 rfl (lv_at hl 0 rfl) ?_
  refine va_csr (W.runV (As := []) (rest := []) ⟨hx, hb, hml, hown, hts⟩ (metX2_getMonth l D g h0 y j hj) (cwV 0 hts (lw_V q241 q242 q243 q5 q244) rfl rfl rfl (by decide +kernel) ⟨Nat.le_of_ble_eq_true rfl, Nat.le_of_ble_eq_true rfl⟩) (jd_preV (jd_mvA (jd_mvP _ _ _) (jd_mvA (jd_mvK _ _ _) jd_E.moved)) (va_recv hK hP (ci := 1) (q0 := 0) rfl rfl) ⟨hP, hK, hE⟩) rfl rfl hl.1 rfl (lv_room (Nat.le_of_ble_eq_true rfl)) dX2_lengthOfMonth_1 ⟨Nat.le_of_ble_eq_true rfl, Nat.le_of_ble_eq_true rfl⟩) (fun r_1 hr_1 => ?_)
  obtain rfl : ((g (8 + j))) = r_1 := Eq.symm hr_1
  refine lv_aload_n hx hb dX2_lengthOfMonth_4 rfl (lv_at hl 0 rfl) ?_
  refine vp_callSi (W.runV (As := []) (rest := [.ref ((g (8 + j)))]) ⟨hx, hb, hml, hown, hts⟩ (metX2_isLeapYear l D g h0 y ((j : Int) + 1) y1 y2) (cwV 0 hts (lw_V q253 q254 q255 q5 q256) rfl rfl rfl (by decide +kernel) ⟨Nat.le_of_ble_eq_true rfl, Nat.le_of_ble_eq_true rfl⟩) (jd_preV (jd_mvA (jd_mvP _ _ _) (jd_mvA (jd_mvK _ _ _) jd_I.moved)) (va_recv hK hP (ci := 1) (q0 := 0) rfl rfl) ⟨hP, hK, hI⟩) rfl rfl hl.1 rfl (lv_room (Nat.le_of_ble_eq_true rfl)) dX2_lengthOfMonth_5 ⟨Nat.le_of_ble_eq_true rfl, Nat.le_of_ble_eq_true rfl⟩) (fun r_2 hr_2 => ?_)
  obtain rfl : (jd_b (jd_lp y)) = r_2 := Eq.symm hr_2
  refine vp_callSi (W.runV (As := [.int (jd_b (jd_lp y))]) (rest := []) ⟨hx, hb, hml, hown, hts⟩ (metX7_length l j (g (8 + j)) (jd_lp y) hj) (cwV 1 hts (lw_V q266 q267 q268 q14 q269) rfl rfl rfl (by decide +kernel) ⟨Nat.le_of_ble_eq_true rfl, Nat.le_of_ble_eq_true rfl⟩) (jd_preV jd_Mo.moved (va_Orecv (hE.2.2 j hj).1 hS) (hE.2.2 j hj)) rfl rfl hl.1 rfl (lv_room (Nat.le_of_ble_eq_true rfl)) dX2_lengthOfMonth_8 ⟨Nat.le_of_ble_eq_true rfl, Nat.le_of_ble_eq_true rfl⟩) (fun r_3 hr_3 => ?_)
  obtain rfl : (jd_i ((jd_dm (jd_lp y) ((j : Int) + 1)))) = r_3 := Eq.symm hr_3
  exact W.iret hx hb hr (fun t ht hW => ⟨_, rfl, rfl, ht⟩) (fun _ h => by cases h) dX2_lengthOfMonth_11
set_option maxHeartbeats 4000000 in
set_option maxRecDepth 100000 in
/-- YearMonth.lengthOfYear -/
theorem metX2_lengthOfYear (l : Launch) (D : va_G) (g : Nat → Nat) (h0 : Nat) (y mo : Int) (y1 : -999999999 ≤ y) (y2 : y ≤ 999999999) : Met l yX2_lengthOfYear (ws_ yX2_lengthOfYear cX2_lengthOfYear 1 (some .int)) (jd_rm 2 0 0) (jd_Pc [.ref h0] (fun U H => va_P D jd_cl [jd_ym h0 y mo] H ∧ va_K D jd_cl [] U ∧ jd_I g jd_no U H)) (vp_Si (fun z => z = jd_i (jd_dy (jd_lp y)))) 0 0 (fun _ => False) := by
  refine Met.ofW (cc := cX2_lengthOfYear) (maxL := 1) (ret := (some .int)) (by decide) rfl ?_
  intro p e s m args below meth c s₁ B hml hv
  obtain ⟨rfl, hP, hK, hI⟩ := hv
  have hx := B.exec
  have hb := B.bytes
  have hr := B.returns
  have hts := atoms_spec (ws := (ws_ yX2_lengthOfYear cX2_lengthOfYear 1 (some .int))) B.pre
  have hts : ∀ w ∈ lw_all, w.before _ s = true := fun w h => hts w (List.mem_cons_of_mem _ h)
  have hown : s.vm.findClass RX2 = some m.cls := findClass_of_methodNamed B.named
  have hlocks := B.notSynchronized
  have hS : va_S jd_no s.heap s.heap [] := va_S.rf
  have hl := lv_entry ([.ref h0]) (n := 1) (Nat.le_of_ble_eq_true rfl)
  rw [lg_entry_eq]
  generalize (lg_sl ([.ref h0]) ++ List.replicate (1 - (lg_sl ([.ref h0])).length) Slot.unset).toArray = ls at hl ⊢
  have hl : lv_has ls 1 [(0, .ref h0)] := hl
  refine lv_aload_n hx hb dX2_lengthOfYear_0 rfl (lv_at hl 0 rfl) ?_
  refine vp_callSi (W.runV (As := []) (rest := []) ⟨hx, hb, hml, hown, hts⟩ (metX2_isLeapYear l D g h0 y mo y1 y2) (cwV 0 hts (lw_V q253 q254 q255 q5 q256) rfl rfl rfl (by decide +kernel) ⟨Nat.le_of_ble_eq_true rfl, Nat.le_of_ble_eq_true rfl⟩) (jd_preV (jd_mvA (jd_mvP _ _ _) (jd_mvA (jd_mvK _ _ _) jd_I.moved)) (va_recv hK hP (ci := 1) (q0 := 0) rfl rfl) ⟨hP, hK, hI⟩) rfl rfl hl.1 rfl (lv_room (Nat.le_of_ble_eq_true rfl)) dX2_lengthOfYear_1 ⟨Nat.le_of_ble_eq_true rfl, Nat.le_of_ble_eq_true rfl⟩) (fun r_1 hr_1 => ?_)
  obtain rfl : (jd_b (jd_lp y)) = r_1 := Eq.symm hr_1
  refine lv_if_eq (tgt := 13) hx hb dX2_lengthOfYear_4 (by decide) (fun c2 => ?_) (fun c2 => ?_)
  · have c3 : jd_lp y = false := jd_b0.mp c2
    refine lv_sipush (v := jd_i 365) hx hb dX2_lengthOfYear_13 (by decide) ?_
    exact W.iret hx hb hr (fun t ht hW => ⟨_, rfl, (by rw [c3]; rfl), ht⟩) (fun _ h => by cases h) dX2_lengthOfYear_16
  · have c3 : jd_lp y = true := jd_b1 c2
    refine lv_sipush (v := jd_i 366) hx hb dX2_lengthOfYear_7 (by decide) ?_
    refine lv_goto (tgt := 16) hx hb dX2_lengthOfYear_10 (by decide) ?_
    exact W.iret hx hb hr (fun t ht hW => ⟨_, rfl, (by rw [c3]; rfl), ht⟩) (fun _ h => by cases h) dX2_lengthOfYear_16
set_option maxHeartbeats 4000000 in
set_option maxRecDepth 100000 in
/-- YearMonth.atDay -/
theorem metX2_atDay (l : Launch) (D : va_G) (g : Nat → Nat) (h0 sz : Nat) (y : Int) (j : Nat) (d : Int) (hj : j < 12) (y1 : -999999999 ≤ y) (y2 : y ≤ 999999999) (d1 : 1 ≤ d) (d2 : d ≤ 28) : Met l yX2_atDay (ws_ yX2_atDay cX2_atDay 2 (some (.object "LocalDate"))) (jd_rm 7 1 3) (jd_Pc [.ref h0, .int (jd_i d)] (fun U H => H.size = sz ∧ va_P D jd_cl [jd_ym h0 y ((j : Int) + 1)] H ∧ va_K D jd_cl [] U ∧ jd_C g (va_A [] sz) U H)) (va_Qr (fun _ : Unit => True) (fun _ a t => va_P D jd_cl [jd_ld a y ((j : Int) + 1) d] t.heap ∧ va_K D jd_cl [] t ∧ va_D (va_A [] sz) [jd_ld a y ((j : Int) + 1) d]) (va_A [] sz)) 1 3 (va_A [] sz) := by
  refine Met.ofW (cc := cX2_atDay) (maxL := 2) (ret := (some (.object "LocalDate"))) (by decide) rfl ?_
  intro p e s m args below meth c s₁ B hml hv
  obtain ⟨rfl, hsz, hP, hK, hC⟩ := hv
  have hx := B.exec
  have hb := B.bytes
  have hr := B.returns
  have hts := atoms_spec (ws := (ws_ yX2_atDay cX2_atDay 2 (some (.object "LocalDate")))) B.pre
  have hts : ∀ w ∈ lw_all, w.before _ s = true := fun w h => hts w (List.mem_cons_of_mem _ h)
  have hown : s.vm.findClass RX2 = some m.cls := findClass_of_methodNamed B.named
  have hlocks := B.notSynchronized
  have d3 := jd_dm_rg (jd_lp y) ((j : Int) + 1)
  subst hsz
  have hD : va_D (va_A [] s.heap.size) [] := jd_D0
  generalize hAe : va_A [] s.heap.size = A at hD hC ⊢
  have hA : ∀ q : Nat, s.heap.size ≤ q → A q := fun q h => by rw [← hAe]; exact Or.inr h
  have hS : va_S A s.heap s.heap [] := va_S.rf
  have hl := lv_entry ([.ref h0, .int (jd_i d)]) (n := 2) (Nat.le_of_ble_eq_true rfl)
  rw [lg_entry_eq]
  generalize (lg_sl ([.ref h0, .int (jd_i d)]) ++ List.replicate (2 - (lg_sl ([.ref h0, .int (jd_i d)])).length) Slot.unset).toArray = ls at hl ⊢
  have hl : lv_has ls 2 [(0, .ref h0), (1, .int (jd_i d))] := hl
  refine lv_aload_n hx hb dX2_atDay_0 rfl (lv_at hl 0 rfl) ?_
  refine va_get (D := D) (ci := 1) (v := .int (jd_i y)) (C := RX2) (T := TX2) (N := 2) hx hb hts in_X2 hown hK hP 0 rfl rfl 0 (by decide) (hts _ q137) (fun _ h9 => h9) rfl dX2_atDay_1 ?_
  refine lv_aload_n hx hb dX2_atDay_4 rfl (lv_at hl 0 rfl) ?_
  refine va_get (D := D) (ci := 1) (v := .int (jd_i (((j : Int) + 1)))) (C := RX2) (T := TX2) (N := 2) hx hb hts in_X2 hown hK hP 0 rfl rfl 1 (by decide) (hts _ q138) (fun _ h9 => h9) rfl dX2_atDay_5 ?_
  refine lv_iload_n hx hb dX2_atDay_8 rfl (lv_at hl 1 rfl) ?_
  have hP : va_P D jd_cl [] s.heap := jd_P0
  have hFc := va_free (wc := []) hD hS hA [] rfl
  refine va_callr (va_runS (As := [.int (jd_i y), .int (jd_i (((j : Int) + 1))), .int (jd_i d)]) (rest := []) ⟨hx, hb, hml, hown, hts⟩ (metX11_of l D g j s.heap.size y d y1 y2 hj (by omega) (by omega)) (va_cwS 3 hts (lw_S q297 q298 q19 q299) rfl rfl rfl (by decide +kernel) ⟨Nat.le_of_ble_eq_true rfl, Nat.le_of_ble_eq_true rfl⟩) (jd_preS (jd_mvA (jd_mvZ _) (jd_mvA (jd_mvK _ _ _) jd_C.moved)) ⟨rfl, hK, hC.narrow hFc⟩) rfl rfl hl.1 rfl (lv_room (Nat.le_of_ble_eq_true rfl)) dX2_atDay_9 ⟨Nat.le_of_ble_eq_true rfl, Nat.le_of_ble_eq_true rfl⟩) hS (fun q _ h => hFc q h) hFc (fun u_ q t H1 locs ht hvm hw1 hB hz1 hk1 hS => ?_)
  obtain ⟨hP1, hK1, hD1⟩ := hB
  rw [ht] at hP1
  obtain ⟨hP, hD⟩ := va_join (wr := []) (w1 := [jd_ld q y ((j : Int) + 1) d]) hP hD [] [] rfl rfl (by decide) (by decide) hk1 hFc hP1 hD1
  generalize H1 = H at hP hS ⊢
  have hP : va_P D jd_cl [jd_ld q y ((j : Int) + 1) d] H := hP
  have hD : va_D A [jd_ld q y ((j : Int) + 1) d] := hD
  exact W.aret hx hb hr (Or.inl ⟨_, rfl⟩) (Or.inr ⟨_, rfl⟩) (fun t ht hW => ⟨⟨(), q, rfl, trivial, by rw [ht]; exact hP, va_K.moved hW.alike hK, hD⟩, hS.F ht⟩) hS.2.2 dX2_atDay_12
set_option maxHeartbeats 4000000 in
set_option maxRecDepth 100000 in
/-- YearMonth.atEndOfMonth -/
theorem metX2_atEndOfMonth (l : Launch) (D : va_G) (g : Nat → Nat) (h0 sz : Nat) (y : Int) (j : Nat) (hj : j < 12) (y1 : -999999999 ≤ y) (y2 : y ≤ 999999999) : Met l yX2_atEndOfMonth (ws_ yX2_atEndOfMonth cX2_atEndOfMonth 1 (some (.object "LocalDate"))) (jd_rm 7 1 3) (jd_Pc [.ref h0] (fun U H => H.size = sz ∧ va_P D jd_cl [jd_ym h0 y ((j : Int) + 1)] H ∧ va_K D jd_cl [] U ∧ jd_C g (va_A [] sz) U H)) (va_Qr (fun _ : Unit => True) (fun _ a t => va_P D jd_cl [jd_ld a y ((j : Int) + 1) (jd_dm (jd_lp y) ((j : Int) + 1))] t.heap ∧ va_K D jd_cl [] t ∧ va_D (va_A [] sz) [jd_ld a y ((j : Int) + 1) (jd_dm (jd_lp y) ((j : Int) + 1))]) (va_A [] sz)) 1 3 (va_A [] sz) := by
  refine Met.ofW (cc := cX2_atEndOfMonth) (maxL := 1) (ret := (some (.object "LocalDate"))) (by decide) rfl ?_
  intro p e s m args below meth c s₁ B hml hv
  obtain ⟨rfl, hsz, hP, hK, hC⟩ := hv
  have hx := B.exec
  have hb := B.bytes
  have hr := B.returns
  have hts := atoms_spec (ws := (ws_ yX2_atEndOfMonth cX2_atEndOfMonth 1 (some (.object "LocalDate")))) B.pre
  have hts : ∀ w ∈ lw_all, w.before _ s = true := fun w h => hts w (List.mem_cons_of_mem _ h)
  have hown : s.vm.findClass RX2 = some m.cls := findClass_of_methodNamed B.named
  have hlocks := B.notSynchronized
  have d3 := jd_dm_rg (jd_lp y) ((j : Int) + 1)
  subst hsz
  have hD : va_D (va_A [] s.heap.size) [] := jd_D0
  generalize hAe : va_A [] s.heap.size = A at hD hC ⊢
  have hA : ∀ q : Nat, s.heap.size ≤ q → A q := fun q h => by rw [← hAe]; exact Or.inr h
  have hS : va_S A s.heap s.heap [] := va_S.rf
  have hl := lv_entry ([.ref h0]) (n := 1) (Nat.le_of_ble_eq_true rfl)
  rw [lg_entry_eq]
  generalize (lg_sl ([.ref h0]) ++ List.replicate (1 - (lg_sl ([.ref h0])).length) Slot.unset).toArray = ls at hl ⊢
  have hl : lv_has ls 1 [(0, .ref h0)] := hl
  refine lv_aload_n hx hb dX2_atEndOfMonth_0 rfl (lv_at hl 0 rfl) ?_
  refine va_get (D := D) (ci := 1) (v := .int (jd_i y)) (C := RX2) (T := TX2) (N := 2) hx hb hts in_X2 hown hK hP 0 rfl rfl 0 (by decide) (hts _ q137) (fun _ h9 => h9) rfl dX2_atEndOfMonth_1 ?_
  refine lv_aload_n hx hb dX2_atEndOfMonth_4 rfl (lv_at hl 0 rfl) ?_
  refine va_get (D := D) (ci := 1) (v := .int (jd_i (((j : Int) + 1)))) (C := RX2) (T := TX2) (N := 2) hx hb hts in_X2 hown hK hP 0 rfl rfl 1 (by decide) (hts _ q138) (fun _ h9 => h9) rfl dX2_atEndOfMonth_5 ?_
  refine lv_aload_n hx hb dX2_atEndOfMonth_8 rfl (lv_at hl 0 rfl) ?_
  refine vp_callSi (W.runV (As := []) (rest := [.int (jd_i (((j : Int) + 1))), .int (jd_i y)]) ⟨hx, hb, hml, hown, hts⟩ (metX2_lengthOfMonth l D g h0 y j hj y1 y2) (cwV 0 hts (lw_V q372 q238 q239 q5 q240) rfl rfl rfl (by decide +kernel) ⟨Nat.le_of_ble_eq_true rfl, Nat.le_of_ble_eq_true rfl⟩) (jd_preV (jd_mvA (jd_mvP _ _ _) (jd_mvA (jd_mvK _ _ _) (jd_mvA jd_E.moved jd_I.moved))) (va_recv hK hP (ci := 1) (q0 := 0) rfl rfl) ⟨hP, hK, hC.2.2.2.1.narrow jd_nn, hC.2.2.2.2.narrow jd_nn⟩) rfl rfl hl.1 rfl (lv_room (Nat.le_of_ble_eq_true rfl)) dX2_atEndOfMonth_9 ⟨Nat.le_of_ble_eq_true rfl, Nat.le_of_ble_eq_true rfl⟩) (fun r_1 hr_1 => ?_)
  obtain rfl : (jd_i ((jd_dm (jd_lp y) ((j : Int) + 1)))) = r_1 := Eq.symm hr_1
  have hP : va_P D jd_cl [] s.heap := jd_P0
  have hFc := va_free (wc := []) hD hS hA [] rfl
  refine va_callr (va_runS (As := [.int (jd_i y), .int (jd_i (((j : Int) + 1))), .int (jd_i ((jd_dm (jd_lp y) ((j : Int) + 1))))]) (rest := []) ⟨hx, hb, hml, hown, hts⟩ (metX11_of l D g j s.heap.size y (jd_dm (jd_lp y) ((j : Int) + 1)) y1 y2 hj (by omega) (by omega)) (va_cwS 3 hts (lw_S q297 q298 q19 q299) rfl rfl rfl (by decide +kernel) ⟨Nat.le_of_ble_eq_true rfl, Nat.le_of_ble_eq_true rfl⟩) (jd_preS (jd_mvA (jd_mvZ _) (jd_mvA (jd_mvK _ _ _) jd_C.moved)) ⟨rfl, hK, hC.narrow hFc⟩) rfl rfl hl.1 rfl (lv_room (Nat.le_of_ble_eq_true rfl)) dX2_atEndOfMonth_12 ⟨Nat.le_of_ble_eq_true rfl, Nat.le_of_ble_eq_true rfl⟩) hS (fun q _ h => hFc q h) hFc (fun u_ q t H1 locs ht hvm hw1 hB hz1 hk1 hS => ?_)
  obtain ⟨hP1, hK1, hD1⟩ := hB
  rw [ht] at hP1
  obtain ⟨hP, hD⟩ := va_join (wr := []) (w1 := [jd_ld q y ((j : Int) + 1) (jd_dm (jd_lp y) ((j : Int) + 1))]) hP hD [] [] rfl rfl (by decide) (by decide) hk1 hFc hP1 hD1
  generalize H1 = H at hP hS ⊢
  have hP : va_P D jd_cl [jd_ld q y ((j : Int) + 1) (jd_dm (jd_lp y) ((j : Int) + 1))] H := hP
  have hD : va_D A [jd_ld q y ((j : Int) + 1) (jd_dm (jd_lp y) ((j : Int) + 1))] := hD
  exact W.aret hx hb hr (Or.inl ⟨_, rfl⟩) (Or.inr ⟨_, rfl⟩) (fun t ht hW => ⟨⟨(), q, rfl, trivial, by rw [ht]; exact hP, va_K.moved hW.alike hK, hD⟩, hS.F ht⟩) hS.2.2 dX2_atEndOfMonth_15
set_option maxHeartbeats 4000000 in
set_option maxRecDepth 100000 in
/-- YearMonth.compareTo -/
theorem metX2_compareTo (l : Launch) (D : va_G) (h0 h1 : Nat) (y mo ny nm : Int) (y1 : -9000000 ≤ y) (y2 : y ≤ 9000000) (y3 : -9000000 ≤ ny) (y4 : ny ≤ 9000000) : Met l yX2_compareTo (ws_ yX2_compareTo cX2_compareTo 3 (some .int)) (jd_rm 0 0 0) (jd_Pc [.ref h0, .ref h1] (fun U H => va_P D jd_cl [jd_ym h0 y mo, jd_ym h1 ny nm] H ∧ va_K D jd_cl [] U)) (vp_Si (fun z => z = jd_i (if y = ny then mo - nm else y - ny))) 0 0 (fun _ => False) := by
  refine Met.ofW (cc := cX2_compareTo) (maxL := 3) (ret := (some .int)) (by decide) rfl ?_
  intro p e s m args below meth c s₁ B hml hv
  obtain ⟨rfl, hP, hK⟩ := hv
  have hx := B.exec
  have hb := B.bytes
  have hr := B.returns
  have hts := atoms_spec (ws := (ws_ yX2_compareTo cX2_compareTo 3 (some .int))) B.pre
  have hts : ∀ w ∈ lw_all, w.before _ s = true := fun w h => hts w (List.mem_cons_of_mem _ h)
  have hown : s.vm.findClass RX2 = some m.cls := findClass_of_methodNamed B.named
  have hlocks := B.notSynchronized
  have hS : va_S jd_no s.heap s.heap [] := va_S.rf
  have hl := lv_entry ([.ref h0, .ref h1]) (n := 3) (Nat.le_of_ble_eq_true rfl)
  rw [lg_entry_eq]
  generalize (lg_sl ([.ref h0, .ref h1]) ++ List.replicate (3 - (lg_sl ([.ref h0, .ref h1])).length) Slot.unset).toArray = ls at hl ⊢
  have hl : lv_has ls 3 [(0, .ref h0), (1, .ref h1)] := hl
  refine lv_aload_n hx hb dX2_compareTo_0 rfl (lv_at hl 0 rfl) ?_
  refine va_get (D := D) (ci := 1) (v := .int (jd_i y)) (C := RX2) (T := TX2) (N := 2) hx hb hts in_X2 hown hK hP 0 rfl rfl 0 (by decide) (hts _ q137) (fun _ h9 => h9) rfl dX2_compareTo_1 ?_
  refine lv_aload_n hx hb dX2_compareTo_4 rfl (lv_at hl 1 rfl) ?_
  refine va_get (D := D) (ci := 1) (v := .int (jd_i ny)) (C := RX2) (T := TX2) (N := 2) hx hb hts in_X2 hown hK hP 1 rfl rfl 0 (by decide) (hts _ q137) (fun _ h9 => h9) rfl dX2_compareTo_5 ?_
  refine lv_isub hx hb dX2_compareTo_8 ?_
  refine jd_ti (jd_i_sub _ _) ?_
  refine lv_istore_n (lv' := [(2, .int (jd_i (y - ny))), (0, .ref h0), (1, .ref h1)]) hx hb dX2_compareTo_9 rfl hl (by decide) rfl (fun ls hl => ?_)
  refine lv_iload_n hx hb dX2_compareTo_10 rfl (lv_at hl 0 rfl) ?_
  refine lv_if_ne (tgt := 24) hx hb dX2_compareTo_11 (by decide) (fun c1 => ?_) (fun c1 => ?_)
  · have c1 : ¬ ((y - ny) = 0) := fun z => c1 ((jd_i_eq (a := y - ny) (b := 0) (by omega) (by omega) (by omega) (by omega)).mpr z)
    refine lv_iload_n hx hb dX2_compareTo_24 rfl (lv_at hl 0 rfl) ?_
    exact W.iret hx hb hr (fun t ht hW => ⟨_, rfl, (by rw [if_neg (by omega)]), ht⟩) (fun _ h => by cases h) dX2_compareTo_25
  · have c1 : (y - ny) = 0 := (jd_i_eq (a := y - ny) (b := 0) (by omega) (by omega) (by omega) (by omega)).mp c1
    refine lv_aload_n hx hb dX2_compareTo_14 rfl (lv_at hl 1 rfl) ?_
    refine va_get (D := D) (ci := 1) (v := .int (jd_i mo)) (C := RX2) (T := TX2) (N := 2) hx hb hts in_X2 hown hK hP 0 rfl rfl 1 (by decide) (hts _ q138) (fun _ h9 => h9) rfl dX2_compareTo_15 ?_
    refine lv_aload_n hx hb dX2_compareTo_18 rfl (lv_at hl 2 rfl) ?_
    refine va_get (D := D) (ci := 1) (v := .int (jd_i nm)) (C := RX2) (T := TX2) (N := 2) hx hb hts in_X2 hown hK hP 1 rfl rfl 1 (by decide) (hts _ q138) (fun _ h9 => h9) rfl dX2_compareTo_19 ?_
    refine lv_isub hx hb dX2_compareTo_22 ?_
    refine jd_ti (jd_i_sub _ _) ?_
    refine lv_istore_n (lv' := [(2, .int (jd_i (mo - nm))), (0, .ref h0), (1, .ref h1)]) hx hb dX2_compareTo_23 rfl hl (by decide) rfl (fun ls hl => ?_)
    refine lv_iload_n hx hb dX2_compareTo_24 rfl (lv_at hl 0 rfl) ?_
    exact W.iret hx hb hr (fun t ht hW => ⟨_, rfl, (by rw [if_pos (by omega)]), ht⟩) (fun _ h => by cases h) dX2_compareTo_25
end
section
/-! MonthDesk (printed by gen/g10.py) -/
theorem jd_up_id {α : Type} (f : Nat → α) (i : Nat) : va_up f i (f i) = f := by
  funext j
  unfold va_up
  split
  · next h => rw [h]
  · rfl
def jd_out (y : Int) : Bool := decide (900000 < y ∨ y < -900000)
theorem jd_out_t {y : Int} (h : 900000 < y ∨ y < -900000) : jd_out y = true := decide_eq_true h
theorem jd_out_f {y : Int} (h : ¬ (900000 < y ∨ y < -900000)) : jd_out y = false := decide_eq_false h
def jd_or (a b c d : Int) : Int := if a < b then -1 else if b < a then 1 else if c < d then -1 else if d < c then 1 else 0
theorem jd_or_spec {a b c d z : Int} (h1 : a = b → z = c - d) (h2 : ¬ a = b → z = a - b) : (z < 0 → jd_or a b c d = -1) ∧ (0 < z → jd_or a b c d = 1) ∧ (z = 0 → jd_or a b c d = 0) := by
  unfold jd_or
  refine ⟨fun h => ?_, fun h => ?_, fun h => ?_⟩ <;> (repeat' split) <;> omega
theorem jd_mon {z : Int} (h1 : 1 ≤ z) (h2 : z ≤ 12) : ∃ j : Nat, j < 12 ∧ z = (j : Int) + 1 := ⟨(z - 1).toNat, by omega, by omega⟩
section JTAILP
variable {p : Program} {l : Launch} {e : Env} {R : Room} {s : State} {m : MethodId} {args : Array Value} {below : List Frame} {meth : Method} {c : Code} {H : Heap} {locs : List Loc} {cells slots : Nat} {Q : State → Prop}
theorem jd_tailp {g1 g2 : JFrame} (P : Prop) (k : (P → W p l e R s m args below meth c H locs cells slots Q g2) → W p l e R s m args below meth c H locs cells slots Q g1) (t : P → W p l e R s m args below meth c H locs cells slots Q g2) : W p l e R s m args below meth c H locs cells slots Q g1 := k t
end JTAILP
theorem jd_arP {D : va_G} {H : Heap} {q : Nat} {cA : ClassId} {f f' : Nat → Option Nat} {c0 c2 c3 : Nat × va_E} (e : ∀ j : Nat, j < 2 → f j = f' j) (h : va_P D jd_cl [c0, jd_ar q cA f, c2, c3] H) : va_P D jd_cl [c0, jd_ar q cA f', c2, c3] H := by
  intro k z hk
  match k, hk with
  | 0, hk => exact h 0 z hk
  | 1, hk =>
    cases hk
    have h1 : H[q]? = some (vp_cell cA (2, .inr (.inr (.inr (.inr f))))) := h 1 _ rfl
    show H[q]? = some (vp_cell cA (2, .inr (.inr (.inr (.inr f')))))
    rw [h1, vp_cell_q, vp_cell_q]
    unfold arrV
    congr 2
    congr 1
    funext j
    exact congrArg va_rf (e j.val j.isLt)
  | 2, hk => exact h 2 z hk
  | 3, hk => exact h 3 z hk
  | k + 4, hk => simp at hk
theorem jd_unpP {D : va_G} {H : Heap} {i x q : Nat} {cA : ClassId} {a : Nat → Nat} {Y M : Nat → Int} (hi : i < 2) (h : va_P D jd_cl (jd_DP i x q cA a Y M) H) : va_P D jd_cl (jd_DW x q cA a Y M) H := by
  rcases jd_lt2 hi with rfl | rfl
  · exact h
  · exact h.sub [0, 1, 3, 2] rfl
theorem jd_unpD {A : Nat → Prop} {i x q : Nat} {cA : ClassId} {a : Nat → Nat} {Y M : Nat → Int} (hi : i < 2) (h : va_D A (jd_DP i x q cA a Y M)) : va_D A (jd_DW x q cA a Y M) := by
  rcases jd_lt2 hi with rfl | rfl
  · exact h
  · exact h.sub [0, 1, 3, 2] (by decide) rfl
set_option maxHeartbeats 4000000 in
set_option maxRecDepth 100000 in
/-- MonthDesk.set -/
theorem metX0_set (l : Launch) (D : va_G) (g : Nat → Nat) (x q sz : Nat) (cA : ClassId) (a : Nat → Nat) (Y M : Nat → Int) (i : Nat) (p1 p2 p3 : Int32) (hi : i < 2) (hw : p1 &&& 1 = nI i) (b1 : -9000000 ≤ Y i) (b2 : Y i ≤ 9000000) (m1 : 1 ≤ M i) (m2 : M i ≤ 12) : Met l yX0_set (ws_ yX0_set cX0_set 4 none) (jd_rm 5 1 2) (jd_Pc [.ref x, .int p1, .int p2, .int p3] (fun U H => H.size = sz ∧ va_P D jd_cl (jd_DW x q cA a Y M) H ∧ va_K D jd_cl [(cA, .object "YearMonth")] U ∧ va_D (fun _ => True) (jd_DW x q cA a Y M) ∧ jd_C g (va_A (jd_DW x q cA a Y M) sz) U H)) (va_Qv (fun _ : Nat => True) (fun b t => va_P D jd_cl (jd_DW x q cA (va_up a i b) (va_up Y i (jd_r6 p2)) (va_up M i (jd_mf p3))) t.heap ∧ va_K D jd_cl [(cA, .object "YearMonth")] t ∧ va_D (va_A (jd_DW x q cA a Y M) sz) (jd_DW x q cA (va_up a i b) (va_up Y i (jd_r6 p2)) (va_up M i (jd_mf p3)))) (va_A (jd_DW x q cA a Y M) sz)) 1 2 (va_A (jd_DW x q cA a Y M) sz) := by
  refine Met.ofW (cc := cX0_set) (maxL := 4) (ret := none) (by decide) rfl ?_
  intro p e s m args below meth c s₁ B hml hv
  obtain ⟨rfl, hsz, hP, hK, hD0, hC⟩ := hv
  have hx := B.exec
  have hb := B.bytes
  have hr := B.returns
  have hts := atoms_spec (ws := (ws_ yX0_set cX0_set 4 none)) B.pre
  have hts : ∀ w ∈ lw_all, w.before _ s = true := fun w h => hts w (List.mem_cons_of_mem _ h)
  have hown : s.vm.findClass RX0 = some m.cls := findClass_of_methodNamed B.named
  have hlocks := B.notSynchronized
  have r2 := jd_r6_rg p2
  have r3 := jd_mf_rg p3
  subst hsz
  have hD := hD0.self (sz := s.heap.size)
  generalize hAe : va_A (jd_DW x q cA a Y M) s.heap.size = A at hD hC ⊢
  have hA : ∀ q : Nat, s.heap.size ≤ q → A q := fun q h => by rw [← hAe]; exact Or.inr h
  have hS : va_S A s.heap s.heap [] := va_S.rf
  have hP : va_P D jd_cl [jd_dk x q, jd_ar q cA (fun j => some (a j)), jd_ym (a i) (Y i) (M i), jd_ym (a (1 - i)) (Y (1 - i)) (M (1 - i))] s.heap := jd_pickP hi hP
  have hD : va_D A [jd_dk x q, jd_ar q cA (fun j => some (a j)), jd_ym (a i) (Y i) (M i), jd_ym (a (1 - i)) (Y (1 - i)) (M (1 - i))] := jd_pickD hi hD
  have hl := lv_entry ([.ref x, .int p1, .int p2, .int p3]) (n := 4) (Nat.le_of_ble_eq_true rfl)
  rw [lg_entry_eq]
  generalize (lg_sl ([.ref x, .int p1, .int p2, .int p3]) ++ List.replicate (4 - (lg_sl ([.ref x, .int p1, .int p2, .int p3])).length) Slot.unset).toArray = ls at hl ⊢
  have hl : lv_has ls 4 [(0, .ref x), (1, .int p1), (2, .int p2), (3, .int p3)] := hl
  refine lv_aload_n hx hb dX0_set_0 rfl (lv_at hl 0 rfl) ?_
  refine va_get (D := D) (ci := 0) (v := .ref q) (C := RX0) (T := TX0) (N := 1) hx hb hts in_X0 hown hK hP 0 rfl rfl 0 (by decide) (hts _ q144) (fun _ h9 => h9) rfl dX0_set_1 ?_
  refine lv_iload_n hx hb dX0_set_4 rfl (lv_at hl 1 rfl) ?_
  refine lv_iconst (v := jd_i 1) hx hb dX0_set_5 (by decide) ?_
  refine lv_iand hx hb dX0_set_6 ?_
  refine jd_ti (y := (nI i)) hw ?_
  refine lv_iload_n hx hb dX0_set_7 rfl (lv_at hl 2 rfl) ?_
  refine lv_ldc (v := jd_i 1000000) hx hb hown (hts _ q152) dX0_set_8 ?_
  refine lv_irem hx hb dX0_set_10 (by decide) ?_
  refine jd_ti (y := jd_i (jd_r6 p2)) (jd_r6_eq p2) ?_
  refine lv_iconst (v := jd_i 1) hx hb dX0_set_11 (by decide) ?_
  refine lv_iload_n hx hb dX0_set_12 rfl (lv_at hl 3 rfl) ?_
  refine lv_ldc (v := jd_i 2147483647) hx hb hown (hts _ q153) dX0_set_13 ?_
  refine lv_iand hx hb dX0_set_15 ?_
  refine lv_bipush (v := jd_i 12) hx hb dX0_set_16 (by decide) ?_
  refine lv_irem hx hb dX0_set_18 (by decide) ?_
  refine lv_iadd hx hb dX0_set_19 ?_
  refine jd_ti (y := jd_i (jd_mf p3)) (jd_mf_eq p3) ?_
  have hFc := va_free (wc := []) hD hS hA [] rfl
  refine va_callr (va_runS (As := [.int (jd_i (jd_r6 p2)), .int (jd_i (jd_mf p3))]) (rest := [.int (nI i), .ref q]) ⟨hx, hb, hml, hown, hts⟩ (metX2_of l D g s.heap.size (jd_r6 p2) (jd_mf p3) (by omega) (by omega) (by omega) (by omega)) (va_cwS 2 hts (lw_S q30 q31 q5 q32) rfl rfl rfl (by decide +kernel) ⟨Nat.le_of_ble_eq_true rfl, Nat.le_of_ble_eq_true rfl⟩) (jd_preS (jd_mvA (jd_mvZ _) (jd_mvA (jd_mvK _ _ _) jd_C.moved)) ⟨rfl, hK.sub [] rfl, hC.narrow hFc⟩) rfl rfl hl.1 rfl (lv_room (Nat.le_of_ble_eq_true rfl)) dX0_set_20 ⟨Nat.le_of_ble_eq_true rfl, Nat.le_of_ble_eq_true rfl⟩) hS (fun q _ h => hFc q h) hFc (fun u_ b t H1 locs ht hvm hw1 hB hz1 hk1 hS => ?_)
  obtain ⟨hP1, hK1, hD1⟩ := hB
  rw [ht] at hP1
  obtain ⟨hP, hD⟩ := va_join (wr := [jd_dk x q, jd_ar q cA (fun j => some (a j)), jd_ym (a i) (Y i) (M i), jd_ym (a (1 - i)) (Y (1 - i)) (M (1 - i))]) (w1 := [jd_ym b (jd_r6 p2) (jd_mf p3)]) hP hD [] [0, 1, 2, 3] rfl rfl (by decide) (by decide) hk1 hFc hP1 hD1
  generalize H1 = H at hP hS ⊢
  have hP : va_P D jd_cl [jd_dk x q, jd_ar q cA (fun j => some (a j)), jd_ym (a i) (Y i) (M i), jd_ym (a (1 - i)) (Y (1 - i)) (M (1 - i)), jd_ym b (jd_r6 p2) (jd_mf p3)] H := hP
  have hD : va_D A [jd_dk x q, jd_ar q cA (fun j => some (a j)), jd_ym (a i) (Y i) (M i), jd_ym (a (1 - i)) (Y (1 - i)) (M (1 - i)), jd_ym b (jd_r6 p2) (jd_mf p3)] := hD
  refine jd_aast hx hb hK hP hD hS 1 0 4 1 rfl rfl rfl rfl hi (by decide) dX0_set_23 (fun H locs hP hD hS => ?_)
  have hP : va_P D jd_cl [jd_dk x q, jd_ar q cA (va_up (fun j => some (a j)) i (some b)), jd_ym (a i) (Y i) (M i), jd_ym (a (1 - i)) (Y (1 - i)) (M (1 - i)), jd_ym b (jd_r6 p2) (jd_mf p3)] H := hP
  have hD : va_D A [jd_dk x q, jd_ar q cA (va_up (fun j => some (a j)) i (some b)), jd_ym (a i) (Y i) (M i), jd_ym (a (1 - i)) (Y (1 - i)) (M (1 - i)), jd_ym b (jd_r6 p2) (jd_mf p3)] := hD
  have hP := jd_putP hi (hP.sub (ws' := [jd_dk x q, jd_ar q cA (va_up (fun j => some (a j)) i (some b)), jd_ym b (jd_r6 p2) (jd_mf p3), jd_ym (a (1 - i)) (Y (1 - i)) (M (1 - i))]) [0, 1, 4, 3] rfl)
  have hD := jd_putD hi (hD.sub (ws' := [jd_dk x q, jd_ar q cA (va_up (fun j => some (a j)) i (some b)), jd_ym b (jd_r6 p2) (jd_mf p3), jd_ym (a (1 - i)) (Y (1 - i)) (M (1 - i))]) [0, 1, 4, 3] (by decide) rfl)
  exact W.vret hx hb hr (fun t ht hW => ⟨⟨b, rfl, trivial, by rw [ht]; exact hP, va_K.moved hW.alike hK, hD⟩, hS.F ht⟩) hS.2.2 dX0_set_24
set_option maxHeartbeats 4000000 in
set_option maxRecDepth 100000 in
/-- MonthDesk.months -/
theorem metX0_months (l : Launch) (D : va_G) (g : Nat → Nat) (x q sz : Nat) (cA : ClassId) (a : Nat → Nat) (Y M : Nat → Int) (i : Nat) (p1 p2 : Int32) (hi : i < 2) (hw : p1 &&& 1 = nI i) (b1 : -9000000 ≤ Y i) (b2 : Y i ≤ 9000000) (m1 : 1 ≤ M i) (m2 : M i ≤ 12) : Met l yX0_months (ws_ yX0_months cX0_months 3 none) (jd_rm 6 1 2) (jd_Pc [.ref x, .int p1, .int p2] (fun U H => H.size = sz ∧ va_P D jd_cl (jd_DW x q cA a Y M) H ∧ va_K D jd_cl [(cA, .object "YearMonth")] U ∧ va_D (fun _ => True) (jd_DW x q cA a Y M) ∧ jd_C g (va_A (jd_DW x q cA a Y M) sz) U H)) (va_Qv (fun _ : Nat => True) (fun b t => va_P D jd_cl (jd_DW x q cA (va_up a i b) (va_up Y i ((Y i * 12 + (M i - 1) + jd_r6 p2) / 12)) (va_up M i ((Y i * 12 + (M i - 1) + jd_r6 p2) % 12 + 1))) t.heap ∧ va_K D jd_cl [(cA, .object "YearMonth")] t ∧ va_D (va_A (jd_DW x q cA a Y M) sz) (jd_DW x q cA (va_up a i b) (va_up Y i ((Y i * 12 + (M i - 1) + jd_r6 p2) / 12)) (va_up M i ((Y i * 12 + (M i - 1) + jd_r6 p2) % 12 + 1)))) (va_A (jd_DW x q cA a Y M) sz)) 1 2 (va_A (jd_DW x q cA a Y M) sz) := by
  refine Met.ofW (cc := cX0_months) (maxL := 3) (ret := none) (by decide) rfl ?_
  intro p e s m args below meth c s₁ B hml hv
  obtain ⟨rfl, hsz, hP, hK, hD0, hC⟩ := hv
  have hx := B.exec
  have hb := B.bytes
  have hr := B.returns
  have hts := atoms_spec (ws := (ws_ yX0_months cX0_months 3 none)) B.pre
  have hts : ∀ w ∈ lw_all, w.before _ s = true := fun w h => hts w (List.mem_cons_of_mem _ h)
  have hown : s.vm.findClass RX0 = some m.cls := findClass_of_methodNamed B.named
  have hlocks := B.notSynchronized
  have r2 := jd_r6_rg p2
  subst hsz
  have hD := hD0.self (sz := s.heap.size)
  generalize hAe : va_A (jd_DW x q cA a Y M) s.heap.size = A at hD hC ⊢
  have hA : ∀ q : Nat, s.heap.size ≤ q → A q := fun q h => by rw [← hAe]; exact Or.inr h
  have hS : va_S A s.heap s.heap [] := va_S.rf
  have hP : va_P D jd_cl [jd_dk x q, jd_ar q cA (fun j => some (a j)), jd_ym (a i) (Y i) (M i), jd_ym (a (1 - i)) (Y (1 - i)) (M (1 - i))] s.heap := jd_pickP hi hP
  have hD : va_D A [jd_dk x q, jd_ar q cA (fun j => some (a j)), jd_ym (a i) (Y i) (M i), jd_ym (a (1 - i)) (Y (1 - i)) (M (1 - i))] := jd_pickD hi hD
  have hl := lv_entry ([.ref x, .int p1, .int p2]) (n := 3) (Nat.le_of_ble_eq_true rfl)
  rw [lg_entry_eq]
  generalize (lg_sl ([.ref x, .int p1, .int p2]) ++ List.replicate (3 - (lg_sl ([.ref x, .int p1, .int p2])).length) Slot.unset).toArray = ls at hl ⊢
  have hl : lv_has ls 3 [(0, .ref x), (1, .int p1), (2, .int p2)] := hl
  refine lv_aload_n hx hb dX0_months_0 rfl (lv_at hl 0 rfl) ?_
  refine va_get (D := D) (ci := 0) (v := .ref q) (C := RX0) (T := TX0) (N := 1) hx hb hts in_X0 hown hK hP 0 rfl rfl 0 (by decide) (hts _ q144) (fun _ h9 => h9) rfl dX0_months_1 ?_
  refine lv_iload_n hx hb dX0_months_4 rfl (lv_at hl 1 rfl) ?_
  refine lv_iconst (v := jd_i 1) hx hb dX0_months_5 (by decide) ?_
  refine lv_iand hx hb dX0_months_6 ?_
  refine jd_ti (y := (nI i)) hw ?_
  refine lv_aload_n hx hb dX0_months_7 rfl (lv_at hl 0 rfl) ?_
  refine va_get (D := D) (ci := 0) (v := .ref q) (C := RX0) (T := TX0) (N := 1) hx hb hts in_X0 hown hK hP 0 rfl rfl 0 (by decide) (hts _ q144) (fun _ h9 => h9) rfl dX0_months_8 ?_
  refine lv_iload_n hx hb dX0_months_11 rfl (lv_at hl 1 rfl) ?_
  refine lv_iconst (v := jd_i 1) hx hb dX0_months_12 (by decide) ?_
  refine lv_iand hx hb dX0_months_13 ?_
  refine jd_ti (y := (nI i)) hw ?_
  refine jd_aald hx hb hK hP 1 0 rfl rfl hi (by decide) rfl dX0_months_14 ?_
  refine lv_iload_n hx hb dX0_months_15 rfl (lv_at hl 2 rfl) ?_
  refine lv_ldc (v := jd_i 1000000) hx hb hown (hts _ q152) dX0_months_16 ?_
  refine lv_irem hx hb dX0_months_18 (by decide) ?_
  refine jd_ti (y := jd_i (jd_r6 p2)) (jd_r6_eq p2) ?_
  refine lv_i2l (v := jd_l (jd_r6 p2)) hx hb dX0_months_19 (jd_i2l (by omega) (by omega)) ?_
  have hFc := va_free (wc := [jd_ym (a i) (Y i) (M i)]) hD hS hA [2] rfl
  refine va_callr (va_runV (As := [.long (jd_l (jd_r6 p2))]) (rest := [.int (nI i), .ref q]) ⟨hx, hb, hml, hown, hts⟩ (metX2_plusMonths l D g (a i) s.heap.size (Y i) (M i) (jd_r6 p2) b1 b2 m1 m2 r2.1 r2.2) (cwV 1 hts (lw_V q158 q159 q160 q5 q161) rfl rfl rfl (by decide +kernel) ⟨Nat.le_of_ble_eq_true rfl, Nat.le_of_ble_eq_true rfl⟩) (jd_preV (jd_mvA (jd_mvZ _) (jd_mvA (jd_mvP _ _ _) (jd_mvA (jd_mvK _ _ _) jd_C.moved))) (va_recv hK hP (ci := 1) (q0 := 2) rfl rfl) ⟨rfl, hP.sub [2] rfl, hK.sub [] rfl, hC.narrow hFc⟩) rfl rfl hl.1 rfl (lv_room (Nat.le_of_ble_eq_true rfl)) dX0_months_20 ⟨Nat.le_of_ble_eq_true rfl, Nat.le_of_ble_eq_true rfl⟩) hS (fun q _ h => hFc q h) hFc (fun u_ b t H1 locs ht hvm hw1 hB hz1 hk1 hS => ?_)
  obtain ⟨hP1, hK1, hD1⟩ := hB
  rw [ht] at hP1
  obtain ⟨hP, hD⟩ := va_join (wr := [jd_dk x q, jd_ar q cA (fun j => some (a j)), jd_ym (a (1 - i)) (Y (1 - i)) (M (1 - i))]) (w1 := [jd_ym b ((Y i * 12 + (M i - 1) + jd_r6 p2) / 12) ((Y i * 12 + (M i - 1) + jd_r6 p2) % 12 + 1)]) hP hD [2] [0, 1, 3] rfl rfl (by decide) (by decide) hk1 hFc hP1 hD1
  generalize H1 = H at hP hS ⊢
  have hP : va_P D jd_cl [jd_dk x q, jd_ar q cA (fun j => some (a j)), jd_ym (a (1 - i)) (Y (1 - i)) (M (1 - i)), jd_ym b ((Y i * 12 + (M i - 1) + jd_r6 p2) / 12) ((Y i * 12 + (M i - 1) + jd_r6 p2) % 12 + 1)] H := hP
  have hD : va_D A [jd_dk x q, jd_ar q cA (fun j => some (a j)), jd_ym (a (1 - i)) (Y (1 - i)) (M (1 - i)), jd_ym b ((Y i * 12 + (M i - 1) + jd_r6 p2) / 12) ((Y i * 12 + (M i - 1) + jd_r6 p2) % 12 + 1)] := hD
  refine jd_aast hx hb hK hP hD hS 1 0 3 1 rfl rfl rfl rfl hi (by decide) dX0_months_23 (fun H locs hP hD hS => ?_)
  have hP : va_P D jd_cl [jd_dk x q, jd_ar q cA (va_up (fun j => some (a j)) i (some b)), jd_ym (a (1 - i)) (Y (1 - i)) (M (1 - i)), jd_ym b ((Y i * 12 + (M i - 1) + jd_r6 p2) / 12) ((Y i * 12 + (M i - 1) + jd_r6 p2) % 12 + 1)] H := hP
  have hD : va_D A [jd_dk x q, jd_ar q cA (va_up (fun j => some (a j)) i (some b)), jd_ym (a (1 - i)) (Y (1 - i)) (M (1 - i)), jd_ym b ((Y i * 12 + (M i - 1) + jd_r6 p2) / 12) ((Y i * 12 + (M i - 1) + jd_r6 p2) % 12 + 1)] := hD
  have hP := jd_putP hi (hP.sub (ws' := [jd_dk x q, jd_ar q cA (va_up (fun j => some (a j)) i (some b)), jd_ym b ((Y i * 12 + (M i - 1) + jd_r6 p2) / 12) ((Y i * 12 + (M i - 1) + jd_r6 p2) % 12 + 1), jd_ym (a (1 - i)) (Y (1 - i)) (M (1 - i))]) [0, 1, 3, 2] rfl)
  have hD := jd_putD hi (hD.sub (ws' := [jd_dk x q, jd_ar q cA (va_up (fun j => some (a j)) i (some b)), jd_ym b ((Y i * 12 + (M i - 1) + jd_r6 p2) / 12) ((Y i * 12 + (M i - 1) + jd_r6 p2) % 12 + 1), jd_ym (a (1 - i)) (Y (1 - i)) (M (1 - i))]) [0, 1, 3, 2] (by decide) rfl)
  exact W.vret hx hb hr (fun t ht hW => ⟨⟨b, rfl, trivial, by rw [ht]; exact hP, va_K.moved hW.alike hK, hD⟩, hS.F ht⟩) hS.2.2 dX0_months_24
set_option maxHeartbeats 4000000 in
set_option maxRecDepth 100000 in
/-- MonthDesk.withMonth -/
theorem metX0_withMonth (l : Launch) (D : va_G) (g : Nat → Nat) (x q sz : Nat) (cA : ClassId) (a : Nat → Nat) (Y M : Nat → Int) (i : Nat) (p1 p2 : Int32) (hi : i < 2) (hw : p1 &&& 1 = nI i) (b1 : -9000000 ≤ Y i) (b2 : Y i ≤ 9000000) (m1 : 1 ≤ M i) (m2 : M i ≤ 12) : Met l yX0_withMonth (ws_ yX0_withMonth cX0_withMonth 3 none) (jd_rm 5 1 2) (jd_Pc [.ref x, .int p1, .int p2] (fun U H => H.size = sz ∧ va_P D jd_cl (jd_DW x q cA a Y M) H ∧ va_K D jd_cl [(cA, .object "YearMonth")] U ∧ va_D (fun _ => True) (jd_DW x q cA a Y M) ∧ jd_C g (va_A (jd_DW x q cA a Y M) sz) U H)) (va_Qv (fun _ : Nat => True) (fun b t => va_P D jd_cl (jd_DW x q cA (va_up a i b) Y (va_up M i (jd_mf p2))) t.heap ∧ va_K D jd_cl [(cA, .object "YearMonth")] t ∧ va_D (va_A (jd_DW x q cA a Y M) sz) (jd_DW x q cA (va_up a i b) Y (va_up M i (jd_mf p2)))) (va_A (jd_DW x q cA a Y M) sz)) 1 2 (va_A (jd_DW x q cA a Y M) sz) := by
  refine Met.ofW (cc := cX0_withMonth) (maxL := 3) (ret := none) (by decide) rfl ?_
  intro p e s m args below meth c s₁ B hml hv
  obtain ⟨rfl, hsz, hP, hK, hD0, hC⟩ := hv
  have hx := B.exec
  have hb := B.bytes
  have hr := B.returns
  have hts := atoms_spec (ws := (ws_ yX0_withMonth cX0_withMonth 3 none)) B.pre
  have hts : ∀ w ∈ lw_all, w.before _ s = true := fun w h => hts w (List.mem_cons_of_mem _ h)
  have hown : s.vm.findClass RX0 = some m.cls := findClass_of_methodNamed B.named
  have hlocks := B.notSynchronized
  have r2 := jd_mf_rg p2
  subst hsz
  have hD := hD0.self (sz := s.heap.size)
  generalize hAe : va_A (jd_DW x q cA a Y M) s.heap.size = A at hD hC ⊢
  have hA : ∀ q : Nat, s.heap.size ≤ q → A q := fun q h => by rw [← hAe]; exact Or.inr h
  have hS : va_S A s.heap s.heap [] := va_S.rf
  have hP : va_P D jd_cl [jd_dk x q, jd_ar q cA (fun j => some (a j)), jd_ym (a i) (Y i) (M i), jd_ym (a (1 - i)) (Y (1 - i)) (M (1 - i))] s.heap := jd_pickP hi hP
  have hD : va_D A [jd_dk x q, jd_ar q cA (fun j => some (a j)), jd_ym (a i) (Y i) (M i), jd_ym (a (1 - i)) (Y (1 - i)) (M (1 - i))] := jd_pickD hi hD
  have hl := lv_entry ([.ref x, .int p1, .int p2]) (n := 3) (Nat.le_of_ble_eq_true rfl)
  rw [lg_entry_eq]
  generalize (lg_sl ([.ref x, .int p1, .int p2]) ++ List.replicate (3 - (lg_sl ([.ref x, .int p1, .int p2])).length) Slot.unset).toArray = ls at hl ⊢
  have hl : lv_has ls 3 [(0, .ref x), (1, .int p1), (2, .int p2)] := hl
  refine lv_aload_n hx hb dX0_withMonth_0 rfl (lv_at hl 0 rfl) ?_
  refine va_get (D := D) (ci := 0) (v := .ref q) (C := RX0) (T := TX0) (N := 1) hx hb hts in_X0 hown hK hP 0 rfl rfl 0 (by decide) (hts _ q144) (fun _ h9 => h9) rfl dX0_withMonth_1 ?_
  refine lv_iload_n hx hb dX0_withMonth_4 rfl (lv_at hl 1 rfl) ?_
  refine lv_iconst (v := jd_i 1) hx hb dX0_withMonth_5 (by decide) ?_
  refine lv_iand hx hb dX0_withMonth_6 ?_
  refine jd_ti (y := (nI i)) hw ?_
  refine lv_aload_n hx hb dX0_withMonth_7 rfl (lv_at hl 0 rfl) ?_
  refine va_get (D := D) (ci := 0) (v := .ref q) (C := RX0) (T := TX0) (N := 1) hx hb hts in_X0 hown hK hP 0 rfl rfl 0 (by decide) (hts _ q144) (fun _ h9 => h9) rfl dX0_withMonth_8 ?_
  refine lv_iload_n hx hb dX0_withMonth_11 rfl (lv_at hl 1 rfl) ?_
  refine lv_iconst (v := jd_i 1) hx hb dX0_withMonth_12 (by decide) ?_
  refine lv_iand hx hb dX0_withMonth_13 ?_
  refine jd_ti (y := (nI i)) hw ?_
  refine jd_aald hx hb hK hP 1 0 rfl rfl hi (by decide) rfl dX0_withMonth_14 ?_
  refine lv_iconst (v := jd_i 1) hx hb dX0_withMonth_15 (by decide) ?_
  refine lv_iload_n hx hb dX0_withMonth_16 rfl (lv_at hl 2 rfl) ?_
  refine lv_ldc (v := jd_i 2147483647) hx hb hown (hts _ q153) dX0_withMonth_17 ?_
  refine lv_iand hx hb dX0_withMonth_19 ?_
  refine lv_bipush (v := jd_i 12) hx hb dX0_withMonth_20 (by decide) ?_
  refine lv_irem hx hb dX0_withMonth_22 (by decide) ?_
  refine lv_iadd hx hb dX0_withMonth_23 ?_
  refine jd_ti (y := jd_i (jd_mf p2)) (jd_mf_eq p2) ?_
  have hFc := va_free (wc := [jd_ym (a i) (Y i) (M i)]) hD hS hA [2] rfl
  refine va_callr (va_runV (As := [.int (jd_i (jd_mf p2))]) (rest := [.int (nI i), .ref q]) ⟨hx, hb, hml, hown, hts⟩ (metX2_withMonth l D g (a i) s.heap.size (Y i) (M i) (jd_mf p2) (by omega) (by omega) m1 m2 r2.1 r2.2) (cwV 1 hts (lw_V q209 q210 q211 q5 q212) rfl rfl rfl (by decide +kernel) ⟨Nat.le_of_ble_eq_true rfl, Nat.le_of_ble_eq_true rfl⟩) (jd_preV (jd_mvA (jd_mvZ _) (jd_mvA (jd_mvP _ _ _) (jd_mvA (jd_mvK _ _ _) jd_C.moved))) (va_recv hK hP (ci := 1) (q0 := 2) rfl rfl) ⟨rfl, hP.sub [2] rfl, hK.sub [] rfl, hC.narrow hFc⟩) rfl rfl hl.1 rfl (lv_room (Nat.le_of_ble_eq_true rfl)) dX0_withMonth_24 ⟨Nat.le_of_ble_eq_true rfl, Nat.le_of_ble_eq_true rfl⟩) hS (fun q _ h => hFc q h) hFc (fun u_ b t H1 locs ht hvm hw1 hB hz1 hk1 hS => ?_)
  obtain ⟨hP1, hK1, hD1⟩ := hB
  rw [ht] at hP1
  obtain ⟨hP, hD⟩ := va_join (wr := [jd_dk x q, jd_ar q cA (fun j => some (a j)), jd_ym (a (1 - i)) (Y (1 - i)) (M (1 - i))]) (w1 := [jd_ym b (Y i) (jd_mf p2)]) hP hD [2] [0, 1, 3] rfl rfl (by decide) (by decide) hk1 hFc hP1 hD1
  generalize H1 = H at hP hS ⊢
  have hP : va_P D jd_cl [jd_dk x q, jd_ar q cA (fun j => some (a j)), jd_ym (a (1 - i)) (Y (1 - i)) (M (1 - i)), jd_ym b (Y i) (jd_mf p2)] H := hP
  have hD : va_D A [jd_dk x q, jd_ar q cA (fun j => some (a j)), jd_ym (a (1 - i)) (Y (1 - i)) (M (1 - i)), jd_ym b (Y i) (jd_mf p2)] := hD
  refine jd_aast hx hb hK hP hD hS 1 0 3 1 rfl rfl rfl rfl hi (by decide) dX0_withMonth_27 (fun H locs hP hD hS => ?_)
  have hP : va_P D jd_cl [jd_dk x q, jd_ar q cA (va_up (fun j => some (a j)) i (some b)), jd_ym (a (1 - i)) (Y (1 - i)) (M (1 - i)), jd_ym b (Y i) (jd_mf p2)] H := hP
  have hD : va_D A [jd_dk x q, jd_ar q cA (va_up (fun j => some (a j)) i (some b)), jd_ym (a (1 - i)) (Y (1 - i)) (M (1 - i)), jd_ym b (Y i) (jd_mf p2)] := hD
  have hP := jd_putP hi (hP.sub (ws' := [jd_dk x q, jd_ar q cA (va_up (fun j => some (a j)) i (some b)), jd_ym b (Y i) (jd_mf p2), jd_ym (a (1 - i)) (Y (1 - i)) (M (1 - i))]) [0, 1, 3, 2] rfl)
  have hD := jd_putD hi (hD.sub (ws' := [jd_dk x q, jd_ar q cA (va_up (fun j => some (a j)) i (some b)), jd_ym b (Y i) (jd_mf p2), jd_ym (a (1 - i)) (Y (1 - i)) (M (1 - i))]) [0, 1, 3, 2] (by decide) rfl)
  rw [jd_up_id Y i] at hP hD
  exact W.vret hx hb hr (fun t ht hW => ⟨⟨b, rfl, trivial, by rw [ht]; exact hP, va_K.moved hW.alike hK, hD⟩, hS.F ht⟩) hS.2.2 dX0_withMonth_28
set_option maxHeartbeats 4000000 in
set_option maxRecDepth 100000 in
/-- MonthDesk.withYear -/
theorem metX0_withYear (l : Launch) (D : va_G) (g : Nat → Nat) (x q sz : Nat) (cA : ClassId) (a : Nat → Nat) (Y M : Nat → Int) (i : Nat) (p1 p2 : Int32) (hi : i < 2) (hw : p1 &&& 1 = nI i) (b1 : -9000000 ≤ Y i) (b2 : Y i ≤ 9000000) (m1 : 1 ≤ M i) (m2 : M i ≤ 12) : Met l yX0_withYear (ws_ yX0_withYear cX0_withYear 3 none) (jd_rm 5 1 2) (jd_Pc [.ref x, .int p1, .int p2] (fun U H => H.size = sz ∧ va_P D jd_cl (jd_DW x q cA a Y M) H ∧ va_K D jd_cl [(cA, .object "YearMonth")] U ∧ va_D (fun _ => True) (jd_DW x q cA a Y M) ∧ jd_C g (va_A (jd_DW x q cA a Y M) sz) U H)) (va_Qv (fun _ : Nat => True) (fun b t => va_P D jd_cl (jd_DW x q cA (va_up a i b) (va_up Y i (jd_r6 p2)) M) t.heap ∧ va_K D jd_cl [(cA, .object "YearMonth")] t ∧ va_D (va_A (jd_DW x q cA a Y M) sz) (jd_DW x q cA (va_up a i b) (va_up Y i (jd_r6 p2)) M)) (va_A (jd_DW x q cA a Y M) sz)) 1 2 (va_A (jd_DW x q cA a Y M) sz) := by
  refine Met.ofW (cc := cX0_withYear) (maxL := 3) (ret := none) (by decide) rfl ?_
  intro p e s m args below meth c s₁ B hml hv
  obtain ⟨rfl, hsz, hP, hK, hD0, hC⟩ := hv
  have hx := B.exec
  have hb := B.bytes
  have hr := B.returns
  have hts := atoms_spec (ws := (ws_ yX0_withYear cX0_withYear 3 none)) B.pre
  have hts : ∀ w ∈ lw_all, w.before _ s = true := fun w h => hts w (List.mem_cons_of_mem _ h)
  have hown : s.vm.findClass RX0 = some m.cls := findClass_of_methodNamed B.named
  have hlocks := B.notSynchronized
  have r2 := jd_r6_rg p2
  subst hsz
  have hD := hD0.self (sz := s.heap.size)
  generalize hAe : va_A (jd_DW x q cA a Y M) s.heap.size = A at hD hC ⊢
  have hA : ∀ q : Nat, s.heap.size ≤ q → A q := fun q h => by rw [← hAe]; exact Or.inr h
  have hS : va_S A s.heap s.heap [] := va_S.rf
  have hP : va_P D jd_cl [jd_dk x q, jd_ar q cA (fun j => some (a j)), jd_ym (a i) (Y i) (M i), jd_ym (a (1 - i)) (Y (1 - i)) (M (1 - i))] s.heap := jd_pickP hi hP
  have hD : va_D A [jd_dk x q, jd_ar q cA (fun j => some (a j)), jd_ym (a i) (Y i) (M i), jd_ym (a (1 - i)) (Y (1 - i)) (M (1 - i))] := jd_pickD hi hD
  have hl := lv_entry ([.ref x, .int p1, .int p2]) (n := 3) (Nat.le_of_ble_eq_true rfl)
  rw [lg_entry_eq]
  generalize (lg_sl ([.ref x, .int p1, .int p2]) ++ List.replicate (3 - (lg_sl ([.ref x, .int p1, .int p2])).length) Slot.unset).toArray = ls at hl ⊢
  have hl : lv_has ls 3 [(0, .ref x), (1, .int p1), (2, .int p2)] := hl
  refine lv_aload_n hx hb dX0_withYear_0 rfl (lv_at hl 0 rfl) ?_
  refine va_get (D := D) (ci := 0) (v := .ref q) (C := RX0) (T := TX0) (N := 1) hx hb hts in_X0 hown hK hP 0 rfl rfl 0 (by decide) (hts _ q144) (fun _ h9 => h9) rfl dX0_withYear_1 ?_
  refine lv_iload_n hx hb dX0_withYear_4 rfl (lv_at hl 1 rfl) ?_
  refine lv_iconst (v := jd_i 1) hx hb dX0_withYear_5 (by decide) ?_
  refine lv_iand hx hb dX0_withYear_6 ?_
  refine jd_ti (y := (nI i)) hw ?_
  refine lv_aload_n hx hb dX0_withYear_7 rfl (lv_at hl 0 rfl) ?_
  refine va_get (D := D) (ci := 0) (v := .ref q) (C := RX0) (T := TX0) (N := 1) hx hb hts in_X0 hown hK hP 0 rfl rfl 0 (by decide) (hts _ q144) (fun _ h9 => h9) rfl dX0_withYear_8 ?_
  refine lv_iload_n hx hb dX0_withYear_11 rfl (lv_at hl 1 rfl) ?_
  refine lv_iconst (v := jd_i 1) hx hb dX0_withYear_12 (by decide) ?_
  refine lv_iand hx hb dX0_withYear_13 ?_
  refine jd_ti (y := (nI i)) hw ?_
  refine jd_aald hx hb hK hP 1 0 rfl rfl hi (by decide) rfl dX0_withYear_14 ?_
  refine lv_iload_n hx hb dX0_withYear_15 rfl (lv_at hl 2 rfl) ?_
  refine lv_ldc (v := jd_i 1000000) hx hb hown (hts _ q152) dX0_withYear_16 ?_
  refine lv_irem hx hb dX0_withYear_18 (by decide) ?_
  refine jd_ti (y := jd_i (jd_r6 p2)) (jd_r6_eq p2) ?_
  have hFc := va_free (wc := [jd_ym (a i) (Y i) (M i)]) hD hS hA [2] rfl
  refine va_callr (va_runV (As := [.int (jd_i (jd_r6 p2))]) (rest := [.int (nI i), .ref q]) ⟨hx, hb, hml, hown, hts⟩ (metX2_withYear l D g (a i) s.heap.size (Y i) (M i) (jd_r6 p2) (by omega) (by omega) m1 m2 (by omega) (by omega)) (cwV 1 hts (lw_V q217 q218 q219 q5 q220) rfl rfl rfl (by decide +kernel) ⟨Nat.le_of_ble_eq_true rfl, Nat.le_of_ble_eq_true rfl⟩) (jd_preV (jd_mvA (jd_mvZ _) (jd_mvA (jd_mvP _ _ _) (jd_mvA (jd_mvK _ _ _) jd_C.moved))) (va_recv hK hP (ci := 1) (q0 := 2) rfl rfl) ⟨rfl, hP.sub [2] rfl, hK.sub [] rfl, hC.narrow hFc⟩) rfl rfl hl.1 rfl (lv_room (Nat.le_of_ble_eq_true rfl)) dX0_withYear_19 ⟨Nat.le_of_ble_eq_true rfl, Nat.le_of_ble_eq_true rfl⟩) hS (fun q _ h => hFc q h) hFc (fun u_ b t H1 locs ht hvm hw1 hB hz1 hk1 hS => ?_)
  obtain ⟨hP1, hK1, hD1⟩ := hB
  rw [ht] at hP1
  obtain ⟨hP, hD⟩ := va_join (wr := [jd_dk x q, jd_ar q cA (fun j => some (a j)), jd_ym (a (1 - i)) (Y (1 - i)) (M (1 - i))]) (w1 := [jd_ym b (jd_r6 p2) (M i)]) hP hD [2] [0, 1, 3] rfl rfl (by decide) (by decide) hk1 hFc hP1 hD1
  generalize H1 = H at hP hS ⊢
  have hP : va_P D jd_cl [jd_dk x q, jd_ar q cA (fun j => some (a j)), jd_ym (a (1 - i)) (Y (1 - i)) (M (1 - i)), jd_ym b (jd_r6 p2) (M i)] H := hP
  have hD : va_D A [jd_dk x q, jd_ar q cA (fun j => some (a j)), jd_ym (a (1 - i)) (Y (1 - i)) (M (1 - i)), jd_ym b (jd_r6 p2) (M i)] := hD
  refine jd_aast hx hb hK hP hD hS 1 0 3 1 rfl rfl rfl rfl hi (by decide) dX0_withYear_22 (fun H locs hP hD hS => ?_)
  have hP : va_P D jd_cl [jd_dk x q, jd_ar q cA (va_up (fun j => some (a j)) i (some b)), jd_ym (a (1 - i)) (Y (1 - i)) (M (1 - i)), jd_ym b (jd_r6 p2) (M i)] H := hP
  have hD : va_D A [jd_dk x q, jd_ar q cA (va_up (fun j => some (a j)) i (some b)), jd_ym (a (1 - i)) (Y (1 - i)) (M (1 - i)), jd_ym b (jd_r6 p2) (M i)] := hD
  have hP := jd_putP hi (hP.sub (ws' := [jd_dk x q, jd_ar q cA (va_up (fun j => some (a j)) i (some b)), jd_ym b (jd_r6 p2) (M i), jd_ym (a (1 - i)) (Y (1 - i)) (M (1 - i))]) [0, 1, 3, 2] rfl)
  have hD := jd_putD hi (hD.sub (ws' := [jd_dk x q, jd_ar q cA (va_up (fun j => some (a j)) i (some b)), jd_ym b (jd_r6 p2) (M i), jd_ym (a (1 - i)) (Y (1 - i)) (M (1 - i))]) [0, 1, 3, 2] (by decide) rfl)
  rw [jd_up_id M i] at hP hD
  exact W.vret hx hb hr (fun t ht hW => ⟨⟨b, rfl, trivial, by rw [ht]; exact hP, va_K.moved hW.alike hK, hD⟩, hS.F ht⟩) hS.2.2 dX0_withYear_23
set_option maxHeartbeats 4000000 in
set_option maxRecDepth 100000 in
/-- MonthDesk.years -/
theorem metX0_years (l : Launch) (D : va_G) (g : Nat → Nat) (x q sz : Nat) (cA : ClassId) (a : Nat → Nat) (Y M : Nat → Int) (i : Nat) (p1 p2 : Int32) (hi : i < 2) (hw : p1 &&& 1 = nI i) (b1 : -9000000 ≤ Y i) (b2 : Y i ≤ 9000000) (m1 : 1 ≤ M i) (m2 : M i ≤ 12) : Met l yX0_years (ws_ yX0_years cX0_years 4 none) (jd_rm 6 1 2) (jd_Pc [.ref x, .int p1, .int p2] (fun U H => H.size = sz ∧ va_P D jd_cl (jd_DW x q cA a Y M) H ∧ va_K D jd_cl [(cA, .object "YearMonth")] U ∧ va_D (fun _ => True) (jd_DW x q cA a Y M) ∧ jd_C g (va_A (jd_DW x q cA a Y M) sz) U H)) (va_Qv (fun _ : Nat => True) (fun b t => va_P D jd_cl (jd_DW x q cA (va_up a i b) (va_up Y i (if -999999 < Y i + jd_r6 p2 ∧ Y i + jd_r6 p2 < 999999 then Y i + jd_r6 p2 else Y i)) M) t.heap ∧ va_K D jd_cl [(cA, .object "YearMonth")] t ∧ va_D (va_A (jd_DW x q cA a Y M) sz) (jd_DW x q cA (va_up a i b) (va_up Y i (if -999999 < Y i + jd_r6 p2 ∧ Y i + jd_r6 p2 < 999999 then Y i + jd_r6 p2 else Y i)) M)) (va_A (jd_DW x q cA a Y M) sz)) 1 2 (va_A (jd_DW x q cA a Y M) sz) := by
  refine Met.ofW (cc := cX0_years) (maxL := 4) (ret := none) (by decide) rfl ?_
  intro p e s m args below meth c s₁ B hml hv
  obtain ⟨rfl, hsz, hP, hK, hD0, hC⟩ := hv
  have hx := B.exec
  have hb := B.bytes
  have hr := B.returns
  have hts := atoms_spec (ws := (ws_ yX0_years cX0_years 4 none)) B.pre
  have hts : ∀ w ∈ lw_all, w.before _ s = true := fun w h => hts w (List.mem_cons_of_mem _ h)
  have hown : s.vm.findClass RX0 = some m.cls := findClass_of_methodNamed B.named
  have hlocks := B.notSynchronized
  have r2 := jd_r6_rg p2
  subst hsz
  have hD := hD0.self (sz := s.heap.size)
  generalize hAe : va_A (jd_DW x q cA a Y M) s.heap.size = A at hD hC ⊢
  have hA : ∀ q : Nat, s.heap.size ≤ q → A q := fun q h => by rw [← hAe]; exact Or.inr h
  have hS : va_S A s.heap s.heap [] := va_S.rf
  have hP : va_P D jd_cl [jd_dk x q, jd_ar q cA (fun j => some (a j)), jd_ym (a i) (Y i) (M i), jd_ym (a (1 - i)) (Y (1 - i)) (M (1 - i))] s.heap := jd_pickP hi hP
  have hD : va_D A [jd_dk x q, jd_ar q cA (fun j => some (a j)), jd_ym (a i) (Y i) (M i), jd_ym (a (1 - i)) (Y (1 - i)) (M (1 - i))] := jd_pickD hi hD
  have hl := lv_entry ([.ref x, .int p1, .int p2]) (n := 4) (Nat.le_of_ble_eq_true rfl)
  rw [lg_entry_eq]
  generalize (lg_sl ([.ref x, .int p1, .int p2]) ++ List.replicate (4 - (lg_sl ([.ref x, .int p1, .int p2])).length) Slot.unset).toArray = ls at hl ⊢
  have hl : lv_has ls 4 [(0, .ref x), (1, .int p1), (2, .int p2)] := hl
  refine lv_aload_n hx hb dX0_years_0 rfl (lv_at hl 0 rfl) ?_
  refine va_get (D := D) (ci := 0) (v := .ref q) (C := RX0) (T := TX0) (N := 1) hx hb hts in_X0 hown hK hP 0 rfl rfl 0 (by decide) (hts _ q144) (fun _ h9 => h9) rfl dX0_years_1 ?_
  refine lv_iload_n hx hb dX0_years_4 rfl (lv_at hl 1 rfl) ?_
  refine lv_iconst (v := jd_i 1) hx hb dX0_years_5 (by decide) ?_
  refine lv_iand hx hb dX0_years_6 ?_
  refine jd_ti (y := (nI i)) hw ?_
  refine jd_aald hx hb hK hP 1 0 rfl rfl hi (by decide) rfl dX0_years_7 ?_
  refine vp_callSi (W.runV (As := []) (rest := []) ⟨hx, hb, hml, hown, hts⟩ (metX2_getYear l D (a i) (Y i) (M i)) (cwV 0 hts (lw_V q195 q196 q197 q5 q198) rfl rfl rfl (by decide +kernel) ⟨Nat.le_of_ble_eq_true rfl, Nat.le_of_ble_eq_true rfl⟩) (jd_preV (jd_mvA (jd_mvP _ _ _) (jd_mvK _ _ _)) (va_recv hK hP (ci := 1) (q0 := 2) rfl rfl) ⟨hP.sub [2] rfl, hK.sub [] rfl⟩) rfl rfl hl.1 rfl (lv_room (Nat.le_of_ble_eq_true rfl)) dX0_years_8 ⟨Nat.le_of_ble_eq_true rfl, Nat.le_of_ble_eq_true rfl⟩) (fun r_1 hr_1 => ?_)
  obtain rfl : (jd_i ((Y i))) = r_1 := Eq.symm hr_1
  refine lv_iload_n hx hb dX0_years_11 rfl (lv_at hl 2 rfl) ?_
  refine lv_ldc (v := jd_i 1000000) hx hb hown (hts _ q152) dX0_years_12 ?_
  refine lv_irem hx hb dX0_years_14 (by decide) ?_
  refine jd_ti (y := jd_i (jd_r6 p2)) (jd_r6_eq p2) ?_
  refine lv_iadd hx hb dX0_years_15 ?_
  refine jd_ti (jd_i_add _ _) ?_
  refine lv_istore_n (lv' := [(3, .int (jd_i ((Y i) + (jd_r6 p2)))), (0, .ref x), (1, .int p1), (2, .int p2)]) hx hb dX0_years_16 rfl hl (by decide) rfl (fun ls hl => ?_)
  refine lv_iload_n hx hb dX0_years_17 rfl (lv_at hl 0 rfl) ?_
  refine lv_ldc hx hb hown (hts _ q199) dX0_years_18 ?_
  refine jd_ti (y := jd_i (-999999)) (by decide) ?_
  refine lv_icmp_le (tgt := 53) hx hb dX0_years_20 (by decide) (fun c1 => ?_) (fun c1 => ?_)
  · have c1 : ((Y i) + (jd_r6 p2)) ≤ (-999999) := (jd_i_le (a := (Y i) + (jd_r6 p2)) (b := -999999) (by omega) (by omega) (by omega) (by omega)).mp c1
    rw [if_neg (by omega), jd_up_id Y i]
    refine W.widen (k := 1) (n := 2) (Nat.le_of_ble_eq_true rfl) (Nat.le_of_ble_eq_true rfl) ?_
    have hP : va_P D jd_cl (jd_DW x q cA (va_up a i (a i)) Y M) s.heap := by rw [jd_up_id a i]; exact jd_unpP hi hP
    have hD : va_D A (jd_DW x q cA (va_up a i (a i)) Y M) := by rw [jd_up_id a i]; exact jd_unpD hi hD
    exact W.vret hx hb hr (fun t ht hW => ⟨⟨a i, rfl, trivial, by rw [ht]; exact hP, va_K.moved hW.alike hK, hD⟩, hS.F ht⟩) hS.2.2 dX0_years_53
  · have c1 : ¬ (((Y i) + (jd_r6 p2)) ≤ (-999999)) := fun z => c1 ((jd_i_le (a := (Y i) + (jd_r6 p2)) (b := -999999) (by omega) (by omega) (by omega) (by omega)).mpr z)
    refine lv_iload_n hx hb dX0_years_23 rfl (lv_at hl 0 rfl) ?_
    refine lv_ldc (v := jd_i 999999) hx hb hown (hts _ q200) dX0_years_24 ?_
    refine lv_icmp_ge (tgt := 53) hx hb dX0_years_26 (by decide) (fun c2 => ?_) (fun c2 => ?_)
    · have c2 : 999999 ≤ ((Y i) + (jd_r6 p2)) := (jd_i_le (a := 999999) (b := (Y i) + (jd_r6 p2)) (by omega) (by omega) (by omega) (by omega)).mp c2
      rw [if_neg (by omega), jd_up_id Y i]
      refine W.widen (k := 1) (n := 2) (Nat.le_of_ble_eq_true rfl) (Nat.le_of_ble_eq_true rfl) ?_
      have hP : va_P D jd_cl (jd_DW x q cA (va_up a i (a i)) Y M) s.heap := by rw [jd_up_id a i]; exact jd_unpP hi hP
      have hD : va_D A (jd_DW x q cA (va_up a i (a i)) Y M) := by rw [jd_up_id a i]; exact jd_unpD hi hD
      exact W.vret hx hb hr (fun t ht hW => ⟨⟨a i, rfl, trivial, by rw [ht]; exact hP, va_K.moved hW.alike hK, hD⟩, hS.F ht⟩) hS.2.2 dX0_years_53
    · have c2 : ¬ (999999 ≤ ((Y i) + (jd_r6 p2))) := fun z => c2 ((jd_i_le (a := 999999) (b := (Y i) + (jd_r6 p2)) (by omega) (by omega) (by omega) (by omega)).mpr z)
      rw [if_pos ⟨by omega, by omega⟩]
      refine lv_aload_n hx hb dX0_years_29 rfl (lv_at hl 1 rfl) ?_
      refine va_get (D := D) (ci := 0) (v := .ref q) (C := RX0) (T := TX0) (N := 1) hx hb hts in_X0 hown hK hP 0 rfl rfl 0 (by decide) (hts _ q144) (fun _ h9 => h9) rfl dX0_years_30 ?_
      refine lv_iload_n hx hb dX0_years_33 rfl (lv_at hl 2 rfl) ?_
      refine lv_iconst (v := jd_i 1) hx hb dX0_years_34 (by decide) ?_
      refine lv_iand hx hb dX0_years_35 ?_
      refine jd_ti (y := (nI i)) hw ?_
      refine lv_aload_n hx hb dX0_years_36 rfl (lv_at hl 1 rfl) ?_
      refine va_get (D := D) (ci := 0) (v := .ref q) (C := RX0) (T := TX0) (N := 1) hx hb hts in_X0 hown hK hP 0 rfl rfl 0 (by decide) (hts _ q144) (fun _ h9 => h9) rfl dX0_years_37 ?_
      refine lv_iload_n hx hb dX0_years_40 rfl (lv_at hl 2 rfl) ?_
      refine lv_iconst (v := jd_i 1) hx hb dX0_years_41 (by decide) ?_
      refine lv_iand hx hb dX0_years_42 ?_
      refine jd_ti (y := (nI i)) hw ?_
      refine jd_aald hx hb hK hP 1 0 rfl rfl hi (by decide) rfl dX0_years_43 ?_
      refine lv_iload_n hx hb dX0_years_44 rfl (lv_at hl 3 rfl) ?_
      refine lv_ldc (v := jd_i 1000000) hx hb hown (hts _ q152) dX0_years_45 ?_
      refine lv_irem hx hb dX0_years_47 (by decide) ?_
      refine jd_ti (y := jd_i (jd_r6 p2)) (jd_r6_eq p2) ?_
      refine lv_i2l (v := jd_l (jd_r6 p2)) hx hb dX0_years_48 (jd_i2l (by omega) (by omega)) ?_
      have hFc := va_free (wc := [jd_ym (a i) (Y i) (M i)]) hD hS hA [2] rfl
      refine va_callr (va_runV (As := [.long (jd_l (jd_r6 p2))]) (rest := [.int (nI i), .ref q]) ⟨hx, hb, hml, hown, hts⟩ (metX2_plusYears l D g (a i) s.heap.size (Y i) (M i) (jd_r6 p2) b1 b2 m1 m2 r2.1 r2.2) (cwV 1 hts (lw_V q201 q202 q203 q5 q204) rfl rfl rfl (by decide +kernel) ⟨Nat.le_of_ble_eq_true rfl, Nat.le_of_ble_eq_true rfl⟩) (jd_preV (jd_mvA (jd_mvZ _) (jd_mvA (jd_mvP _ _ _) (jd_mvA (jd_mvK _ _ _) jd_C.moved))) (va_recv hK hP (ci := 1) (q0 := 2) rfl rfl) ⟨rfl, hP.sub [2] rfl, hK.sub [] rfl, hC.narrow hFc⟩) rfl rfl hl.1 rfl (lv_room (Nat.le_of_ble_eq_true rfl)) dX0_years_49 ⟨Nat.le_of_ble_eq_true rfl, Nat.le_of_ble_eq_true rfl⟩) hS (fun q _ h => hFc q h) hFc (fun u_ b t H1 locs ht hvm hw1 hB hz1 hk1 hS => ?_)
      obtain ⟨hP1, hK1, hD1⟩ := hB
      rw [ht] at hP1
      obtain ⟨hP, hD⟩ := va_join (wr := [jd_dk x q, jd_ar q cA (fun j => some (a j)), jd_ym (a (1 - i)) (Y (1 - i)) (M (1 - i))]) (w1 := [jd_ym b (Y i + jd_r6 p2) (M i)]) hP hD [2] [0, 1, 3] rfl rfl (by decide) (by decide) hk1 hFc hP1 hD1
      generalize H1 = H at hP hS ⊢
      have hP : va_P D jd_cl [jd_dk x q, jd_ar q cA (fun j => some (a j)), jd_ym (a (1 - i)) (Y (1 - i)) (M (1 - i)), jd_ym b (Y i + jd_r6 p2) (M i)] H := hP
      have hD : va_D A [jd_dk x q, jd_ar q cA (fun j => some (a j)), jd_ym (a (1 - i)) (Y (1 - i)) (M (1 - i)), jd_ym b (Y i + jd_r6 p2) (M i)] := hD
      refine jd_aast hx hb hK hP hD hS 1 0 3 1 rfl rfl rfl rfl hi (by decide) dX0_years_52 (fun H locs hP hD hS => ?_)
      have hP : va_P D jd_cl [jd_dk x q, jd_ar q cA (va_up (fun j => some (a j)) i (some b)), jd_ym (a (1 - i)) (Y (1 - i)) (M (1 - i)), jd_ym b (Y i + jd_r6 p2) (M i)] H := hP
      have hD : va_D A [jd_dk x q, jd_ar q cA (va_up (fun j => some (a j)) i (some b)), jd_ym (a (1 - i)) (Y (1 - i)) (M (1 - i)), jd_ym b (Y i + jd_r6 p2) (M i)] := hD
      have hP := jd_putP hi (hP.sub (ws' := [jd_dk x q, jd_ar q cA (va_up (fun j => some (a j)) i (some b)), jd_ym b (Y i + jd_r6 p2) (M i), jd_ym (a (1 - i)) (Y (1 - i)) (M (1 - i))]) [0, 1, 3, 2] rfl)
      have hD := jd_putD hi (hD.sub (ws' := [jd_dk x q, jd_ar q cA (va_up (fun j => some (a j)) i (some b)), jd_ym b (Y i + jd_r6 p2) (M i), jd_ym (a (1 - i)) (Y (1 - i)) (M (1 - i))]) [0, 1, 3, 2] (by decide) rfl)
      rw [jd_up_id M i] at hP hD
      exact W.vret hx hb hr (fun t ht hW => ⟨⟨b, rfl, trivial, by rw [ht]; exact hP, va_K.moved hW.alike hK, hD⟩, hS.F ht⟩) hS.2.2 dX0_years_53
set_option maxHeartbeats 4000000 in
set_option maxRecDepth 100000 in
/-- MonthDesk.keep -/
theorem metX0_keep (l : Launch) (D : va_G) (g : Nat → Nat) (x q sz : Nat) (cA : ClassId) (a : Nat → Nat) (Y M : Nat → Int) (i : Nat) (p1 : Int32) (hi : i < 2) (hw : p1 &&& 1 = nI i) (b1 : -9000000 ≤ Y i) (b2 : Y i ≤ 9000000) (m1 : 1 ≤ M i) (m2 : M i ≤ 12) : Met l yX0_keep (ws_ yX0_keep cX0_keep 3 (some .boolean)) (jd_rm 5 1 2) (jd_Pc [.ref x, .int p1] (fun U H => H.size = sz ∧ va_P D jd_cl (jd_DW x q cA a Y M) H ∧ va_K D jd_cl [(cA, .object "YearMonth")] U ∧ va_D (fun _ => True) (jd_DW x q cA a Y M) ∧ jd_C g (va_A (jd_DW x q cA a Y M) sz) U H)) (va_Qi (fun (r : Int32) (_ : Nat) => r = jd_i (if jd_out (Y i) = true then 0 else 1)) (fun b t => va_P D jd_cl (jd_DW x q cA (va_up a i b) (va_up Y i (if jd_out (Y i) = true then 2000 else Y i)) (va_up M i (if jd_out (Y i) = true then 1 else M i))) t.heap ∧ va_K D jd_cl [(cA, .object "YearMonth")] t ∧ va_D (va_A (jd_DW x q cA a Y M) sz) (jd_DW x q cA (va_up a i b) (va_up Y i (if jd_out (Y i) = true then 2000 else Y i)) (va_up M i (if jd_out (Y i) = true then 1 else M i)))) (va_A (jd_DW x q cA a Y M) sz)) 1 2 (va_A (jd_DW x q cA a Y M) sz) := by
  refine Met.ofW (cc := cX0_keep) (maxL := 3) (ret := (some .boolean)) (by decide) rfl ?_
  intro p e s m args below meth c s₁ B hml hv
  obtain ⟨rfl, hsz, hP, hK, hD0, hC⟩ := hv
  have hx := B.exec
  have hb := B.bytes
  have hr := B.returns
  have hts := atoms_spec (ws := (ws_ yX0_keep cX0_keep 3 (some .boolean))) B.pre
  have hts : ∀ w ∈ lw_all, w.before _ s = true := fun w h => hts w (List.mem_cons_of_mem _ h)
  have hown : s.vm.findClass RX0 = some m.cls := findClass_of_methodNamed B.named
  have hlocks := B.notSynchronized
  subst hsz
  have hD := hD0.self (sz := s.heap.size)
  generalize hAe : va_A (jd_DW x q cA a Y M) s.heap.size = A at hD hC ⊢
  have hA : ∀ q : Nat, s.heap.size ≤ q → A q := fun q h => by rw [← hAe]; exact Or.inr h
  have hS : va_S A s.heap s.heap [] := va_S.rf
  have hP : va_P D jd_cl [jd_dk x q, jd_ar q cA (fun j => some (a j)), jd_ym (a i) (Y i) (M i), jd_ym (a (1 - i)) (Y (1 - i)) (M (1 - i))] s.heap := jd_pickP hi hP
  have hD : va_D A [jd_dk x q, jd_ar q cA (fun j => some (a j)), jd_ym (a i) (Y i) (M i), jd_ym (a (1 - i)) (Y (1 - i)) (M (1 - i))] := jd_pickD hi hD
  have hl := lv_entry ([.ref x, .int p1]) (n := 3) (Nat.le_of_ble_eq_true rfl)
  rw [lg_entry_eq]
  generalize (lg_sl ([.ref x, .int p1]) ++ List.replicate (3 - (lg_sl ([.ref x, .int p1])).length) Slot.unset).toArray = ls at hl ⊢
  have hl : lv_has ls 3 [(0, .ref x), (1, .int p1)] := hl
  refine lv_aload_n hx hb dX0_keep_0 rfl (lv_at hl 0 rfl) ?_
  refine va_get (D := D) (ci := 0) (v := .ref q) (C := RX0) (T := TX0) (N := 1) hx hb hts in_X0 hown hK hP 0 rfl rfl 0 (by decide) (hts _ q144) (fun _ h9 => h9) rfl dX0_keep_1 ?_
  refine lv_iload_n hx hb dX0_keep_4 rfl (lv_at hl 1 rfl) ?_
  refine lv_iconst (v := jd_i 1) hx hb dX0_keep_5 (by decide) ?_
  refine lv_iand hx hb dX0_keep_6 ?_
  refine jd_ti (y := (nI i)) hw ?_
  refine jd_aald hx hb hK hP 1 0 rfl rfl hi (by decide) rfl dX0_keep_7 ?_
  refine vp_callSi (W.runV (As := []) (rest := []) ⟨hx, hb, hml, hown, hts⟩ (metX2_getYear l D (a i) (Y i) (M i)) (cwV 0 hts (lw_V q195 q196 q197 q5 q198) rfl rfl rfl (by decide +kernel) ⟨Nat.le_of_ble_eq_true rfl, Nat.le_of_ble_eq_true rfl⟩) (jd_preV (jd_mvA (jd_mvP _ _ _) (jd_mvK _ _ _)) (va_recv hK hP (ci := 1) (q0 := 2) rfl rfl) ⟨hP.sub [2] rfl, hK.sub [] rfl⟩) rfl rfl hl.1 rfl (lv_room (Nat.le_of_ble_eq_true rfl)) dX0_keep_8 ⟨Nat.le_of_ble_eq_true rfl, Nat.le_of_ble_eq_true rfl⟩) (fun r_1 hr_1 => ?_)
  obtain rfl : (jd_i ((Y i))) = r_1 := Eq.symm hr_1
  refine lv_istore_n (lv' := [(2, .int (jd_i (Y i))), (0, .ref x), (1, .int p1)]) hx hb dX0_keep_11 rfl hl (by decide) rfl (fun ls hl => ?_)
  refine jd_tailp (g2 := F0 m 24 ls []) (900000 < Y i ∨ Y i < -900000) (fun tail => ?_) (fun ho => ?_)
  · skip
    refine lv_iload_n hx hb dX0_keep_12 rfl (lv_at hl 0 rfl) ?_
    refine lv_ldc (v := jd_i 900000) hx hb hown (hts _ q385) dX0_keep_13 ?_
    refine lv_icmp_gt (tgt := 24) hx hb dX0_keep_15 (by decide) (fun c1 => ?_) (fun c1 => ?_)
    · have c1 : 900000 < (Y i) := (jd_i_lt (a := 900000) (b := Y i) (by omega) (by omega) (by omega) (by omega)).mp c1
      exact tail (by omega)
    · have c1 : ¬ (900000 < (Y i)) := fun z => c1 ((jd_i_lt (a := 900000) (b := Y i) (by omega) (by omega) (by omega) (by omega)).mpr z)
      refine lv_iload_n hx hb dX0_keep_18 rfl (lv_at hl 0 rfl) ?_
      refine lv_ldc hx hb hown (hts _ q386) dX0_keep_19 ?_
      refine jd_ti (y := jd_i (-900000)) (by decide) ?_
      refine lv_icmp_ge (tgt := 41) hx hb dX0_keep_21 (by decide) (fun c2 => ?_) (fun c2 => ?_)
      · have c2 : (-900000) ≤ (Y i) := (jd_i_le (a := -900000) (b := Y i) (by omega) (by omega) (by omega) (by omega)).mp c2
        rw [jd_out_f (by omega), if_neg (by decide), if_neg (by decide), if_neg (by decide), jd_up_id Y i, jd_up_id M i]
        refine lv_iconst (v := jd_i 1) hx hb dX0_keep_41 (by decide) ?_
        refine W.widen (k := 1) (n := 2) (Nat.le_of_ble_eq_true rfl) (Nat.le_of_ble_eq_true rfl) ?_
        have hP : va_P D jd_cl (jd_DW x q cA (va_up a i (a i)) Y M) s.heap := by rw [jd_up_id a i]; exact jd_unpP hi hP
        have hD : va_D A (jd_DW x q cA (va_up a i (a i)) Y M) := by rw [jd_up_id a i]; exact jd_unpD hi hD
        exact W.zret hx hb hr rfl (fun t ht hW => ⟨⟨_, a i, rfl, rfl, by rw [ht]; exact hP, va_K.moved hW.alike hK, hD⟩, hS.F ht⟩) hS.2.2 dX0_keep_42
      · have c2 : ¬ ((-900000) ≤ (Y i)) := fun z => c2 ((jd_i_le (a := -900000) (b := Y i) (by omega) (by omega) (by omega) (by omega)).mpr z)
        exact tail (by omega)
  · skip
    rw [jd_out_t ho, if_pos rfl, if_pos rfl, if_pos rfl]
    refine lv_aload_n hx hb dX0_keep_24 rfl (lv_at hl 1 rfl) ?_
    refine va_get (D := D) (ci := 0) (v := .ref q) (C := RX0) (T := TX0) (N := 1) hx hb hts in_X0 hown hK hP 0 rfl rfl 0 (by decide) (hts _ q144) (fun _ h9 => h9) rfl dX0_keep_25 ?_
    refine lv_iload_n hx hb dX0_keep_28 rfl (lv_at hl 2 rfl) ?_
    refine lv_iconst (v := jd_i 1) hx hb dX0_keep_29 (by decide) ?_
    refine lv_iand hx hb dX0_keep_30 ?_
    refine jd_ti (y := (nI i)) hw ?_
    refine lv_sipush (v := jd_i 2000) hx hb dX0_keep_31 (by decide) ?_
    refine lv_iconst (v := jd_i 1) hx hb dX0_keep_34 (by decide) ?_
    have hFc := va_free (wc := []) hD hS hA [] rfl
    refine va_callr (va_runS (As := [.int (jd_i 2000), .int (jd_i 1)]) (rest := [.int (nI i), .ref q]) ⟨hx, hb, hml, hown, hts⟩ (metX2_of l D g s.heap.size 2000 1 (by omega) (by omega) (by omega) (by omega)) (va_cwS 2 hts (lw_S q30 q31 q5 q32) rfl rfl rfl (by decide +kernel) ⟨Nat.le_of_ble_eq_true rfl, Nat.le_of_ble_eq_true rfl⟩) (jd_preS (jd_mvA (jd_mvZ _) (jd_mvA (jd_mvK _ _ _) jd_C.moved)) ⟨rfl, hK.sub [] rfl, hC.narrow hFc⟩) rfl rfl hl.1 rfl (lv_room (Nat.le_of_ble_eq_true rfl)) dX0_keep_35 ⟨Nat.le_of_ble_eq_true rfl, Nat.le_of_ble_eq_true rfl⟩) hS (fun q _ h => hFc q h) hFc (fun u_ b t H1 locs ht hvm hw1 hB hz1 hk1 hS => ?_)
    obtain ⟨hP1, hK1, hD1⟩ := hB
    rw [ht] at hP1
    obtain ⟨hP, hD⟩ := va_join (wr := [jd_dk x q, jd_ar q cA (fun j => some (a j)), jd_ym (a i) (Y i) (M i), jd_ym (a (1 - i)) (Y (1 - i)) (M (1 - i))]) (w1 := [jd_ym b 2000 1]) hP hD [] [0, 1, 2, 3] rfl rfl (by decide) (by decide) hk1 hFc hP1 hD1
    generalize H1 = H at hP hS ⊢
    have hP : va_P D jd_cl [jd_dk x q, jd_ar q cA (fun j => some (a j)), jd_ym (a i) (Y i) (M i), jd_ym (a (1 - i)) (Y (1 - i)) (M (1 - i)), jd_ym b 2000 1] H := hP
    have hD : va_D A [jd_dk x q, jd_ar q cA (fun j => some (a j)), jd_ym (a i) (Y i) (M i), jd_ym (a (1 - i)) (Y (1 - i)) (M (1 - i)), jd_ym b 2000 1] := hD
    refine jd_aast hx hb hK hP hD hS 1 0 4 1 rfl rfl rfl rfl hi (by decide) dX0_keep_38 (fun H locs hP hD hS => ?_)
    have hP : va_P D jd_cl [jd_dk x q, jd_ar q cA (va_up (fun j => some (a j)) i (some b)), jd_ym (a i) (Y i) (M i), jd_ym (a (1 - i)) (Y (1 - i)) (M (1 - i)), jd_ym b 2000 1] H := hP
    have hD : va_D A [jd_dk x q, jd_ar q cA (va_up (fun j => some (a j)) i (some b)), jd_ym (a i) (Y i) (M i), jd_ym (a (1 - i)) (Y (1 - i)) (M (1 - i)), jd_ym b 2000 1] := hD
    have hP := jd_putP hi (hP.sub (ws' := [jd_dk x q, jd_ar q cA (va_up (fun j => some (a j)) i (some b)), jd_ym b 2000 1, jd_ym (a (1 - i)) (Y (1 - i)) (M (1 - i))]) [0, 1, 4, 3] rfl)
    have hD := jd_putD hi (hD.sub (ws' := [jd_dk x q, jd_ar q cA (va_up (fun j => some (a j)) i (some b)), jd_ym b 2000 1, jd_ym (a (1 - i)) (Y (1 - i)) (M (1 - i))]) [0, 1, 4, 3] (by decide) rfl)
    refine lv_iconst (v := jd_i 0) hx hb dX0_keep_39 (by decide) ?_
    exact W.zret hx hb hr rfl (fun t ht hW => ⟨⟨_, b, rfl, rfl, by rw [ht]; exact hP, va_K.moved hW.alike hK, hD⟩, hS.F ht⟩) hS.2.2 dX0_keep_40
set_option maxHeartbeats 4000000 in
set_option maxRecDepth 100000 in
/-- MonthDesk.year -/
theorem metX0_year (l : Launch) (D : va_G) (g : Nat → Nat) (x q : Nat) (cA : ClassId) (a : Nat → Nat) (Y M : Nat → Int) (i : Nat) (p1 : Int32) (hi : i < 2) (hw : p1 &&& 1 = nI i) (b1 : -9000000 ≤ Y i) (b2 : Y i ≤ 9000000) (m1 : 1 ≤ M i) (m2 : M i ≤ 12) : Met l yX0_year (ws_ yX0_year cX0_year 2 (some .int)) (jd_rm 1 0 0) (jd_Pc [.ref x, .int p1] (fun U H => va_P D jd_cl (jd_DW x q cA a Y M) H ∧ va_K D jd_cl [(cA, .object "YearMonth")] U)) (vp_Si (fun z => z = jd_i (Y i))) 0 0 (fun _ => False) := by
  refine Met.ofW (cc := cX0_year) (maxL := 2) (ret := (some .int)) (by decide) rfl ?_
  intro p e s m args below meth c s₁ B hml hv
  obtain ⟨rfl, hP, hK⟩ := hv
  have hx := B.exec
  have hb := B.bytes
  have hr := B.returns
  have hts := atoms_spec (ws := (ws_ yX0_year cX0_year 2 (some .int))) B.pre
  have hts : ∀ w ∈ lw_all, w.before _ s = true := fun w h => hts w (List.mem_cons_of_mem _ h)
  have hown : s.vm.findClass RX0 = some m.cls := findClass_of_methodNamed B.named
  have hlocks := B.notSynchronized
  have hP : va_P D jd_cl [jd_dk x q, jd_ar q cA (fun j => some (a j)), jd_ym (a i) (Y i) (M i), jd_ym (a (1 - i)) (Y (1 - i)) (M (1 - i))] s.heap := jd_pickP hi hP
  have hS : va_S jd_no s.heap s.heap [] := va_S.rf
  have hl := lv_entry ([.ref x, .int p1]) (n := 2) (Nat.le_of_ble_eq_true rfl)
  rw [lg_entry_eq]
  generalize (lg_sl ([.ref x, .int p1]) ++ List.replicate (2 - (lg_sl ([.ref x, .int p1])).length) Slot.unset).toArray = ls at hl ⊢
  have hl : lv_has ls 2 [(0, .ref x), (1, .int p1)] := hl
  refine lv_aload_n hx hb dX0_year_0 rfl (lv_at hl 0 rfl) ?_
  refine va_get (D := D) (ci := 0) (v := .ref q) (C := RX0) (T := TX0) (N := 1) hx hb hts in_X0 hown hK hP 0 rfl rfl 0 (by decide) (hts _ q144) (fun _ h9 => h9) rfl dX0_year_1 ?_
  refine lv_iload_n hx hb dX0_year_4 rfl (lv_at hl 1 rfl) ?_
  refine lv_iconst (v := jd_i 1) hx hb dX0_year_5 (by decide) ?_
  refine lv_iand hx hb dX0_year_6 ?_
  refine jd_ti (y := (nI i)) hw ?_
  refine jd_aald hx hb hK hP 1 0 rfl rfl hi (by decide) rfl dX0_year_7 ?_
  refine vp_callSi (W.runV (As := []) (rest := []) ⟨hx, hb, hml, hown, hts⟩ (metX2_getYear l D (a i) (Y i) (M i)) (cwV 0 hts (lw_V q195 q196 q197 q5 q198) rfl rfl rfl (by decide +kernel) ⟨Nat.le_of_ble_eq_true rfl, Nat.le_of_ble_eq_true rfl⟩) (jd_preV (jd_mvA (jd_mvP _ _ _) (jd_mvK _ _ _)) (va_recv hK hP (ci := 1) (q0 := 2) rfl rfl) ⟨hP.sub [2] rfl, hK.sub [] rfl⟩) rfl rfl hl.1 rfl (lv_room (Nat.le_of_ble_eq_true rfl)) dX0_year_8 ⟨Nat.le_of_ble_eq_true rfl, Nat.le_of_ble_eq_true rfl⟩) (fun r_1 hr_1 => ?_)
  obtain rfl : (jd_i ((Y i))) = r_1 := Eq.symm hr_1
  exact W.iret hx hb hr (fun t ht hW => ⟨_, rfl, rfl, ht⟩) (fun _ h => by cases h) dX0_year_11
set_option maxHeartbeats 4000000 in
set_option maxRecDepth 100000 in
/-- MonthDesk.month -/
theorem metX0_month (l : Launch) (D : va_G) (g : Nat → Nat) (x q : Nat) (cA : ClassId) (a : Nat → Nat) (Y M : Nat → Int) (i : Nat) (p1 : Int32) (hi : i < 2) (hw : p1 &&& 1 = nI i) (b1 : -9000000 ≤ Y i) (b2 : Y i ≤ 9000000) (m1 : 1 ≤ M i) (m2 : M i ≤ 12) : Met l yX0_month (ws_ yX0_month cX0_month 2 (some .int)) (jd_rm 1 0 0) (jd_Pc [.ref x, .int p1] (fun U H => va_P D jd_cl (jd_DW x q cA a Y M) H ∧ va_K D jd_cl [(cA, .object "YearMonth")] U)) (vp_Si (fun z => z = jd_i (M i))) 0 0 (fun _ => False) := by
  refine Met.ofW (cc := cX0_month) (maxL := 2) (ret := (some .int)) (by decide) rfl ?_
  intro p e s m args below meth c s₁ B hml hv
  obtain ⟨rfl, hP, hK⟩ := hv
  have hx := B.exec
  have hb := B.bytes
  have hr := B.returns
  have hts := atoms_spec (ws := (ws_ yX0_month cX0_month 2 (some .int))) B.pre
  have hts : ∀ w ∈ lw_all, w.before _ s = true := fun w h => hts w (List.mem_cons_of_mem _ h)
  have hown : s.vm.findClass RX0 = some m.cls := findClass_of_methodNamed B.named
  have hlocks := B.notSynchronized
  have hP : va_P D jd_cl [jd_dk x q, jd_ar q cA (fun j => some (a j)), jd_ym (a i) (Y i) (M i), jd_ym (a (1 - i)) (Y (1 - i)) (M (1 - i))] s.heap := jd_pickP hi hP
  have hS : va_S jd_no s.heap s.heap [] := va_S.rf
  have hl := lv_entry ([.ref x, .int p1]) (n := 2) (Nat.le_of_ble_eq_true rfl)
  rw [lg_entry_eq]
  generalize (lg_sl ([.ref x, .int p1]) ++ List.replicate (2 - (lg_sl ([.ref x, .int p1])).length) Slot.unset).toArray = ls at hl ⊢
  have hl : lv_has ls 2 [(0, .ref x), (1, .int p1)] := hl
  refine lv_aload_n hx hb dX0_month_0 rfl (lv_at hl 0 rfl) ?_
  refine va_get (D := D) (ci := 0) (v := .ref q) (C := RX0) (T := TX0) (N := 1) hx hb hts in_X0 hown hK hP 0 rfl rfl 0 (by decide) (hts _ q144) (fun _ h9 => h9) rfl dX0_month_1 ?_
  refine lv_iload_n hx hb dX0_month_4 rfl (lv_at hl 1 rfl) ?_
  refine lv_iconst (v := jd_i 1) hx hb dX0_month_5 (by decide) ?_
  refine lv_iand hx hb dX0_month_6 ?_
  refine jd_ti (y := (nI i)) hw ?_
  refine jd_aald hx hb hK hP 1 0 rfl rfl hi (by decide) rfl dX0_month_7 ?_
  refine vp_callSi (W.runV (As := []) (rest := []) ⟨hx, hb, hml, hown, hts⟩ (metX2_getMonthValue l D (a i) (Y i) (M i)) (cwV 0 hts (lw_V q229 q230 q231 q5 q232) rfl rfl rfl (by decide +kernel) ⟨Nat.le_of_ble_eq_true rfl, Nat.le_of_ble_eq_true rfl⟩) (jd_preV (jd_mvA (jd_mvP _ _ _) (jd_mvK _ _ _)) (va_recv hK hP (ci := 1) (q0 := 2) rfl rfl) ⟨hP.sub [2] rfl, hK.sub [] rfl⟩) rfl rfl hl.1 rfl (lv_room (Nat.le_of_ble_eq_true rfl)) dX0_month_8 ⟨Nat.le_of_ble_eq_true rfl, Nat.le_of_ble_eq_true rfl⟩) (fun r_1 hr_1 => ?_)
  obtain rfl : (jd_i ((M i))) = r_1 := Eq.symm hr_1
  exact W.iret hx hb hr (fun t ht hW => ⟨_, rfl, rfl, ht⟩) (fun _ h => by cases h) dX0_month_11
set_option maxHeartbeats 4000000 in
set_option maxRecDepth 100000 in
/-- MonthDesk.length -/
theorem metX0_length (l : Launch) (D : va_G) (g : Nat → Nat) (x q : Nat) (cA : ClassId) (a : Nat → Nat) (Y M : Nat → Int) (i : Nat) (p1 : Int32) (hi : i < 2) (hw : p1 &&& 1 = nI i) (b1 : -9000000 ≤ Y i) (b2 : Y i ≤ 9000000) (m1 : 1 ≤ M i) (m2 : M i ≤ 12) : Met l yX0_length (ws_ yX0_length cX0_length 2 (some .int)) (jd_rm 3 0 0) (jd_Pc [.ref x, .int p1] (fun U H => va_P D jd_cl (jd_DW x q cA a Y M) H ∧ va_K D jd_cl [(cA, .object "YearMonth")] U ∧ jd_E g jd_no U H ∧ jd_I g jd_no U H)) (vp_Si (fun z => z = jd_i (jd_dm (jd_lp (Y i)) (M i)))) 0 0 (fun _ => False) := by
  refine Met.ofW (cc := cX0_length) (maxL := 2) (ret := (some .int)) (by decide) rfl ?_
  intro p e s m args below meth c s₁ B hml hv
  obtain ⟨rfl, hP, hK, hE, hI⟩ := hv
  have hx := B.exec
  have hb := B.bytes
  have hr := B.returns
  have hts := atoms_spec (ws := (ws_ yX0_length cX0_length 2 (some .int))) B.pre
  have hts : ∀ w ∈ lw_all, w.before _ s = true := fun w h => hts w (List.mem_cons_of_mem _ h)
  have hown : s.vm.findClass RX0 = some m.cls := findClass_of_methodNamed B.named
  have hlocks := B.notSynchronized
  have hP : va_P D jd_cl [jd_dk x q, jd_ar q cA (fun j => some (a j)), jd_ym (a i) (Y i) (M i), jd_ym (a (1 - i)) (Y (1 - i)) (M (1 - i))] s.heap := jd_pickP hi hP
  obtain ⟨j, hj, ej⟩ := jd_mon m1 m2
  rw [ej] at hP
  have hS : va_S jd_no s.heap s.heap [] := va_S.rf
  have hl := lv_entry ([.ref x, .int p1]) (n := 2) (Nat.le_of_ble_eq_true rfl)
  rw [lg_entry_eq]
  generalize (lg_sl ([.ref x, .int p1]) ++ List.replicate (2 - (lg_sl ([.ref x, .int p1])).length) Slot.unset).toArray = ls at hl ⊢
  have hl : lv_has ls 2 [(0, .ref x), (1, .int p1)] := hl
  refine lv_aload_n hx hb dX0_length_0 rfl (lv_at hl 0 rfl) ?_
  refine va_get (D := D) (ci := 0) (v := .ref q) (C := RX0) (T := TX0) (N := 1) hx hb hts in_X0 hown hK hP 0 rfl rfl 0 (by decide) (hts _ q144) (fun _ h9 => h9) rfl dX0_length_1 ?_
  refine lv_iload_n hx hb dX0_length_4 rfl (lv_at hl 1 rfl) ?_
  refine lv_iconst (v := jd_i 1) hx hb dX0_length_5 (by decide) ?_
  refine lv_iand hx hb dX0_length_6 ?_
  refine jd_ti (y := (nI i)) hw ?_
  refine jd_aald hx hb hK hP 1 0 rfl rfl hi (by decide) rfl dX0_length_7 ?_
  refine vp_callSi (W.runV (As := []) (rest := []) ⟨hx, hb, hml, hown, hts⟩ (metX2_lengthOfMonth l D g (a i) (Y i) j hj (by omega) (by omega)) (cwV 0 hts (lw_V q237 q238 q239 q5 q240) rfl rfl rfl (by decide +kernel) ⟨Nat.le_of_ble_eq_true rfl, Nat.le_of_ble_eq_true rfl⟩) (jd_preV (jd_mvA (jd_mvP _ _ _) (jd_mvA (jd_mvK _ _ _) (jd_mvA jd_E.moved jd_I.moved))) (va_recv hK hP (ci := 1) (q0 := 2) rfl rfl) ⟨hP.sub [2] rfl, hK.sub [] rfl, hE, hI⟩) rfl rfl hl.1 rfl (lv_room (Nat.le_of_ble_eq_true rfl)) dX0_length_8 ⟨Nat.le_of_ble_eq_true rfl, Nat.le_of_ble_eq_true rfl⟩) (fun r_1 hr_1 => ?_)
  obtain rfl : (jd_i ((jd_dm (jd_lp (Y i)) ((j : Int) + 1)))) = r_1 := Eq.symm hr_1
  exact W.iret hx hb hr (fun t ht hW => ⟨_, rfl, (by rw [ej]), ht⟩) (fun _ h => by cases h) dX0_length_11
set_option maxHeartbeats 4000000 in
set_option maxRecDepth 100000 in
/-- MonthDesk.yearLength -/
theorem metX0_yearLength (l : Launch) (D : va_G) (g : Nat → Nat) (x q : Nat) (cA : ClassId) (a : Nat → Nat) (Y M : Nat → Int) (i : Nat) (p1 : Int32) (hi : i < 2) (hw : p1 &&& 1 = nI i) (b1 : -9000000 ≤ Y i) (b2 : Y i ≤ 9000000) (m1 : 1 ≤ M i) (m2 : M i ≤ 12) : Met l yX0_yearLength (ws_ yX0_yearLength cX0_yearLength 2 (some .int)) (jd_rm 3 0 0) (jd_Pc [.ref x, .int p1] (fun U H => va_P D jd_cl (jd_DW x q cA a Y M) H ∧ va_K D jd_cl [(cA, .object "YearMonth")] U ∧ jd_E g jd_no U H ∧ jd_I g jd_no U H)) (vp_Si (fun z => z = jd_i (jd_dy (jd_lp (Y i))))) 0 0 (fun _ => False) := by
  refine Met.ofW (cc := cX0_yearLength) (maxL := 2) (ret := (some .int)) (by decide) rfl ?_
  intro p e s m args below meth c s₁ B hml hv
  obtain ⟨rfl, hP, hK, hE, hI⟩ := hv
  have hx := B.exec
  have hb := B.bytes
  have hr := B.returns
  have hts := atoms_spec (ws := (ws_ yX0_yearLength cX0_yearLength 2 (some .int))) B.pre
  have hts : ∀ w ∈ lw_all, w.before _ s = true := fun w h => hts w (List.mem_cons_of_mem _ h)
  have hown : s.vm.findClass RX0 = some m.cls := findClass_of_methodNamed B.named
  have hlocks := B.notSynchronized
  have hP : va_P D jd_cl [jd_dk x q, jd_ar q cA (fun j => some (a j)), jd_ym (a i) (Y i) (M i), jd_ym (a (1 - i)) (Y (1 - i)) (M (1 - i))] s.heap := jd_pickP hi hP
  have hS : va_S jd_no s.heap s.heap [] := va_S.rf
  have hl := lv_entry ([.ref x, .int p1]) (n := 2) (Nat.le_of_ble_eq_true rfl)
  rw [lg_entry_eq]
  generalize (lg_sl ([.ref x, .int p1]) ++ List.replicate (2 - (lg_sl ([.ref x, .int p1])).length) Slot.unset).toArray = ls at hl ⊢
  have hl : lv_has ls 2 [(0, .ref x), (1, .int p1)] := hl
  refine lv_aload_n hx hb dX0_yearLength_0 rfl (lv_at hl 0 rfl) ?_
  refine va_get (D := D) (ci := 0) (v := .ref q) (C := RX0) (T := TX0) (N := 1) hx hb hts in_X0 hown hK hP 0 rfl rfl 0 (by decide) (hts _ q144) (fun _ h9 => h9) rfl dX0_yearLength_1 ?_
  refine lv_iload_n hx hb dX0_yearLength_4 rfl (lv_at hl 1 rfl) ?_
  refine lv_iconst (v := jd_i 1) hx hb dX0_yearLength_5 (by decide) ?_
  refine lv_iand hx hb dX0_yearLength_6 ?_
  refine jd_ti (y := (nI i)) hw ?_
  refine jd_aald hx hb hK hP 1 0 rfl rfl hi (by decide) rfl dX0_yearLength_7 ?_
  refine vp_callSi (W.runV (As := []) (rest := []) ⟨hx, hb, hml, hown, hts⟩ (metX2_lengthOfYear l D g (a i) (Y i) (M i) (by omega) (by omega)) (cwV 0 hts (lw_V q280 q281 q282 q5 q283) rfl rfl rfl (by decide +kernel) ⟨Nat.le_of_ble_eq_true rfl, Nat.le_of_ble_eq_true rfl⟩) (jd_preV (jd_mvA (jd_mvP _ _ _) (jd_mvA (jd_mvK _ _ _) jd_I.moved)) (va_recv hK hP (ci := 1) (q0 := 2) rfl rfl) ⟨hP.sub [2] rfl, hK.sub [] rfl, hI⟩) rfl rfl hl.1 rfl (lv_room (Nat.le_of_ble_eq_true rfl)) dX0_yearLength_8 ⟨Nat.le_of_ble_eq_true rfl, Nat.le_of_ble_eq_true rfl⟩) (fun r_1 hr_1 => ?_)
  obtain rfl : (jd_i ((jd_dy (jd_lp (Y i))))) = r_1 := Eq.symm hr_1
  exact W.iret hx hb hr (fun t ht hW => ⟨_, rfl, rfl, ht⟩) (fun _ h => by cases h) dX0_yearLength_11
set_option maxHeartbeats 4000000 in
set_option maxRecDepth 100000 in
/-- MonthDesk.leap -/
theorem metX0_leap (l : Launch) (D : va_G) (g : Nat → Nat) (x q : Nat) (cA : ClassId) (a : Nat → Nat) (Y M : Nat → Int) (i : Nat) (p1 : Int32) (hi : i < 2) (hw : p1 &&& 1 = nI i) (b1 : -9000000 ≤ Y i) (b2 : Y i ≤ 9000000) (m1 : 1 ≤ M i) (m2 : M i ≤ 12) : Met l yX0_leap (ws_ yX0_leap cX0_leap 2 (some .boolean)) (jd_rm 2 0 0) (jd_Pc [.ref x, .int p1] (fun U H => va_P D jd_cl (jd_DW x q cA a Y M) H ∧ va_K D jd_cl [(cA, .object "YearMonth")] U ∧ jd_E g jd_no U H ∧ jd_I g jd_no U H)) (vp_Si (fun z => z = jd_b (jd_lp (Y i)))) 0 0 (fun _ => False) := by
  refine Met.ofW (cc := cX0_leap) (maxL := 2) (ret := (some .boolean)) (by decide) rfl ?_
  intro p e s m args below meth c s₁ B hml hv
  obtain ⟨rfl, hP, hK, hE, hI⟩ := hv
  have hx := B.exec
  have hb := B.bytes
  have hr := B.returns
  have hts := atoms_spec (ws := (ws_ yX0_leap cX0_leap 2 (some .boolean))) B.pre
  have hts : ∀ w ∈ lw_all, w.before _ s = true := fun w h => hts w (List.mem_cons_of_mem _ h)
  have hown : s.vm.findClass RX0 = some m.cls := findClass_of_methodNamed B.named
  have hlocks := B.notSynchronized
  have hP : va_P D jd_cl [jd_dk x q, jd_ar q cA (fun j => some (a j)), jd_ym (a i) (Y i) (M i), jd_ym (a (1 - i)) (Y (1 - i)) (M (1 - i))] s.heap := jd_pickP hi hP
  have hS : va_S jd_no s.heap s.heap [] := va_S.rf
  have hl := lv_entry ([.ref x, .int p1]) (n := 2) (Nat.le_of_ble_eq_true rfl)
  rw [lg_entry_eq]
  generalize (lg_sl ([.ref x, .int p1]) ++ List.replicate (2 - (lg_sl ([.ref x, .int p1])).length) Slot.unset).toArray = ls at hl ⊢
  have hl : lv_has ls 2 [(0, .ref x), (1, .int p1)] := hl
  refine lv_aload_n hx hb dX0_leap_0 rfl (lv_at hl 0 rfl) ?_
  refine va_get (D := D) (ci := 0) (v := .ref q) (C := RX0) (T := TX0) (N := 1) hx hb hts in_X0 hown hK hP 0 rfl rfl 0 (by decide) (hts _ q144) (fun _ h9 => h9) rfl dX0_leap_1 ?_
  refine lv_iload_n hx hb dX0_leap_4 rfl (lv_at hl 1 rfl) ?_
  refine lv_iconst (v := jd_i 1) hx hb dX0_leap_5 (by decide) ?_
  refine lv_iand hx hb dX0_leap_6 ?_
  refine jd_ti (y := (nI i)) hw ?_
  refine jd_aald hx hb hK hP 1 0 rfl rfl hi (by decide) rfl dX0_leap_7 ?_
  refine vp_callSi (W.runV (As := []) (rest := []) ⟨hx, hb, hml, hown, hts⟩ (metX2_isLeapYear l D g (a i) (Y i) (M i) (by omega) (by omega)) (cwV 0 hts (lw_V q288 q254 q255 q5 q256) rfl rfl rfl (by decide +kernel) ⟨Nat.le_of_ble_eq_true rfl, Nat.le_of_ble_eq_true rfl⟩) (jd_preV (jd_mvA (jd_mvP _ _ _) (jd_mvA (jd_mvK _ _ _) jd_I.moved)) (va_recv hK hP (ci := 1) (q0 := 2) rfl rfl) ⟨hP.sub [2] rfl, hK.sub [] rfl, hI⟩) rfl rfl hl.1 rfl (lv_room (Nat.le_of_ble_eq_true rfl)) dX0_leap_8 ⟨Nat.le_of_ble_eq_true rfl, Nat.le_of_ble_eq_true rfl⟩) (fun r_1 hr_1 => ?_)
  obtain rfl : (jd_b (jd_lp (Y i))) = r_1 := Eq.symm hr_1
  exact W.zret hx hb hr (by cases jd_lp (Y i) <;> rfl) (fun t ht hW => ⟨_, rfl, rfl, ht⟩) (fun _ h => by cases h) dX0_leap_11
set_option maxHeartbeats 4000000 in
set_option maxRecDepth 100000 in
/-- MonthDesk.order -/
theorem metX0_order (l : Launch) (D : va_G) (x q : Nat) (cA : ClassId) (a : Nat → Nat) (Y M : Nat → Int) (b1 : -9000000 ≤ Y 0) (b2 : Y 0 ≤ 9000000) (b3 : -9000000 ≤ Y 1) (b4 : Y 1 ≤ 9000000) (m1 : 1 ≤ M 0) (m2 : M 0 ≤ 12) (m3 : 1 ≤ M 1) (m4 : M 1 ≤ 12) : Met l yX0_order (ws_ yX0_order cX0_order 2 (some .int)) (jd_rm 1 0 0) (jd_Pc [.ref x] (fun U H => va_P D jd_cl (jd_DW x q cA a Y M) H ∧ va_K D jd_cl [(cA, .object "YearMonth")] U)) (vp_Si (fun z => z = jd_i (jd_or (Y 0) (Y 1) (M 0) (M 1)))) 0 0 (fun _ => False) := by
  refine Met.ofW (cc := cX0_order) (maxL := 2) (ret := (some .int)) (by decide) rfl ?_
  intro p e s m args below meth c s₁ B hml hv
  obtain ⟨rfl, hP, hK⟩ := hv
  have hx := B.exec
  have hb := B.bytes
  have hr := B.returns
  have hts := atoms_spec (ws := (ws_ yX0_order cX0_order 2 (some .int))) B.pre
  have hts : ∀ w ∈ lw_all, w.before _ s = true := fun w h => hts w (List.mem_cons_of_mem _ h)
  have hown : s.vm.findClass RX0 = some m.cls := findClass_of_methodNamed B.named
  have hlocks := B.notSynchronized
  have hP : va_P D jd_cl [jd_dk x q, jd_ar q cA (fun j => some (a j)), jd_ym (a 0) (Y 0) (M 0), jd_ym (a 1) (Y 1) (M 1)] s.heap := hP
  have hS : va_S jd_no s.heap s.heap [] := va_S.rf
  have hl := lv_entry ([.ref x]) (n := 2) (Nat.le_of_ble_eq_true rfl)
  rw [lg_entry_eq]
  generalize (lg_sl ([.ref x]) ++ List.replicate (2 - (lg_sl ([.ref x])).length) Slot.unset).toArray = ls at hl ⊢
  have hl : lv_has ls 2 [(0, .ref x)] := hl
  refine lv_aload_n hx hb dX0_order_0 rfl (lv_at hl 0 rfl) ?_
  refine va_get (D := D) (ci := 0) (v := .ref q) (C := RX0) (T := TX0) (N := 1) hx hb hts in_X0 hown hK hP 0 rfl rfl 0 (by decide) (hts _ q144) (fun _ h9 => h9) rfl dX0_order_1 ?_
  refine lv_iconst (v := jd_i 0) hx hb dX0_order_4 (by decide) ?_
  refine jd_ti (y := (nI 0)) (by decide) ?_
  refine jd_aald hx hb hK hP 1 0 rfl rfl (show 0 < 2 by decide) (by decide) rfl dX0_order_5 ?_
  refine lv_aload_n hx hb dX0_order_6 rfl (lv_at hl 0 rfl) ?_
  refine va_get (D := D) (ci := 0) (v := .ref q) (C := RX0) (T := TX0) (N := 1) hx hb hts in_X0 hown hK hP 0 rfl rfl 0 (by decide) (hts _ q144) (fun _ h9 => h9) rfl dX0_order_7 ?_
  refine lv_iconst (v := jd_i 1) hx hb dX0_order_10 (by decide) ?_
  refine jd_ti (y := (nI 1)) (by decide) ?_
  refine jd_aald hx hb hK hP 1 0 rfl rfl (show 1 < 2 by decide) (by decide) rfl dX0_order_11 ?_
  refine vp_callSi (W.runV (As := [.ref (a 1)]) (rest := []) ⟨hx, hb, hml, hown, hts⟩ (metX2_compareTo l D (a 0) (a 1) (Y 0) (M 0) (Y 1) (M 1) b1 b2 b3 b4) (cwV 1 hts (lw_V q377 q378 q379 q5 q380) rfl rfl rfl (by decide +kernel) ⟨Nat.le_of_ble_eq_true rfl, Nat.le_of_ble_eq_true rfl⟩) (jd_preV (jd_mvA (jd_mvP _ _ _) (jd_mvK _ _ _)) (va_recv hK hP (ci := 1) (q0 := 2) rfl rfl) ⟨hP.sub [2, 3] rfl, hK.sub [] rfl⟩) rfl rfl hl.1 rfl (lv_room (Nat.le_of_ble_eq_true rfl)) dX0_order_12 ⟨Nat.le_of_ble_eq_true rfl, Nat.le_of_ble_eq_true rfl⟩) (fun r_1 hr_1 => ?_)
  obtain rfl : (jd_i ((if Y 0 = Y 1 then M 0 - M 1 else Y 0 - Y 1))) = r_1 := Eq.symm hr_1
  obtain ⟨z0, hz0⟩ : ∃ z0 : Int, z0 = (if Y 0 = Y 1 then M 0 - M 1 else Y 0 - Y 1) := ⟨_, rfl⟩
  have z1 : Y 0 = Y 1 → z0 = M 0 - M 1 := fun h => by rw [hz0, if_pos h]
  have z2 : ¬ Y 0 = Y 1 → z0 = Y 0 - Y 1 := fun h => by rw [hz0, if_neg h]
  have z3 := jd_or_spec z1 z2
  refine jd_ti (y := jd_i z0) (by rw [hz0]) ?_
  refine lv_istore_n (lv' := [(1, .int (jd_i z0)), (0, .ref x)]) hx hb dX0_order_15 rfl hl (by decide) rfl (fun ls hl => ?_)
  refine lv_iload_n hx hb dX0_order_16 rfl (lv_at hl 0 rfl) ?_
  refine lv_if_ge (tgt := 24) hx hb dX0_order_17 (by decide) (fun c1 => ?_) (fun c1 => ?_)
  · have c1 : 0 ≤ z0 := (jd_i_le (a := 0) (b := z0) (by omega) (by omega) (by omega) (by omega)).mp c1
    refine lv_iload_n hx hb dX0_order_24 rfl (lv_at hl 0 rfl) ?_
    refine lv_if_le (tgt := 32) hx hb dX0_order_25 (by decide) (fun c2 => ?_) (fun c2 => ?_)
    · have c2 : z0 ≤ 0 := (jd_i_le (a := z0) (b := 0) (by omega) (by omega) (by omega) (by omega)).mp c2
      refine lv_iconst (v := jd_i 0) hx hb dX0_order_32 (by decide) ?_
      exact W.iret hx hb hr (fun t ht hW => ⟨_, rfl, (by rw [z3.2.2 (by omega)]), ht⟩) (fun _ h => by cases h) dX0_order_33
    · have c2 : ¬ (z0 ≤ 0) := fun z => c2 ((jd_i_le (a := z0) (b := 0) (by omega) (by omega) (by omega) (by omega)).mpr z)
      refine lv_iconst (v := jd_i 1) hx hb dX0_order_28 (by decide) ?_
      refine lv_goto (tgt := 33) hx hb dX0_order_29 (by decide) ?_
      exact W.iret hx hb hr (fun t ht hW => ⟨_, rfl, (by rw [z3.2.1 (by omega)]), ht⟩) (fun _ h => by cases h) dX0_order_33
  · have c1 : ¬ (0 ≤ z0) := fun z => c1 ((jd_i_le (a := 0) (b := z0) (by omega) (by omega) (by omega) (by omega)).mpr z)
    refine lv_iconst (v := jd_i (-1)) hx hb dX0_order_20 (by decide) ?_
    refine lv_goto (tgt := 33) hx hb dX0_order_21 (by decide) ?_
    exact W.iret hx hb hr (fun t ht hW => ⟨_, rfl, (by rw [z3.1 (by omega)]), ht⟩) (fun _ h => by cases h) dX0_order_33
set_option maxHeartbeats 4000000 in
set_option maxRecDepth 100000 in
/-- MonthDesk.firstDay -/
theorem metX0_firstDay (l : Launch) (D : va_G) (g : Nat → Nat) (x q sz : Nat) (cA : ClassId) (a : Nat → Nat) (Y M : Nat → Int) (i : Nat) (p1 : Int32) (hi : i < 2) (hw : p1 &&& 1 = nI i) (b1 : -9000000 ≤ Y i) (b2 : Y i ≤ 9000000) (m1 : 1 ≤ M i) (m2 : M i ≤ 12) : Met l yX0_firstDay (ws_ yX0_firstDay cX0_firstDay 2 (some .long)) (jd_rm 8 1 3) (jd_Pc [.ref x, .int p1] (fun U H => H.size = sz ∧ va_P D jd_cl (jd_DW x q cA a Y M) H ∧ va_K D jd_cl [(cA, .object "YearMonth")] U ∧ jd_C g (va_A [] sz) U H)) (va_Ql (fun (z : Int64) (_ : Unit) => z = jd_l (jd_ed (Y i) (M i))) (fun _ _ => True) (va_A [] sz)) 1 3 (va_A [] sz) := by
  refine Met.ofW (cc := cX0_firstDay) (maxL := 2) (ret := (some .long)) (by decide) rfl ?_
  intro p e s m args below meth c s₁ B hml hv
  obtain ⟨rfl, hsz, hP, hK, hC⟩ := hv
  have hx := B.exec
  have hb := B.bytes
  have hr := B.returns
  have hts := atoms_spec (ws := (ws_ yX0_firstDay cX0_firstDay 2 (some .long))) B.pre
  have hts : ∀ w ∈ lw_all, w.before _ s = true := fun w h => hts w (List.mem_cons_of_mem _ h)
  have hown : s.vm.findClass RX0 = some m.cls := findClass_of_methodNamed B.named
  have hlocks := B.notSynchronized
  subst hsz
  have hD : va_D (va_A [] s.heap.size) [] := jd_D0
  generalize hAe : va_A [] s.heap.size = A at hD hC ⊢
  have hA : ∀ q : Nat, s.heap.size ≤ q → A q := fun q h => by rw [← hAe]; exact Or.inr h
  have hS : va_S A s.heap s.heap [] := va_S.rf
  have hP : va_P D jd_cl [jd_dk x q, jd_ar q cA (fun j => some (a j)), jd_ym (a i) (Y i) (M i), jd_ym (a (1 - i)) (Y (1 - i)) (M (1 - i))] s.heap := jd_pickP hi hP
  obtain ⟨j, hj, ej⟩ := jd_mon m1 m2
  rw [ej] at hP
  have hl := lv_entry ([.ref x, .int p1]) (n := 2) (Nat.le_of_ble_eq_true rfl)
  rw [lg_entry_eq]
  generalize (lg_sl ([.ref x, .int p1]) ++ List.replicate (2 - (lg_sl ([.ref x, .int p1])).length) Slot.unset).toArray = ls at hl ⊢
  have hl : lv_has ls 2 [(0, .ref x), (1, .int p1)] := hl
  refine lv_aload_n hx hb dX0_firstDay_0 rfl (lv_at hl 0 rfl) ?_
  refine va_get (D := D) (ci := 0) (v := .ref q) (C := RX0) (T := TX0) (N := 1) hx hb hts in_X0 hown hK hP 0 rfl rfl 0 (by decide) (hts _ q144) (fun _ h9 => h9) rfl dX0_firstDay_1 ?_
  refine lv_iload_n hx hb dX0_firstDay_4 rfl (lv_at hl 1 rfl) ?_
  refine lv_iconst (v := jd_i 1) hx hb dX0_firstDay_5 (by decide) ?_
  refine lv_iand hx hb dX0_firstDay_6 ?_
  refine jd_ti (y := (nI i)) hw ?_
  refine jd_aald hx hb hK hP 1 0 rfl rfl hi (by decide) rfl dX0_firstDay_7 ?_
  refine lv_iconst (v := jd_i 1) hx hb dX0_firstDay_8 (by decide) ?_
  have hFc := va_free (wc := []) hD hS hA [] rfl
  refine va_callr (va_runV (As := [.int (jd_i 1)]) (rest := []) ⟨hx, hb, hml, hown, hts⟩ (metX2_atDay l D g (a i) s.heap.size (Y i) j 1 hj (by omega) (by omega) (by omega) (by omega)) (cwV 1 hts (lw_V q293 q294 q295 q5 q296) rfl rfl rfl (by decide +kernel) ⟨Nat.le_of_ble_eq_true rfl, Nat.le_of_ble_eq_true rfl⟩) (jd_preV (jd_mvA (jd_mvZ _) (jd_mvA (jd_mvP _ _ _) (jd_mvA (jd_mvK _ _ _) jd_C.moved))) (va_recv hK hP (ci := 1) (q0 := 2) rfl rfl) ⟨rfl, hP.sub [2] rfl, hK.sub [] rfl, hC.narrow hFc⟩) rfl rfl hl.1 rfl (lv_room (Nat.le_of_ble_eq_true rfl)) dX0_firstDay_9 ⟨Nat.le_of_ble_eq_true rfl, Nat.le_of_ble_eq_true rfl⟩) hS (fun q _ h => hFc q h) hFc (fun u_ b t H1 locs ht hvm hw1 hB hz1 hk1 hS => ?_)
  have hP : va_P D jd_cl [] s.heap := jd_P0
  obtain ⟨hP1, hK1, hD1⟩ := hB
  rw [ht] at hP1
  obtain ⟨hP, hD⟩ := va_join (wr := []) (w1 := [jd_ld b (Y i) ((j : Int) + 1) 1]) hP hD [] [] rfl rfl (by decide) (by decide) hk1 hFc hP1 hD1
  generalize H1 = H at hP hS ⊢
  have hP : va_P D jd_cl [jd_ld b (Y i) ((j : Int) + 1) 1] H := hP
  have hD : va_D A [jd_ld b (Y i) ((j : Int) + 1) 1] := hD
  refine vp_callSl (W.runV (As := []) (rest := []) ⟨hx, hb, hml, hown, hts⟩ (metX11_toEpochDay l D g b (Y i) ((j : Int) + 1) 1 (by omega) (by omega) (by omega) (by omega) (by omega) (by omega)) (cwV 0 hts (lw_V q341 q342 q343 q19 q344) rfl rfl rfl (by decide +kernel) ⟨Nat.le_of_ble_eq_true rfl, Nat.le_of_ble_eq_true rfl⟩) (jd_preV (jd_mvA (jd_mvP _ _ _) (jd_mvA (jd_mvK _ _ _) jd_I.moved)) (va_recv hK hP (ci := 2) (q0 := 0) rfl rfl) ⟨hP, hK.sub [] rfl, (hC.kept hS.2.1).2.2.2.2.narrow jd_nn⟩) rfl rfl hl.1 rfl (lv_room (Nat.le_of_ble_eq_true rfl)) dX0_firstDay_12 ⟨Nat.le_of_ble_eq_true rfl, Nat.le_of_ble_eq_true rfl⟩) (fun r_1 hr_1 => ?_)
  obtain rfl : (jd_l ((jd_ed (Y i) ((j : Int) + 1) + (1 - 1)))) = r_1 := Eq.symm hr_1
  exact W.lret hx hb hr (fun t ht hW => ⟨⟨_, (), rfl, (by rw [ej]; congr 1; omega), trivial⟩, hS.F ht⟩) hS.2.2 dX0_firstDay_15
set_option maxHeartbeats 4000000 in
set_option maxRecDepth 100000 in
/-- MonthDesk.lastDay -/
theorem metX0_lastDay (l : Launch) (D : va_G) (g : Nat → Nat) (x q sz : Nat) (cA : ClassId) (a : Nat → Nat) (Y M : Nat → Int) (i : Nat) (p1 : Int32) (hi : i < 2) (hw : p1 &&& 1 = nI i) (b1 : -9000000 ≤ Y i) (b2 : Y i ≤ 9000000) (m1 : 1 ≤ M i) (m2 : M i ≤ 12) : Met l yX0_lastDay (ws_ yX0_lastDay cX0_lastDay 2 (some .long)) (jd_rm 8 1 3) (jd_Pc [.ref x, .int p1] (fun U H => H.size = sz ∧ va_P D jd_cl (jd_DW x q cA a Y M) H ∧ va_K D jd_cl [(cA, .object "YearMonth")] U ∧ jd_C g (va_A [] sz) U H)) (va_Ql (fun (z : Int64) (_ : Unit) => z = jd_l (jd_ed (Y i) (M i) + jd_dm (jd_lp (Y i)) (M i) - 1)) (fun _ _ => True) (va_A [] sz)) 1 3 (va_A [] sz) := by
  refine Met.ofW (cc := cX0_lastDay) (maxL := 2) (ret := (some .long)) (by decide) rfl ?_
  intro p e s m args below meth c s₁ B hml hv
  obtain ⟨rfl, hsz, hP, hK, hC⟩ := hv
  have hx := B.exec
  have hb := B.bytes
  have hr := B.returns
  have hts := atoms_spec (ws := (ws_ yX0_lastDay cX0_lastDay 2 (some .long))) B.pre
  have hts : ∀ w ∈ lw_all, w.before _ s = true := fun w h => hts w (List.mem_cons_of_mem _ h)
  have hown : s.vm.findClass RX0 = some m.cls := findClass_of_methodNamed B.named
  have hlocks := B.notSynchronized
  subst hsz
  have hD : va_D (va_A [] s.heap.size) [] := jd_D0
  generalize hAe : va_A [] s.heap.size = A at hD hC ⊢
  have hA : ∀ q : Nat, s.heap.size ≤ q → A q := fun q h => by rw [← hAe]; exact Or.inr h
  have hS : va_S A s.heap s.heap [] := va_S.rf
  have hP : va_P D jd_cl [jd_dk x q, jd_ar q cA (fun j => some (a j)), jd_ym (a i) (Y i) (M i), jd_ym (a (1 - i)) (Y (1 - i)) (M (1 - i))] s.heap := jd_pickP hi hP
  obtain ⟨j, hj, ej⟩ := jd_mon m1 m2
  rw [ej] at hP
  have hl := lv_entry ([.ref x, .int p1]) (n := 2) (Nat.le_of_ble_eq_true rfl)
  rw [lg_entry_eq]
  generalize (lg_sl ([.ref x, .int p1]) ++ List.replicate (2 - (lg_sl ([.ref x, .int p1])).length) Slot.unset).toArray = ls at hl ⊢
  have hl : lv_has ls 2 [(0, .ref x), (1, .int p1)] := hl
  refine lv_aload_n hx hb dX0_lastDay_0 rfl (lv_at hl 0 rfl) ?_
  refine va_get (D := D) (ci := 0) (v := .ref q) (C := RX0) (T := TX0) (N := 1) hx hb hts in_X0 hown hK hP 0 rfl rfl 0 (by decide) (hts _ q144) (fun _ h9 => h9) rfl dX0_lastDay_1 ?_
  refine lv_iload_n hx hb dX0_lastDay_4 rfl (lv_at hl 1 rfl) ?_
  refine lv_iconst (v := jd_i 1) hx hb dX0_lastDay_5 (by decide) ?_
  refine lv_iand hx hb dX0_lastDay_6 ?_
  refine jd_ti (y := (nI i)) hw ?_
  refine jd_aald hx hb hK hP 1 0 rfl rfl hi (by decide) rfl dX0_lastDay_7 ?_
  have d3 := jd_dm_rg (jd_lp (Y i)) ((j : Int) + 1)
  have hFc := va_free (wc := []) hD hS hA [] rfl
  refine va_callr (va_runV (As := []) (rest := []) ⟨hx, hb, hml, hown, hts⟩ (metX2_atEndOfMonth l D g (a i) s.heap.size (Y i) j hj (by omega) (by omega)) (cwV 0 hts (lw_V q368 q369 q370 q5 q371) rfl rfl rfl (by decide +kernel) ⟨Nat.le_of_ble_eq_true rfl, Nat.le_of_ble_eq_true rfl⟩) (jd_preV (jd_mvA (jd_mvZ _) (jd_mvA (jd_mvP _ _ _) (jd_mvA (jd_mvK _ _ _) jd_C.moved))) (va_recv hK hP (ci := 1) (q0 := 2) rfl rfl) ⟨rfl, hP.sub [2] rfl, hK.sub [] rfl, hC.narrow hFc⟩) rfl rfl hl.1 rfl (lv_room (Nat.le_of_ble_eq_true rfl)) dX0_lastDay_8 ⟨Nat.le_of_ble_eq_true rfl, Nat.le_of_ble_eq_true rfl⟩) hS (fun q _ h => hFc q h) hFc (fun u_ b t H1 locs ht hvm hw1 hB hz1 hk1 hS => ?_)
  have hP : va_P D jd_cl [] s.heap := jd_P0
  obtain ⟨hP1, hK1, hD1⟩ := hB
  rw [ht] at hP1
  obtain ⟨hP, hD⟩ := va_join (wr := []) (w1 := [jd_ld b (Y i) ((j : Int) + 1) (jd_dm (jd_lp (Y i)) ((j : Int) + 1))]) hP hD [] [] rfl rfl (by decide) (by decide) hk1 hFc hP1 hD1
  generalize H1 = H at hP hS ⊢
  have hP : va_P D jd_cl [jd_ld b (Y i) ((j : Int) + 1) (jd_dm (jd_lp (Y i)) ((j : Int) + 1))] H := hP
  have hD : va_D A [jd_ld b (Y i) ((j : Int) + 1) (jd_dm (jd_lp (Y i)) ((j : Int) + 1))] := hD
  refine vp_callSl (W.runV (As := []) (rest := []) ⟨hx, hb, hml, hown, hts⟩ (metX11_toEpochDay l D g b (Y i) ((j : Int) + 1) (jd_dm (jd_lp (Y i)) ((j : Int) + 1)) (by omega) (by omega) (by omega) (by omega) (by omega) (by omega)) (cwV 0 hts (lw_V q341 q342 q343 q19 q344) rfl rfl rfl (by decide +kernel) ⟨Nat.le_of_ble_eq_true rfl, Nat.le_of_ble_eq_true rfl⟩) (jd_preV (jd_mvA (jd_mvP _ _ _) (jd_mvA (jd_mvK _ _ _) jd_I.moved)) (va_recv hK hP (ci := 2) (q0 := 0) rfl rfl) ⟨hP, hK.sub [] rfl, (hC.kept hS.2.1).2.2.2.2.narrow jd_nn⟩) rfl rfl hl.1 rfl (lv_room (Nat.le_of_ble_eq_true rfl)) dX0_lastDay_11 ⟨Nat.le_of_ble_eq_true rfl, Nat.le_of_ble_eq_true rfl⟩) (fun r_1 hr_1 => ?_)
  obtain rfl : (jd_l ((jd_ed (Y i) ((j : Int) + 1) + ((jd_dm (jd_lp (Y i)) ((j : Int) + 1)) - 1)))) = r_1 := Eq.symm hr_1
  exact W.lret hx hb hr (fun t ht hW => ⟨⟨_, (), rfl, (by rw [ej]; congr 1; omega), trivial⟩, hS.F ht⟩) hS.2.2 dX0_lastDay_14
set_option maxHeartbeats 4000000 in
set_option maxRecDepth 100000 in
/-- MonthDesk() -/
theorem metX0_init (l : Launch) (D : va_G) (g : Nat → Nat) (x sz : Nat) : Met l yX0_init (ws_ yX0_init cX0_init 1 none) (jd_rm 5 3 6) (jd_Pc [.ref x] (fun U H => H.size = sz ∧ va_P D jd_cl [(x, .inr (0, [.null]))] H ∧ va_K D jd_cl [] U ∧ va_AO "YearMonth" U ∧ jd_C g (va_A [(x, .inr (0, [.null]))] sz) U H)) (va_Qv (fun _ : Nat × ClassId × (Nat → Nat) => True) (fun u t => va_P D jd_cl (jd_DW x u.1 u.2.1 u.2.2 (fun _ => 2000) (fun _ => 1)) t.heap ∧ va_K D jd_cl [(u.2.1, .object "YearMonth")] t ∧ va_D (va_A [(x, .inr (0, [.null]))] sz) (jd_DW x u.1 u.2.1 u.2.2 (fun _ => 2000) (fun _ => 1))) (va_A [(x, .inr (0, [.null]))] sz)) 3 6 (va_A [(x, .inr (0, [.null]))] sz) := by
  refine Met.ofW (cc := cX0_init) (maxL := 1) (ret := none) (by decide) rfl ?_
  intro p e s m args below meth c s₁ B hml hv
  obtain ⟨rfl, hsz, hP, hK, hO, hC⟩ := hv
  have hx := B.exec
  have hb := B.bytes
  have hr := B.returns
  have hts := atoms_spec (ws := (ws_ yX0_init cX0_init 1 none)) B.pre
  have hts : ∀ w ∈ lw_all, w.before _ s = true := fun w h => hts w (List.mem_cons_of_mem _ h)
  have hown : s.vm.findClass RX0 = some m.cls := findClass_of_methodNamed B.named
  have hlocks := B.notSynchronized
  have hin : meth.name = "<init>" := (name_of_methodNamed B.named B.method).1
  subst hsz
  have hD : va_D (va_A [(x, .inr (0, [.null]))] s.heap.size) [(x, .inr (0, [.null]))] := jd_D1 (Or.inl ⟨0, _, rfl⟩)
  generalize hAe : va_A [(x, .inr (0, [.null]))] s.heap.size = A at hD hC ⊢
  have hA : ∀ q : Nat, s.heap.size ≤ q → A q := fun q h => by rw [← hAe]; exact Or.inr h
  have hS : va_S A s.heap s.heap [] := va_S.rf
  have hl := lv_entry ([.ref x]) (n := 1) (Nat.le_of_ble_eq_true rfl)
  rw [lg_entry_eq]
  generalize (lg_sl ([.ref x]) ++ List.replicate (1 - (lg_sl ([.ref x])).length) Slot.unset).toArray = ls at hl ⊢
  have hl : lv_has ls 1 [(0, .ref x)] := hl
  refine lv_aload_n hx hb dX0_init_0 rfl (lv_at hl 0 rfl) ?_
  refine W.objInit hx hb hown (hts _ q25) (hts _ q26) (hts _ q27) rfl (by rw [hml]; exact hl.1) rfl dX0_init_1 (Nat.le_of_ble_eq_true rfl) (Nat.le_of_ble_eq_true rfl) ?_
  refine W.eq (g2 := F0 m 4 ls []) rfl ?_
  refine lv_aload_n hx hb dX0_init_4 rfl (lv_at hl 0 rfl) ?_
  refine lv_iconst (v := jd_i 2) hx hb dX0_init_5 (by decide) ?_
  refine va_newq (C := "YearMonth") hx hb hown (hts _ q28) hO hK hP hD hS hA (n := jd_i 2) (N' := 2) (by decide) (by decide) (Nat.le_of_ble_eq_true rfl) (Nat.le_of_ble_eq_true rfl) (Nat.le_of_ble_eq_true rfl) dX0_init_6 (fun q cA H hK hP hD hS => ?_)
  have hP : va_P D jd_cl [(x, .inr (0, [.null])), jd_ar q cA (fun _ => none)] H := hP
  have hD : va_D A [(x, .inr (0, [.null])), jd_ar q cA (fun _ => none)] := hD
  have hK : va_K D jd_cl [(cA, .object "YearMonth")] s := hK
  refine lv_dup hx hb dX0_init_9 rfl ?_
  refine lv_iconst (v := jd_i 0) hx hb dX0_init_10 (by decide) ?_
  refine jd_ti (y := (nI 0)) (by decide) ?_
  refine lv_sipush (v := jd_i 2000) hx hb dX0_init_11 (by decide) ?_
  refine lv_iconst (v := jd_i 1) hx hb dX0_init_14 (by decide) ?_
  have hFc := va_free (wc := []) hD hS hA [] rfl
  refine va_callr (va_runS (As := [.int (jd_i 2000), .int (jd_i 1)]) (rest := [.int (nI 0), .ref q, .ref q, .ref x]) ⟨hx, hb, hml, hown, hts⟩ (metX2_of l D g H.size 2000 1 (by decide) (by decide) (by decide) (by decide)) (va_cwS 2 hts (lw_S q30 q31 q5 q32) rfl rfl rfl (by decide +kernel) ⟨Nat.le_of_ble_eq_true rfl, Nat.le_of_ble_eq_true rfl⟩) (jd_preS (jd_mvA (jd_mvZ _) (jd_mvA (jd_mvK _ _ _) jd_C.moved)) ⟨rfl, hK.sub [] rfl, (hC.kept hS.2.1).narrow hFc⟩) rfl rfl hl.1 rfl (lv_room (Nat.le_of_ble_eq_true rfl)) dX0_init_15 ⟨Nat.le_of_ble_eq_true rfl, Nat.le_of_ble_eq_true rfl⟩) hS (fun q _ h => hFc q h) hFc (fun u_ b0 t H1 locs ht hvm hw1 hB hz1 hk1 hS => ?_)
  obtain ⟨hP1, hK1, hD1⟩ := hB
  rw [ht] at hP1
  obtain ⟨hP, hD⟩ := va_join (wr := [(x, .inr (0, [.null])), jd_ar q cA (fun _ => none)]) (w1 := [jd_ym b0 2000 1]) hP hD [] [0, 1] rfl rfl (by decide) (by decide) hk1 hFc hP1 hD1
  generalize H1 = H at hP hS ⊢
  have hP : va_P D jd_cl [(x, .inr (0, [.null])), jd_ar q cA (fun _ => none), jd_ym b0 2000 1] H := hP
  have hD : va_D A [(x, .inr (0, [.null])), jd_ar q cA (fun _ => none), jd_ym b0 2000 1] := hD
  refine jd_aast hx hb hK hP hD hS 1 0 2 1 rfl rfl rfl rfl (show 0 < 2 by decide) (by decide) dX0_init_18 (fun H locs hP hD hS => ?_)
  have hP : va_P D jd_cl [(x, .inr (0, [.null])), jd_ar q cA (va_up (fun _ => none) 0 (some b0)), jd_ym b0 2000 1] H := hP
  have hD : va_D A [(x, .inr (0, [.null])), jd_ar q cA (va_up (fun _ => none) 0 (some b0)), jd_ym b0 2000 1] := hD
  refine lv_dup hx hb dX0_init_19 rfl ?_
  refine lv_iconst (v := jd_i 1) hx hb dX0_init_20 (by decide) ?_
  refine jd_ti (y := (nI 1)) (by decide) ?_
  refine lv_sipush (v := jd_i 2000) hx hb dX0_init_21 (by decide) ?_
  refine lv_iconst (v := jd_i 1) hx hb dX0_init_24 (by decide) ?_
  have hFc := va_free (wc := []) hD hS hA [] rfl
  refine va_callr (va_runS (As := [.int (jd_i 2000), .int (jd_i 1)]) (rest := [.int (nI 1), .ref q, .ref q, .ref x]) ⟨hx, hb, hml, hown, hts⟩ (metX2_of l D g H.size 2000 1 (by decide) (by decide) (by decide) (by decide)) (va_cwS 2 hts (lw_S q30 q31 q5 q32) rfl rfl rfl (by decide +kernel) ⟨Nat.le_of_ble_eq_true rfl, Nat.le_of_ble_eq_true rfl⟩) (jd_preS (jd_mvA (jd_mvZ _) (jd_mvA (jd_mvK _ _ _) jd_C.moved)) ⟨rfl, hK.sub [] rfl, (hC.kept hS.2.1).narrow hFc⟩) rfl rfl hl.1 rfl (lv_room (Nat.le_of_ble_eq_true rfl)) dX0_init_25 ⟨Nat.le_of_ble_eq_true rfl, Nat.le_of_ble_eq_true rfl⟩) hS (fun q _ h => hFc q h) hFc (fun u_ b1 t H1 locs ht hvm hw1 hB hz1 hk1 hS => ?_)
  obtain ⟨hP1, hK1, hD1⟩ := hB
  rw [ht] at hP1
  obtain ⟨hP, hD⟩ := va_join (wr := [(x, .inr (0, [.null])), jd_ar q cA (va_up (fun _ => none) 0 (some b0)), jd_ym b0 2000 1]) (w1 := [jd_ym b1 2000 1]) hP hD [] [0, 1, 2] rfl rfl (by decide) (by decide) hk1 hFc hP1 hD1
  generalize H1 = H at hP hS ⊢
  have hP : va_P D jd_cl [(x, .inr (0, [.null])), jd_ar q cA (va_up (fun _ => none) 0 (some b0)), jd_ym b0 2000 1, jd_ym b1 2000 1] H := hP
  have hD : va_D A [(x, .inr (0, [.null])), jd_ar q cA (va_up (fun _ => none) 0 (some b0)), jd_ym b0 2000 1, jd_ym b1 2000 1] := hD
  refine jd_aast hx hb hK hP hD hS 1 0 3 1 rfl rfl rfl rfl (show 1 < 2 by decide) (by decide) dX0_init_28 (fun H locs hP hD hS => ?_)
  have hP : va_P D jd_cl [(x, .inr (0, [.null])), jd_ar q cA (va_up (va_up (fun _ => none) 0 (some b0)) 1 (some b1)), jd_ym b0 2000 1, jd_ym b1 2000 1] H := hP
  have hD : va_D A [(x, .inr (0, [.null])), jd_ar q cA (va_up (va_up (fun _ => none) 0 (some b0)) 1 (some b1)), jd_ym b0 2000 1, jd_ym b1 2000 1] := hD
  refine va_putF (D := D) (ci := 0) (v := .ref q) (ty := (.array (.object "YearMonth"))) (C := RX0) (T := TX0) (N := 1) hx hb hts in_X0 tyX0 tyX0_ok nmX0 hown hK hP hD hS 0 rfl rfl 0 (by decide) (hts _ q144) (fun _ h9 => h9) rfl hin rfl (by decide +kernel) rfl rfl (Nat.le_of_ble_eq_true rfl) dX0_init_29 (fun H locs hP hD hS => ?_)
  have hP : va_P D jd_cl [jd_dk x q, jd_ar q cA (va_up (va_up (fun _ => none) 0 (some b0)) 1 (some b1)), jd_ym b0 2000 1, jd_ym b1 2000 1] H := hP
  have hD : va_D A [jd_dk x q, jd_ar q cA (va_up (va_up (fun _ => none) 0 (some b0)) 1 (some b1)), jd_ym b0 2000 1, jd_ym b1 2000 1] := hD
  have hP : va_P D jd_cl (jd_DW x q cA (fun j => if j = 0 then b0 else b1) (fun _ => 2000) (fun _ => 1)) H := jd_arP (f' := fun j => some ((fun j => if j = 0 then b0 else b1) j)) (fun j hj => by rcases jd_lt2 hj with rfl | rfl <;> rfl) hP
  have hD : va_D A (jd_DW x q cA (fun j => if j = 0 then b0 else b1) (fun _ => 2000) (fun _ => 1)) := hD.set (p := 1) (e := .inl (cA, 2, .inr (.inr (.inr (.inr (fun j => some ((fun j => if j = 0 then b0 else b1) j))))))) rfl
  exact W.vret hx hb hr (fun t ht hW => ⟨⟨(q, cA, (fun j => if j = 0 then b0 else b1)), rfl, trivial, by rw [ht]; exact hP, va_K.moved hW.alike hK, hD⟩, hS.F ht⟩) hS.2.2 dX0_init_32
end
section
/-! MonthDeskModel (printed by gen/g11.py) -/
theorem jd_inc (k : Nat) : jd_i (k : Int) + Int32.ofInt 1 = jd_i ((k + 1 : Nat) : Int) := jd_i_add _ 1
theorem jd_inc1 (k : Nat) : jd_i ((k : Int) + 1) + Int32.ofInt 1 = jd_i (((k + 1 : Nat) : Int) + 1) := jd_i_add _ 1
section JLOOP
variable {p : Program} {l : Launch} {e : Env} {R : Room} {s : State} {m : MethodId} {args : Array Value} {below : List Frame} {meth : Method} {c : Code} {H : Heap} {locs : List Loc} {cells slots : Nat} {Q : State → Prop}
/-- a counting loop that changes locals alone -/
theorem jd_loop {nL pc : Nat} {lv : Nat → List (Nat × Value)} (r : Nat) {g1 : JFrame}
    (enter : (∀ ls : Array Slot, lv_has ls nL (lv 0) → W p l e R s m args below meth c H locs cells slots Q (F0 m pc ls [])) → W p l e R s m args below meth c H locs cells slots Q g1)
    (step : ∀ k : Nat, k < r → (∀ ls : Array Slot, lv_has ls nL (lv (k + 1)) → W p l e R s m args below meth c H locs cells slots Q (F0 m pc ls [])) → ∀ ls : Array Slot, lv_has ls nL (lv k) → W p l e R s m args below meth c H locs cells slots Q (F0 m pc ls []))
    (exit : ∀ ls : Array Slot, lv_has ls nL (lv r) → W p l e R s m args below meth c H locs cells slots Q (F0 m pc ls [])) : W p l e R s m args below meth c H locs cells slots Q g1 := by
  have all : ∀ n k : Nat, k + n = r → ∀ ls : Array Slot, lv_has ls nL (lv k) → W p l e R s m args below meth c H locs cells slots Q (F0 m pc ls []) := by
    intro n
    induction n with
    | zero =>
      intro k hk ls hl
      obtain rfl : k = r := hk
      exact exit ls hl
    | succ n ih =>
      intro k hk ls hl
      exact step k (by omega) (ih (k + 1) (by omega)) ls hl
  exact enter (all r 0 (by omega))
end JLOOP
theorem jd_iaE {cI : ClassId} {f f' : Nat → Int32} (e : ∀ j : Nat, j < 2 → f j = f' j) : vp_cell cI (2, .inl f) = vp_cell cI (2, .inl f') := by
  rw [vp_cell_i, vp_cell_i]
  unfold arrV
  congr 1
  congr 1
  funext j
  exact congrArg Value.int (e j.val j.isLt)
theorem jd_iaP {D : va_G} {H : Heap} {q1 q2 : Nat} {c1 c2 : ClassId} {f f' h h' : Nat → Int32} {c0 : Nat × va_E} (e : ∀ j : Nat, j < 2 → f j = f' j) (e2 : ∀ j : Nat, j < 2 → h j = h' j) (hP : va_P D jd_cl [c0, jd_ia q1 c1 f, jd_ia q2 c2 h] H) : va_P D jd_cl [c0, jd_ia q1 c1 f', jd_ia q2 c2 h'] H := by
  intro k z hk
  match k, hk with
  | 0, hk => exact hP 0 z hk
  | 1, hk =>
    cases hk
    have h1 : H[q1]? = some (vp_cell c1 (2, .inl f)) := hP 1 _ rfl
    show H[q1]? = some (vp_cell c1 (2, .inl f'))
    rw [h1, jd_iaE e]
  | 2, hk =>
    cases hk
    have h1 : H[q2]? = some (vp_cell c2 (2, .inl h)) := hP 2 _ rfl
    show H[q2]? = some (vp_cell c2 (2, .inl h'))
    rw [h1, jd_iaE e2]
  | k + 3, hk => simp at hk
theorem jd_iaD {A : Nat → Prop} {q1 q2 : Nat} {c1 c2 : ClassId} {f f' h h' : Nat → Int32} {c0 : Nat × va_E} (hD : va_D A [c0, jd_ia q1 c1 f, jd_ia q2 c2 h]) : va_D A [c0, jd_ia q1 c1 f', jd_ia q2 c2 h'] := by
  have h1 := hD.set (p := 1) (e := .inl (c1, 2, .inl f')) rfl
  exact h1.set (p := 2) (e := .inl (c2, 2, .inl h')) rfl
set_option maxHeartbeats 4000000 in
set_option maxRecDepth 100000 in
/-- MonthDeskModel.leapYear -/
theorem metX5_leapYear (l : Launch) (y : Int) (y1 : -2147483648 ≤ y) (y2 : y ≤ 2147483647) : Met l yX5_leapYear (ws_ yX5_leapYear cX5_leapYear 1 (some .boolean)) (jd_rm 0 0 0) (jd_Pc [.int (jd_i y)] (fun _ _ => True)) (vp_Si (fun z => z = jd_b (jd_lp y))) 0 0 (fun _ => False) := by
  refine Met.ofW (cc := cX5_leapYear) (maxL := 1) (ret := (some .boolean)) (by decide) rfl ?_
  intro p e s m args below meth c s₁ B hml hv
  obtain ⟨rfl, -⟩ := hv
  have hx := B.exec
  have hb := B.bytes
  have hr := B.returns
  have hts := atoms_spec (ws := (ws_ yX5_leapYear cX5_leapYear 1 (some .boolean))) B.pre
  have hts : ∀ w ∈ lw_all, w.before _ s = true := fun w h => hts w (List.mem_cons_of_mem _ h)
  have hown : s.vm.findClass RX5 = some m.cls := findClass_of_methodNamed B.named
  have hlocks := B.notSynchronized
  have t400 := jd_tmr y (b := 400) (by decide)
  have z400 := jd_tm_zero (a := y) (b := 400) (by decide)
  have t100 := jd_tmr y (b := 100) (by decide)
  have z100 := jd_tm_zero (a := y) (b := 100) (by decide)
  have t4 := jd_tmr y (b := 4) (by decide)
  have z4 := jd_tm_zero (a := y) (b := 4) (by decide)
  have hS : va_S jd_no s.heap s.heap [] := va_S.rf
  have hl := lv_entry ([.int (jd_i y)]) (n := 1) (Nat.le_of_ble_eq_true rfl)
  rw [lg_entry_eq]
  generalize (lg_sl ([.int (jd_i y)]) ++ List.replicate (1 - (lg_sl ([.int (jd_i y)])).length) Slot.unset).toArray = ls at hl ⊢
  have hl : lv_has ls 1 [(0, .int (jd_i y))] := hl
  refine lv_iload_n hx hb dX5_leapYear_0 rfl (lv_at hl 0 rfl) ?_
  refine lv_sipush (v := jd_i 400) hx hb dX5_leapYear_1 (by decide) ?_
  refine lv_irem hx hb dX5_leapYear_4 (by decide) ?_
  refine jd_ti (jd_i_rem (by omega) (by omega) (by decide) (by decide)) ?_
  refine lv_if_ne (tgt := 10) hx hb dX5_leapYear_5 (by decide) (fun c1 => ?_) (fun c1 => ?_)
  · have c1 : ¬ ((y.tmod 400) = 0) := fun z => c1 ((jd_i_eq (a := y.tmod 400) (b := 0) (by omega) (by omega) (by omega) (by omega)).mpr z)
    refine lv_iload_n hx hb dX5_leapYear_10 rfl (lv_at hl 0 rfl) ?_
    refine lv_bipush (v := jd_i 100) hx hb dX5_leapYear_11 (by decide) ?_
    refine lv_irem hx hb dX5_leapYear_13 (by decide) ?_
    refine jd_ti (jd_i_rem (by omega) (by omega) (by decide) (by decide)) ?_
    refine lv_if_ne (tgt := 19) hx hb dX5_leapYear_14 (by decide) (fun c2 => ?_) (fun c2 => ?_)
    · have c2 : ¬ ((y.tmod 100) = 0) := fun z => c2 ((jd_i_eq (a := y.tmod 100) (b := 0) (by omega) (by omega) (by omega) (by omega)).mpr z)
      refine lv_iload_n hx hb dX5_leapYear_19 rfl (lv_at hl 0 rfl) ?_
      refine lv_iconst (v := jd_i 4) hx hb dX5_leapYear_20 (by decide) ?_
      refine lv_irem hx hb dX5_leapYear_21 (by decide) ?_
      refine jd_ti (jd_i_rem (by omega) (by omega) (by decide) (by decide)) ?_
      refine lv_if_ne (tgt := 29) hx hb dX5_leapYear_22 (by decide) (fun c3 => ?_) (fun c3 => ?_)
      · have c3 : ¬ ((y.tmod 4) = 0) := fun z => c3 ((jd_i_eq (a := y.tmod 4) (b := 0) (by omega) (by omega) (by omega) (by omega)).mpr z)
        refine lv_iconst (v := jd_i 0) hx hb dX5_leapYear_29 (by decide) ?_
        exact W.zret hx hb hr rfl (fun t ht hW => ⟨_, rfl, (by rw [jd_lp_f (by omega)]; decide), ht⟩) (fun _ h => by cases h) dX5_leapYear_30
      · have c3 : (y.tmod 4) = 0 := (jd_i_eq (a := y.tmod 4) (b := 0) (by omega) (by omega) (by omega) (by omega)).mp c3
        refine lv_iconst (v := jd_i 1) hx hb dX5_leapYear_25 (by decide) ?_
        refine lv_goto (tgt := 30) hx hb dX5_leapYear_26 (by decide) ?_
        exact W.zret hx hb hr rfl (fun t ht hW => ⟨_, rfl, (by rw [jd_lp_t (by omega)]; decide), ht⟩) (fun _ h => by cases h) dX5_leapYear_30
    · have c2 : (y.tmod 100) = 0 := (jd_i_eq (a := y.tmod 100) (b := 0) (by omega) (by omega) (by omega) (by omega)).mp c2
      refine lv_iconst (v := jd_i 0) hx hb dX5_leapYear_17 (by decide) ?_
      exact W.zret hx hb hr rfl (fun t ht hW => ⟨_, rfl, (by rw [jd_lp_f (by omega)]; decide), ht⟩) (fun _ h => by cases h) dX5_leapYear_18
  · have c1 : (y.tmod 400) = 0 := (jd_i_eq (a := y.tmod 400) (b := 0) (by omega) (by omega) (by omega) (by omega)).mp c1
    refine lv_iconst (v := jd_i 1) hx hb dX5_leapYear_8 (by decide) ?_
    exact W.zret hx hb hr rfl (fun t ht hW => ⟨_, rfl, (by rw [jd_lp_t (by omega)]; decide), ht⟩) (fun _ h => by cases h) dX5_leapYear_9
set_option maxHeartbeats 4000000 in
set_option maxRecDepth 100000 in
/-- MonthDeskModel.daysOfYear -/
theorem metX5_daysOfYear (l : Launch) (y : Int) (y1 : -2147483648 ≤ y) (y2 : y ≤ 2147483647) : Met l yX5_daysOfYear (ws_ yX5_daysOfYear cX5_daysOfYear 1 (some .int)) (jd_rm 1 0 0) (jd_Pc [.int (jd_i y)] (fun _ _ => True)) (vp_Si (fun z => z = jd_i (jd_dy (jd_lp y)))) 0 0 (fun _ => False) := by
  refine Met.ofW (cc := cX5_daysOfYear) (maxL := 1) (ret := (some .int)) (by decide) rfl ?_
  intro p e s m args below meth c s₁ B hml hv
  obtain ⟨rfl, -⟩ := hv
  have hx := B.exec
  have hb := B.bytes
  have hr := B.returns
  have hts := atoms_spec (ws := (ws_ yX5_daysOfYear cX5_daysOfYear 1 (some .int))) B.pre
  have hts : ∀ w ∈ lw_all, w.before _ s = true := fun w h => hts w (List.mem_cons_of_mem _ h)
  have hown : s.vm.findClass RX5 = some m.cls := findClass_of_methodNamed B.named
  have hlocks := B.notSynchronized
  have hS : va_S jd_no s.heap s.heap [] := va_S.rf
  have hl := lv_entry ([.int (jd_i y)]) (n := 1) (Nat.le_of_ble_eq_true rfl)
  rw [lg_entry_eq]
  generalize (lg_sl ([.int (jd_i y)]) ++ List.replicate (1 - (lg_sl ([.int (jd_i y)])).length) Slot.unset).toArray = ls at hl ⊢
  have hl : lv_has ls 1 [(0, .int (jd_i y))] := hl
  refine lv_iload_n hx hb dX5_daysOfYear_0 rfl (lv_at hl 0 rfl) ?_
  refine vp_callSi (W.runS (As := [.int (jd_i y)]) (rest := []) ⟨hx, hb, hml, hown, hts⟩ (metX5_leapYear l y (by omega) (by omega)) (va_cwS 1 hts (lw_S q462 q463 q12 q464) rfl rfl rfl (by decide +kernel) ⟨Nat.le_of_ble_eq_true rfl, Nat.le_of_ble_eq_true rfl⟩) (jd_preS jd_mvT trivial) rfl rfl hl.1 rfl (lv_room (Nat.le_of_ble_eq_true rfl)) dX5_daysOfYear_1 ⟨Nat.le_of_ble_eq_true rfl, Nat.le_of_ble_eq_true rfl⟩) (fun r_1 hr_1 => ?_)
  obtain rfl : (jd_b (jd_lp y)) = r_1 := Eq.symm hr_1
  refine lv_if_eq (tgt := 13) hx hb dX5_daysOfYear_4 (by decide) (fun c2 => ?_) (fun c2 => ?_)
  · have c3 : jd_lp y = false := jd_b0.mp c2
    refine lv_sipush (v := jd_i 365) hx hb dX5_daysOfYear_13 (by decide) ?_
    exact W.iret hx hb hr (fun t ht hW => ⟨_, rfl, (by rw [c3]; rfl), ht⟩) (fun _ h => by cases h) dX5_daysOfYear_16
  · have c3 : jd_lp y = true := jd_b1 c2
    refine lv_sipush (v := jd_i 366) hx hb dX5_daysOfYear_7 (by decide) ?_
    refine lv_goto (tgt := 16) hx hb dX5_daysOfYear_10 (by decide) ?_
    exact W.iret hx hb hr (fun t ht hW => ⟨_, rfl, (by rw [c3]; rfl), ht⟩) (fun _ h => by cases h) dX5_daysOfYear_16
set_option maxHeartbeats 4000000 in
set_option maxRecDepth 100000 in
/-- MonthDeskModel.daysOfMonth -/
theorem metX5_daysOfMonth (l : Launch) (y mo : Int) (y1 : -2147483648 ≤ y) (y2 : y ≤ 2147483647) (m1 : 1 ≤ mo) (m2 : mo ≤ 12) : Met l yX5_daysOfMonth (ws_ yX5_daysOfMonth cX5_daysOfMonth 2 (some .int)) (jd_rm 1 0 0) (jd_Pc [.int (jd_i y), .int (jd_i mo)] (fun _ _ => True)) (vp_Si (fun z => z = jd_i (jd_dm (jd_lp y) mo))) 0 0 (fun _ => False) := by
  refine Met.ofW (cc := cX5_daysOfMonth) (maxL := 2) (ret := (some .int)) (by decide) rfl ?_
  intro p e s m args below meth c s₁ B hml hv
  obtain ⟨rfl, -⟩ := hv
  have hx := B.exec
  have hb := B.bytes
  have hr := B.returns
  have hts := atoms_spec (ws := (ws_ yX5_daysOfMonth cX5_daysOfMonth 2 (some .int))) B.pre
  have hts : ∀ w ∈ lw_all, w.before _ s = true := fun w h => hts w (List.mem_cons_of_mem _ h)
  have hown : s.vm.findClass RX5 = some m.cls := findClass_of_methodNamed B.named
  have hlocks := B.notSynchronized
  have hS : va_S jd_no s.heap s.heap [] := va_S.rf
  have hl := lv_entry ([.int (jd_i y), .int (jd_i mo)]) (n := 2) (Nat.le_of_ble_eq_true rfl)
  rw [lg_entry_eq]
  generalize (lg_sl ([.int (jd_i y), .int (jd_i mo)]) ++ List.replicate (2 - (lg_sl ([.int (jd_i y), .int (jd_i mo)])).length) Slot.unset).toArray = ls at hl ⊢
  have hl : lv_has ls 2 [(0, .int (jd_i y)), (1, .int (jd_i mo))] := hl
  refine lv_iload_n hx hb dX5_daysOfMonth_0 rfl (lv_at hl 1 rfl) ?_
  refine lv_iconst (v := jd_i 2) hx hb dX5_daysOfMonth_1 (by decide) ?_
  refine lv_icmp_ne (tgt := 20) hx hb dX5_daysOfMonth_2 (by decide) (fun d0 => ?_) (fun d0 => ?_)
  · have d0 : ¬ (mo = 2) := fun z => d0 ((jd_i_eq (a := mo) (b := 2) (by omega) (by omega) (by omega) (by omega)).mpr z)
    refine lv_iload_n hx hb dX5_daysOfMonth_20 rfl (lv_at hl 1 rfl) ?_
    refine lv_iconst (v := jd_i 4) hx hb dX5_daysOfMonth_21 (by decide) ?_
    refine lv_icmp_eq (tgt := 43) hx hb dX5_daysOfMonth_22 (by decide) (fun d1 => ?_) (fun d1 => ?_)
    · have d1 : mo = 4 := (jd_i_eq (a := mo) (b := 4) (by omega) (by omega) (by omega) (by omega)).mp d1
      refine lv_bipush (v := jd_i 30) hx hb dX5_daysOfMonth_43 (by decide) ?_
      exact W.iret hx hb hr (fun t ht hW => ⟨_, rfl, (by unfold jd_dm; rw [if_neg (by omega), if_pos (by omega)]), ht⟩) (fun _ h => by cases h) dX5_daysOfMonth_45
    · have d1 : ¬ (mo = 4) := fun z => d1 ((jd_i_eq (a := mo) (b := 4) (by omega) (by omega) (by omega) (by omega)).mpr z)
      refine lv_iload_n hx hb dX5_daysOfMonth_25 rfl (lv_at hl 1 rfl) ?_
      refine lv_bipush (v := jd_i 6) hx hb dX5_daysOfMonth_26 (by decide) ?_
      refine lv_icmp_eq (tgt := 43) hx hb dX5_daysOfMonth_28 (by decide) (fun d2 => ?_) (fun d2 => ?_)
      · have d2 : mo = 6 := (jd_i_eq (a := mo) (b := 6) (by omega) (by omega) (by omega) (by omega)).mp d2
        refine lv_bipush (v := jd_i 30) hx hb dX5_daysOfMonth_43 (by decide) ?_
        exact W.iret hx hb hr (fun t ht hW => ⟨_, rfl, (by unfold jd_dm; rw [if_neg (by omega), if_pos (by omega)]), ht⟩) (fun _ h => by cases h) dX5_daysOfMonth_45
      · have d2 : ¬ (mo = 6) := fun z => d2 ((jd_i_eq (a := mo) (b := 6) (by omega) (by omega) (by omega) (by omega)).mpr z)
        refine lv_iload_n hx hb dX5_daysOfMonth_31 rfl (lv_at hl 1 rfl) ?_
        refine lv_bipush (v := jd_i 9) hx hb dX5_daysOfMonth_32 (by decide) ?_
        refine lv_icmp_eq (tgt := 43) hx hb dX5_daysOfMonth_34 (by decide) (fun d3 => ?_) (fun d3 => ?_)
        · have d3 : mo = 9 := (jd_i_eq (a := mo) (b := 9) (by omega) (by omega) (by omega) (by omega)).mp d3
          refine lv_bipush (v := jd_i 30) hx hb dX5_daysOfMonth_43 (by decide) ?_
          exact W.iret hx hb hr (fun t ht hW => ⟨_, rfl, (by unfold jd_dm; rw [if_neg (by omega), if_pos (by omega)]), ht⟩) (fun _ h => by cases h) dX5_daysOfMonth_45
        · have d3 : ¬ (mo = 9) := fun z => d3 ((jd_i_eq (a := mo) (b := 9) (by omega) (by omega) (by omega) (by omega)).mpr z)
          refine lv_iload_n hx hb dX5_daysOfMonth_37 rfl (lv_at hl 1 rfl) ?_
          refine lv_bipush (v := jd_i 11) hx hb dX5_daysOfMonth_38 (by decide) ?_
          refine lv_icmp_ne (tgt := 46) hx hb dX5_daysOfMonth_40 (by decide) (fun d4 => ?_) (fun d4 => ?_)
          · have d4 : ¬ (mo = 11) := fun z => d4 ((jd_i_eq (a := mo) (b := 11) (by omega) (by omega) (by omega) (by omega)).mpr z)
            refine lv_bipush (v := jd_i 31) hx hb dX5_daysOfMonth_46 (by decide) ?_
            exact W.iret hx hb hr (fun t ht hW => ⟨_, rfl, (by unfold jd_dm; rw [if_neg (by omega), if_neg (by omega)]), ht⟩) (fun _ h => by cases h) dX5_daysOfMonth_48
          · have d4 : mo = 11 := (jd_i_eq (a := mo) (b := 11) (by omega) (by omega) (by omega) (by omega)).mp d4
            refine lv_bipush (v := jd_i 30) hx hb dX5_daysOfMonth_43 (by decide) ?_
            exact W.iret hx hb hr (fun t ht hW => ⟨_, rfl, (by unfold jd_dm; rw [if_neg (by omega), if_pos (by omega)]), ht⟩) (fun _ h => by cases h) dX5_daysOfMonth_45
  · have d0 : mo = 2 := (jd_i_eq (a := mo) (b := 2) (by omega) (by omega) (by omega) (by omega)).mp d0
    refine lv_iload_n hx hb dX5_daysOfMonth_5 rfl (lv_at hl 0 rfl) ?_
    refine vp_callSi (W.runS (As := [.int (jd_i y)]) (rest := []) ⟨hx, hb, hml, hown, hts⟩ (metX5_leapYear l y (by omega) (by omega)) (va_cwS 1 hts (lw_S q462 q463 q12 q464) rfl rfl rfl (by decide +kernel) ⟨Nat.le_of_ble_eq_true rfl, Nat.le_of_ble_eq_true rfl⟩) (jd_preS jd_mvT trivial) rfl rfl hl.1 rfl (lv_room (Nat.le_of_ble_eq_true rfl)) dX5_daysOfMonth_6 ⟨Nat.le_of_ble_eq_true rfl, Nat.le_of_ble_eq_true rfl⟩) (fun r_1 hr_1 => ?_)
    obtain rfl : (jd_b (jd_lp y)) = r_1 := Eq.symm hr_1
    refine lv_if_eq (tgt := 17) hx hb dX5_daysOfMonth_9 (by decide) (fun c2 => ?_) (fun c2 => ?_)
    · have c3 : jd_lp y = false := jd_b0.mp c2
      refine lv_bipush (v := jd_i 28) hx hb dX5_daysOfMonth_17 (by decide) ?_
      exact W.iret hx hb hr (fun t ht hW => ⟨_, rfl, (by rw [c3]; unfold jd_dm; rw [if_pos (by omega)]; rfl), ht⟩) (fun _ h => by cases h) dX5_daysOfMonth_19
    · have c3 : jd_lp y = true := jd_b1 c2
      refine lv_bipush (v := jd_i 29) hx hb dX5_daysOfMonth_12 (by decide) ?_
      refine lv_goto (tgt := 19) hx hb dX5_daysOfMonth_14 (by decide) ?_
      exact W.iret hx hb hr (fun t ht hW => ⟨_, rfl, (by rw [c3]; unfold jd_dm; rw [if_pos (by omega)]; rfl), ht⟩) (fun _ h => by cases h) dX5_daysOfMonth_19
set_option maxHeartbeats 4000000 in
set_option maxRecDepth 100000 in
/-- MonthDeskModel.floorQuotient by 12 -/
theorem metX5_floorQuotient12 (l : Launch) (a : Int) (a1 : -1000000000000000 ≤ a) (a2 : a ≤ 1000000000000000) : Met l yX5_floorQuotient (ws_ yX5_floorQuotient cX5_floorQuotient 6 (some .long)) (jd_rm 0 0 0) (jd_Pc [.long (jd_l a), .long (jd_l 12)] (fun _ _ => True)) (vp_Sl (fun z => z = jd_l (a / 12))) 0 0 (fun _ => False) := by
  refine Met.ofW (cc := cX5_floorQuotient) (maxL := 6) (ret := (some .long)) (by decide) rfl ?_
  intro p e s m args below meth c s₁ B hml hv
  obtain ⟨rfl, -⟩ := hv
  have hx := B.exec
  have hb := B.bytes
  have hr := B.returns
  have hts := atoms_spec (ws := (ws_ yX5_floorQuotient cX5_floorQuotient 6 (some .long))) B.pre
  have hts : ∀ w ∈ lw_all, w.before _ s = true := fun w h => hts w (List.mem_cons_of_mem _ h)
  have hown : s.vm.findClass RX5 = some m.cls := findClass_of_methodNamed B.named
  have hlocks := B.notSynchronized
  have t1 := jd_tdr (y := a) (b := 12) (by decide)
  have hS : va_S jd_no s.heap s.heap [] := va_S.rf
  have hl := lv_entry ([.long (jd_l a), .long (jd_l 12)]) (n := 6) (Nat.le_of_ble_eq_true rfl)
  rw [lg_entry_eq]
  generalize (lg_sl ([.long (jd_l a), .long (jd_l 12)]) ++ List.replicate (6 - (lg_sl ([.long (jd_l a), .long (jd_l 12)])).length) Slot.unset).toArray = ls at hl ⊢
  have hl : lv_has ls 6 [(0, .long (jd_l a)), (2, .long (jd_l 12))] := hl
  refine lv_lload_n hx hb dX5_floorQuotient_0 rfl (lv_at hl 0 rfl) ?_
  refine lv_lload_n hx hb dX5_floorQuotient_1 rfl (lv_at hl 1 rfl) ?_
  refine lv_ldiv hx hb dX5_floorQuotient_2 (by decide) ?_
  refine jd_tl (jd_l_div (by omega) (by omega) (by decide) (by decide)) ?_
  refine lv_lstore (lv' := [(4, .long (jd_l (a.tdiv 12))), (0, .long (jd_l a)), (2, .long (jd_l 12))]) hx hb dX5_floorQuotient_3 hl (by decide) rfl (fun ls hl => ?_)
  refine lv_lload hx hb dX5_floorQuotient_5 (lv_at hl 0 rfl) ?_
  refine lv_lload_n hx hb dX5_floorQuotient_7 rfl (lv_at hl 2 rfl) ?_
  refine lv_lmul hx hb dX5_floorQuotient_8 ?_
  refine jd_tl (jd_l_mul _ _) ?_
  refine lv_lload_n hx hb dX5_floorQuotient_9 rfl (lv_at hl 1 rfl) ?_
  refine W.lcmp hx hb dX5_floorQuotient_10 ?_
  refine lv_if_le (tgt := 20) hx hb dX5_floorQuotient_11 (by decide) (fun c1 => ?_) (fun c1 => ?_)
  · have c1 : ((a.tdiv 12) * 12) ≤ a := (jd_cle (a := (a.tdiv 12) * 12) (b := a) (by omega) (by omega) (by omega) (by omega)).mp c1
    refine lv_lload hx hb dX5_floorQuotient_20 (lv_at hl 0 rfl) ?_
    exact W.lret hx hb hr (fun t ht hW => ⟨_, rfl, (by rw [jd_fq12' (by omega)]), ht⟩) (fun _ h => by cases h) dX5_floorQuotient_22
  · have c1 : ¬ (((a.tdiv 12) * 12) ≤ a) := fun z => c1 ((jd_cle (a := (a.tdiv 12) * 12) (b := a) (by omega) (by omega) (by omega) (by omega)).mpr z)
    refine lv_lload hx hb dX5_floorQuotient_14 (lv_at hl 0 rfl) ?_
    refine lv_lconst (v := jd_l 1) hx hb dX5_floorQuotient_16 (by decide) ?_
    refine lv_lsub hx hb dX5_floorQuotient_17 ?_
    refine jd_tl (jd_l_sub _ _) ?_
    refine lv_lstore (lv' := [(4, .long (jd_l ((a.tdiv 12) - 1))), (0, .long (jd_l a)), (2, .long (jd_l 12))]) hx hb dX5_floorQuotient_18 hl (by decide) rfl (fun ls hl => ?_)
    refine lv_lload hx hb dX5_floorQuotient_20 (lv_at hl 0 rfl) ?_
    exact W.lret hx hb hr (fun t ht hW => ⟨_, rfl, (by rw [jd_fq12 (by omega)]), ht⟩) (fun _ h => by cases h) dX5_floorQuotient_22
set_option maxHeartbeats 4000000 in
set_option maxRecDepth 100000 in
/-- MonthDeskModel.floorQuotient by 400 -/
theorem metX5_floorQuotient400 (l : Launch) (a : Int) (a1 : -1000000000000000 ≤ a) (a2 : a ≤ 1000000000000000) : Met l yX5_floorQuotient (ws_ yX5_floorQuotient cX5_floorQuotient 6 (some .long)) (jd_rm 0 0 0) (jd_Pc [.long (jd_l a), .long (jd_l 400)] (fun _ _ => True)) (vp_Sl (fun z => z = jd_l (a / 400))) 0 0 (fun _ => False) := by
  refine Met.ofW (cc := cX5_floorQuotient) (maxL := 6) (ret := (some .long)) (by decide) rfl ?_
  intro p e s m args below meth c s₁ B hml hv
  obtain ⟨rfl, -⟩ := hv
  have hx := B.exec
  have hb := B.bytes
  have hr := B.returns
  have hts := atoms_spec (ws := (ws_ yX5_floorQuotient cX5_floorQuotient 6 (some .long))) B.pre
  have hts : ∀ w ∈ lw_all, w.before _ s = true := fun w h => hts w (List.mem_cons_of_mem _ h)
  have hown : s.vm.findClass RX5 = some m.cls := findClass_of_methodNamed B.named
  have hlocks := B.notSynchronized
  have t1 := jd_tdr (y := a) (b := 400) (by decide)
  have hS : va_S jd_no s.heap s.heap [] := va_S.rf
  have hl := lv_entry ([.long (jd_l a), .long (jd_l 400)]) (n := 6) (Nat.le_of_ble_eq_true rfl)
  rw [lg_entry_eq]
  generalize (lg_sl ([.long (jd_l a), .long (jd_l 400)]) ++ List.replicate (6 - (lg_sl ([.long (jd_l a), .long (jd_l 400)])).length) Slot.unset).toArray = ls at hl ⊢
  have hl : lv_has ls 6 [(0, .long (jd_l a)), (2, .long (jd_l 400))] := hl
  refine lv_lload_n hx hb dX5_floorQuotient_0 rfl (lv_at hl 0 rfl) ?_
  refine lv_lload_n hx hb dX5_floorQuotient_1 rfl (lv_at hl 1 rfl) ?_
  refine lv_ldiv hx hb dX5_floorQuotient_2 (by decide) ?_
  refine jd_tl (jd_l_div (by omega) (by omega) (by decide) (by decide)) ?_
  refine lv_lstore (lv' := [(4, .long (jd_l (a.tdiv 400))), (0, .long (jd_l a)), (2, .long (jd_l 400))]) hx hb dX5_floorQuotient_3 hl (by decide) rfl (fun ls hl => ?_)
  refine lv_lload hx hb dX5_floorQuotient_5 (lv_at hl 0 rfl) ?_
  refine lv_lload_n hx hb dX5_floorQuotient_7 rfl (lv_at hl 2 rfl) ?_
  refine lv_lmul hx hb dX5_floorQuotient_8 ?_
  refine jd_tl (jd_l_mul _ _) ?_
  refine lv_lload_n hx hb dX5_floorQuotient_9 rfl (lv_at hl 1 rfl) ?_
  refine W.lcmp hx hb dX5_floorQuotient_10 ?_
  refine lv_if_le (tgt := 20) hx hb dX5_floorQuotient_11 (by decide) (fun c1 => ?_) (fun c1 => ?_)
  · have c1 : ((a.tdiv 400) * 400) ≤ a := (jd_cle (a := (a.tdiv 400) * 400) (b := a) (by omega) (by omega) (by omega) (by omega)).mp c1
    refine lv_lload hx hb dX5_floorQuotient_20 (lv_at hl 0 rfl) ?_
    exact W.lret hx hb hr (fun t ht hW => ⟨_, rfl, (by rw [jd_fq400' (by omega)]), ht⟩) (fun _ h => by cases h) dX5_floorQuotient_22
  · have c1 : ¬ (((a.tdiv 400) * 400) ≤ a) := fun z => c1 ((jd_cle (a := (a.tdiv 400) * 400) (b := a) (by omega) (by omega) (by omega) (by omega)).mpr z)
    refine lv_lload hx hb dX5_floorQuotient_14 (lv_at hl 0 rfl) ?_
    refine lv_lconst (v := jd_l 1) hx hb dX5_floorQuotient_16 (by decide) ?_
    refine lv_lsub hx hb dX5_floorQuotient_17 ?_
    refine jd_tl (jd_l_sub _ _) ?_
    refine lv_lstore (lv' := [(4, .long (jd_l ((a.tdiv 400) - 1))), (0, .long (jd_l a)), (2, .long (jd_l 400))]) hx hb dX5_floorQuotient_18 hl (by decide) rfl (fun ls hl => ?_)
    refine lv_lload hx hb dX5_floorQuotient_20 (lv_at hl 0 rfl) ?_
    exact W.lret hx hb hr (fun t ht hW => ⟨_, rfl, (by rw [jd_fq400 (by omega)]), ht⟩) (fun _ h => by cases h) dX5_floorQuotient_22
set_option maxHeartbeats 4000000 in
set_option maxRecDepth 100000 in
/-- MonthDeskModel.firstEpochDay -/
theorem metX5_firstEpochDay (l : Launch) (y mo : Int) (y1 : -9000000 ≤ y) (y2 : y ≤ 9000000) (m1 : 1 ≤ mo) (m2 : mo ≤ 12) : Met l yX5_firstEpochDay (ws_ yX5_firstEpochDay cX5_firstEpochDay 8 (some .long)) (jd_rm 2 0 0) (jd_Pc [.int (jd_i y), .int (jd_i mo)] (fun _ _ => True)) (vp_Sl (fun z => z = jd_l (jd_ed y mo))) 0 0 (fun _ => False) := by
  refine Met.ofW (cc := cX5_firstEpochDay) (maxL := 8) (ret := (some .long)) (by decide) rfl ?_
  intro p e s m args below meth c s₁ B hml hv
  obtain ⟨rfl, -⟩ := hv
  have hx := B.exec
  have hb := B.bytes
  have hr := B.returns
  have hts := atoms_spec (ws := (ws_ yX5_firstEpochDay cX5_firstEpochDay 8 (some .long))) B.pre
  have hts : ∀ w ∈ lw_all, w.before _ s = true := fun w h => hts w (List.mem_cons_of_mem _ h)
  have hown : s.vm.findClass RX5 = some m.cls := findClass_of_methodNamed B.named
  have hlocks := B.notSynchronized
  obtain ⟨r, hr4, hr5⟩ : ∃ r : Nat, (r : Int) = y % 400 ∧ r < 400 := ⟨(y % 400).toNat, by omega, by omega⟩
  obtain ⟨k2, hk4, hk5⟩ : ∃ k2 : Nat, (k2 : Int) + 1 = mo ∧ k2 < 12 := ⟨(mo - 1).toNat, by omega, by omega⟩
  have hS : va_S jd_no s.heap s.heap [] := va_S.rf
  have hl := lv_entry ([.int (jd_i y), .int (jd_i mo)]) (n := 8) (Nat.le_of_ble_eq_true rfl)
  rw [lg_entry_eq]
  generalize (lg_sl ([.int (jd_i y), .int (jd_i mo)]) ++ List.replicate (8 - (lg_sl ([.int (jd_i y), .int (jd_i mo)])).length) Slot.unset).toArray = ls at hl ⊢
  have hl : lv_has ls 8 [(0, .int (jd_i y)), (1, .int (jd_i mo))] := hl
  refine lv_iload_n hx hb dX5_firstEpochDay_0 rfl (lv_at hl 0 rfl) ?_
  refine lv_i2l (v := jd_l y) hx hb dX5_firstEpochDay_1 (jd_i2l (by omega) (by omega)) ?_
  refine lv_ldc2 (v := jd_l 400) hx hb hown (hts _ q483) dX5_firstEpochDay_2 ?_
  refine vp_callSl (W.runS (As := [.long (jd_l y), .long (jd_l 400)]) (rest := []) ⟨hx, hb, hml, hown, hts⟩ (metX5_floorQuotient400 l y (by omega) (by omega)) (va_cwS 2 hts (lw_S q415 q416 q12 q417) rfl rfl rfl (by decide +kernel) ⟨Nat.le_of_ble_eq_true rfl, Nat.le_of_ble_eq_true rfl⟩) (jd_preS jd_mvT trivial) rfl rfl hl.1 rfl (lv_room (Nat.le_of_ble_eq_true rfl)) dX5_firstEpochDay_5 ⟨Nat.le_of_ble_eq_true rfl, Nat.le_of_ble_eq_true rfl⟩) (fun r_1 hr_1 => ?_)
  obtain rfl : (jd_l ((y / 400))) = r_1 := Eq.symm hr_1
  refine lv_lstore_n (lv' := [(2, .long (jd_l (y / 400))), (0, .int (jd_i y)), (1, .int (jd_i mo))]) hx hb dX5_firstEpochDay_8 rfl hl (by decide) rfl (fun ls hl => ?_)
  refine lv_iload_n hx hb dX5_firstEpochDay_9 rfl (lv_at hl 1 rfl) ?_
  refine lv_i2l (v := jd_l y) hx hb dX5_firstEpochDay_10 (jd_i2l (by omega) (by omega)) ?_
  refine lv_lload_n hx hb dX5_firstEpochDay_11 rfl (lv_at hl 0 rfl) ?_
  refine lv_ldc2 (v := jd_l 400) hx hb hown (hts _ q483) dX5_firstEpochDay_12 ?_
  refine lv_lmul hx hb dX5_firstEpochDay_15 ?_
  refine jd_tl (jd_l_mul _ _) ?_
  refine lv_lsub hx hb dX5_firstEpochDay_16 ?_
  refine jd_tl (jd_l_sub _ _) ?_
  refine lv_l2i (v := jd_i (y - ((y / 400) * 400))) hx hb dX5_firstEpochDay_17 (jd_l2i _) ?_
  refine jd_ti (y := jd_i (y % 400)) (by congr 1; omega) ?_
  refine lv_istore (lv' := [(4, .int (jd_i (y % 400))), (2, .long (jd_l (y / 400))), (0, .int (jd_i y)), (1, .int (jd_i mo))]) hx hb dX5_firstEpochDay_18 hl (by decide) rfl (fun ls hl => ?_)
  refine lv_lload_n hx hb dX5_firstEpochDay_20 rfl (lv_at hl 1 rfl) ?_
  refine lv_ldc2 (v := jd_l 146097) hx hb hown (hts _ q484) dX5_firstEpochDay_21 ?_
  refine lv_lmul hx hb dX5_firstEpochDay_24 ?_
  refine jd_tl (jd_l_mul _ _) ?_
  refine jd_tl (y := jd_l (y / 400 * 146097 + jd_sy 0)) (by congr 1; show _ = _ + (0 : Int); omega) ?_
  refine lv_lstore (lv' := [(5, .long (jd_l (y / 400 * 146097 + jd_sy 0))), (4, .int (jd_i (y % 400))), (2, .long (jd_l (y / 400))), (0, .int (jd_i y)), (1, .int (jd_i mo))]) hx hb dX5_firstEpochDay_25 hl (by decide) rfl (fun ls hl => ?_)
  refine lv_iconst (v := jd_i 0) hx hb dX5_firstEpochDay_27 (by decide) ?_
  refine jd_ti (y := jd_i (((0 : Nat) : Int))) rfl ?_
  refine lv_istore (lv' := [(7, .int (jd_i (((0 : Nat) : Int)))), (5, .long (jd_l (y / 400 * 146097 + jd_sy 0))), (4, .int (jd_i (y % 400))), (2, .long (jd_l (y / 400))), (0, .int (jd_i y)), (1, .int (jd_i mo))]) hx hb dX5_firstEpochDay_28 hl (by decide) rfl (fun ls hl => ?_)
  refine jd_loop (nL := 8) (pc := 30) (lv := fun k => [(7, .int (jd_i ((k : Int)))), (5, .long (jd_l (y / 400 * 146097 + jd_sy k))), (4, .int (jd_i (y % 400))), (2, .long (jd_l (y / 400))), (0, .int (jd_i y)), (1, .int (jd_i mo))]) r (fun enter => ?_) (fun k hk next ls hl => ?_) (fun ls hl => ?_)
  · exact enter ls (lv_sub hl [0, 1, 2, 3, 4, 5] rfl)
  · skip
    have hl : lv_has ls 8 [(7, .int (jd_i ((k : Int)))), (5, .long (jd_l (y / 400 * 146097 + jd_sy k))), (4, .int (jd_i (y % 400))), (2, .long (jd_l (y / 400))), (0, .int (jd_i y)), (1, .int (jd_i mo))] := hl
    have dr := jd_dy_rg (jd_lp (k : Int))
    have sr := jd_sy_rg (k := k) (by omega)
    refine lv_iload hx hb dX5_firstEpochDay_30 (lv_at hl 0 rfl) ?_
    refine lv_iload hx hb dX5_firstEpochDay_32 (lv_at hl 2 rfl) ?_
    refine lv_icmp_ge (tgt := 54) hx hb dX5_firstEpochDay_34 (by decide) (fun c => absurd ((jd_i_le (a := y % 400) (b := (k : Int)) (by omega) (by omega) (by omega) (by omega)).mp c) (by omega)) (fun _ => ?_)
    refine lv_lload hx hb dX5_firstEpochDay_37 (lv_at hl 1 rfl) ?_
    refine lv_iload hx hb dX5_firstEpochDay_39 (lv_at hl 0 rfl) ?_
    refine vp_callSi (W.runS (As := [.int (jd_i ((k : Int)))]) (rest := [.long (jd_l (y / 400 * 146097 + jd_sy k))]) ⟨hx, hb, hml, hown, hts⟩ (metX5_daysOfYear l (k : Int) (by omega) (by omega)) (va_cwS 1 hts (lw_S q469 q470 q12 q471) rfl rfl rfl (by decide +kernel) ⟨Nat.le_of_ble_eq_true rfl, Nat.le_of_ble_eq_true rfl⟩) (jd_preS jd_mvT trivial) rfl rfl hl.1 rfl (lv_room (Nat.le_of_ble_eq_true rfl)) dX5_firstEpochDay_41 ⟨Nat.le_of_ble_eq_true rfl, Nat.le_of_ble_eq_true rfl⟩) (fun r_2 hr_2 => ?_)
    obtain rfl : (jd_i ((jd_dy (jd_lp (k : Int))))) = r_2 := Eq.symm hr_2
    refine lv_i2l (v := jd_l ((jd_dy (jd_lp (k : Int))))) hx hb dX5_firstEpochDay_44 (jd_i2l (by omega) (by omega)) ?_
    refine lv_ladd hx hb dX5_firstEpochDay_45 ?_
    refine jd_tl (jd_l_add _ _) ?_
    refine jd_tl (y := jd_l (y / 400 * 146097 + jd_sy (k + 1))) (by congr 1; show _ = _ + (jd_sy k + jd_dy (jd_lp k)); omega) ?_
    refine lv_lstore (lv' := [(5, .long (jd_l (y / 400 * 146097 + jd_sy (k + 1)))), (7, .int (jd_i ((k : Int)))), (4, .int (jd_i (y % 400))), (2, .long (jd_l (y / 400))), (0, .int (jd_i y)), (1, .int (jd_i mo))]) hx hb dX5_firstEpochDay_46 hl (by decide) rfl (fun ls hl => ?_)
    refine lv_iinc (v := jd_i (((k + 1 : Nat) : Int))) (lv' := [(7, .int (jd_i (((k + 1 : Nat) : Int)))), (5, .long (jd_l (y / 400 * 146097 + jd_sy (k + 1)))), (4, .int (jd_i (y % 400))), (2, .long (jd_l (y / 400))), (0, .int (jd_i y)), (1, .int (jd_i mo))]) hx hb dX5_firstEpochDay_48 hl (k := 1) rfl (jd_inc k) (by decide) rfl (fun ls hl => ?_)
    refine lv_goto (tgt := 30) hx hb dX5_firstEpochDay_51 (by decide) ?_
    exact next ls (lv_sub hl [0, 1, 2, 3, 4, 5] rfl)
  · skip
    have hl : lv_has ls 8 [(7, .int (jd_i ((r : Int)))), (5, .long (jd_l (y / 400 * 146097 + jd_sy r))), (4, .int (jd_i (y % 400))), (2, .long (jd_l (y / 400))), (0, .int (jd_i y)), (1, .int (jd_i mo))] := hl
    have sr := jd_sy_rg (k := r) (by omega)
    refine lv_iload hx hb dX5_firstEpochDay_30 (lv_at hl 0 rfl) ?_
    refine lv_iload hx hb dX5_firstEpochDay_32 (lv_at hl 2 rfl) ?_
    refine lv_icmp_ge (tgt := 54) hx hb dX5_firstEpochDay_34 (by decide) (fun _ => ?_) (fun c => absurd ((jd_i_le (a := y % 400) (b := (r : Int)) (by omega) (by omega) (by omega) (by omega)).mpr (by omega)) c)
    refine lv_iconst (v := jd_i (((0 : Nat) : Int) + 1)) hx hb dX5_firstEpochDay_54 (by decide) ?_
    refine lv_istore (lv' := [(7, .int (jd_i (((0 : Nat) : Int) + 1))), (5, .long (jd_l (y / 400 * 146097 + jd_sy r))), (4, .int (jd_i (y % 400))), (2, .long (jd_l (y / 400))), (0, .int (jd_i y)), (1, .int (jd_i mo))]) hx hb dX5_firstEpochDay_55 hl (by decide) rfl (fun ls hl => ?_)
    refine jd_loop (nL := 8) (pc := 57) (lv := fun k => [(7, .int (jd_i ((k : Int) + 1))), (5, .long (jd_l (y / 400 * 146097 + jd_sy r + jd_sm (jd_lp y) k))), (4, .int (jd_i (y % 400))), (2, .long (jd_l (y / 400))), (0, .int (jd_i y)), (1, .int (jd_i mo))]) k2 (fun enter => ?_) (fun k hk next ls hl => ?_) (fun ls hl => ?_)
    · refine enter ls ?_
      have e5 : y / 400 * 146097 + jd_sy r + jd_sm (jd_lp y) 0 = y / 400 * 146097 + jd_sy r := by show _ + (0 : Int) = _; omega
      show lv_has ls 8 [(7, .int (jd_i (((0 : Nat) : Int) + 1))), (5, .long (jd_l (y / 400 * 146097 + jd_sy r + jd_sm (jd_lp y) 0))), (4, .int (jd_i (y % 400))), (2, .long (jd_l (y / 400))), (0, .int (jd_i y)), (1, .int (jd_i mo))]
      rw [e5]
      exact lv_sub hl [0, 1, 2, 3, 4, 5] rfl
    · skip
      have hl : lv_has ls 8 [(7, .int (jd_i ((k : Int) + 1))), (5, .long (jd_l (y / 400 * 146097 + jd_sy r + jd_sm (jd_lp y) k))), (4, .int (jd_i (y % 400))), (2, .long (jd_l (y / 400))), (0, .int (jd_i y)), (1, .int (jd_i mo))] := hl
      have dr := jd_dm_rg (jd_lp y) ((k : Int) + 1)
      have mr := jd_sm_rg (jd_lp y) k
      refine lv_iload hx hb dX5_firstEpochDay_57 (lv_at hl 0 rfl) ?_
      refine lv_iload_n hx hb dX5_firstEpochDay_59 rfl (lv_at hl 5 rfl) ?_
      refine lv_icmp_ge (tgt := 81) hx hb dX5_firstEpochDay_60 (by decide) (fun c => absurd ((jd_i_le (a := mo) (b := (k : Int) + 1) (by omega) (by omega) (by omega) (by omega)).mp c) (by omega)) (fun _ => ?_)
      refine lv_lload hx hb dX5_firstEpochDay_63 (lv_at hl 1 rfl) ?_
      refine lv_iload_n hx hb dX5_firstEpochDay_65 rfl (lv_at hl 4 rfl) ?_
      refine lv_iload hx hb dX5_firstEpochDay_66 (lv_at hl 0 rfl) ?_
      refine vp_callSi (W.runS (As := [.int (jd_i y), .int (jd_i ((k : Int) + 1))]) (rest := [.long (jd_l (y / 400 * 146097 + jd_sy r + jd_sm (jd_lp y) k))]) ⟨hx, hb, hml, hown, hts⟩ (metX5_daysOfMonth l y ((k : Int) + 1) (by omega) (by omega) (by omega) (by omega)) (va_cwS 2 hts (lw_S q459 q460 q12 q461) rfl rfl rfl (by decide +kernel) ⟨Nat.le_of_ble_eq_true rfl, Nat.le_of_ble_eq_true rfl⟩) (jd_preS jd_mvT trivial) rfl rfl hl.1 rfl (lv_room (Nat.le_of_ble_eq_true rfl)) dX5_firstEpochDay_68 ⟨Nat.le_of_ble_eq_true rfl, Nat.le_of_ble_eq_true rfl⟩) (fun r_2 hr_2 => ?_)
      obtain rfl : (jd_i ((jd_dm (jd_lp y) ((k : Int) + 1)))) = r_2 := Eq.symm hr_2
      refine lv_i2l (v := jd_l ((jd_dm (jd_lp y) ((k : Int) + 1)))) hx hb dX5_firstEpochDay_71 (jd_i2l (by omega) (by omega)) ?_
      refine lv_ladd hx hb dX5_firstEpochDay_72 ?_
      refine jd_tl (jd_l_add _ _) ?_
      refine jd_tl (y := jd_l (y / 400 * 146097 + jd_sy r + jd_sm (jd_lp y) (k + 1))) (by congr 1; show _ = _ + (jd_sm (jd_lp y) k + jd_dm (jd_lp y) ((k : Int) + 1)); omega) ?_
      refine lv_lstore (lv' := [(5, .long (jd_l (y / 400 * 146097 + jd_sy r + jd_sm (jd_lp y) (k + 1)))), (7, .int (jd_i ((k : Int) + 1))), (4, .int (jd_i (y % 400))), (2, .long (jd_l (y / 400))), (0, .int (jd_i y)), (1, .int (jd_i mo))]) hx hb dX5_firstEpochDay_73 hl (by decide) rfl (fun ls hl => ?_)
      refine lv_iinc (v := jd_i (((k + 1 : Nat) : Int) + 1)) (lv' := [(7, .int (jd_i (((k + 1 : Nat) : Int) + 1))), (5, .long (jd_l (y / 400 * 146097 + jd_sy r + jd_sm (jd_lp y) (k + 1)))), (4, .int (jd_i (y % 400))), (2, .long (jd_l (y / 400))), (0, .int (jd_i y)), (1, .int (jd_i mo))]) hx hb dX5_firstEpochDay_75 hl (k := 1) rfl (jd_inc1 k) (by decide) rfl (fun ls hl => ?_)
      refine lv_goto (tgt := 57) hx hb dX5_firstEpochDay_78 (by decide) ?_
      exact next ls (lv_sub hl [0, 1, 2, 3, 4, 5] rfl)
    · skip
      have hl : lv_has ls 8 [(7, .int (jd_i ((k2 : Int) + 1))), (5, .long (jd_l (y / 400 * 146097 + jd_sy r + jd_sm (jd_lp y) k2))), (4, .int (jd_i (y % 400))), (2, .long (jd_l (y / 400))), (0, .int (jd_i y)), (1, .int (jd_i mo))] := hl
      refine lv_iload hx hb dX5_firstEpochDay_57 (lv_at hl 0 rfl) ?_
      refine lv_iload_n hx hb dX5_firstEpochDay_59 rfl (lv_at hl 5 rfl) ?_
      refine lv_icmp_ge (tgt := 81) hx hb dX5_firstEpochDay_60 (by decide) (fun _ => ?_) (fun c => absurd ((jd_i_le (a := mo) (b := (k2 : Int) + 1) (by omega) (by omega) (by omega) (by omega)).mpr (by omega)) c)
      refine lv_lload hx hb dX5_firstEpochDay_81 (lv_at hl 1 rfl) ?_
      refine lv_ldc2 (v := jd_l 719528) hx hb hown (hts _ q485) dX5_firstEpochDay_83 ?_
      refine lv_lsub hx hb dX5_firstEpochDay_86 ?_
      refine jd_tl (jd_l_sub _ _) ?_
      exact W.lret hx hb hr (fun t ht hW => ⟨_, rfl, (by rw [jd_model_ed hr4 hk4 hk5]), ht⟩) (fun _ h => by cases h) dX5_firstEpochDay_87
set_option maxHeartbeats 4000000 in
set_option maxRecDepth 100000 in
/-- MonthDeskModel.monthFrom -/
theorem metX5_monthFrom (l : Launch) (p1 : Int32) : Met l yX5_monthFrom (ws_ yX5_monthFrom cX5_monthFrom 1 (some .int)) (jd_rm 0 0 0) (jd_Pc [.int p1] (fun _ _ => True)) (vp_Si (fun z => z = jd_i (jd_mf p1))) 0 0 (fun _ => False) := by
  refine Met.ofW (cc := cX5_monthFrom) (maxL := 1) (ret := (some .int)) (by decide) rfl ?_
  intro p e s m args below meth c s₁ B hml hv
  obtain ⟨rfl, -⟩ := hv
  have hx := B.exec
  have hb := B.bytes
  have hr := B.returns
  have hts := atoms_spec (ws := (ws_ yX5_monthFrom cX5_monthFrom 1 (some .int))) B.pre
  have hts : ∀ w ∈ lw_all, w.before _ s = true := fun w h => hts w (List.mem_cons_of_mem _ h)
  have hown : s.vm.findClass RX5 = some m.cls := findClass_of_methodNamed B.named
  have hlocks := B.notSynchronized
  have hS : va_S jd_no s.heap s.heap [] := va_S.rf
  have hl := lv_entry ([.int p1]) (n := 1) (Nat.le_of_ble_eq_true rfl)
  rw [lg_entry_eq]
  generalize (lg_sl ([.int p1]) ++ List.replicate (1 - (lg_sl ([.int p1])).length) Slot.unset).toArray = ls at hl ⊢
  have hl : lv_has ls 1 [(0, .int p1)] := hl
  refine lv_iconst (v := jd_i 1) hx hb dX5_monthFrom_0 (by decide) ?_
  refine lv_iload_n hx hb dX5_monthFrom_1 rfl (lv_at hl 0 rfl) ?_
  refine lv_ldc (v := jd_i 2147483647) hx hb hown (hts _ q409) dX5_monthFrom_2 ?_
  refine lv_iand hx hb dX5_monthFrom_4 ?_
  refine lv_bipush (v := jd_i 12) hx hb dX5_monthFrom_5 (by decide) ?_
  refine lv_irem hx hb dX5_monthFrom_7 (by decide) ?_
  refine lv_iadd hx hb dX5_monthFrom_8 ?_
  refine jd_ti (y := jd_i (jd_mf p1)) (jd_mf_eq p1) ?_
  exact W.iret hx hb hr (fun t ht hW => ⟨_, rfl, rfl, ht⟩) (fun _ h => by cases h) dX5_monthFrom_9
set_option maxHeartbeats 4000000 in
set_option maxRecDepth 100000 in
/-- MonthDeskModel.set -/
theorem metX5_set (l : Launch) (D : va_G) (x q1 q2 sz : Nat) (c1 c2 : ClassId) (Y M : Nat → Int) (i : Nat) (p1 p2 p3 : Int32) (hi : i < 2) (hw : p1 &&& 1 = nI i) (b1 : -9000000 ≤ Y i) (b2 : Y i ≤ 9000000) (m1 : 1 ≤ M i) (m2 : M i ≤ 12) : Met l yX5_set (ws_ yX5_set cX5_set 5 none) (jd_rm 1 0 0) (jd_Pc [.ref x, .int p1, .int p2, .int p3] (fun U H => H.size = sz ∧ va_P D jd_cl (jd_MW x q1 q2 c1 c2 Y M) H ∧ va_K D jd_cl [(c1, .int), (c2, .int)] U ∧ va_D (fun _ => True) (jd_MW x q1 q2 c1 c2 Y M))) (va_Qv (fun _ : Unit => True) (fun _ t => va_P D jd_cl (jd_MW x q1 q2 c1 c2 (va_up Y i (jd_r6 p2)) (va_up M i (jd_mf p3))) t.heap ∧ va_K D jd_cl [(c1, .int), (c2, .int)] t ∧ va_D (va_A (jd_MW x q1 q2 c1 c2 Y M) sz) (jd_MW x q1 q2 c1 c2 (va_up Y i (jd_r6 p2)) (va_up M i (jd_mf p3)))) (va_A (jd_MW x q1 q2 c1 c2 Y M) sz)) 0 0 (va_A (jd_MW x q1 q2 c1 c2 Y M) sz) := by
  refine Met.ofW (cc := cX5_set) (maxL := 5) (ret := none) (by decide) rfl ?_
  intro p e s m args below meth c s₁ B hml hv
  obtain ⟨rfl, hsz, hP, hK, hD0⟩ := hv
  have hx := B.exec
  have hb := B.bytes
  have hr := B.returns
  have hts := atoms_spec (ws := (ws_ yX5_set cX5_set 5 none)) B.pre
  have hts : ∀ w ∈ lw_all, w.before _ s = true := fun w h => hts w (List.mem_cons_of_mem _ h)
  have hown : s.vm.findClass RX5 = some m.cls := findClass_of_methodNamed B.named
  have hlocks := B.notSynchronized
  subst hsz
  have hD := hD0.self (sz := s.heap.size)
  generalize hAe : va_A (jd_MW x q1 q2 c1 c2 Y M) s.heap.size = A at hD ⊢
  have hA : ∀ q : Nat, s.heap.size ≤ q → A q := fun q h => by rw [← hAe]; exact Or.inr h
  have hS : va_S A s.heap s.heap [] := va_S.rf
  have hP : va_P D jd_cl [jd_mm x q1 q2, jd_ia q1 c1 (fun j => jd_i (Y j)), jd_ia q2 c2 (fun j => jd_i (M j))] s.heap := hP
  have hD : va_D A [jd_mm x q1 q2, jd_ia q1 c1 (fun j => jd_i (Y j)), jd_ia q2 c2 (fun j => jd_i (M j))] := hD
  have hl := lv_entry ([.ref x, .int p1, .int p2, .int p3]) (n := 5) (Nat.le_of_ble_eq_true rfl)
  rw [lg_entry_eq]
  generalize (lg_sl ([.ref x, .int p1, .int p2, .int p3]) ++ List.replicate (5 - (lg_sl ([.ref x, .int p1, .int p2, .int p3])).length) Slot.unset).toArray = ls at hl ⊢
  have hl : lv_has ls 5 [(0, .ref x), (1, .int p1), (2, .int p2), (3, .int p3)] := hl
  refine lv_iload_n hx hb dX5_set_0 rfl (lv_at hl 1 rfl) ?_
  refine lv_iconst (v := jd_i 1) hx hb dX5_set_1 (by decide) ?_
  refine lv_iand hx hb dX5_set_2 ?_
  refine jd_ti (y := (nI i)) hw ?_
  refine lv_istore (lv' := [(4, .int (nI i)), (0, .ref x), (1, .int p1), (2, .int p2), (3, .int p3)]) hx hb dX5_set_3 hl (by decide) rfl (fun ls hl => ?_)
  refine lv_aload_n hx hb dX5_set_5 rfl (lv_at hl 1 rfl) ?_
  refine va_get (D := D) (ci := 3) (v := .ref q1) (C := RX5) (T := TX5) (N := 2) hx hb hts in_X5 hown hK hP 0 rfl rfl 0 (by decide) (hts _ q393) (fun _ h9 => h9) rfl dX5_set_6 ?_
  refine lv_iload hx hb dX5_set_9 (lv_at hl 0 rfl) ?_
  refine lv_iload_n hx hb dX5_set_11 rfl (lv_at hl 3 rfl) ?_
  refine lv_ldc (v := jd_i 1000000) hx hb hown (hts _ q405) dX5_set_12 ?_
  refine lv_irem hx hb dX5_set_14 (by decide) ?_
  refine jd_ti (y := jd_i (jd_r6 p2)) (jd_r6_eq p2) ?_
  refine jd_iast hx hb hK hP hD hS 1 0 rfl rfl hi (by decide) dX5_set_15 (fun H locs hP hD hS => ?_)
  have hP : va_P D jd_cl [jd_mm x q1 q2, jd_ia q1 c1 (upd (fun j => jd_i (Y j)) i (jd_i (jd_r6 p2))), jd_ia q2 c2 (fun j => jd_i (M j))] H := hP
  have hD : va_D A [jd_mm x q1 q2, jd_ia q1 c1 (upd (fun j => jd_i (Y j)) i (jd_i (jd_r6 p2))), jd_ia q2 c2 (fun j => jd_i (M j))] := hD
  rw [jd_upi Y i (jd_r6 p2)] at hP hD
  refine lv_aload_n hx hb dX5_set_16 rfl (lv_at hl 1 rfl) ?_
  refine va_get (D := D) (ci := 3) (v := .ref q2) (C := RX5) (T := TX5) (N := 2) hx hb hts in_X5 hown hK hP 0 rfl rfl 1 (by decide) (hts _ q394) (fun _ h9 => h9) rfl dX5_set_17 ?_
  refine lv_iload hx hb dX5_set_20 (lv_at hl 0 rfl) ?_
  refine lv_iload_n hx hb dX5_set_22 rfl (lv_at hl 4 rfl) ?_
  refine vp_callSi (W.runS (As := [.int p3]) (rest := [.int (nI i), .ref q2]) ⟨hx, hb, hml, hown, hts⟩ (metX5_monthFrom l p3) (va_cwS 1 hts (lw_S q406 q407 q12 q408) rfl rfl rfl (by decide +kernel) ⟨Nat.le_of_ble_eq_true rfl, Nat.le_of_ble_eq_true rfl⟩) (jd_preS jd_mvT trivial) rfl rfl hl.1 rfl (lv_room (Nat.le_of_ble_eq_true rfl)) dX5_set_23 ⟨Nat.le_of_ble_eq_true rfl, Nat.le_of_ble_eq_true rfl⟩) (fun r_1 hr_1 => ?_)
  obtain rfl : (jd_i ((jd_mf p3))) = r_1 := Eq.symm hr_1
  refine jd_iast hx hb hK hP hD hS 2 1 rfl rfl hi (by decide) dX5_set_26 (fun H locs hP hD hS => ?_)
  have hP : va_P D jd_cl [jd_mm x q1 q2, jd_ia q1 c1 (fun j => jd_i ((va_up Y i (jd_r6 p2)) j)), jd_ia q2 c2 (upd (fun j => jd_i (M j)) i (jd_i (jd_mf p3)))] H := hP
  have hD : va_D A [jd_mm x q1 q2, jd_ia q1 c1 (fun j => jd_i ((va_up Y i (jd_r6 p2)) j)), jd_ia q2 c2 (upd (fun j => jd_i (M j)) i (jd_i (jd_mf p3)))] := hD
  rw [jd_upi M i (jd_mf p3)] at hP hD
  exact W.vret hx hb hr (fun t ht hW => ⟨⟨(), rfl, trivial, by rw [ht]; exact hP, va_K.moved hW.alike hK, hD⟩, hS.F ht⟩) hS.2.2 dX5_set_27
set_option maxHeartbeats 4000000 in
set_option maxRecDepth 100000 in
/-- MonthDeskModel.months -/
theorem metX5_months (l : Launch) (D : va_G) (x q1 q2 sz : Nat) (c1 c2 : ClassId) (Y M : Nat → Int) (i : Nat) (p1 p2 : Int32) (hi : i < 2) (hw : p1 &&& 1 = nI i) (b1 : -9000000 ≤ Y i) (b2 : Y i ≤ 9000000) (m1 : 1 ≤ M i) (m2 : M i ≤ 12) : Met l yX5_months (ws_ yX5_months cX5_months 8 none) (jd_rm 1 0 0) (jd_Pc [.ref x, .int p1, .int p2] (fun U H => H.size = sz ∧ va_P D jd_cl (jd_MW x q1 q2 c1 c2 Y M) H ∧ va_K D jd_cl [(c1, .int), (c2, .int)] U ∧ va_D (fun _ => True) (jd_MW x q1 q2 c1 c2 Y M))) (va_Qv (fun _ : Unit => True) (fun _ t => va_P D jd_cl (jd_MW x q1 q2 c1 c2 (va_up Y i ((Y i * 12 + (M i - 1) + jd_r6 p2) / 12)) (va_up M i ((Y i * 12 + (M i - 1) + jd_r6 p2) % 12 + 1))) t.heap ∧ va_K D jd_cl [(c1, .int), (c2, .int)] t ∧ va_D (va_A (jd_MW x q1 q2 c1 c2 Y M) sz) (jd_MW x q1 q2 c1 c2 (va_up Y i ((Y i * 12 + (M i - 1) + jd_r6 p2) / 12)) (va_up M i ((Y i * 12 + (M i - 1) + jd_r6 p2) % 12 + 1)))) (va_A (jd_MW x q1 q2 c1 c2 Y M) sz)) 0 0 (va_A (jd_MW x q1 q2 c1 c2 Y M) sz) := by
  refine Met.ofW (cc := cX5_months) (maxL := 8) (ret := none) (by decide) rfl ?_
  intro p e s m args below meth c s₁ B hml hv
  obtain ⟨rfl, hsz, hP, hK, hD0⟩ := hv
  have hx := B.exec
  have hb := B.bytes
  have hr := B.returns
  have hts := atoms_spec (ws := (ws_ yX5_months cX5_months 8 none)) B.pre
  have hts : ∀ w ∈ lw_all, w.before _ s = true := fun w h => hts w (List.mem_cons_of_mem _ h)
  have hown : s.vm.findClass RX5 = some m.cls := findClass_of_methodNamed B.named
  have hlocks := B.notSynchronized
  have r2 := jd_r6_rg p2
  subst hsz
  have hD := hD0.self (sz := s.heap.size)
  generalize hAe : va_A (jd_MW x q1 q2 c1 c2 Y M) s.heap.size = A at hD ⊢
  have hA : ∀ q : Nat, s.heap.size ≤ q → A q := fun q h => by rw [← hAe]; exact Or.inr h
  have hS : va_S A s.heap s.heap [] := va_S.rf
  have hP : va_P D jd_cl [jd_mm x q1 q2, jd_ia q1 c1 (fun j => jd_i (Y j)), jd_ia q2 c2 (fun j => jd_i (M j))] s.heap := hP
  have hD : va_D A [jd_mm x q1 q2, jd_ia q1 c1 (fun j => jd_i (Y j)), jd_ia q2 c2 (fun j => jd_i (M j))] := hD
  have hl := lv_entry ([.ref x, .int p1, .int p2]) (n := 8) (Nat.le_of_ble_eq_true rfl)
  rw [lg_entry_eq]
  generalize (lg_sl ([.ref x, .int p1, .int p2]) ++ List.replicate (8 - (lg_sl ([.ref x, .int p1, .int p2])).length) Slot.unset).toArray = ls at hl ⊢
  have hl : lv_has ls 8 [(0, .ref x), (1, .int p1), (2, .int p2)] := hl
  refine lv_iload_n hx hb dX5_months_0 rfl (lv_at hl 1 rfl) ?_
  refine lv_iconst (v := jd_i 1) hx hb dX5_months_1 (by decide) ?_
  refine lv_iand hx hb dX5_months_2 ?_
  refine jd_ti (y := (nI i)) hw ?_
  refine lv_istore_n (lv' := [(3, .int (nI i)), (0, .ref x), (1, .int p1), (2, .int p2)]) hx hb dX5_months_3 rfl hl (by decide) rfl (fun ls hl => ?_)
  refine lv_aload_n hx hb dX5_months_4 rfl (lv_at hl 1 rfl) ?_
  refine va_get (D := D) (ci := 3) (v := .ref q1) (C := RX5) (T := TX5) (N := 2) hx hb hts in_X5 hown hK hP 0 rfl rfl 0 (by decide) (hts _ q393) (fun _ h9 => h9) rfl dX5_months_5 ?_
  refine lv_iload_n hx hb dX5_months_8 rfl (lv_at hl 0 rfl) ?_
  refine jd_iald hx hb hK hP 1 0 rfl rfl hi (by decide) rfl dX5_months_9 ?_
  refine lv_i2l (v := jd_l (Y i)) hx hb dX5_months_10 (jd_i2l (by omega) (by omega)) ?_
  refine lv_ldc2 (v := jd_l 12) hx hb hown (hts _ q414) dX5_months_11 ?_
  refine lv_lmul hx hb dX5_months_14 ?_
  refine jd_tl (jd_l_mul _ _) ?_
  refine lv_aload_n hx hb dX5_months_15 rfl (lv_at hl 1 rfl) ?_
  refine va_get (D := D) (ci := 3) (v := .ref q2) (C := RX5) (T := TX5) (N := 2) hx hb hts in_X5 hown hK hP 0 rfl rfl 1 (by decide) (hts _ q394) (fun _ h9 => h9) rfl dX5_months_16 ?_
  refine lv_iload_n hx hb dX5_months_19 rfl (lv_at hl 0 rfl) ?_
  refine jd_iald hx hb hK hP 2 1 rfl rfl hi (by decide) rfl dX5_months_20 ?_
  refine lv_iconst (v := jd_i 1) hx hb dX5_months_21 (by decide) ?_
  refine lv_isub hx hb dX5_months_22 ?_
  refine jd_ti (jd_i_sub _ _) ?_
  refine lv_i2l (v := jd_l ((M i) - 1)) hx hb dX5_months_23 (jd_i2l (by omega) (by omega)) ?_
  refine lv_ladd hx hb dX5_months_24 ?_
  refine jd_tl (jd_l_add _ _) ?_
  refine lv_iload_n hx hb dX5_months_25 rfl (lv_at hl 3 rfl) ?_
  refine lv_ldc (v := jd_i 1000000) hx hb hown (hts _ q405) dX5_months_26 ?_
  refine lv_irem hx hb dX5_months_28 (by decide) ?_
  refine jd_ti (y := jd_i (jd_r6 p2)) (jd_r6_eq p2) ?_
  refine lv_i2l (v := jd_l (jd_r6 p2)) hx hb dX5_months_29 (jd_i2l (by omega) (by omega)) ?_
  refine lv_ladd hx hb dX5_months_30 ?_
  refine jd_tl (jd_l_add _ _) ?_
  refine lv_lstore (lv' := [(4, .long (jd_l ((((Y i) * 12) + ((M i) - 1)) + (jd_r6 p2)))), (3, .int (nI i)), (0, .ref x), (1, .int p1), (2, .int p2)]) hx hb dX5_months_31 hl (by decide) rfl (fun ls hl => ?_)
  refine lv_lload hx hb dX5_months_33 (lv_at hl 0 rfl) ?_
  refine lv_ldc2 (v := jd_l 12) hx hb hown (hts _ q414) dX5_months_35 ?_
  refine vp_callSl (W.runS (As := [.long (jd_l ((((Y i) * 12) + ((M i) - 1)) + (jd_r6 p2))), .long (jd_l 12)]) (rest := []) ⟨hx, hb, hml, hown, hts⟩ (metX5_floorQuotient12 l (Y i * 12 + (M i - 1) + jd_r6 p2) (by omega) (by omega)) (va_cwS 2 hts (lw_S q415 q416 q12 q417) rfl rfl rfl (by decide +kernel) ⟨Nat.le_of_ble_eq_true rfl, Nat.le_of_ble_eq_true rfl⟩) (jd_preS jd_mvT trivial) rfl rfl hl.1 rfl (lv_room (Nat.le_of_ble_eq_true rfl)) dX5_months_38 ⟨Nat.le_of_ble_eq_true rfl, Nat.le_of_ble_eq_true rfl⟩) (fun r_1 hr_1 => ?_)
  obtain rfl : (jd_l (((Y i * 12 + (M i - 1) + jd_r6 p2) / 12))) = r_1 := Eq.symm hr_1
  refine lv_lstore (lv' := [(6, .long (jd_l ((Y i * 12 + (M i - 1) + jd_r6 p2) / 12))), (4, .long (jd_l ((((Y i) * 12) + ((M i) - 1)) + (jd_r6 p2)))), (3, .int (nI i)), (0, .ref x), (1, .int p1), (2, .int p2)]) hx hb dX5_months_41 hl (by decide) rfl (fun ls hl => ?_)
  refine lv_lload hx hb dX5_months_43 (lv_at hl 0 rfl) ?_
  refine lv_ldc2 hx hb hown (hts _ q418) dX5_months_45 ?_
  refine jd_tl (y := jd_l (-999999999)) (by decide) ?_
  refine W.lcmp hx hb dX5_months_48 ?_
  refine lv_if_lt (tgt := 61) hx hb dX5_months_49 (by decide) (fun c => absurd ((jd_clt (a := (Y i * 12 + (M i - 1) + jd_r6 p2) / 12) (b := -999999999) (by omega) (by omega) (by omega) (by omega)).mp c) (by omega)) (fun _ => ?_)
  refine lv_lload hx hb dX5_months_52 (lv_at hl 0 rfl) ?_
  refine lv_ldc2 (v := jd_l 999999999) hx hb hown (hts _ q419) dX5_months_54 ?_
  refine W.lcmp hx hb dX5_months_57 ?_
  refine lv_if_le (tgt := 71) hx hb dX5_months_58 (by decide) (fun _ => ?_) (fun c => absurd ((jd_cle (a := (Y i * 12 + (M i - 1) + jd_r6 p2) / 12) (b := 999999999) (by omega) (by omega) (by omega) (by omega)).mpr (by omega)) c)
  refine lv_aload_n hx hb dX5_months_71 rfl (lv_at hl 3 rfl) ?_
  refine va_get (D := D) (ci := 3) (v := .ref q1) (C := RX5) (T := TX5) (N := 2) hx hb hts in_X5 hown hK hP 0 rfl rfl 0 (by decide) (hts _ q393) (fun _ h9 => h9) rfl dX5_months_72 ?_
  refine lv_iload_n hx hb dX5_months_75 rfl (lv_at hl 2 rfl) ?_
  refine lv_lload hx hb dX5_months_76 (lv_at hl 0 rfl) ?_
  refine lv_l2i (v := jd_i ((Y i * 12 + (M i - 1) + jd_r6 p2) / 12)) hx hb dX5_months_78 (jd_l2i _) ?_
  refine jd_iast hx hb hK hP hD hS 1 0 rfl rfl hi (by decide) dX5_months_79 (fun H locs hP hD hS => ?_)
  have hP : va_P D jd_cl [jd_mm x q1 q2, jd_ia q1 c1 (upd (fun j => jd_i (Y j)) i (jd_i ((Y i * 12 + (M i - 1) + jd_r6 p2) / 12))), jd_ia q2 c2 (fun j => jd_i (M j))] H := hP
  have hD : va_D A [jd_mm x q1 q2, jd_ia q1 c1 (upd (fun j => jd_i (Y j)) i (jd_i ((Y i * 12 + (M i - 1) + jd_r6 p2) / 12))), jd_ia q2 c2 (fun j => jd_i (M j))] := hD
  rw [jd_upi Y i ((Y i * 12 + (M i - 1) + jd_r6 p2) / 12)] at hP hD
  refine lv_aload_n hx hb dX5_months_80 rfl (lv_at hl 3 rfl) ?_
  refine va_get (D := D) (ci := 3) (v := .ref q2) (C := RX5) (T := TX5) (N := 2) hx hb hts in_X5 hown hK hP 0 rfl rfl 1 (by decide) (hts _ q394) (fun _ h9 => h9) rfl dX5_months_81 ?_
  refine lv_iload_n hx hb dX5_months_84 rfl (lv_at hl 2 rfl) ?_
  refine lv_lload hx hb dX5_months_85 (lv_at hl 1 rfl) ?_
  refine lv_lload hx hb dX5_months_87 (lv_at hl 0 rfl) ?_
  refine lv_ldc2 (v := jd_l 12) hx hb hown (hts _ q414) dX5_months_89 ?_
  refine lv_lmul hx hb dX5_months_92 ?_
  refine jd_tl (jd_l_mul _ _) ?_
  refine lv_lsub hx hb dX5_months_93 ?_
  refine jd_tl (jd_l_sub _ _) ?_
  refine lv_l2i (v := jd_i (((((Y i) * 12) + ((M i) - 1)) + (jd_r6 p2)) - (((Y i * 12 + (M i - 1) + jd_r6 p2) / 12) * 12))) hx hb dX5_months_94 (jd_l2i _) ?_
  refine lv_iconst (v := jd_i 1) hx hb dX5_months_95 (by decide) ?_
  refine lv_iadd hx hb dX5_months_96 ?_
  refine jd_ti (jd_i_add _ _) ?_
  refine jd_ti (y := jd_i ((Y i * 12 + (M i - 1) + jd_r6 p2) % 12 + 1)) (by congr 1; omega) ?_
  refine jd_iast hx hb hK hP hD hS 2 1 rfl rfl hi (by decide) dX5_months_97 (fun H locs hP hD hS => ?_)
  have hP : va_P D jd_cl [jd_mm x q1 q2, jd_ia q1 c1 (fun j => jd_i ((va_up Y i ((Y i * 12 + (M i - 1) + jd_r6 p2) / 12)) j)), jd_ia q2 c2 (upd (fun j => jd_i (M j)) i (jd_i ((Y i * 12 + (M i - 1) + jd_r6 p2) % 12 + 1)))] H := hP
  have hD : va_D A [jd_mm x q1 q2, jd_ia q1 c1 (fun j => jd_i ((va_up Y i ((Y i * 12 + (M i - 1) + jd_r6 p2) / 12)) j)), jd_ia q2 c2 (upd (fun j => jd_i (M j)) i (jd_i ((Y i * 12 + (M i - 1) + jd_r6 p2) % 12 + 1)))] := hD
  rw [jd_upi M i ((Y i * 12 + (M i - 1) + jd_r6 p2) % 12 + 1)] at hP hD
  exact W.vret hx hb hr (fun t ht hW => ⟨⟨(), rfl, trivial, by rw [ht]; exact hP, va_K.moved hW.alike hK, hD⟩, hS.F ht⟩) hS.2.2 dX5_months_98
set_option maxHeartbeats 4000000 in
set_option maxRecDepth 100000 in
/-- MonthDeskModel.years -/
theorem metX5_years (l : Launch) (D : va_G) (x q1 q2 sz : Nat) (c1 c2 : ClassId) (Y M : Nat → Int) (i : Nat) (p1 p2 : Int32) (hi : i < 2) (hw : p1 &&& 1 = nI i) (b1 : -9000000 ≤ Y i) (b2 : Y i ≤ 9000000) (m1 : 1 ≤ M i) (m2 : M i ≤ 12) : Met l yX5_years (ws_ yX5_years cX5_years 5 none) (jd_rm 0 0 0) (jd_Pc [.ref x, .int p1, .int p2] (fun U H => H.size = sz ∧ va_P D jd_cl (jd_MW x q1 q2 c1 c2 Y M) H ∧ va_K D jd_cl [(c1, .int), (c2, .int)] U ∧ va_D (fun _ => True) (jd_MW x q1 q2 c1 c2 Y M))) (va_Qv (fun _ : Unit => True) (fun _ t => va_P D jd_cl (jd_MW x q1 q2 c1 c2 (va_up Y i (if -999999 < Y i + jd_r6 p2 ∧ Y i + jd_r6 p2 < 999999 then Y i + jd_r6 p2 else Y i)) M) t.heap ∧ va_K D jd_cl [(c1, .int), (c2, .int)] t ∧ va_D (va_A (jd_MW x q1 q2 c1 c2 Y M) sz) (jd_MW x q1 q2 c1 c2 (va_up Y i (if -999999 < Y i + jd_r6 p2 ∧ Y i + jd_r6 p2 < 999999 then Y i + jd_r6 p2 else Y i)) M)) (va_A (jd_MW x q1 q2 c1 c2 Y M) sz)) 0 0 (va_A (jd_MW x q1 q2 c1 c2 Y M) sz) := by
  refine Met.ofW (cc := cX5_years) (maxL := 5) (ret := none) (by decide) rfl ?_
  intro p e s m args below meth c s₁ B hml hv
  obtain ⟨rfl, hsz, hP, hK, hD0⟩ := hv
  have hx := B.exec
  have hb := B.bytes
  have hr := B.returns
  have hts := atoms_spec (ws := (ws_ yX5_years cX5_years 5 none)) B.pre
  have hts : ∀ w ∈ lw_all, w.before _ s = true := fun w h => hts w (List.mem_cons_of_mem _ h)
  have hown : s.vm.findClass RX5 = some m.cls := findClass_of_methodNamed B.named
  have hlocks := B.notSynchronized
  have r2 := jd_r6_rg p2
  subst hsz
  have hD := hD0.self (sz := s.heap.size)
  generalize hAe : va_A (jd_MW x q1 q2 c1 c2 Y M) s.heap.size = A at hD ⊢
  have hA : ∀ q : Nat, s.heap.size ≤ q → A q := fun q h => by rw [← hAe]; exact Or.inr h
  have hS : va_S A s.heap s.heap [] := va_S.rf
  have hP : va_P D jd_cl [jd_mm x q1 q2, jd_ia q1 c1 (fun j => jd_i (Y j)), jd_ia q2 c2 (fun j => jd_i (M j))] s.heap := hP
  have hD : va_D A [jd_mm x q1 q2, jd_ia q1 c1 (fun j => jd_i (Y j)), jd_ia q2 c2 (fun j => jd_i (M j))] := hD
  have hl := lv_entry ([.ref x, .int p1, .int p2]) (n := 5) (Nat.le_of_ble_eq_true rfl)
  rw [lg_entry_eq]
  generalize (lg_sl ([.ref x, .int p1, .int p2]) ++ List.replicate (5 - (lg_sl ([.ref x, .int p1, .int p2])).length) Slot.unset).toArray = ls at hl ⊢
  have hl : lv_has ls 5 [(0, .ref x), (1, .int p1), (2, .int p2)] := hl
  refine lv_iload_n hx hb dX5_years_0 rfl (lv_at hl 1 rfl) ?_
  refine lv_iconst (v := jd_i 1) hx hb dX5_years_1 (by decide) ?_
  refine lv_iand hx hb dX5_years_2 ?_
  refine jd_ti (y := (nI i)) hw ?_
  refine lv_istore_n (lv' := [(3, .int (nI i)), (0, .ref x), (1, .int p1), (2, .int p2)]) hx hb dX5_years_3 rfl hl (by decide) rfl (fun ls hl => ?_)
  refine lv_aload_n hx hb dX5_years_4 rfl (lv_at hl 1 rfl) ?_
  refine va_get (D := D) (ci := 3) (v := .ref q1) (C := RX5) (T := TX5) (N := 2) hx hb hts in_X5 hown hK hP 0 rfl rfl 0 (by decide) (hts _ q393) (fun _ h9 => h9) rfl dX5_years_5 ?_
  refine lv_iload_n hx hb dX5_years_8 rfl (lv_at hl 0 rfl) ?_
  refine jd_iald hx hb hK hP 1 0 rfl rfl hi (by decide) rfl dX5_years_9 ?_
  refine lv_iload_n hx hb dX5_years_10 rfl (lv_at hl 3 rfl) ?_
  refine lv_ldc (v := jd_i 1000000) hx hb hown (hts _ q405) dX5_years_11 ?_
  refine lv_irem hx hb dX5_years_13 (by decide) ?_
  refine jd_ti (y := jd_i (jd_r6 p2)) (jd_r6_eq p2) ?_
  refine lv_iadd hx hb dX5_years_14 ?_
  refine jd_ti (jd_i_add _ _) ?_
  refine lv_istore (lv' := [(4, .int (jd_i ((Y i) + (jd_r6 p2)))), (3, .int (nI i)), (0, .ref x), (1, .int p1), (2, .int p2)]) hx hb dX5_years_15 hl (by decide) rfl (fun ls hl => ?_)
  refine lv_iload hx hb dX5_years_17 (lv_at hl 0 rfl) ?_
  refine lv_ldc hx hb hown (hts _ q437) dX5_years_19 ?_
  refine jd_ti (y := jd_i (-999999)) (by decide) ?_
  refine lv_icmp_le (tgt := 39) hx hb dX5_years_21 (by decide) (fun d1 => ?_) (fun d1 => ?_)
  · have d1 : ((Y i) + (jd_r6 p2)) ≤ (-999999) := (jd_i_le (a := (Y i) + (jd_r6 p2)) (b := -999999) (by omega) (by omega) (by omega) (by omega)).mp d1
    rw [if_neg (by omega), jd_up_id Y i]
    exact W.vret hx hb hr (fun t ht hW => ⟨⟨(), rfl, trivial, by rw [ht]; exact hP, va_K.moved hW.alike hK, hD⟩, hS.F ht⟩) hS.2.2 dX5_years_39
  · have d1 : ¬ (((Y i) + (jd_r6 p2)) ≤ (-999999)) := fun z => d1 ((jd_i_le (a := (Y i) + (jd_r6 p2)) (b := -999999) (by omega) (by omega) (by omega) (by omega)).mpr z)
    refine lv_iload hx hb dX5_years_24 (lv_at hl 0 rfl) ?_
    refine lv_ldc (v := jd_i 999999) hx hb hown (hts _ q438) dX5_years_26 ?_
    refine lv_icmp_ge (tgt := 39) hx hb dX5_years_28 (by decide) (fun d2 => ?_) (fun d2 => ?_)
    · have d2 : 999999 ≤ ((Y i) + (jd_r6 p2)) := (jd_i_le (a := 999999) (b := (Y i) + (jd_r6 p2)) (by omega) (by omega) (by omega) (by omega)).mp d2
      rw [if_neg (by omega), jd_up_id Y i]
      exact W.vret hx hb hr (fun t ht hW => ⟨⟨(), rfl, trivial, by rw [ht]; exact hP, va_K.moved hW.alike hK, hD⟩, hS.F ht⟩) hS.2.2 dX5_years_39
    · have d2 : ¬ (999999 ≤ ((Y i) + (jd_r6 p2))) := fun z => d2 ((jd_i_le (a := 999999) (b := (Y i) + (jd_r6 p2)) (by omega) (by omega) (by omega) (by omega)).mpr z)
      rw [if_pos ⟨by omega, by omega⟩]
      refine lv_aload_n hx hb dX5_years_31 rfl (lv_at hl 2 rfl) ?_
      refine va_get (D := D) (ci := 3) (v := .ref q1) (C := RX5) (T := TX5) (N := 2) hx hb hts in_X5 hown hK hP 0 rfl rfl 0 (by decide) (hts _ q393) (fun _ h9 => h9) rfl dX5_years_32 ?_
      refine lv_iload_n hx hb dX5_years_35 rfl (lv_at hl 1 rfl) ?_
      refine lv_iload hx hb dX5_years_36 (lv_at hl 0 rfl) ?_
      refine jd_iast hx hb hK hP hD hS 1 0 rfl rfl hi (by decide) dX5_years_38 (fun H locs hP hD hS => ?_)
      have hP : va_P D jd_cl [jd_mm x q1 q2, jd_ia q1 c1 (upd (fun j => jd_i (Y j)) i (jd_i (Y i + jd_r6 p2))), jd_ia q2 c2 (fun j => jd_i (M j))] H := hP
      have hD : va_D A [jd_mm x q1 q2, jd_ia q1 c1 (upd (fun j => jd_i (Y j)) i (jd_i (Y i + jd_r6 p2))), jd_ia q2 c2 (fun j => jd_i (M j))] := hD
      rw [jd_upi Y i (Y i + jd_r6 p2)] at hP hD
      exact W.vret hx hb hr (fun t ht hW => ⟨⟨(), rfl, trivial, by rw [ht]; exact hP, va_K.moved hW.alike hK, hD⟩, hS.F ht⟩) hS.2.2 dX5_years_39
set_option maxHeartbeats 4000000 in
set_option maxRecDepth 100000 in
/-- MonthDeskModel.withMonth -/
theorem metX5_withMonth (l : Launch) (D : va_G) (x q1 q2 sz : Nat) (c1 c2 : ClassId) (Y M : Nat → Int) (i : Nat) (p1 p2 : Int32) (hi : i < 2) (hw : p1 &&& 1 = nI i) (b1 : -9000000 ≤ Y i) (b2 : Y i ≤ 9000000) (m1 : 1 ≤ M i) (m2 : M i ≤ 12) : Met l yX5_withMonth (ws_ yX5_withMonth cX5_withMonth 3 none) (jd_rm 1 0 0) (jd_Pc [.ref x, .int p1, .int p2] (fun U H => H.size = sz ∧ va_P D jd_cl (jd_MW x q1 q2 c1 c2 Y M) H ∧ va_K D jd_cl [(c1, .int), (c2, .int)] U ∧ va_D (fun _ => True) (jd_MW x q1 q2 c1 c2 Y M))) (va_Qv (fun _ : Unit => True) (fun _ t => va_P D jd_cl (jd_MW x q1 q2 c1 c2 Y (va_up M i (jd_mf p2))) t.heap ∧ va_K D jd_cl [(c1, .int), (c2, .int)] t ∧ va_D (va_A (jd_MW x q1 q2 c1 c2 Y M) sz) (jd_MW x q1 q2 c1 c2 Y (va_up M i (jd_mf p2)))) (va_A (jd_MW x q1 q2 c1 c2 Y M) sz)) 0 0 (va_A (jd_MW x q1 q2 c1 c2 Y M) sz) := by
  refine Met.ofW (cc := cX5_withMonth) (maxL := 3) (ret := none) (by decide) rfl ?_
  intro p e s m args below meth c s₁ B hml hv
  obtain ⟨rfl, hsz, hP, hK, hD0⟩ := hv
  have hx := B.exec
  have hb := B.bytes
  have hr := B.returns
  have hts := atoms_spec (ws := (ws_ yX5_withMonth cX5_withMonth 3 none)) B.pre
  have hts : ∀ w ∈ lw_all, w.before _ s = true := fun w h => hts w (List.mem_cons_of_mem _ h)
  have hown : s.vm.findClass RX5 = some m.cls := findClass_of_methodNamed B.named
  have hlocks := B.notSynchronized
  subst hsz
  have hD := hD0.self (sz := s.heap.size)
  generalize hAe : va_A (jd_MW x q1 q2 c1 c2 Y M) s.heap.size = A at hD ⊢
  have hA : ∀ q : Nat, s.heap.size ≤ q → A q := fun q h => by rw [← hAe]; exact Or.inr h
  have hS : va_S A s.heap s.heap [] := va_S.rf
  have hP : va_P D jd_cl [jd_mm x q1 q2, jd_ia q1 c1 (fun j => jd_i (Y j)), jd_ia q2 c2 (fun j => jd_i (M j))] s.heap := hP
  have hD : va_D A [jd_mm x q1 q2, jd_ia q1 c1 (fun j => jd_i (Y j)), jd_ia q2 c2 (fun j => jd_i (M j))] := hD
  have hl := lv_entry ([.ref x, .int p1, .int p2]) (n := 3) (Nat.le_of_ble_eq_true rfl)
  rw [lg_entry_eq]
  generalize (lg_sl ([.ref x, .int p1, .int p2]) ++ List.replicate (3 - (lg_sl ([.ref x, .int p1, .int p2])).length) Slot.unset).toArray = ls at hl ⊢
  have hl : lv_has ls 3 [(0, .ref x), (1, .int p1), (2, .int p2)] := hl
  refine lv_aload_n hx hb dX5_withMonth_0 rfl (lv_at hl 0 rfl) ?_
  refine va_get (D := D) (ci := 3) (v := .ref q2) (C := RX5) (T := TX5) (N := 2) hx hb hts in_X5 hown hK hP 0 rfl rfl 1 (by decide) (hts _ q394) (fun _ h9 => h9) rfl dX5_withMonth_1 ?_
  refine lv_iload_n hx hb dX5_withMonth_4 rfl (lv_at hl 1 rfl) ?_
  refine lv_iconst (v := jd_i 1) hx hb dX5_withMonth_5 (by decide) ?_
  refine lv_iand hx hb dX5_withMonth_6 ?_
  refine jd_ti (y := (nI i)) hw ?_
  refine lv_iload_n hx hb dX5_withMonth_7 rfl (lv_at hl 2 rfl) ?_
  refine vp_callSi (W.runS (As := [.int p2]) (rest := [.int (nI i), .ref q2]) ⟨hx, hb, hml, hown, hts⟩ (metX5_monthFrom l p2) (va_cwS 1 hts (lw_S q406 q407 q12 q408) rfl rfl rfl (by decide +kernel) ⟨Nat.le_of_ble_eq_true rfl, Nat.le_of_ble_eq_true rfl⟩) (jd_preS jd_mvT trivial) rfl rfl hl.1 rfl (lv_room (Nat.le_of_ble_eq_true rfl)) dX5_withMonth_8 ⟨Nat.le_of_ble_eq_true rfl, Nat.le_of_ble_eq_true rfl⟩) (fun r_1 hr_1 => ?_)
  obtain rfl : (jd_i ((jd_mf p2))) = r_1 := Eq.symm hr_1
  refine jd_iast hx hb hK hP hD hS 2 1 rfl rfl hi (by decide) dX5_withMonth_11 (fun H locs hP hD hS => ?_)
  have hP : va_P D jd_cl [jd_mm x q1 q2, jd_ia q1 c1 (fun j => jd_i (Y j)), jd_ia q2 c2 (upd (fun j => jd_i (M j)) i (jd_i (jd_mf p2)))] H := hP
  have hD : va_D A [jd_mm x q1 q2, jd_ia q1 c1 (fun j => jd_i (Y j)), jd_ia q2 c2 (upd (fun j => jd_i (M j)) i (jd_i (jd_mf p2)))] := hD
  rw [jd_upi M i (jd_mf p2)] at hP hD
  exact W.vret hx hb hr (fun t ht hW => ⟨⟨(), rfl, trivial, by rw [ht]; exact hP, va_K.moved hW.alike hK, hD⟩, hS.F ht⟩) hS.2.2 dX5_withMonth_12
set_option maxHeartbeats 4000000 in
set_option maxRecDepth 100000 in
/-- MonthDeskModel.withYear -/
theorem metX5_withYear (l : Launch) (D : va_G) (x q1 q2 sz : Nat) (c1 c2 : ClassId) (Y M : Nat → Int) (i : Nat) (p1 p2 : Int32) (hi : i < 2) (hw : p1 &&& 1 = nI i) (b1 : -9000000 ≤ Y i) (b2 : Y i ≤ 9000000) (m1 : 1 ≤ M i) (m2 : M i ≤ 12) : Met l yX5_withYear (ws_ yX5_withYear cX5_withYear 3 none) (jd_rm 0 0 0) (jd_Pc [.ref x, .int p1, .int p2] (fun U H => H.size = sz ∧ va_P D jd_cl (jd_MW x q1 q2 c1 c2 Y M) H ∧ va_K D jd_cl [(c1, .int), (c2, .int)] U ∧ va_D (fun _ => True) (jd_MW x q1 q2 c1 c2 Y M))) (va_Qv (fun _ : Unit => True) (fun _ t => va_P D jd_cl (jd_MW x q1 q2 c1 c2 (va_up Y i (jd_r6 p2)) M) t.heap ∧ va_K D jd_cl [(c1, .int), (c2, .int)] t ∧ va_D (va_A (jd_MW x q1 q2 c1 c2 Y M) sz) (jd_MW x q1 q2 c1 c2 (va_up Y i (jd_r6 p2)) M)) (va_A (jd_MW x q1 q2 c1 c2 Y M) sz)) 0 0 (va_A (jd_MW x q1 q2 c1 c2 Y M) sz) := by
  refine Met.ofW (cc := cX5_withYear) (maxL := 3) (ret := none) (by decide) rfl ?_
  intro p e s m args below meth c s₁ B hml hv
  obtain ⟨rfl, hsz, hP, hK, hD0⟩ := hv
  have hx := B.exec
  have hb := B.bytes
  have hr := B.returns
  have hts := atoms_spec (ws := (ws_ yX5_withYear cX5_withYear 3 none)) B.pre
  have hts : ∀ w ∈ lw_all, w.before _ s = true := fun w h => hts w (List.mem_cons_of_mem _ h)
  have hown : s.vm.findClass RX5 = some m.cls := findClass_of_methodNamed B.named
  have hlocks := B.notSynchronized
  subst hsz
  have hD := hD0.self (sz := s.heap.size)
  generalize hAe : va_A (jd_MW x q1 q2 c1 c2 Y M) s.heap.size = A at hD ⊢
  have hA : ∀ q : Nat, s.heap.size ≤ q → A q := fun q h => by rw [← hAe]; exact Or.inr h
  have hS : va_S A s.heap s.heap [] := va_S.rf
  have hP : va_P D jd_cl [jd_mm x q1 q2, jd_ia q1 c1 (fun j => jd_i (Y j)), jd_ia q2 c2 (fun j => jd_i (M j))] s.heap := hP
  have hD : va_D A [jd_mm x q1 q2, jd_ia q1 c1 (fun j => jd_i (Y j)), jd_ia q2 c2 (fun j => jd_i (M j))] := hD
  have hl := lv_entry ([.ref x, .int p1, .int p2]) (n := 3) (Nat.le_of_ble_eq_true rfl)
  rw [lg_entry_eq]
  generalize (lg_sl ([.ref x, .int p1, .int p2]) ++ List.replicate (3 - (lg_sl ([.ref x, .int p1, .int p2])).length) Slot.unset).toArray = ls at hl ⊢
  have hl : lv_has ls 3 [(0, .ref x), (1, .int p1), (2, .int p2)] := hl
  refine lv_aload_n hx hb dX5_withYear_0 rfl (lv_at hl 0 rfl) ?_
  refine va_get (D := D) (ci := 3) (v := .ref q1) (C := RX5) (T := TX5) (N := 2) hx hb hts in_X5 hown hK hP 0 rfl rfl 0 (by decide) (hts _ q393) (fun _ h9 => h9) rfl dX5_withYear_1 ?_
  refine lv_iload_n hx hb dX5_withYear_4 rfl (lv_at hl 1 rfl) ?_
  refine lv_iconst (v := jd_i 1) hx hb dX5_withYear_5 (by decide) ?_
  refine lv_iand hx hb dX5_withYear_6 ?_
  refine jd_ti (y := (nI i)) hw ?_
  refine lv_iload_n hx hb dX5_withYear_7 rfl (lv_at hl 2 rfl) ?_
  refine lv_ldc (v := jd_i 1000000) hx hb hown (hts _ q405) dX5_withYear_8 ?_
  refine lv_irem hx hb dX5_withYear_10 (by decide) ?_
  refine jd_ti (y := jd_i (jd_r6 p2)) (jd_r6_eq p2) ?_
  refine jd_iast hx hb hK hP hD hS 1 0 rfl rfl hi (by decide) dX5_withYear_11 (fun H locs hP hD hS => ?_)
  have hP : va_P D jd_cl [jd_mm x q1 q2, jd_ia q1 c1 (upd (fun j => jd_i (Y j)) i (jd_i (jd_r6 p2))), jd_ia q2 c2 (fun j => jd_i (M j))] H := hP
  have hD : va_D A [jd_mm x q1 q2, jd_ia q1 c1 (upd (fun j => jd_i (Y j)) i (jd_i (jd_r6 p2))), jd_ia q2 c2 (fun j => jd_i (M j))] := hD
  rw [jd_upi Y i (jd_r6 p2)] at hP hD
  exact W.vret hx hb hr (fun t ht hW => ⟨⟨(), rfl, trivial, by rw [ht]; exact hP, va_K.moved hW.alike hK, hD⟩, hS.F ht⟩) hS.2.2 dX5_withYear_12
set_option maxHeartbeats 4000000 in
set_option maxRecDepth 100000 in
/-- MonthDeskModel.keep -/
theorem metX5_keep (l : Launch) (D : va_G) (x q1 q2 sz : Nat) (c1 c2 : ClassId) (Y M : Nat → Int) (i : Nat) (p1 : Int32) (hi : i < 2) (hw : p1 &&& 1 = nI i) (b1 : -9000000 ≤ Y i) (b2 : Y i ≤ 9000000) (m1 : 1 ≤ M i) (m2 : M i ≤ 12) : Met l yX5_keep (ws_ yX5_keep cX5_keep 3 (some .boolean)) (jd_rm 0 0 0) (jd_Pc [.ref x, .int p1] (fun U H => H.size = sz ∧ va_P D jd_cl (jd_MW x q1 q2 c1 c2 Y M) H ∧ va_K D jd_cl [(c1, .int), (c2, .int)] U ∧ va_D (fun _ => True) (jd_MW x q1 q2 c1 c2 Y M))) (va_Qi (fun (r : Int32) (_ : Unit) => r = jd_i (if jd_out (Y i) = true then 0 else 1)) (fun _ t => va_P D jd_cl (jd_MW x q1 q2 c1 c2 (va_up Y i (if jd_out (Y i) = true then 2000 else Y i)) (va_up M i (if jd_out (Y i) = true then 1 else M i))) t.heap ∧ va_K D jd_cl [(c1, .int), (c2, .int)] t ∧ va_D (va_A (jd_MW x q1 q2 c1 c2 Y M) sz) (jd_MW x q1 q2 c1 c2 (va_up Y i (if jd_out (Y i) = true then 2000 else Y i)) (va_up M i (if jd_out (Y i) = true then 1 else M i)))) (va_A (jd_MW x q1 q2 c1 c2 Y M) sz)) 0 0 (va_A (jd_MW x q1 q2 c1 c2 Y M) sz) := by
  refine Met.ofW (cc := cX5_keep) (maxL := 3) (ret := (some .boolean)) (by decide) rfl ?_
  intro p e s m args below meth c s₁ B hml hv
  obtain ⟨rfl, hsz, hP, hK, hD0⟩ := hv
  have hx := B.exec
  have hb := B.bytes
  have hr := B.returns
  have hts := atoms_spec (ws := (ws_ yX5_keep cX5_keep 3 (some .boolean))) B.pre
  have hts : ∀ w ∈ lw_all, w.before _ s = true := fun w h => hts w (List.mem_cons_of_mem _ h)
  have hown : s.vm.findClass RX5 = some m.cls := findClass_of_methodNamed B.named
  have hlocks := B.notSynchronized
  subst hsz
  have hD := hD0.self (sz := s.heap.size)
  generalize hAe : va_A (jd_MW x q1 q2 c1 c2 Y M) s.heap.size = A at hD ⊢
  have hA : ∀ q : Nat, s.heap.size ≤ q → A q := fun q h => by rw [← hAe]; exact Or.inr h
  have hS : va_S A s.heap s.heap [] := va_S.rf
  have hP : va_P D jd_cl [jd_mm x q1 q2, jd_ia q1 c1 (fun j => jd_i (Y j)), jd_ia q2 c2 (fun j => jd_i (M j))] s.heap := hP
  have hD : va_D A [jd_mm x q1 q2, jd_ia q1 c1 (fun j => jd_i (Y j)), jd_ia q2 c2 (fun j => jd_i (M j))] := hD
  have hl := lv_entry ([.ref x, .int p1]) (n := 3) (Nat.le_of_ble_eq_true rfl)
  rw [lg_entry_eq]
  generalize (lg_sl ([.ref x, .int p1]) ++ List.replicate (3 - (lg_sl ([.ref x, .int p1])).length) Slot.unset).toArray = ls at hl ⊢
  have hl : lv_has ls 3 [(0, .ref x), (1, .int p1)] := hl
  refine lv_iload_n hx hb dX5_keep_0 rfl (lv_at hl 1 rfl) ?_
  refine lv_iconst (v := jd_i 1) hx hb dX5_keep_1 (by decide) ?_
  refine lv_iand hx hb dX5_keep_2 ?_
  refine jd_ti (y := (nI i)) hw ?_
  refine lv_istore_n (lv' := [(2, .int (nI i)), (0, .ref x), (1, .int p1)]) hx hb dX5_keep_3 rfl hl (by decide) rfl (fun ls hl => ?_)
  refine jd_tailp (g2 := F0 m 26 ls []) (900000 < Y i ∨ Y i < -900000) (fun tail => ?_) (fun ho => ?_)
  · skip
    refine lv_aload_n hx hb dX5_keep_4 rfl (lv_at hl 1 rfl) ?_
    refine va_get (D := D) (ci := 3) (v := .ref q1) (C := RX5) (T := TX5) (N := 2) hx hb hts in_X5 hown hK hP 0 rfl rfl 0 (by decide) (hts _ q393) (fun _ h9 => h9) rfl dX5_keep_5 ?_
    refine lv_iload_n hx hb dX5_keep_8 rfl (lv_at hl 0 rfl) ?_
    refine jd_iald hx hb hK hP 1 0 rfl rfl hi (by decide) rfl dX5_keep_9 ?_
    refine lv_ldc (v := jd_i 900000) hx hb hown (hts _ q498) dX5_keep_10 ?_
    refine lv_icmp_gt (tgt := 26) hx hb dX5_keep_12 (by decide) (fun d1 => ?_) (fun d1 => ?_)
    · have d1 : 900000 < (Y i) := (jd_i_lt (a := 900000) (b := Y i) (by omega) (by omega) (by omega) (by omega)).mp d1
      exact tail (by omega)
    · have d1 : ¬ (900000 < (Y i)) := fun z => d1 ((jd_i_lt (a := 900000) (b := Y i) (by omega) (by omega) (by omega) (by omega)).mpr z)
      refine lv_aload_n hx hb dX5_keep_15 rfl (lv_at hl 1 rfl) ?_
      refine va_get (D := D) (ci := 3) (v := .ref q1) (C := RX5) (T := TX5) (N := 2) hx hb hts in_X5 hown hK hP 0 rfl rfl 0 (by decide) (hts _ q393) (fun _ h9 => h9) rfl dX5_keep_16 ?_
      refine lv_iload_n hx hb dX5_keep_19 rfl (lv_at hl 0 rfl) ?_
      refine jd_iald hx hb hK hP 1 0 rfl rfl hi (by decide) rfl dX5_keep_20 ?_
      refine lv_ldc hx hb hown (hts _ q499) dX5_keep_21 ?_
      refine jd_ti (y := jd_i (-900000)) (by decide) ?_
      refine lv_icmp_ge (tgt := 44) hx hb dX5_keep_23 (by decide) (fun d2 => ?_) (fun d2 => ?_)
      · have d2 : (-900000) ≤ (Y i) := (jd_i_le (a := -900000) (b := Y i) (by omega) (by omega) (by omega) (by omega)).mp d2
        rw [jd_out_f (by omega), if_neg (by decide), if_neg (by decide), if_neg (by decide), jd_up_id Y i, jd_up_id M i]
        refine lv_iconst (v := jd_i 1) hx hb dX5_keep_44 (by decide) ?_
        exact W.zret hx hb hr rfl (fun t ht hW => ⟨⟨_, (), rfl, rfl, by rw [ht]; exact hP, va_K.moved hW.alike hK, hD⟩, hS.F ht⟩) hS.2.2 dX5_keep_45
      · have d2 : ¬ ((-900000) ≤ (Y i)) := fun z => d2 ((jd_i_le (a := -900000) (b := Y i) (by omega) (by omega) (by omega) (by omega)).mpr z)
        exact tail (by omega)
  · skip
    rw [jd_out_t ho, if_pos rfl, if_pos rfl, if_pos rfl]
    refine lv_aload_n hx hb dX5_keep_26 rfl (lv_at hl 1 rfl) ?_
    refine va_get (D := D) (ci := 3) (v := .ref q1) (C := RX5) (T := TX5) (N := 2) hx hb hts in_X5 hown hK hP 0 rfl rfl 0 (by decide) (hts _ q393) (fun _ h9 => h9) rfl dX5_keep_27 ?_
    refine lv_iload_n hx hb dX5_keep_30 rfl (lv_at hl 0 rfl) ?_
    refine lv_sipush (v := jd_i 2000) hx hb dX5_keep_31 (by decide) ?_
    refine jd_iast hx hb hK hP hD hS 1 0 rfl rfl hi (by decide) dX5_keep_34 (fun H locs hP hD hS => ?_)
    have hP : va_P D jd_cl [jd_mm x q1 q2, jd_ia q1 c1 (upd (fun j => jd_i (Y j)) i (jd_i 2000)), jd_ia q2 c2 (fun j => jd_i (M j))] H := hP
    have hD : va_D A [jd_mm x q1 q2, jd_ia q1 c1 (upd (fun j => jd_i (Y j)) i (jd_i 2000)), jd_ia q2 c2 (fun j => jd_i (M j))] := hD
    rw [jd_upi Y i 2000] at hP hD
    refine lv_aload_n hx hb dX5_keep_35 rfl (lv_at hl 1 rfl) ?_
    refine va_get (D := D) (ci := 3) (v := .ref q2) (C := RX5) (T := TX5) (N := 2) hx hb hts in_X5 hown hK hP 0 rfl rfl 1 (by decide) (hts _ q394) (fun _ h9 => h9) rfl dX5_keep_36 ?_
    refine lv_iload_n hx hb dX5_keep_39 rfl (lv_at hl 0 rfl) ?_
    refine lv_iconst (v := jd_i 1) hx hb dX5_keep_40 (by decide) ?_
    refine jd_iast hx hb hK hP hD hS 2 1 rfl rfl hi (by decide) dX5_keep_41 (fun H locs hP hD hS => ?_)
    have hP : va_P D jd_cl [jd_mm x q1 q2, jd_ia q1 c1 (fun j => jd_i ((va_up Y i 2000) j)), jd_ia q2 c2 (upd (fun j => jd_i (M j)) i (jd_i 1))] H := hP
    have hD : va_D A [jd_mm x q1 q2, jd_ia q1 c1 (fun j => jd_i ((va_up Y i 2000) j)), jd_ia q2 c2 (upd (fun j => jd_i (M j)) i (jd_i 1))] := hD
    rw [jd_upi M i 1] at hP hD
    refine lv_iconst (v := jd_i 0) hx hb dX5_keep_42 (by decide) ?_
    exact W.zret hx hb hr rfl (fun t ht hW => ⟨⟨_, (), rfl, rfl, by rw [ht]; exact hP, va_K.moved hW.alike hK, hD⟩, hS.F ht⟩) hS.2.2 dX5_keep_43
set_option maxHeartbeats 4000000 in
set_option maxRecDepth 100000 in
/-- year -/
theorem metX5_year (l : Launch) (D : va_G) (x q1 q2 : Nat) (c1 c2 : ClassId) (Y M : Nat → Int) (i : Nat) (p1 : Int32) (hi : i < 2) (hw : p1 &&& 1 = nI i) (b1 : -9000000 ≤ Y i) (b2 : Y i ≤ 9000000) (m1 : 1 ≤ M i) (m2 : M i ≤ 12) : Met l yX5_year (ws_ yX5_year cX5_year 2 (some .int)) (jd_rm 0 0 0) (jd_Pc [.ref x, .int p1] (fun U H => va_P D jd_cl (jd_MW x q1 q2 c1 c2 Y M) H ∧ va_K D jd_cl [(c1, .int), (c2, .int)] U)) (vp_Si (fun z => z = jd_i (Y i))) 0 0 (fun _ => False) := by
  refine Met.ofW (cc := cX5_year) (maxL := 2) (ret := (some .int)) (by decide) rfl ?_
  intro p e s m args below meth c s₁ B hml hv
  obtain ⟨rfl, hP, hK⟩ := hv
  have hx := B.exec
  have hb := B.bytes
  have hr := B.returns
  have hts := atoms_spec (ws := (ws_ yX5_year cX5_year 2 (some .int))) B.pre
  have hts : ∀ w ∈ lw_all, w.before _ s = true := fun w h => hts w (List.mem_cons_of_mem _ h)
  have hown : s.vm.findClass RX5 = some m.cls := findClass_of_methodNamed B.named
  have hlocks := B.notSynchronized
  have hP : va_P D jd_cl [jd_mm x q1 q2, jd_ia q1 c1 (fun j => jd_i (Y j)), jd_ia q2 c2 (fun j => jd_i (M j))] s.heap := hP
  have hS : va_S jd_no s.heap s.heap [] := va_S.rf
  have hl := lv_entry ([.ref x, .int p1]) (n := 2) (Nat.le_of_ble_eq_true rfl)
  rw [lg_entry_eq]
  generalize (lg_sl ([.ref x, .int p1]) ++ List.replicate (2 - (lg_sl ([.ref x, .int p1])).length) Slot.unset).toArray = ls at hl ⊢
  have hl : lv_has ls 2 [(0, .ref x), (1, .int p1)] := hl
  refine lv_aload_n hx hb dX5_year_0 rfl (lv_at hl 0 rfl) ?_
  refine va_get (D := D) (ci := 3) (v := .ref q1) (C := RX5) (T := TX5) (N := 2) hx hb hts in_X5 hown hK hP 0 rfl rfl 0 (by decide) (hts _ q393) (fun _ h9 => h9) rfl dX5_year_1 ?_
  refine lv_iload_n hx hb dX5_year_4 rfl (lv_at hl 1 rfl) ?_
  refine lv_iconst (v := jd_i 1) hx hb dX5_year_5 (by decide) ?_
  refine lv_iand hx hb dX5_year_6 ?_
  refine jd_ti (y := (nI i)) hw ?_
  refine jd_iald hx hb hK hP 1 0 rfl rfl hi (by decide) rfl dX5_year_7 ?_
  exact W.iret hx hb hr (fun t ht hW => ⟨_, rfl, rfl, ht⟩) (fun _ h => by cases h) dX5_year_8
set_option maxHeartbeats 4000000 in
set_option maxRecDepth 100000 in
/-- month -/
theorem metX5_month (l : Launch) (D : va_G) (x q1 q2 : Nat) (c1 c2 : ClassId) (Y M : Nat → Int) (i : Nat) (p1 : Int32) (hi : i < 2) (hw : p1 &&& 1 = nI i) (b1 : -9000000 ≤ Y i) (b2 : Y i ≤ 9000000) (m1 : 1 ≤ M i) (m2 : M i ≤ 12) : Met l yX5_month (ws_ yX5_month cX5_month 2 (some .int)) (jd_rm 0 0 0) (jd_Pc [.ref x, .int p1] (fun U H => va_P D jd_cl (jd_MW x q1 q2 c1 c2 Y M) H ∧ va_K D jd_cl [(c1, .int), (c2, .int)] U)) (vp_Si (fun z => z = jd_i (M i))) 0 0 (fun _ => False) := by
  refine Met.ofW (cc := cX5_month) (maxL := 2) (ret := (some .int)) (by decide) rfl ?_
  intro p e s m args below meth c s₁ B hml hv
  obtain ⟨rfl, hP, hK⟩ := hv
  have hx := B.exec
  have hb := B.bytes
  have hr := B.returns
  have hts := atoms_spec (ws := (ws_ yX5_month cX5_month 2 (some .int))) B.pre
  have hts : ∀ w ∈ lw_all, w.before _ s = true := fun w h => hts w (List.mem_cons_of_mem _ h)
  have hown : s.vm.findClass RX5 = some m.cls := findClass_of_methodNamed B.named
  have hlocks := B.notSynchronized
  have hP : va_P D jd_cl [jd_mm x q1 q2, jd_ia q1 c1 (fun j => jd_i (Y j)), jd_ia q2 c2 (fun j => jd_i (M j))] s.heap := hP
  have hS : va_S jd_no s.heap s.heap [] := va_S.rf
  have hl := lv_entry ([.ref x, .int p1]) (n := 2) (Nat.le_of_ble_eq_true rfl)
  rw [lg_entry_eq]
  generalize (lg_sl ([.ref x, .int p1]) ++ List.replicate (2 - (lg_sl ([.ref x, .int p1])).length) Slot.unset).toArray = ls at hl ⊢
  have hl : lv_has ls 2 [(0, .ref x), (1, .int p1)] := hl
  refine lv_aload_n hx hb dX5_month_0 rfl (lv_at hl 0 rfl) ?_
  refine va_get (D := D) (ci := 3) (v := .ref q2) (C := RX5) (T := TX5) (N := 2) hx hb hts in_X5 hown hK hP 0 rfl rfl 1 (by decide) (hts _ q394) (fun _ h9 => h9) rfl dX5_month_1 ?_
  refine lv_iload_n hx hb dX5_month_4 rfl (lv_at hl 1 rfl) ?_
  refine lv_iconst (v := jd_i 1) hx hb dX5_month_5 (by decide) ?_
  refine lv_iand hx hb dX5_month_6 ?_
  refine jd_ti (y := (nI i)) hw ?_
  refine jd_iald hx hb hK hP 2 1 rfl rfl hi (by decide) rfl dX5_month_7 ?_
  exact W.iret hx hb hr (fun t ht hW => ⟨_, rfl, rfl, ht⟩) (fun _ h => by cases h) dX5_month_8
set_option maxHeartbeats 4000000 in
set_option maxRecDepth 100000 in
/-- length -/
theorem metX5_length (l : Launch) (D : va_G) (x q1 q2 : Nat) (c1 c2 : ClassId) (Y M : Nat → Int) (i : Nat) (p1 : Int32) (hi : i < 2) (hw : p1 &&& 1 = nI i) (b1 : -9000000 ≤ Y i) (b2 : Y i ≤ 9000000) (m1 : 1 ≤ M i) (m2 : M i ≤ 12) : Met l yX5_length (ws_ yX5_length cX5_length 2 (some .int)) (jd_rm 2 0 0) (jd_Pc [.ref x, .int p1] (fun U H => va_P D jd_cl (jd_MW x q1 q2 c1 c2 Y M) H ∧ va_K D jd_cl [(c1, .int), (c2, .int)] U)) (vp_Si (fun z => z = jd_i (jd_dm (jd_lp (Y i)) (M i)))) 0 0 (fun _ => False) := by
  refine Met.ofW (cc := cX5_length) (maxL := 2) (ret := (some .int)) (by decide) rfl ?_
  intro p e s m args below meth c s₁ B hml hv
  obtain ⟨rfl, hP, hK⟩ := hv
  have hx := B.exec
  have hb := B.bytes
  have hr := B.returns
  have hts := atoms_spec (ws := (ws_ yX5_length cX5_length 2 (some .int))) B.pre
  have hts : ∀ w ∈ lw_all, w.before _ s = true := fun w h => hts w (List.mem_cons_of_mem _ h)
  have hown : s.vm.findClass RX5 = some m.cls := findClass_of_methodNamed B.named
  have hlocks := B.notSynchronized
  have hP : va_P D jd_cl [jd_mm x q1 q2, jd_ia q1 c1 (fun j => jd_i (Y j)), jd_ia q2 c2 (fun j => jd_i (M j))] s.heap := hP
  have hS : va_S jd_no s.heap s.heap [] := va_S.rf
  have hl := lv_entry ([.ref x, .int p1]) (n := 2) (Nat.le_of_ble_eq_true rfl)
  rw [lg_entry_eq]
  generalize (lg_sl ([.ref x, .int p1]) ++ List.replicate (2 - (lg_sl ([.ref x, .int p1])).length) Slot.unset).toArray = ls at hl ⊢
  have hl : lv_has ls 2 [(0, .ref x), (1, .int p1)] := hl
  refine lv_aload_n hx hb dX5_length_0 rfl (lv_at hl 0 rfl) ?_
  refine va_get (D := D) (ci := 3) (v := .ref q1) (C := RX5) (T := TX5) (N := 2) hx hb hts in_X5 hown hK hP 0 rfl rfl 0 (by decide) (hts _ q393) (fun _ h9 => h9) rfl dX5_length_1 ?_
  refine lv_iload_n hx hb dX5_length_4 rfl (lv_at hl 1 rfl) ?_
  refine lv_iconst (v := jd_i 1) hx hb dX5_length_5 (by decide) ?_
  refine lv_iand hx hb dX5_length_6 ?_
  refine jd_ti (y := (nI i)) hw ?_
  refine jd_iald hx hb hK hP 1 0 rfl rfl hi (by decide) rfl dX5_length_7 ?_
  refine lv_aload_n hx hb dX5_length_8 rfl (lv_at hl 0 rfl) ?_
  refine va_get (D := D) (ci := 3) (v := .ref q2) (C := RX5) (T := TX5) (N := 2) hx hb hts in_X5 hown hK hP 0 rfl rfl 1 (by decide) (hts _ q394) (fun _ h9 => h9) rfl dX5_length_9 ?_
  refine lv_iload_n hx hb dX5_length_12 rfl (lv_at hl 1 rfl) ?_
  refine lv_iconst (v := jd_i 1) hx hb dX5_length_13 (by decide) ?_
  refine lv_iand hx hb dX5_length_14 ?_
  refine jd_ti (y := (nI i)) hw ?_
  refine jd_iald hx hb hK hP 2 1 rfl rfl hi (by decide) rfl dX5_length_15 ?_
  refine vp_callSi (W.runS (As := [.int (jd_i (Y i)), .int (jd_i (M i))]) (rest := []) ⟨hx, hb, hml, hown, hts⟩ (metX5_daysOfMonth l (Y i) (M i) (by omega) (by omega) m1 m2) (va_cwS 2 hts (lw_S q459 q460 q12 q461) rfl rfl rfl (by decide +kernel) ⟨Nat.le_of_ble_eq_true rfl, Nat.le_of_ble_eq_true rfl⟩) (jd_preS jd_mvT trivial) rfl rfl hl.1 rfl (lv_room (Nat.le_of_ble_eq_true rfl)) dX5_length_16 ⟨Nat.le_of_ble_eq_true rfl, Nat.le_of_ble_eq_true rfl⟩) (fun r_1 hr_1 => ?_)
  obtain rfl : (jd_i ((jd_dm (jd_lp (Y i)) (M i)))) = r_1 := Eq.symm hr_1
  exact W.iret hx hb hr (fun t ht hW => ⟨_, rfl, rfl, ht⟩) (fun _ h => by cases h) dX5_length_19
set_option maxHeartbeats 4000000 in
set_option maxRecDepth 100000 in
/-- yearLength -/
theorem metX5_yearLength (l : Launch) (D : va_G) (x q1 q2 : Nat) (c1 c2 : ClassId) (Y M : Nat → Int) (i : Nat) (p1 : Int32) (hi : i < 2) (hw : p1 &&& 1 = nI i) (b1 : -9000000 ≤ Y i) (b2 : Y i ≤ 9000000) (m1 : 1 ≤ M i) (m2 : M i ≤ 12) : Met l yX5_yearLength (ws_ yX5_yearLength cX5_yearLength 2 (some .int)) (jd_rm 2 0 0) (jd_Pc [.ref x, .int p1] (fun U H => va_P D jd_cl (jd_MW x q1 q2 c1 c2 Y M) H ∧ va_K D jd_cl [(c1, .int), (c2, .int)] U)) (vp_Si (fun z => z = jd_i (jd_dy (jd_lp (Y i))))) 0 0 (fun _ => False) := by
  refine Met.ofW (cc := cX5_yearLength) (maxL := 2) (ret := (some .int)) (by decide) rfl ?_
  intro p e s m args below meth c s₁ B hml hv
  obtain ⟨rfl, hP, hK⟩ := hv
  have hx := B.exec
  have hb := B.bytes
  have hr := B.returns
  have hts := atoms_spec (ws := (ws_ yX5_yearLength cX5_yearLength 2 (some .int))) B.pre
  have hts : ∀ w ∈ lw_all, w.before _ s = true := fun w h => hts w (List.mem_cons_of_mem _ h)
  have hown : s.vm.findClass RX5 = some m.cls := findClass_of_methodNamed B.named
  have hlocks := B.notSynchronized
  have hP : va_P D jd_cl [jd_mm x q1 q2, jd_ia q1 c1 (fun j => jd_i (Y j)), jd_ia q2 c2 (fun j => jd_i (M j))] s.heap := hP
  have hS : va_S jd_no s.heap s.heap [] := va_S.rf
  have hl := lv_entry ([.ref x, .int p1]) (n := 2) (Nat.le_of_ble_eq_true rfl)
  rw [lg_entry_eq]
  generalize (lg_sl ([.ref x, .int p1]) ++ List.replicate (2 - (lg_sl ([.ref x, .int p1])).length) Slot.unset).toArray = ls at hl ⊢
  have hl : lv_has ls 2 [(0, .ref x), (1, .int p1)] := hl
  refine lv_aload_n hx hb dX5_yearLength_0 rfl (lv_at hl 0 rfl) ?_
  refine va_get (D := D) (ci := 3) (v := .ref q1) (C := RX5) (T := TX5) (N := 2) hx hb hts in_X5 hown hK hP 0 rfl rfl 0 (by decide) (hts _ q393) (fun _ h9 => h9) rfl dX5_yearLength_1 ?_
  refine lv_iload_n hx hb dX5_yearLength_4 rfl (lv_at hl 1 rfl) ?_
  refine lv_iconst (v := jd_i 1) hx hb dX5_yearLength_5 (by decide) ?_
  refine lv_iand hx hb dX5_yearLength_6 ?_
  refine jd_ti (y := (nI i)) hw ?_
  refine jd_iald hx hb hK hP 1 0 rfl rfl hi (by decide) rfl dX5_yearLength_7 ?_
  refine vp_callSi (W.runS (As := [.int (jd_i (Y i))]) (rest := []) ⟨hx, hb, hml, hown, hts⟩ (metX5_daysOfYear l (Y i) (by omega) (by omega)) (va_cwS 1 hts (lw_S q469 q470 q12 q471) rfl rfl rfl (by decide +kernel) ⟨Nat.le_of_ble_eq_true rfl, Nat.le_of_ble_eq_true rfl⟩) (jd_preS jd_mvT trivial) rfl rfl hl.1 rfl (lv_room (Nat.le_of_ble_eq_true rfl)) dX5_yearLength_8 ⟨Nat.le_of_ble_eq_true rfl, Nat.le_of_ble_eq_true rfl⟩) (fun r_1 hr_1 => ?_)
  obtain rfl : (jd_i ((jd_dy (jd_lp (Y i))))) = r_1 := Eq.symm hr_1
  exact W.iret hx hb hr (fun t ht hW => ⟨_, rfl, rfl, ht⟩) (fun _ h => by cases h) dX5_yearLength_11
set_option maxHeartbeats 4000000 in
set_option maxRecDepth 100000 in
/-- leap -/
theorem metX5_leap (l : Launch) (D : va_G) (x q1 q2 : Nat) (c1 c2 : ClassId) (Y M : Nat → Int) (i : Nat) (p1 : Int32) (hi : i < 2) (hw : p1 &&& 1 = nI i) (b1 : -9000000 ≤ Y i) (b2 : Y i ≤ 9000000) (m1 : 1 ≤ M i) (m2 : M i ≤ 12) : Met l yX5_leap (ws_ yX5_leap cX5_leap 2 (some .boolean)) (jd_rm 1 0 0) (jd_Pc [.ref x, .int p1] (fun U H => va_P D jd_cl (jd_MW x q1 q2 c1 c2 Y M) H ∧ va_K D jd_cl [(c1, .int), (c2, .int)] U)) (vp_Si (fun z => z = jd_b (jd_lp (Y i)))) 0 0 (fun _ => False) := by
  refine Met.ofW (cc := cX5_leap) (maxL := 2) (ret := (some .boolean)) (by decide) rfl ?_
  intro p e s m args below meth c s₁ B hml hv
  obtain ⟨rfl, hP, hK⟩ := hv
  have hx := B.exec
  have hb := B.bytes
  have hr := B.returns
  have hts := atoms_spec (ws := (ws_ yX5_leap cX5_leap 2 (some .boolean))) B.pre
  have hts : ∀ w ∈ lw_all, w.before _ s = true := fun w h => hts w (List.mem_cons_of_mem _ h)
  have hown : s.vm.findClass RX5 = some m.cls := findClass_of_methodNamed B.named
  have hlocks := B.notSynchronized
  have hP : va_P D jd_cl [jd_mm x q1 q2, jd_ia q1 c1 (fun j => jd_i (Y j)), jd_ia q2 c2 (fun j => jd_i (M j))] s.heap := hP
  have hS : va_S jd_no s.heap s.heap [] := va_S.rf
  have hl := lv_entry ([.ref x, .int p1]) (n := 2) (Nat.le_of_ble_eq_true rfl)
  rw [lg_entry_eq]
  generalize (lg_sl ([.ref x, .int p1]) ++ List.replicate (2 - (lg_sl ([.ref x, .int p1])).length) Slot.unset).toArray = ls at hl ⊢
  have hl : lv_has ls 2 [(0, .ref x), (1, .int p1)] := hl
  refine lv_aload_n hx hb dX5_leap_0 rfl (lv_at hl 0 rfl) ?_
  refine va_get (D := D) (ci := 3) (v := .ref q1) (C := RX5) (T := TX5) (N := 2) hx hb hts in_X5 hown hK hP 0 rfl rfl 0 (by decide) (hts _ q393) (fun _ h9 => h9) rfl dX5_leap_1 ?_
  refine lv_iload_n hx hb dX5_leap_4 rfl (lv_at hl 1 rfl) ?_
  refine lv_iconst (v := jd_i 1) hx hb dX5_leap_5 (by decide) ?_
  refine lv_iand hx hb dX5_leap_6 ?_
  refine jd_ti (y := (nI i)) hw ?_
  refine jd_iald hx hb hK hP 1 0 rfl rfl hi (by decide) rfl dX5_leap_7 ?_
  refine vp_callSi (W.runS (As := [.int (jd_i (Y i))]) (rest := []) ⟨hx, hb, hml, hown, hts⟩ (metX5_leapYear l (Y i) (by omega) (by omega)) (va_cwS 1 hts (lw_S q462 q463 q12 q464) rfl rfl rfl (by decide +kernel) ⟨Nat.le_of_ble_eq_true rfl, Nat.le_of_ble_eq_true rfl⟩) (jd_preS jd_mvT trivial) rfl rfl hl.1 rfl (lv_room (Nat.le_of_ble_eq_true rfl)) dX5_leap_8 ⟨Nat.le_of_ble_eq_true rfl, Nat.le_of_ble_eq_true rfl⟩) (fun r_1 hr_1 => ?_)
  obtain rfl : (jd_b (jd_lp (Y i))) = r_1 := Eq.symm hr_1
  exact W.zret hx hb hr (by cases jd_lp (Y i) <;> rfl) (fun t ht hW => ⟨_, rfl, rfl, ht⟩) (fun _ h => by cases h) dX5_leap_11
set_option maxHeartbeats 4000000 in
set_option maxRecDepth 100000 in
/-- firstDay -/
theorem metX5_firstDay (l : Launch) (D : va_G) (x q1 q2 : Nat) (c1 c2 : ClassId) (Y M : Nat → Int) (i : Nat) (p1 : Int32) (hi : i < 2) (hw : p1 &&& 1 = nI i) (b1 : -9000000 ≤ Y i) (b2 : Y i ≤ 9000000) (m1 : 1 ≤ M i) (m2 : M i ≤ 12) : Met l yX5_firstDay (ws_ yX5_firstDay cX5_firstDay 2 (some .long)) (jd_rm 3 0 0) (jd_Pc [.ref x, .int p1] (fun U H => va_P D jd_cl (jd_MW x q1 q2 c1 c2 Y M) H ∧ va_K D jd_cl [(c1, .int), (c2, .int)] U)) (vp_Sl (fun z => z = jd_l (jd_ed (Y i) (M i)))) 0 0 (fun _ => False) := by
  refine Met.ofW (cc := cX5_firstDay) (maxL := 2) (ret := (some .long)) (by decide) rfl ?_
  intro p e s m args below meth c s₁ B hml hv
  obtain ⟨rfl, hP, hK⟩ := hv
  have hx := B.exec
  have hb := B.bytes
  have hr := B.returns
  have hts := atoms_spec (ws := (ws_ yX5_firstDay cX5_firstDay 2 (some .long))) B.pre
  have hts : ∀ w ∈ lw_all, w.before _ s = true := fun w h => hts w (List.mem_cons_of_mem _ h)
  have hown : s.vm.findClass RX5 = some m.cls := findClass_of_methodNamed B.named
  have hlocks := B.notSynchronized
  have hP : va_P D jd_cl [jd_mm x q1 q2, jd_ia q1 c1 (fun j => jd_i (Y j)), jd_ia q2 c2 (fun j => jd_i (M j))] s.heap := hP
  have hS : va_S jd_no s.heap s.heap [] := va_S.rf
  have hl := lv_entry ([.ref x, .int p1]) (n := 2) (Nat.le_of_ble_eq_true rfl)
  rw [lg_entry_eq]
  generalize (lg_sl ([.ref x, .int p1]) ++ List.replicate (2 - (lg_sl ([.ref x, .int p1])).length) Slot.unset).toArray = ls at hl ⊢
  have hl : lv_has ls 2 [(0, .ref x), (1, .int p1)] := hl
  refine lv_aload_n hx hb dX5_firstDay_0 rfl (lv_at hl 0 rfl) ?_
  refine va_get (D := D) (ci := 3) (v := .ref q1) (C := RX5) (T := TX5) (N := 2) hx hb hts in_X5 hown hK hP 0 rfl rfl 0 (by decide) (hts _ q393) (fun _ h9 => h9) rfl dX5_firstDay_1 ?_
  refine lv_iload_n hx hb dX5_firstDay_4 rfl (lv_at hl 1 rfl) ?_
  refine lv_iconst (v := jd_i 1) hx hb dX5_firstDay_5 (by decide) ?_
  refine lv_iand hx hb dX5_firstDay_6 ?_
  refine jd_ti (y := (nI i)) hw ?_
  refine jd_iald hx hb hK hP 1 0 rfl rfl hi (by decide) rfl dX5_firstDay_7 ?_
  refine lv_aload_n hx hb dX5_firstDay_8 rfl (lv_at hl 0 rfl) ?_
  refine va_get (D := D) (ci := 3) (v := .ref q2) (C := RX5) (T := TX5) (N := 2) hx hb hts in_X5 hown hK hP 0 rfl rfl 1 (by decide) (hts _ q394) (fun _ h9 => h9) rfl dX5_firstDay_9 ?_
  refine lv_iload_n hx hb dX5_firstDay_12 rfl (lv_at hl 1 rfl) ?_
  refine lv_iconst (v := jd_i 1) hx hb dX5_firstDay_13 (by decide) ?_
  refine lv_iand hx hb dX5_firstDay_14 ?_
  refine jd_ti (y := (nI i)) hw ?_
  refine jd_iald hx hb hK hP 2 1 rfl rfl hi (by decide) rfl dX5_firstDay_15 ?_
  refine vp_callSl (W.runS (As := [.int (jd_i (Y i)), .int (jd_i (M i))]) (rest := []) ⟨hx, hb, hml, hown, hts⟩ (metX5_firstEpochDay l (Y i) (M i) b1 b2 m1 m2) (va_cwS 2 hts (lw_S q480 q481 q12 q482) rfl rfl rfl (by decide +kernel) ⟨Nat.le_of_ble_eq_true rfl, Nat.le_of_ble_eq_true rfl⟩) (jd_preS jd_mvT trivial) rfl rfl hl.1 rfl (lv_room (Nat.le_of_ble_eq_true rfl)) dX5_firstDay_16 ⟨Nat.le_of_ble_eq_true rfl, Nat.le_of_ble_eq_true rfl⟩) (fun r_1 hr_1 => ?_)
  obtain rfl : (jd_l ((jd_ed (Y i) (M i)))) = r_1 := Eq.symm hr_1
  exact W.lret hx hb hr (fun t ht hW => ⟨_, rfl, rfl, ht⟩) (fun _ h => by cases h) dX5_firstDay_19
set_option maxHeartbeats 4000000 in
set_option maxRecDepth 100000 in
/-- lastDay -/
theorem metX5_lastDay (l : Launch) (D : va_G) (x q1 q2 : Nat) (c1 c2 : ClassId) (Y M : Nat → Int) (i : Nat) (p1 : Int32) (hi : i < 2) (hw : p1 &&& 1 = nI i) (b1 : -9000000 ≤ Y i) (b2 : Y i ≤ 9000000) (m1 : 1 ≤ M i) (m2 : M i ≤ 12) : Met l yX5_lastDay (ws_ yX5_lastDay cX5_lastDay 3 (some .long)) (jd_rm 3 0 0) (jd_Pc [.ref x, .int p1] (fun U H => va_P D jd_cl (jd_MW x q1 q2 c1 c2 Y M) H ∧ va_K D jd_cl [(c1, .int), (c2, .int)] U)) (vp_Sl (fun z => z = jd_l (jd_ed (Y i) (M i) + jd_dm (jd_lp (Y i)) (M i) - 1))) 0 0 (fun _ => False) := by
  refine Met.ofW (cc := cX5_lastDay) (maxL := 3) (ret := (some .long)) (by decide) rfl ?_
  intro p e s m args below meth c s₁ B hml hv
  obtain ⟨rfl, hP, hK⟩ := hv
  have hx := B.exec
  have hb := B.bytes
  have hr := B.returns
  have hts := atoms_spec (ws := (ws_ yX5_lastDay cX5_lastDay 3 (some .long))) B.pre
  have hts : ∀ w ∈ lw_all, w.before _ s = true := fun w h => hts w (List.mem_cons_of_mem _ h)
  have hown : s.vm.findClass RX5 = some m.cls := findClass_of_methodNamed B.named
  have hlocks := B.notSynchronized
  have hP : va_P D jd_cl [jd_mm x q1 q2, jd_ia q1 c1 (fun j => jd_i (Y j)), jd_ia q2 c2 (fun j => jd_i (M j))] s.heap := hP
  have hS : va_S jd_no s.heap s.heap [] := va_S.rf
  have hl := lv_entry ([.ref x, .int p1]) (n := 3) (Nat.le_of_ble_eq_true rfl)
  rw [lg_entry_eq]
  generalize (lg_sl ([.ref x, .int p1]) ++ List.replicate (3 - (lg_sl ([.ref x, .int p1])).length) Slot.unset).toArray = ls at hl ⊢
  have hl : lv_has ls 3 [(0, .ref x), (1, .int p1)] := hl
  have d3 := jd_dm_rg (jd_lp (Y i)) (M i)
  refine lv_iload_n hx hb dX5_lastDay_0 rfl (lv_at hl 1 rfl) ?_
  refine lv_iconst (v := jd_i 1) hx hb dX5_lastDay_1 (by decide) ?_
  refine lv_iand hx hb dX5_lastDay_2 ?_
  refine jd_ti (y := (nI i)) hw ?_
  refine lv_istore_n (lv' := [(2, .int (nI i)), (0, .ref x), (1, .int p1)]) hx hb dX5_lastDay_3 rfl hl (by decide) rfl (fun ls hl => ?_)
  refine lv_aload_n hx hb dX5_lastDay_4 rfl (lv_at hl 1 rfl) ?_
  refine va_get (D := D) (ci := 3) (v := .ref q1) (C := RX5) (T := TX5) (N := 2) hx hb hts in_X5 hown hK hP 0 rfl rfl 0 (by decide) (hts _ q393) (fun _ h9 => h9) rfl dX5_lastDay_5 ?_
  refine lv_iload_n hx hb dX5_lastDay_8 rfl (lv_at hl 0 rfl) ?_
  refine jd_iald hx hb hK hP 1 0 rfl rfl hi (by decide) rfl dX5_lastDay_9 ?_
  refine lv_aload_n hx hb dX5_lastDay_10 rfl (lv_at hl 1 rfl) ?_
  refine va_get (D := D) (ci := 3) (v := .ref q2) (C := RX5) (T := TX5) (N := 2) hx hb hts in_X5 hown hK hP 0 rfl rfl 1 (by decide) (hts _ q394) (fun _ h9 => h9) rfl dX5_lastDay_11 ?_
  refine lv_iload_n hx hb dX5_lastDay_14 rfl (lv_at hl 0 rfl) ?_
  refine jd_iald hx hb hK hP 2 1 rfl rfl hi (by decide) rfl dX5_lastDay_15 ?_
  refine vp_callSl (W.runS (As := [.int (jd_i (Y i)), .int (jd_i (M i))]) (rest := []) ⟨hx, hb, hml, hown, hts⟩ (metX5_firstEpochDay l (Y i) (M i) b1 b2 m1 m2) (va_cwS 2 hts (lw_S q480 q481 q12 q482) rfl rfl rfl (by decide +kernel) ⟨Nat.le_of_ble_eq_true rfl, Nat.le_of_ble_eq_true rfl⟩) (jd_preS jd_mvT trivial) rfl rfl hl.1 rfl (lv_room (Nat.le_of_ble_eq_true rfl)) dX5_lastDay_16 ⟨Nat.le_of_ble_eq_true rfl, Nat.le_of_ble_eq_true rfl⟩) (fun r_1 hr_1 => ?_)
  obtain rfl : (jd_l ((jd_ed (Y i) (M i)))) = r_1 := Eq.symm hr_1
  refine lv_aload_n hx hb dX5_lastDay_19 rfl (lv_at hl 1 rfl) ?_
  refine va_get (D := D) (ci := 3) (v := .ref q1) (C := RX5) (T := TX5) (N := 2) hx hb hts in_X5 hown hK hP 0 rfl rfl 0 (by decide) (hts _ q393) (fun _ h9 => h9) rfl dX5_lastDay_20 ?_
  refine lv_iload_n hx hb dX5_lastDay_23 rfl (lv_at hl 0 rfl) ?_
  refine jd_iald hx hb hK hP 1 0 rfl rfl hi (by decide) rfl dX5_lastDay_24 ?_
  refine lv_aload_n hx hb dX5_lastDay_25 rfl (lv_at hl 1 rfl) ?_
  refine va_get (D := D) (ci := 3) (v := .ref q2) (C := RX5) (T := TX5) (N := 2) hx hb hts in_X5 hown hK hP 0 rfl rfl 1 (by decide) (hts _ q394) (fun _ h9 => h9) rfl dX5_lastDay_26 ?_
  refine lv_iload_n hx hb dX5_lastDay_29 rfl (lv_at hl 0 rfl) ?_
  refine jd_iald hx hb hK hP 2 1 rfl rfl hi (by decide) rfl dX5_lastDay_30 ?_
  refine vp_callSi (W.runS (As := [.int (jd_i (Y i)), .int (jd_i (M i))]) (rest := [.long (jd_l (jd_ed (Y i) (M i)))]) ⟨hx, hb, hml, hown, hts⟩ (metX5_daysOfMonth l (Y i) (M i) (by omega) (by omega) m1 m2) (va_cwS 2 hts (lw_S q459 q460 q12 q461) rfl rfl rfl (by decide +kernel) ⟨Nat.le_of_ble_eq_true rfl, Nat.le_of_ble_eq_true rfl⟩) (jd_preS jd_mvT trivial) rfl rfl hl.1 rfl (lv_room (Nat.le_of_ble_eq_true rfl)) dX5_lastDay_31 ⟨Nat.le_of_ble_eq_true rfl, Nat.le_of_ble_eq_true rfl⟩) (fun r_2 hr_2 => ?_)
  obtain rfl : (jd_i ((jd_dm (jd_lp (Y i)) (M i)))) = r_2 := Eq.symm hr_2
  refine lv_i2l (v := jd_l (jd_dm (jd_lp (Y i)) (M i))) hx hb dX5_lastDay_34 (jd_i2l (by omega) (by omega)) ?_
  refine lv_ladd hx hb dX5_lastDay_35 ?_
  refine jd_tl (jd_l_add _ _) ?_
  refine lv_lconst (v := jd_l 1) hx hb dX5_lastDay_36 (by decide) ?_
  refine lv_lsub hx hb dX5_lastDay_37 ?_
  refine jd_tl (jd_l_sub _ _) ?_
  exact W.lret hx hb hr (fun t ht hW => ⟨_, rfl, rfl, ht⟩) (fun _ h => by cases h) dX5_lastDay_38
set_option maxHeartbeats 4000000 in
set_option maxRecDepth 100000 in
/-- order -/
theorem metX5_order (l : Launch) (D : va_G) (x q1 q2 : Nat) (c1 c2 : ClassId) (Y M : Nat → Int) (b1 : -9000000 ≤ Y 0) (b2 : Y 0 ≤ 9000000) (b3 : -9000000 ≤ Y 1) (b4 : Y 1 ≤ 9000000) (m1 : 1 ≤ M 0) (m2 : M 0 ≤ 12) (m3 : 1 ≤ M 1) (m4 : M 1 ≤ 12) : Met l yX5_order (ws_ yX5_order cX5_order 1 (some .int)) (jd_rm 0 0 0) (jd_Pc [.ref x] (fun U H => va_P D jd_cl (jd_MW x q1 q2 c1 c2 Y M) H ∧ va_K D jd_cl [(c1, .int), (c2, .int)] U)) (vp_Si (fun z => z = jd_i (jd_or (Y 0) (Y 1) (M 0) (M 1)))) 0 0 (fun _ => False) := by
  refine Met.ofW (cc := cX5_order) (maxL := 1) (ret := (some .int)) (by decide) rfl ?_
  intro p e s m args below meth c s₁ B hml hv
  obtain ⟨rfl, hP, hK⟩ := hv
  have hx := B.exec
  have hb := B.bytes
  have hr := B.returns
  have hts := atoms_spec (ws := (ws_ yX5_order cX5_order 1 (some .int))) B.pre
  have hts : ∀ w ∈ lw_all, w.before _ s = true := fun w h => hts w (List.mem_cons_of_mem _ h)
  have hown : s.vm.findClass RX5 = some m.cls := findClass_of_methodNamed B.named
  have hlocks := B.notSynchronized
  have hP : va_P D jd_cl [jd_mm x q1 q2, jd_ia q1 c1 (fun j => jd_i (Y j)), jd_ia q2 c2 (fun j => jd_i (M j))] s.heap := hP
  have hS : va_S jd_no s.heap s.heap [] := va_S.rf
  have hl := lv_entry ([.ref x]) (n := 1) (Nat.le_of_ble_eq_true rfl)
  rw [lg_entry_eq]
  generalize (lg_sl ([.ref x]) ++ List.replicate (1 - (lg_sl ([.ref x])).length) Slot.unset).toArray = ls at hl ⊢
  have hl : lv_has ls 1 [(0, .ref x)] := hl
  refine lv_aload_n hx hb dX5_order_0 rfl (lv_at hl 0 rfl) ?_
  refine va_get (D := D) (ci := 3) (v := .ref q1) (C := RX5) (T := TX5) (N := 2) hx hb hts in_X5 hown hK hP 0 rfl rfl 0 (by decide) (hts _ q393) (fun _ h9 => h9) rfl dX5_order_1 ?_
  refine lv_iconst (v := jd_i 0) hx hb dX5_order_4 (by decide) ?_
  refine jd_ti (y := (nI 0)) (by decide) ?_
  refine jd_iald hx hb hK hP 1 0 rfl rfl (show 0 < 2 by decide) (by decide) rfl dX5_order_5 ?_
  refine lv_aload_n hx hb dX5_order_6 rfl (lv_at hl 0 rfl) ?_
  refine va_get (D := D) (ci := 3) (v := .ref q1) (C := RX5) (T := TX5) (N := 2) hx hb hts in_X5 hown hK hP 0 rfl rfl 0 (by decide) (hts _ q393) (fun _ h9 => h9) rfl dX5_order_7 ?_
  refine lv_iconst (v := jd_i 1) hx hb dX5_order_10 (by decide) ?_
  refine jd_ti (y := (nI 1)) (by decide) ?_
  refine jd_iald hx hb hK hP 1 0 rfl rfl (show 1 < 2 by decide) (by decide) rfl dX5_order_11 ?_
  refine lv_icmp_ge (tgt := 17) hx hb dX5_order_12 (by decide) (fun d1 => ?_) (fun d1 => ?_)
  · have d1 : (Y 1) ≤ (Y 0) := (jd_i_le (a := Y 1) (b := Y 0) (by omega) (by omega) (by omega) (by omega)).mp d1
    refine lv_aload_n hx hb dX5_order_17 rfl (lv_at hl 0 rfl) ?_
    refine va_get (D := D) (ci := 3) (v := .ref q1) (C := RX5) (T := TX5) (N := 2) hx hb hts in_X5 hown hK hP 0 rfl rfl 0 (by decide) (hts _ q393) (fun _ h9 => h9) rfl dX5_order_18 ?_
    refine lv_iconst (v := jd_i 0) hx hb dX5_order_21 (by decide) ?_
    refine jd_ti (y := (nI 0)) (by decide) ?_
    refine jd_iald hx hb hK hP 1 0 rfl rfl (show 0 < 2 by decide) (by decide) rfl dX5_order_22 ?_
    refine lv_aload_n hx hb dX5_order_23 rfl (lv_at hl 0 rfl) ?_
    refine va_get (D := D) (ci := 3) (v := .ref q1) (C := RX5) (T := TX5) (N := 2) hx hb hts in_X5 hown hK hP 0 rfl rfl 0 (by decide) (hts _ q393) (fun _ h9 => h9) rfl dX5_order_24 ?_
    refine lv_iconst (v := jd_i 1) hx hb dX5_order_27 (by decide) ?_
    refine jd_ti (y := (nI 1)) (by decide) ?_
    refine jd_iald hx hb hK hP 1 0 rfl rfl (show 1 < 2 by decide) (by decide) rfl dX5_order_28 ?_
    refine lv_icmp_le (tgt := 34) hx hb dX5_order_29 (by decide) (fun d2 => ?_) (fun d2 => ?_)
    · have d2 : (Y 0) ≤ (Y 1) := (jd_i_le (a := Y 0) (b := Y 1) (by omega) (by omega) (by omega) (by omega)).mp d2
      refine lv_aload_n hx hb dX5_order_34 rfl (lv_at hl 0 rfl) ?_
      refine va_get (D := D) (ci := 3) (v := .ref q2) (C := RX5) (T := TX5) (N := 2) hx hb hts in_X5 hown hK hP 0 rfl rfl 1 (by decide) (hts _ q394) (fun _ h9 => h9) rfl dX5_order_35 ?_
      refine lv_iconst (v := jd_i 0) hx hb dX5_order_38 (by decide) ?_
      refine jd_ti (y := (nI 0)) (by decide) ?_
      refine jd_iald hx hb hK hP 2 1 rfl rfl (show 0 < 2 by decide) (by decide) rfl dX5_order_39 ?_
      refine lv_aload_n hx hb dX5_order_40 rfl (lv_at hl 0 rfl) ?_
      refine va_get (D := D) (ci := 3) (v := .ref q2) (C := RX5) (T := TX5) (N := 2) hx hb hts in_X5 hown hK hP 0 rfl rfl 1 (by decide) (hts _ q394) (fun _ h9 => h9) rfl dX5_order_41 ?_
      refine lv_iconst (v := jd_i 1) hx hb dX5_order_44 (by decide) ?_
      refine jd_ti (y := (nI 1)) (by decide) ?_
      refine jd_iald hx hb hK hP 2 1 rfl rfl (show 1 < 2 by decide) (by decide) rfl dX5_order_45 ?_
      refine lv_icmp_ge (tgt := 51) hx hb dX5_order_46 (by decide) (fun d3 => ?_) (fun d3 => ?_)
      · have d3 : (M 1) ≤ (M 0) := (jd_i_le (a := M 1) (b := M 0) (by omega) (by omega) (by omega) (by omega)).mp d3
        refine lv_aload_n hx hb dX5_order_51 rfl (lv_at hl 0 rfl) ?_
        refine va_get (D := D) (ci := 3) (v := .ref q2) (C := RX5) (T := TX5) (N := 2) hx hb hts in_X5 hown hK hP 0 rfl rfl 1 (by decide) (hts _ q394) (fun _ h9 => h9) rfl dX5_order_52 ?_
        refine lv_iconst (v := jd_i 0) hx hb dX5_order_55 (by decide) ?_
        refine jd_ti (y := (nI 0)) (by decide) ?_
        refine jd_iald hx hb hK hP 2 1 rfl rfl (show 0 < 2 by decide) (by decide) rfl dX5_order_56 ?_
        refine lv_aload_n hx hb dX5_order_57 rfl (lv_at hl 0 rfl) ?_
        refine va_get (D := D) (ci := 3) (v := .ref q2) (C := RX5) (T := TX5) (N := 2) hx hb hts in_X5 hown hK hP 0 rfl rfl 1 (by decide) (hts _ q394) (fun _ h9 => h9) rfl dX5_order_58 ?_
        refine lv_iconst (v := jd_i 1) hx hb dX5_order_61 (by decide) ?_
        refine jd_ti (y := (nI 1)) (by decide) ?_
        refine jd_iald hx hb hK hP 2 1 rfl rfl (show 1 < 2 by decide) (by decide) rfl dX5_order_62 ?_
        refine lv_icmp_le (tgt := 68) hx hb dX5_order_63 (by decide) (fun d4 => ?_) (fun d4 => ?_)
        · have d4 : (M 0) ≤ (M 1) := (jd_i_le (a := M 0) (b := M 1) (by omega) (by omega) (by omega) (by omega)).mp d4
          refine lv_iconst (v := jd_i 0) hx hb dX5_order_68 (by decide) ?_
          exact W.iret hx hb hr (fun t ht hW => ⟨_, rfl, (by rw [show jd_or (Y 0) (Y 1) (M 0) (M 1) = 0 by unfold jd_or; (repeat' split) <;> omega]), ht⟩) (fun _ h => by cases h) dX5_order_69
        · have d4 : ¬ ((M 0) ≤ (M 1)) := fun z => d4 ((jd_i_le (a := M 0) (b := M 1) (by omega) (by omega) (by omega) (by omega)).mpr z)
          refine lv_iconst (v := jd_i 1) hx hb dX5_order_66 (by decide) ?_
          exact W.iret hx hb hr (fun t ht hW => ⟨_, rfl, (by rw [show jd_or (Y 0) (Y 1) (M 0) (M 1) = 1 by unfold jd_or; (repeat' split) <;> omega]), ht⟩) (fun _ h => by cases h) dX5_order_67
      · have d3 : ¬ ((M 1) ≤ (M 0)) := fun z => d3 ((jd_i_le (a := M 1) (b := M 0) (by omega) (by omega) (by omega) (by omega)).mpr z)
        refine lv_iconst (v := jd_i (-1)) hx hb dX5_order_49 (by decide) ?_
        exact W.iret hx hb hr (fun t ht hW => ⟨_, rfl, (by rw [show jd_or (Y 0) (Y 1) (M 0) (M 1) = -1 by unfold jd_or; (repeat' split) <;> omega]), ht⟩) (fun _ h => by cases h) dX5_order_50
    · have d2 : ¬ ((Y 0) ≤ (Y 1)) := fun z => d2 ((jd_i_le (a := Y 0) (b := Y 1) (by omega) (by omega) (by omega) (by omega)).mpr z)
      refine lv_iconst (v := jd_i 1) hx hb dX5_order_32 (by decide) ?_
      exact W.iret hx hb hr (fun t ht hW => ⟨_, rfl, (by rw [show jd_or (Y 0) (Y 1) (M 0) (M 1) = 1 by unfold jd_or; (repeat' split) <;> omega]), ht⟩) (fun _ h => by cases h) dX5_order_33
  · have d1 : ¬ ((Y 1) ≤ (Y 0)) := fun z => d1 ((jd_i_le (a := Y 1) (b := Y 0) (by omega) (by omega) (by omega) (by omega)).mpr z)
    refine lv_iconst (v := jd_i (-1)) hx hb dX5_order_15 (by decide) ?_
    exact W.iret hx hb hr (fun t ht hW => ⟨_, rfl, (by rw [show jd_or (Y 0) (Y 1) (M 0) (M 1) = -1 by unfold jd_or; (repeat' split) <;> omega]), ht⟩) (fun _ h => by cases h) dX5_order_16
set_option maxHeartbeats 4000000 in
set_option maxRecDepth 100000 in
/-- MonthDeskModel() -/
theorem metX5_init (l : Launch) (D : va_G) (x sz : Nat) : Met l yX5_init (ws_ yX5_init cX5_init 1 none) (jd_rm 1 2 4) (jd_Pc [.ref x] (fun U H => H.size = sz ∧ va_P D jd_cl [(x, .inr (3, [.null, .null]))] H ∧ va_K D jd_cl [] U)) (va_Qv (fun _ : Nat × Nat × ClassId × ClassId => True) (fun u t => va_P D jd_cl (jd_MW x u.1 u.2.1 u.2.2.1 u.2.2.2 (fun _ => 2000) (fun _ => 1)) t.heap ∧ va_K D jd_cl [(u.2.2.1, .int), (u.2.2.2, .int)] t ∧ va_D (va_A [(x, .inr (3, [.null, .null]))] sz) (jd_MW x u.1 u.2.1 u.2.2.1 u.2.2.2 (fun _ => 2000) (fun _ => 1))) (va_A [(x, .inr (3, [.null, .null]))] sz)) 2 4 (va_A [(x, .inr (3, [.null, .null]))] sz) := by
  refine Met.ofW (cc := cX5_init) (maxL := 1) (ret := none) (by decide) rfl ?_
  intro p e s m args below meth c s₁ B hml hv
  obtain ⟨rfl, hsz, hP, hK⟩ := hv
  have hx := B.exec
  have hb := B.bytes
  have hr := B.returns
  have hts := atoms_spec (ws := (ws_ yX5_init cX5_init 1 none)) B.pre
  have hts : ∀ w ∈ lw_all, w.before _ s = true := fun w h => hts w (List.mem_cons_of_mem _ h)
  have hown : s.vm.findClass RX5 = some m.cls := findClass_of_methodNamed B.named
  have hlocks := B.notSynchronized
  have hin : meth.name = "<init>" := (name_of_methodNamed B.named B.method).1
  subst hsz
  have hD : va_D (va_A [(x, .inr (3, [.null, .null]))] s.heap.size) [(x, .inr (3, [.null, .null]))] := jd_D1 (Or.inl ⟨0, _, rfl⟩)
  generalize hAe : va_A [(x, .inr (3, [.null, .null]))] s.heap.size = A at hD ⊢
  have hA : ∀ q : Nat, s.heap.size ≤ q → A q := fun q h => by rw [← hAe]; exact Or.inr h
  have hS : va_S A s.heap s.heap [] := va_S.rf
  have hl := lv_entry ([.ref x]) (n := 1) (Nat.le_of_ble_eq_true rfl)
  rw [lg_entry_eq]
  generalize (lg_sl ([.ref x]) ++ List.replicate (1 - (lg_sl ([.ref x])).length) Slot.unset).toArray = ls at hl ⊢
  have hl : lv_has ls 1 [(0, .ref x)] := hl
  refine lv_aload_n hx hb dX5_init_0 rfl (lv_at hl 0 rfl) ?_
  refine W.objInit hx hb hown (hts _ q392) (hts _ q26) (hts _ q27) rfl (by rw [hml]; exact hl.1) rfl dX5_init_1 (Nat.le_of_ble_eq_true rfl) (Nat.le_of_ble_eq_true rfl) ?_
  refine W.eq (g2 := F0 m 4 ls []) rfl ?_
  refine lv_aload_n hx hb dX5_init_4 rfl (lv_at hl 0 rfl) ?_
  refine lv_iconst (v := jd_i 2) hx hb dX5_init_5 (by decide) ?_
  refine va_newa (atype := .int) (ty := .int) hx hb (hts _ q400) rfl hK hP hD hS hA (n := jd_i 2) (N' := 2) (a0 := (2, .inl (fun _ => 0))) (fun _ => rfl) (by decide) (by decide) (Nat.le_of_ble_eq_true rfl) (Nat.le_of_ble_eq_true rfl) (Nat.le_of_ble_eq_true rfl) dX5_init_6 (fun q1 c1 H hK hP hD hS => ?_)
  have hP : va_P D jd_cl [(x, .inr (3, [.null, .null])), jd_ia q1 c1 (fun _ => 0)] H := hP
  have hD : va_D A [(x, .inr (3, [.null, .null])), jd_ia q1 c1 (fun _ => 0)] := hD
  have hK : va_K D jd_cl [(c1, .int)] s := hK
  refine lv_dup hx hb dX5_init_8 rfl ?_
  refine lv_iconst (v := jd_i 0) hx hb dX5_init_9 (by decide) ?_
  refine jd_ti (y := (nI 0)) (by decide) ?_
  refine lv_sipush (v := jd_i 2000) hx hb dX5_init_10 (by decide) ?_
  refine jd_iast hx hb hK hP hD hS 1 0 rfl rfl (show 0 < 2 by decide) (by decide) dX5_init_13 (fun H locs hP hD hS => ?_)
  have hP : va_P D jd_cl [(x, .inr (3, [.null, .null])), jd_ia q1 c1 (upd (fun _ => 0) 0 (jd_i 2000))] H := hP
  have hD : va_D A [(x, .inr (3, [.null, .null])), jd_ia q1 c1 (upd (fun _ => 0) 0 (jd_i 2000))] := hD
  refine lv_dup hx hb dX5_init_14 rfl ?_
  refine lv_iconst (v := jd_i 1) hx hb dX5_init_15 (by decide) ?_
  refine jd_ti (y := (nI 1)) (by decide) ?_
  refine lv_sipush (v := jd_i 2000) hx hb dX5_init_16 (by decide) ?_
  refine jd_iast hx hb hK hP hD hS 1 0 rfl rfl (show 1 < 2 by decide) (by decide) dX5_init_19 (fun H locs hP hD hS => ?_)
  have hP : va_P D jd_cl [(x, .inr (3, [.null, .null])), jd_ia q1 c1 (upd (upd (fun _ => 0) 0 (jd_i 2000)) 1 (jd_i 2000))] H := hP
  have hD : va_D A [(x, .inr (3, [.null, .null])), jd_ia q1 c1 (upd (upd (fun _ => 0) 0 (jd_i 2000)) 1 (jd_i 2000))] := hD
  refine va_putF (D := D) (ci := 3) (v := .ref q1) (ty := (.array .int)) (C := RX5) (T := TX5) (N := 2) hx hb hts in_X5 tyX5 tyX5_ok nmX5 hown hK hP hD hS 0 rfl rfl 0 (by decide) (hts _ q393) (fun _ h9 => h9) rfl hin rfl (by decide +kernel) rfl rfl (Nat.le_of_ble_eq_true rfl) dX5_init_20 (fun H locs hP hD hS => ?_)
  have hP : va_P D jd_cl [(x, .inr (3, [.ref q1, .null])), jd_ia q1 c1 (upd (upd (fun _ => 0) 0 (jd_i 2000)) 1 (jd_i 2000))] H := hP
  have hD : va_D A [(x, .inr (3, [.ref q1, .null])), jd_ia q1 c1 (upd (upd (fun _ => 0) 0 (jd_i 2000)) 1 (jd_i 2000))] := hD
  refine lv_aload_n hx hb dX5_init_23 rfl (lv_at hl 0 rfl) ?_
  refine lv_iconst (v := jd_i 2) hx hb dX5_init_24 (by decide) ?_
  refine va_newa (atype := .int) (ty := .int) hx hb (hts _ q400) rfl hK hP hD hS hA (n := jd_i 2) (N' := 2) (a0 := (2, .inl (fun _ => 0))) (fun _ => rfl) (by decide) (by decide) (Nat.le_of_ble_eq_true rfl) (Nat.le_of_ble_eq_true rfl) (Nat.le_of_ble_eq_true rfl) dX5_init_25 (fun q2 c2 H hK hP hD hS => ?_)
  have hP : va_P D jd_cl [(x, .inr (3, [.ref q1, .null])), jd_ia q1 c1 (upd (upd (fun _ => 0) 0 (jd_i 2000)) 1 (jd_i 2000)), jd_ia q2 c2 (fun _ => 0)] H := hP
  have hD : va_D A [(x, .inr (3, [.ref q1, .null])), jd_ia q1 c1 (upd (upd (fun _ => 0) 0 (jd_i 2000)) 1 (jd_i 2000)), jd_ia q2 c2 (fun _ => 0)] := hD
  have hK : va_K D jd_cl [(c1, .int), (c2, .int)] s := hK
  refine lv_dup hx hb dX5_init_27 rfl ?_
  refine lv_iconst (v := jd_i 0) hx hb dX5_init_28 (by decide) ?_
  refine jd_ti (y := (nI 0)) (by decide) ?_
  refine lv_iconst (v := jd_i 1) hx hb dX5_init_29 (by decide) ?_
  refine jd_iast hx hb hK hP hD hS 2 1 rfl rfl (show 0 < 2 by decide) (by decide) dX5_init_30 (fun H locs hP hD hS => ?_)
  have hP : va_P D jd_cl [(x, .inr (3, [.ref q1, .null])), jd_ia q1 c1 (upd (upd (fun _ => 0) 0 (jd_i 2000)) 1 (jd_i 2000)), jd_ia q2 c2 (upd (fun _ => 0) 0 (jd_i 1))] H := hP
  have hD : va_D A [(x, .inr (3, [.ref q1, .null])), jd_ia q1 c1 (upd (upd (fun _ => 0) 0 (jd_i 2000)) 1 (jd_i 2000)), jd_ia q2 c2 (upd (fun _ => 0) 0 (jd_i 1))] := hD
  refine lv_dup hx hb dX5_init_31 rfl ?_
  refine lv_iconst (v := jd_i 1) hx hb dX5_init_32 (by decide) ?_
  refine jd_ti (y := (nI 1)) (by decide) ?_
  refine lv_iconst (v := jd_i 1) hx hb dX5_init_33 (by decide) ?_
  refine jd_iast hx hb hK hP hD hS 2 1 rfl rfl (show 1 < 2 by decide) (by decide) dX5_init_34 (fun H locs hP hD hS => ?_)
  have hP : va_P D jd_cl [(x, .inr (3, [.ref q1, .null])), jd_ia q1 c1 (upd (upd (fun _ => 0) 0 (jd_i 2000)) 1 (jd_i 2000)), jd_ia q2 c2 (upd (upd (fun _ => 0) 0 (jd_i 1)) 1 (jd_i 1))] H := hP
  have hD : va_D A [(x, .inr (3, [.ref q1, .null])), jd_ia q1 c1 (upd (upd (fun _ => 0) 0 (jd_i 2000)) 1 (jd_i 2000)), jd_ia q2 c2 (upd (upd (fun _ => 0) 0 (jd_i 1)) 1 (jd_i 1))] := hD
  refine va_putF (D := D) (ci := 3) (v := .ref q2) (ty := (.array .int)) (C := RX5) (T := TX5) (N := 2) hx hb hts in_X5 tyX5 tyX5_ok nmX5 hown hK hP hD hS 0 rfl rfl 1 (by decide) (hts _ q394) (fun _ h9 => h9) rfl hin rfl (by decide +kernel) rfl rfl (Nat.le_of_ble_eq_true rfl) dX5_init_35 (fun H locs hP hD hS => ?_)
  have hP : va_P D jd_cl [jd_mm x q1 q2, jd_ia q1 c1 (upd (upd (fun _ => 0) 0 (jd_i 2000)) 1 (jd_i 2000)), jd_ia q2 c2 (upd (upd (fun _ => 0) 0 (jd_i 1)) 1 (jd_i 1))] H := hP
  have hD : va_D A [jd_mm x q1 q2, jd_ia q1 c1 (upd (upd (fun _ => 0) 0 (jd_i 2000)) 1 (jd_i 2000)), jd_ia q2 c2 (upd (upd (fun _ => 0) 0 (jd_i 1)) 1 (jd_i 1))] := hD
  have hP : va_P D jd_cl (jd_MW x q1 q2 c1 c2 (fun _ => 2000) (fun _ => 1)) H := jd_iaP (fun j hj => by rcases jd_lt2 hj with rfl | rfl <;> rfl) (fun j hj => by rcases jd_lt2 hj with rfl | rfl <;> rfl) hP
  have hD : va_D A (jd_MW x q1 q2 c1 c2 (fun _ => 2000) (fun _ => 1)) := jd_iaD hD
  exact W.vret hx hb hr (fun t ht hW => ⟨⟨(q1, q2, c1, c2), rfl, trivial, by rw [ht]; exact hP, va_K.moved hW.alike hK, hD⟩, hS.F ht⟩) hS.2.2 dX5_init_38
end
section
/-! the law: its cases and its loop (printed by gen/g12.py; its head is the skeleton's) -/
/-! THE CLAIM OUT OF ONE WALK OF THE LAW'S BODY. Your part is whole_start (and what it stands on); all else here is the same for every law, but numbers. -/
def R_law : String := "MonthDeskLaw"
def lw_P (b : Addr) (xs : List Int32) (args : Array Value) (s : State) : Prop := args = #[.ref b] ∧ s.IntsAt b xs ∧ xs.length ≤ 288 ∧ (Jvm.Cond.and given_1 narrow_1).before args s = true
def lw_Q (_ : Array Value) (s : State) (o : Outcome) (t : State) : Prop := o = .returned (some (.int 1)) ∧ Framed s o t [] 1200096 5501386
def lw_Z (below : List Frame) (a : Array Value) (s : State) : State → Prop := fun t => ∃ o, t.status = .running ∧ Ended t below o ∧ lw_Q a s o t
/-- the law's own end, with 1 on the stack, nothing written that was there before, its room as the claim has it -/
theorem lw_ret {p : Program} {l : Launch} {e : Env} {s : State} {m : MethodId} {below : List Frame} {meth : Method} {c : Code} {b : Nat} (hx : p.tables.exec = Jvm.exec) (hb : c.code = code) (hr : meth.sig.returnType = ret) (hlocks : meth.locks = false) {pc : Nat} {H : Heap} {ls : Array Slot} (hdg : decode code pc = .ok (.ireturn, 1)) : W p l e room_1 s m #[Value.ref b] below meth c H [] 1200096 5501386 (lw_Z below #[Value.ref b] s) (F0 m pc ls [.int 1]) := by
  intro T hT X
  obtain ⟨fs, hret, hrun, hended, hW, hframe⟩ := X.leave (v := some (.int 1)) (hlocks := hlocks) (fun h => by rw [hr] at h; cases h)
  have hmeth' : T.vm.method? m = some meth := X.method'
  refine ⟨T.setFrames fs, ?_, .returned (some (.int 1)), hrun, hended, rfl, ⟨_, rfl⟩, hW, hframe⟩
  jvm_step X.here [X.here.top, hx, hb, hdg, hmeth', hr, ret, narrow_b1]
  (try refine ⟨rfl, ?_⟩); (try refine ⟨rfl, ?_⟩)
  first | (intro acts; rw [hret _ acts rfl rfl rfl]) | rw [hret _ _ rfl rfl rfl]
  exact Steps.refl _
/-- what holds at the law's entry: the machine, the code, the tables' words (any of lw_tbl by 'hts w (by decide +kernel)'), the script of L ints xs at the cell b, what the Statement gives of the start (any of its parts by flat_of_before) -/
def lw_At (p : Program) (s : State) (m : MethodId) (meth : Method) (c : Code) (b L : Nat) (xs : Nat → Int32) : Prop :=
  p.tables.exec = Jvm.exec ∧ c.code = code ∧ meth.sig.returnType = ret ∧ c.maxLocals = 4 ∧ s.vm.findClass R_law = some m.cls ∧ (∀ w ∈ lw_tbl, w.before #[Value.ref b] s = true) ∧ va_X b L xs s s.heap ∧ b < s.heap.size ∧ meth.locks = false ∧ (Jvm.Cond.and given_1 narrow_1).before #[Value.ref b] s = true
def jd_A (s : State) : Nat → Prop := fun q => s.heap.size ≤ q
abbrev jd_LW (x q : Nat) (cA : ClassId) (a : Nat → Nat) (mo q1 q2 : Nat) (c1 c2 : ClassId) (Y M : Nat → Int) : va_W := [jd_dk x q, jd_ar q cA (fun j => some (a j)), jd_ym (a 0) (Y 0) (M 0), jd_ym (a 1) (Y 1) (M 1), jd_mm mo q1 q2, jd_ia q1 c1 (fun j => jd_i (Y j)), jd_ia q2 c2 (fun j => jd_i (M j))]
/-- what is known of the two months after k steps -/
def jd_ok (k : Nat) (Y M : Nat → Int) : Prop := ∀ j : Nat, j < 2 → -(1000000 + 90000 * (k : Int)) ≤ Y j ∧ Y j ≤ 1000000 + 90000 * (k : Int) ∧ 1 ≤ M j ∧ M j ≤ 12
theorem jd_ok_mono {k : Nat} {Y M : Nat → Int} (h : jd_ok k Y M) : jd_ok (k + 1) Y M := fun j hj => by
  have := h j hj
  omega
theorem jd_ok_up {k i : Nat} {Y M : Nat → Int} {y m : Int} (h : jd_ok k Y M) (h1 : -(1000000 + 90000 * ((k : Int) + 1)) ≤ y) (h2 : y ≤ 1000000 + 90000 * ((k : Int) + 1)) (h3 : 1 ≤ m) (h4 : m ≤ 12) : jd_ok (k + 1) (va_up Y i y) (va_up M i m) := fun j hj => by
  have := h j hj
  unfold va_up
  by_cases e : j = i
  · rw [if_pos e, if_pos e]; omega
  · rw [if_neg e, if_neg e]; omega
theorem jd_ok_upY {k i : Nat} {Y M : Nat → Int} {y : Int} (h : jd_ok k Y M) (h1 : -(1000000 + 90000 * ((k : Int) + 1)) ≤ y) (h2 : y ≤ 1000000 + 90000 * ((k : Int) + 1)) : jd_ok (k + 1) (va_up Y i y) M := fun j hj => by
  have := h j hj
  unfold va_up
  by_cases e : j = i
  · rw [if_pos e]; omega
  · rw [if_neg e]; omega
theorem jd_ok_upM {k i : Nat} {Y M : Nat → Int} {m : Int} (h : jd_ok k Y M) (h3 : 1 ≤ m) (h4 : m ≤ 12) : jd_ok (k + 1) Y (va_up M i m) := fun j hj => by
  have := h j hj
  unfold va_up
  by_cases e : j = i
  · rw [if_pos e]; omega
  · rw [if_neg e]; omega
theorem jd_head {L k : Nat} (hL : L ≤ 288) (hk : 6 * k ≤ L) (h : ¬ jd_i ((L : Int) - 6) < nI (6 * k)) : 6 * k + 6 ≤ L := by
  rw [jd_nI (show 6 * k < 2 ^ 31 by omega), jd_i_lt (by omega) (by omega) (by omega) (by omega)] at h
  omega
section JSLD
variable {p : Program} {l : Launch} {e : Env} {R : Room} {s : State} {m : MethodId} {args : Array Value} {below : List Frame} {meth : Method} {c : Code} {H : Heap} {locs : List Loc} {cells slots : Nat} {Q : State → Prop}
variable {cc : ByteArray} {pc : Nat} {ls : Array Slot} {rest : List Value} {A : Nat → Prop} {H0 : Heap}
theorem jd_sld (hexec : p.tables.exec = Jvm.exec) (hb : c.code = cc) {b L : Nat} {xs : Nat → Int32} (hX : va_X b L xs s H0) (hbl : b < H0.size) (hbA : ¬ A b) (hS : va_S A H0 H locs) {i : Nat} (hi : i < L) (hL : L ≤ 288) (hdg : decode cc pc = .ok (.iaload, 1))
    (kk : W p l e R s m args below meth c H locs cells slots Q (F0 m (pc + 1) ls (.int (xs i) :: rest))) : W p l e R s m args below meth c H locs cells slots Q (F0 m pc ls (.int (nI i) :: .ref b :: rest)) := by
  refine va_sld hexec hb hX hbl hbA hS (vp_in_nI hi (by omega)) hdg ?_
  rw [nI_clamp (by omega)]
  exact kk
end JSLD
set_option maxHeartbeats 4000000 in
set_option maxRecDepth 100000 in
/-- the law, case 0: set -/
theorem law_op0 {p : Program} {l : Launch} {e : Env} {s : State} {m : MethodId} {below : List Frame} {meth : Method} {c : Code} {b L : Nat} {xs : Nat → Int32} {D : va_G} {g : Nat → Nat} {x q mo q1 q2 : Nat} {cA c1 c2 : ClassId} {Q : State → Prop} {k : Nat} {ls : Array Slot} {a : Nat → Nat} {Y M : Nat → Int} {H : Heap} {locs : List Loc} (hx : p.tables.exec = Jvm.exec) (hb : c.code = code) (hml : c.maxLocals = 4) (hown : s.vm.findClass R_law = some m.cls) (hts : ∀ w ∈ lw_all, w.before #[Value.ref b] s = true) (hX : va_X b L xs s s.heap) (hbl : b < s.heap.size) (hC : jd_C g (jd_A s) s s.heap) (hK : va_K D jd_cl [(cA, .object "YearMonth"), (c1, .int), (c2, .int)] s) (hL2 : L ≤ 288) (hL : 6 * k + 6 ≤ L) (hok : jd_ok k Y M) (hP : va_P D jd_cl (jd_LW x q cA a mo q1 q2 c1 c2 Y M) H) (hD : va_D (jd_A s) (jd_LW x q cA a mo q1 q2 c1 c2 Y M)) (hS : va_S (jd_A s) s.heap H locs) (hl : lv_has ls 4 [(0, .ref b), (1, .ref x), (2, .ref mo), (3, .int (nI (6 * k)))]) (hcont : ∀ (a2 : Nat → Nat) (Y2 M2 : Nat → Int) (H2 : Heap) (locs2 : List Loc), jd_ok (k + 1) Y2 M2 → va_P D jd_cl (jd_LW x q cA a2 mo q1 q2 c1 c2 Y2 M2) H2 → va_D (jd_A s) (jd_LW x q cA a2 mo q1 q2 c1 c2 Y2 M2) → va_S (jd_A s) s.heap H2 locs2 → W p l e room_1 s m #[Value.ref b] below meth c H2 locs2 (100 + k + 1) (100 + 3 * k + 3) Q (F0 m 468 ls [])) : W p l e room_1 s m #[Value.ref b] below meth c H locs (100 + k) (100 + 3 * k) Q (F0 m 104 ls []) := by
  have hA : ∀ q : Nat, s.heap.size ≤ q → jd_A s q := fun _ h => h
  have hbA : ¬ jd_A s b := Nat.not_le.mpr hbl
  have hP : va_P D jd_cl [jd_dk x q, jd_ar q cA (fun j => some (a j)), jd_ym (a 0) (Y 0) (M 0), jd_ym (a 1) (Y 1) (M 1), jd_mm mo q1 q2, jd_ia q1 c1 (fun j => jd_i (Y j)), jd_ia q2 c2 (fun j => jd_i (M j))] H := hP
  have hD : va_D (jd_A s) [jd_dk x q, jd_ar q cA (fun j => some (a j)), jd_ym (a 0) (Y 0) (M 0), jd_ym (a 1) (Y 1) (M 1), jd_mm mo q1 q2, jd_ia q1 c1 (fun j => jd_i (Y j)), jd_ia q2 c2 (fun j => jd_i (M j))] := hD
  obtain ⟨i, hi, hw⟩ := pk_andE (xs (6 * k + 1)) (m := 1) 1 (by decide)
  have hi : i < 2 := hi
  have hw : xs (6 * k + 1) &&& 1 = nI i := hw
  obtain ⟨b1, b2, m1, m2⟩ := hok i hi
  refine lv_aload_n hx hb dL_law_104 rfl (lv_at hl 1 rfl) ?_
  refine lv_aload_n hx hb dL_law_105 rfl (lv_at hl 0 rfl) ?_
  refine lv_iload_n hx hb dL_law_106 rfl (lv_at hl 3 rfl) ?_
  refine lv_iconst (v := jd_i 1) hx hb dL_law_107 (by decide) ?_
  refine lv_iadd hx hb dL_law_108 ?_
  refine jd_ti (y := (nI (6 * k + 1))) (nI_add (6 * k) 1) ?_
  refine jd_sld hx hb hX hbl hbA hS (show 6 * k + 1 < L by omega) hL2 dL_law_109 ?_
  refine lv_aload_n hx hb dL_law_110 rfl (lv_at hl 0 rfl) ?_
  refine lv_iload_n hx hb dL_law_111 rfl (lv_at hl 3 rfl) ?_
  refine lv_iconst (v := jd_i 2) hx hb dL_law_112 (by decide) ?_
  refine lv_iadd hx hb dL_law_113 ?_
  refine jd_ti (y := (nI (6 * k + 2))) (nI_add (6 * k) 2) ?_
  refine jd_sld hx hb hX hbl hbA hS (show 6 * k + 2 < L by omega) hL2 dL_law_114 ?_
  refine lv_aload_n hx hb dL_law_115 rfl (lv_at hl 0 rfl) ?_
  refine lv_iload_n hx hb dL_law_116 rfl (lv_at hl 3 rfl) ?_
  refine lv_iconst (v := jd_i 3) hx hb dL_law_117 (by decide) ?_
  refine lv_iadd hx hb dL_law_118 ?_
  refine jd_ti (y := (nI (6 * k + 3))) (nI_add (6 * k) 3) ?_
  refine jd_sld hx hb hX hbl hbA hS (show 6 * k + 3 < L by omega) hL2 dL_law_119 ?_
  have hFc := va_free (wc := [jd_dk x q, jd_ar q cA (fun j => some (a j)), jd_ym (a 0) (Y 0) (M 0), jd_ym (a 1) (Y 1) (M 1)]) hD hS hA [0, 1, 2, 3] rfl
  refine va_callv (va_runV (As := [.int ((xs (6 * k + 1))), .int ((xs (6 * k + 2))), .int ((xs (6 * k + 3)))]) (rest := []) ⟨hx, hb, hml, hown, hts⟩ (metX0_set l D g x q H.size cA a Y M i (xs (6 * k + 1)) (xs (6 * k + 2)) (xs (6 * k + 3)) hi hw (by omega) (by omega) m1 m2) (cwV 3 hts (lw_V q148 q149 q150 q3 q151) rfl rfl rfl (by decide +kernel) ⟨Nat.le_of_ble_eq_true rfl, Nat.le_of_ble_eq_true rfl⟩) (jd_preV (jd_mvA (jd_mvZ _) (jd_mvA (jd_mvP _ _ _) (jd_mvA (jd_mvK _ _ _) (jd_mvA (jd_mvC _) jd_C.moved)))) (va_recv hK hP (ci := 0) (q0 := 0) rfl rfl) ⟨rfl, hP.sub [0, 1, 2, 3] rfl, hK.sub [0] rfl, (hD.sub [0, 1, 2, 3] (by decide) rfl).weaken (fun _ _ _ _ => trivial), (hC.kept hS.2.1).narrow hFc⟩) rfl rfl hl.1 rfl (lv_room (Nat.le_of_ble_eq_true rfl)) dL_law_120 ⟨by show 100 + k + 1 ≤ 1200096; omega, by show 100 + 3 * k + 2 ≤ 5501386; omega⟩) hS (fun q _ h => hFc q h) hFc (fun u_ t H1 locs ht hvm hw1 hB hz1 hk1 hS => ?_)
  obtain ⟨hP1, hK1, hD1⟩ := hB
  rw [ht] at hP1
  obtain ⟨hP, hD⟩ := va_join (wr := [jd_mm mo q1 q2, jd_ia q1 c1 (fun j => jd_i (Y j)), jd_ia q2 c2 (fun j => jd_i (M j))]) (w1 := [jd_dk x q, jd_ar q cA (fun j => some ((va_up a i u_) j)), jd_ym ((va_up a i u_) 0) ((va_up Y i (jd_r6 (xs (6 * k + 2)))) 0) ((va_up M i (jd_mf (xs (6 * k + 3)))) 0), jd_ym ((va_up a i u_) 1) ((va_up Y i (jd_r6 (xs (6 * k + 2)))) 1) ((va_up M i (jd_mf (xs (6 * k + 3)))) 1)]) hP hD [0, 1, 2, 3] [4, 5, 6] rfl rfl (by decide) (by decide) hk1 hFc hP1 hD1
  generalize H1 = H at hP hS ⊢
  have hP : va_P D jd_cl [jd_mm mo q1 q2, jd_ia q1 c1 (fun j => jd_i (Y j)), jd_ia q2 c2 (fun j => jd_i (M j)), jd_dk x q, jd_ar q cA (fun j => some ((va_up a i u_) j)), jd_ym ((va_up a i u_) 0) ((va_up Y i (jd_r6 (xs (6 * k + 2)))) 0) ((va_up M i (jd_mf (xs (6 * k + 3)))) 0), jd_ym ((va_up a i u_) 1) ((va_up Y i (jd_r6 (xs (6 * k + 2)))) 1) ((va_up M i (jd_mf (xs (6 * k + 3)))) 1)] H := hP
  have hD : va_D (jd_A s) [jd_mm mo q1 q2, jd_ia q1 c1 (fun j => jd_i (Y j)), jd_ia q2 c2 (fun j => jd_i (M j)), jd_dk x q, jd_ar q cA (fun j => some ((va_up a i u_) j)), jd_ym ((va_up a i u_) 0) ((va_up Y i (jd_r6 (xs (6 * k + 2)))) 0) ((va_up M i (jd_mf (xs (6 * k + 3)))) 0), jd_ym ((va_up a i u_) 1) ((va_up Y i (jd_r6 (xs (6 * k + 2)))) 1) ((va_up M i (jd_mf (xs (6 * k + 3)))) 1)] := hD
  have hP := hP.sub (ws' := [jd_dk x q, jd_ar q cA (fun j => some ((va_up a i u_) j)), jd_ym ((va_up a i u_) 0) ((va_up Y i (jd_r6 (xs (6 * k + 2)))) 0) ((va_up M i (jd_mf (xs (6 * k + 3)))) 0), jd_ym ((va_up a i u_) 1) ((va_up Y i (jd_r6 (xs (6 * k + 2)))) 1) ((va_up M i (jd_mf (xs (6 * k + 3)))) 1), jd_mm mo q1 q2, jd_ia q1 c1 (fun j => jd_i (Y j)), jd_ia q2 c2 (fun j => jd_i (M j))]) [3, 4, 5, 6, 0, 1, 2] rfl
  have hD := hD.sub (ws' := [jd_dk x q, jd_ar q cA (fun j => some ((va_up a i u_) j)), jd_ym ((va_up a i u_) 0) ((va_up Y i (jd_r6 (xs (6 * k + 2)))) 0) ((va_up M i (jd_mf (xs (6 * k + 3)))) 0), jd_ym ((va_up a i u_) 1) ((va_up Y i (jd_r6 (xs (6 * k + 2)))) 1) ((va_up M i (jd_mf (xs (6 * k + 3)))) 1), jd_mm mo q1 q2, jd_ia q1 c1 (fun j => jd_i (Y j)), jd_ia q2 c2 (fun j => jd_i (M j))]) [3, 4, 5, 6, 0, 1, 2] (by decide) rfl
  refine lv_aload_n hx hb dL_law_123 rfl (lv_at hl 2 rfl) ?_
  refine lv_aload_n hx hb dL_law_124 rfl (lv_at hl 0 rfl) ?_
  refine lv_iload_n hx hb dL_law_125 rfl (lv_at hl 3 rfl) ?_
  refine lv_iconst (v := jd_i 1) hx hb dL_law_126 (by decide) ?_
  refine lv_iadd hx hb dL_law_127 ?_
  refine jd_ti (y := (nI (6 * k + 1))) (nI_add (6 * k) 1) ?_
  refine jd_sld hx hb hX hbl hbA hS (show 6 * k + 1 < L by omega) hL2 dL_law_128 ?_
  refine lv_aload_n hx hb dL_law_129 rfl (lv_at hl 0 rfl) ?_
  refine lv_iload_n hx hb dL_law_130 rfl (lv_at hl 3 rfl) ?_
  refine lv_iconst (v := jd_i 2) hx hb dL_law_131 (by decide) ?_
  refine lv_iadd hx hb dL_law_132 ?_
  refine jd_ti (y := (nI (6 * k + 2))) (nI_add (6 * k) 2) ?_
  refine jd_sld hx hb hX hbl hbA hS (show 6 * k + 2 < L by omega) hL2 dL_law_133 ?_
  refine lv_aload_n hx hb dL_law_134 rfl (lv_at hl 0 rfl) ?_
  refine lv_iload_n hx hb dL_law_135 rfl (lv_at hl 3 rfl) ?_
  refine lv_iconst (v := jd_i 3) hx hb dL_law_136 (by decide) ?_
  refine lv_iadd hx hb dL_law_137 ?_
  refine jd_ti (y := (nI (6 * k + 3))) (nI_add (6 * k) 3) ?_
  refine jd_sld hx hb hX hbl hbA hS (show 6 * k + 3 < L by omega) hL2 dL_law_138 ?_
  have hFc := va_free (wc := [jd_mm mo q1 q2, jd_ia q1 c1 (fun j => jd_i (Y j)), jd_ia q2 c2 (fun j => jd_i (M j))]) hD hS hA [4, 5, 6] rfl
  refine va_callv (va_runV (As := [.int ((xs (6 * k + 1))), .int ((xs (6 * k + 2))), .int ((xs (6 * k + 3)))]) (rest := []) ⟨hx, hb, hml, hown, hts⟩ (metX5_set l D mo q1 q2 H.size c1 c2 Y M i (xs (6 * k + 1)) (xs (6 * k + 2)) (xs (6 * k + 3)) hi hw (by omega) (by omega) m1 m2) (cwV 3 hts (lw_V q401 q402 q403 q12 q404) rfl rfl rfl (by decide +kernel) ⟨Nat.le_of_ble_eq_true rfl, Nat.le_of_ble_eq_true rfl⟩) (jd_preV (jd_mvA (jd_mvZ _) (jd_mvA (jd_mvP _ _ _) (jd_mvA (jd_mvK _ _ _) (jd_mvC _)))) (va_recv hK hP (ci := 3) (q0 := 4) rfl rfl) ⟨rfl, hP.sub [4, 5, 6] rfl, hK.sub [1, 2] rfl, (hD.sub [4, 5, 6] (by decide) rfl).weaken (fun _ _ _ _ => trivial)⟩) rfl rfl hl.1 rfl (lv_room (Nat.le_of_ble_eq_true rfl)) dL_law_139 ⟨by show 100 + k + 1 + 0 ≤ 1200096; omega, by show 100 + 3 * k + 2 + 0 ≤ 5501386; omega⟩) hS (fun q _ h => hFc q h) hFc (fun v_ t H1 locs ht hvm hw1 hB hz1 hk1 hS => ?_)
  obtain ⟨hP1, hK1, hD1⟩ := hB
  rw [ht] at hP1
  obtain ⟨hP, hD⟩ := va_join (wr := [jd_dk x q, jd_ar q cA (fun j => some ((va_up a i u_) j)), jd_ym ((va_up a i u_) 0) ((va_up Y i (jd_r6 (xs (6 * k + 2)))) 0) ((va_up M i (jd_mf (xs (6 * k + 3)))) 0), jd_ym ((va_up a i u_) 1) ((va_up Y i (jd_r6 (xs (6 * k + 2)))) 1) ((va_up M i (jd_mf (xs (6 * k + 3)))) 1)]) (w1 := [jd_mm mo q1 q2, jd_ia q1 c1 (fun j => jd_i ((va_up Y i (jd_r6 (xs (6 * k + 2)))) j)), jd_ia q2 c2 (fun j => jd_i ((va_up M i (jd_mf (xs (6 * k + 3)))) j))]) hP hD [4, 5, 6] [0, 1, 2, 3] rfl rfl (by decide) (by decide) hk1 hFc hP1 hD1
  generalize H1 = H at hP hS ⊢
  have hP : va_P D jd_cl [jd_dk x q, jd_ar q cA (fun j => some ((va_up a i u_) j)), jd_ym ((va_up a i u_) 0) ((va_up Y i (jd_r6 (xs (6 * k + 2)))) 0) ((va_up M i (jd_mf (xs (6 * k + 3)))) 0), jd_ym ((va_up a i u_) 1) ((va_up Y i (jd_r6 (xs (6 * k + 2)))) 1) ((va_up M i (jd_mf (xs (6 * k + 3)))) 1), jd_mm mo q1 q2, jd_ia q1 c1 (fun j => jd_i ((va_up Y i (jd_r6 (xs (6 * k + 2)))) j)), jd_ia q2 c2 (fun j => jd_i ((va_up M i (jd_mf (xs (6 * k + 3)))) j))] H := hP
  have hD : va_D (jd_A s) [jd_dk x q, jd_ar q cA (fun j => some ((va_up a i u_) j)), jd_ym ((va_up a i u_) 0) ((va_up Y i (jd_r6 (xs (6 * k + 2)))) 0) ((va_up M i (jd_mf (xs (6 * k + 3)))) 0), jd_ym ((va_up a i u_) 1) ((va_up Y i (jd_r6 (xs (6 * k + 2)))) 1) ((va_up M i (jd_mf (xs (6 * k + 3)))) 1), jd_mm mo q1 q2, jd_ia q1 c1 (fun j => jd_i ((va_up Y i (jd_r6 (xs (6 * k + 2)))) j)), jd_ia q2 c2 (fun j => jd_i ((va_up M i (jd_mf (xs (6 * k + 3)))) j))] := hD
  refine lv_goto (tgt := 468) hx hb dL_law_142 (by decide) ?_
  refine W.widen (k := 100 + k + 1) (n := 100 + 3 * k + 3) (by omega) (by omega) ?_
  exact hcont (va_up a i u_) (va_up Y i (jd_r6 (xs (6 * k + 2)))) (va_up M i (jd_mf (xs (6 * k + 3)))) _ _ (jd_ok_up hok (by have := jd_r6_rg (xs (6 * k + 2)); omega) (by have := jd_r6_rg (xs (6 * k + 2)); omega) (jd_mf_rg _).1 (jd_mf_rg _).2) hP hD hS
set_option maxHeartbeats 4000000 in
set_option maxRecDepth 100000 in
/-- the law, case 1: months -/
theorem law_op1 {p : Program} {l : Launch} {e : Env} {s : State} {m : MethodId} {below : List Frame} {meth : Method} {c : Code} {b L : Nat} {xs : Nat → Int32} {D : va_G} {g : Nat → Nat} {x q mo q1 q2 : Nat} {cA c1 c2 : ClassId} {Q : State → Prop} {k : Nat} {ls : Array Slot} {a : Nat → Nat} {Y M : Nat → Int} {H : Heap} {locs : List Loc} (hx : p.tables.exec = Jvm.exec) (hb : c.code = code) (hml : c.maxLocals = 4) (hown : s.vm.findClass R_law = some m.cls) (hts : ∀ w ∈ lw_all, w.before #[Value.ref b] s = true) (hX : va_X b L xs s s.heap) (hbl : b < s.heap.size) (hC : jd_C g (jd_A s) s s.heap) (hK : va_K D jd_cl [(cA, .object "YearMonth"), (c1, .int), (c2, .int)] s) (hL2 : L ≤ 288) (hL : 6 * k + 6 ≤ L) (hok : jd_ok k Y M) (hP : va_P D jd_cl (jd_LW x q cA a mo q1 q2 c1 c2 Y M) H) (hD : va_D (jd_A s) (jd_LW x q cA a mo q1 q2 c1 c2 Y M)) (hS : va_S (jd_A s) s.heap H locs) (hl : lv_has ls 4 [(0, .ref b), (1, .ref x), (2, .ref mo), (3, .int (nI (6 * k)))]) (hcont : ∀ (a2 : Nat → Nat) (Y2 M2 : Nat → Int) (H2 : Heap) (locs2 : List Loc), jd_ok (k + 1) Y2 M2 → va_P D jd_cl (jd_LW x q cA a2 mo q1 q2 c1 c2 Y2 M2) H2 → va_D (jd_A s) (jd_LW x q cA a2 mo q1 q2 c1 c2 Y2 M2) → va_S (jd_A s) s.heap H2 locs2 → W p l e room_1 s m #[Value.ref b] below meth c H2 locs2 (100 + k + 1) (100 + 3 * k + 3) Q (F0 m 468 ls [])) : W p l e room_1 s m #[Value.ref b] below meth c H locs (100 + k) (100 + 3 * k) Q (F0 m 145 ls []) := by
  have hA : ∀ q : Nat, s.heap.size ≤ q → jd_A s q := fun _ h => h
  have hbA : ¬ jd_A s b := Nat.not_le.mpr hbl
  have hP : va_P D jd_cl [jd_dk x q, jd_ar q cA (fun j => some (a j)), jd_ym (a 0) (Y 0) (M 0), jd_ym (a 1) (Y 1) (M 1), jd_mm mo q1 q2, jd_ia q1 c1 (fun j => jd_i (Y j)), jd_ia q2 c2 (fun j => jd_i (M j))] H := hP
  have hD : va_D (jd_A s) [jd_dk x q, jd_ar q cA (fun j => some (a j)), jd_ym (a 0) (Y 0) (M 0), jd_ym (a 1) (Y 1) (M 1), jd_mm mo q1 q2, jd_ia q1 c1 (fun j => jd_i (Y j)), jd_ia q2 c2 (fun j => jd_i (M j))] := hD
  obtain ⟨i, hi, hw⟩ := pk_andE (xs (6 * k + 1)) (m := 1) 1 (by decide)
  have hi : i < 2 := hi
  have hw : xs (6 * k + 1) &&& 1 = nI i := hw
  obtain ⟨b1, b2, m1, m2⟩ := hok i hi
  refine lv_aload_n hx hb dL_law_145 rfl (lv_at hl 1 rfl) ?_
  refine lv_aload_n hx hb dL_law_146 rfl (lv_at hl 0 rfl) ?_
  refine lv_iload_n hx hb dL_law_147 rfl (lv_at hl 3 rfl) ?_
  refine lv_iconst (v := jd_i 1) hx hb dL_law_148 (by decide) ?_
  refine lv_iadd hx hb dL_law_149 ?_
  refine jd_ti (y := (nI (6 * k + 1))) (nI_add (6 * k) 1) ?_
  refine jd_sld hx hb hX hbl hbA hS (show 6 * k + 1 < L by omega) hL2 dL_law_150 ?_
  refine lv_aload_n hx hb dL_law_151 rfl (lv_at hl 0 rfl) ?_
  refine lv_iload_n hx hb dL_law_152 rfl (lv_at hl 3 rfl) ?_
  refine lv_iconst (v := jd_i 2) hx hb dL_law_153 (by decide) ?_
  refine lv_iadd hx hb dL_law_154 ?_
  refine jd_ti (y := (nI (6 * k + 2))) (nI_add (6 * k) 2) ?_
  refine jd_sld hx hb hX hbl hbA hS (show 6 * k + 2 < L by omega) hL2 dL_law_155 ?_
  have hFc := va_free (wc := [jd_dk x q, jd_ar q cA (fun j => some (a j)), jd_ym (a 0) (Y 0) (M 0), jd_ym (a 1) (Y 1) (M 1)]) hD hS hA [0, 1, 2, 3] rfl
  refine va_callv (va_runV (As := [.int ((xs (6 * k + 1))), .int ((xs (6 * k + 2)))]) (rest := []) ⟨hx, hb, hml, hown, hts⟩ (metX0_months l D g x q H.size cA a Y M i (xs (6 * k + 1)) (xs (6 * k + 2)) hi hw (by omega) (by omega) m1 m2) (cwV 2 hts (lw_V q154 q155 q156 q3 q157) rfl rfl rfl (by decide +kernel) ⟨Nat.le_of_ble_eq_true rfl, Nat.le_of_ble_eq_true rfl⟩) (jd_preV (jd_mvA (jd_mvZ _) (jd_mvA (jd_mvP _ _ _) (jd_mvA (jd_mvK _ _ _) (jd_mvA (jd_mvC _) jd_C.moved)))) (va_recv hK hP (ci := 0) (q0 := 0) rfl rfl) ⟨rfl, hP.sub [0, 1, 2, 3] rfl, hK.sub [0] rfl, (hD.sub [0, 1, 2, 3] (by decide) rfl).weaken (fun _ _ _ _ => trivial), (hC.kept hS.2.1).narrow hFc⟩) rfl rfl hl.1 rfl (lv_room (Nat.le_of_ble_eq_true rfl)) dL_law_156 ⟨by show 100 + k + 1 ≤ 1200096; omega, by show 100 + 3 * k + 2 ≤ 5501386; omega⟩) hS (fun q _ h => hFc q h) hFc (fun u_ t H1 locs ht hvm hw1 hB hz1 hk1 hS => ?_)
  obtain ⟨hP1, hK1, hD1⟩ := hB
  rw [ht] at hP1
  obtain ⟨hP, hD⟩ := va_join (wr := [jd_mm mo q1 q2, jd_ia q1 c1 (fun j => jd_i (Y j)), jd_ia q2 c2 (fun j => jd_i (M j))]) (w1 := [jd_dk x q, jd_ar q cA (fun j => some ((va_up a i u_) j)), jd_ym ((va_up a i u_) 0) ((va_up Y i ((Y i * 12 + (M i - 1) + jd_r6 (xs (6 * k + 2))) / 12)) 0) ((va_up M i ((Y i * 12 + (M i - 1) + jd_r6 (xs (6 * k + 2))) % 12 + 1)) 0), jd_ym ((va_up a i u_) 1) ((va_up Y i ((Y i * 12 + (M i - 1) + jd_r6 (xs (6 * k + 2))) / 12)) 1) ((va_up M i ((Y i * 12 + (M i - 1) + jd_r6 (xs (6 * k + 2))) % 12 + 1)) 1)]) hP hD [0, 1, 2, 3] [4, 5, 6] rfl rfl (by decide) (by decide) hk1 hFc hP1 hD1
  generalize H1 = H at hP hS ⊢
  have hP : va_P D jd_cl [jd_mm mo q1 q2, jd_ia q1 c1 (fun j => jd_i (Y j)), jd_ia q2 c2 (fun j => jd_i (M j)), jd_dk x q, jd_ar q cA (fun j => some ((va_up a i u_) j)), jd_ym ((va_up a i u_) 0) ((va_up Y i ((Y i * 12 + (M i - 1) + jd_r6 (xs (6 * k + 2))) / 12)) 0) ((va_up M i ((Y i * 12 + (M i - 1) + jd_r6 (xs (6 * k + 2))) % 12 + 1)) 0), jd_ym ((va_up a i u_) 1) ((va_up Y i ((Y i * 12 + (M i - 1) + jd_r6 (xs (6 * k + 2))) / 12)) 1) ((va_up M i ((Y i * 12 + (M i - 1) + jd_r6 (xs (6 * k + 2))) % 12 + 1)) 1)] H := hP
  have hD : va_D (jd_A s) [jd_mm mo q1 q2, jd_ia q1 c1 (fun j => jd_i (Y j)), jd_ia q2 c2 (fun j => jd_i (M j)), jd_dk x q, jd_ar q cA (fun j => some ((va_up a i u_) j)), jd_ym ((va_up a i u_) 0) ((va_up Y i ((Y i * 12 + (M i - 1) + jd_r6 (xs (6 * k + 2))) / 12)) 0) ((va_up M i ((Y i * 12 + (M i - 1) + jd_r6 (xs (6 * k + 2))) % 12 + 1)) 0), jd_ym ((va_up a i u_) 1) ((va_up Y i ((Y i * 12 + (M i - 1) + jd_r6 (xs (6 * k + 2))) / 12)) 1) ((va_up M i ((Y i * 12 + (M i - 1) + jd_r6 (xs (6 * k + 2))) % 12 + 1)) 1)] := hD
  have hP := hP.sub (ws' := [jd_dk x q, jd_ar q cA (fun j => some ((va_up a i u_) j)), jd_ym ((va_up a i u_) 0) ((va_up Y i ((Y i * 12 + (M i - 1) + jd_r6 (xs (6 * k + 2))) / 12)) 0) ((va_up M i ((Y i * 12 + (M i - 1) + jd_r6 (xs (6 * k + 2))) % 12 + 1)) 0), jd_ym ((va_up a i u_) 1) ((va_up Y i ((Y i * 12 + (M i - 1) + jd_r6 (xs (6 * k + 2))) / 12)) 1) ((va_up M i ((Y i * 12 + (M i - 1) + jd_r6 (xs (6 * k + 2))) % 12 + 1)) 1), jd_mm mo q1 q2, jd_ia q1 c1 (fun j => jd_i (Y j)), jd_ia q2 c2 (fun j => jd_i (M j))]) [3, 4, 5, 6, 0, 1, 2] rfl
  have hD := hD.sub (ws' := [jd_dk x q, jd_ar q cA (fun j => some ((va_up a i u_) j)), jd_ym ((va_up a i u_) 0) ((va_up Y i ((Y i * 12 + (M i - 1) + jd_r6 (xs (6 * k + 2))) / 12)) 0) ((va_up M i ((Y i * 12 + (M i - 1) + jd_r6 (xs (6 * k + 2))) % 12 + 1)) 0), jd_ym ((va_up a i u_) 1) ((va_up Y i ((Y i * 12 + (M i - 1) + jd_r6 (xs (6 * k + 2))) / 12)) 1) ((va_up M i ((Y i * 12 + (M i - 1) + jd_r6 (xs (6 * k + 2))) % 12 + 1)) 1), jd_mm mo q1 q2, jd_ia q1 c1 (fun j => jd_i (Y j)), jd_ia q2 c2 (fun j => jd_i (M j))]) [3, 4, 5, 6, 0, 1, 2] (by decide) rfl
  refine lv_aload_n hx hb dL_law_159 rfl (lv_at hl 2 rfl) ?_
  refine lv_aload_n hx hb dL_law_160 rfl (lv_at hl 0 rfl) ?_
  refine lv_iload_n hx hb dL_law_161 rfl (lv_at hl 3 rfl) ?_
  refine lv_iconst (v := jd_i 1) hx hb dL_law_162 (by decide) ?_
  refine lv_iadd hx hb dL_law_163 ?_
  refine jd_ti (y := (nI (6 * k + 1))) (nI_add (6 * k) 1) ?_
  refine jd_sld hx hb hX hbl hbA hS (show 6 * k + 1 < L by omega) hL2 dL_law_164 ?_
  refine lv_aload_n hx hb dL_law_165 rfl (lv_at hl 0 rfl) ?_
  refine lv_iload_n hx hb dL_law_166 rfl (lv_at hl 3 rfl) ?_
  refine lv_iconst (v := jd_i 2) hx hb dL_law_167 (by decide) ?_
  refine lv_iadd hx hb dL_law_168 ?_
  refine jd_ti (y := (nI (6 * k + 2))) (nI_add (6 * k) 2) ?_
  refine jd_sld hx hb hX hbl hbA hS (show 6 * k + 2 < L by omega) hL2 dL_law_169 ?_
  have hFc := va_free (wc := [jd_mm mo q1 q2, jd_ia q1 c1 (fun j => jd_i (Y j)), jd_ia q2 c2 (fun j => jd_i (M j))]) hD hS hA [4, 5, 6] rfl
  refine va_callv (va_runV (As := [.int ((xs (6 * k + 1))), .int ((xs (6 * k + 2)))]) (rest := []) ⟨hx, hb, hml, hown, hts⟩ (metX5_months l D mo q1 q2 H.size c1 c2 Y M i (xs (6 * k + 1)) (xs (6 * k + 2)) hi hw (by omega) (by omega) m1 m2) (cwV 2 hts (lw_V q410 q411 q412 q12 q413) rfl rfl rfl (by decide +kernel) ⟨Nat.le_of_ble_eq_true rfl, Nat.le_of_ble_eq_true rfl⟩) (jd_preV (jd_mvA (jd_mvZ _) (jd_mvA (jd_mvP _ _ _) (jd_mvA (jd_mvK _ _ _) (jd_mvC _)))) (va_recv hK hP (ci := 3) (q0 := 4) rfl rfl) ⟨rfl, hP.sub [4, 5, 6] rfl, hK.sub [1, 2] rfl, (hD.sub [4, 5, 6] (by decide) rfl).weaken (fun _ _ _ _ => trivial)⟩) rfl rfl hl.1 rfl (lv_room (Nat.le_of_ble_eq_true rfl)) dL_law_170 ⟨by show 100 + k + 1 + 0 ≤ 1200096; omega, by show 100 + 3 * k + 2 + 0 ≤ 5501386; omega⟩) hS (fun q _ h => hFc q h) hFc (fun v_ t H1 locs ht hvm hw1 hB hz1 hk1 hS => ?_)
  obtain ⟨hP1, hK1, hD1⟩ := hB
  rw [ht] at hP1
  obtain ⟨hP, hD⟩ := va_join (wr := [jd_dk x q, jd_ar q cA (fun j => some ((va_up a i u_) j)), jd_ym ((va_up a i u_) 0) ((va_up Y i ((Y i * 12 + (M i - 1) + jd_r6 (xs (6 * k + 2))) / 12)) 0) ((va_up M i ((Y i * 12 + (M i - 1) + jd_r6 (xs (6 * k + 2))) % 12 + 1)) 0), jd_ym ((va_up a i u_) 1) ((va_up Y i ((Y i * 12 + (M i - 1) + jd_r6 (xs (6 * k + 2))) / 12)) 1) ((va_up M i ((Y i * 12 + (M i - 1) + jd_r6 (xs (6 * k + 2))) % 12 + 1)) 1)]) (w1 := [jd_mm mo q1 q2, jd_ia q1 c1 (fun j => jd_i ((va_up Y i ((Y i * 12 + (M i - 1) + jd_r6 (xs (6 * k + 2))) / 12)) j)), jd_ia q2 c2 (fun j => jd_i ((va_up M i ((Y i * 12 + (M i - 1) + jd_r6 (xs (6 * k + 2))) % 12 + 1)) j))]) hP hD [4, 5, 6] [0, 1, 2, 3] rfl rfl (by decide) (by decide) hk1 hFc hP1 hD1
  generalize H1 = H at hP hS ⊢
  have hP : va_P D jd_cl [jd_dk x q, jd_ar q cA (fun j => some ((va_up a i u_) j)), jd_ym ((va_up a i u_) 0) ((va_up Y i ((Y i * 12 + (M i - 1) + jd_r6 (xs (6 * k + 2))) / 12)) 0) ((va_up M i ((Y i * 12 + (M i - 1) + jd_r6 (xs (6 * k + 2))) % 12 + 1)) 0), jd_ym ((va_up a i u_) 1) ((va_up Y i ((Y i * 12 + (M i - 1) + jd_r6 (xs (6 * k + 2))) / 12)) 1) ((va_up M i ((Y i * 12 + (M i - 1) + jd_r6 (xs (6 * k + 2))) % 12 + 1)) 1), jd_mm mo q1 q2, jd_ia q1 c1 (fun j => jd_i ((va_up Y i ((Y i * 12 + (M i - 1) + jd_r6 (xs (6 * k + 2))) / 12)) j)), jd_ia q2 c2 (fun j => jd_i ((va_up M i ((Y i * 12 + (M i - 1) + jd_r6 (xs (6 * k + 2))) % 12 + 1)) j))] H := hP
  have hD : va_D (jd_A s) [jd_dk x q, jd_ar q cA (fun j => some ((va_up a i u_) j)), jd_ym ((va_up a i u_) 0) ((va_up Y i ((Y i * 12 + (M i - 1) + jd_r6 (xs (6 * k + 2))) / 12)) 0) ((va_up M i ((Y i * 12 + (M i - 1) + jd_r6 (xs (6 * k + 2))) % 12 + 1)) 0), jd_ym ((va_up a i u_) 1) ((va_up Y i ((Y i * 12 + (M i - 1) + jd_r6 (xs (6 * k + 2))) / 12)) 1) ((va_up M i ((Y i * 12 + (M i - 1) + jd_r6 (xs (6 * k + 2))) % 12 + 1)) 1), jd_mm mo q1 q2, jd_ia q1 c1 (fun j => jd_i ((va_up Y i ((Y i * 12 + (M i - 1) + jd_r6 (xs (6 * k + 2))) / 12)) j)), jd_ia q2 c2 (fun j => jd_i ((va_up M i ((Y i * 12 + (M i - 1) + jd_r6 (xs (6 * k + 2))) % 12 + 1)) j))] := hD
  refine lv_goto (tgt := 468) hx hb dL_law_173 (by decide) ?_
  refine W.widen (k := 100 + k + 1) (n := 100 + 3 * k + 3) (by omega) (by omega) ?_
  exact hcont (va_up a i u_) (va_up Y i ((Y i * 12 + (M i - 1) + jd_r6 (xs (6 * k + 2))) / 12)) (va_up M i ((Y i * 12 + (M i - 1) + jd_r6 (xs (6 * k + 2))) % 12 + 1)) _ _ (jd_ok_up hok (by have := jd_r6_rg (xs (6 * k + 2)); omega) (by have := jd_r6_rg (xs (6 * k + 2)); omega) (by omega) (by omega)) hP hD hS
set_option maxHeartbeats 4000000 in
set_option maxRecDepth 100000 in
/-- the law, case 2: years -/
theorem law_op2 {p : Program} {l : Launch} {e : Env} {s : State} {m : MethodId} {below : List Frame} {meth : Method} {c : Code} {b L : Nat} {xs : Nat → Int32} {D : va_G} {g : Nat → Nat} {x q mo q1 q2 : Nat} {cA c1 c2 : ClassId} {Q : State → Prop} {k : Nat} {ls : Array Slot} {a : Nat → Nat} {Y M : Nat → Int} {H : Heap} {locs : List Loc} (hx : p.tables.exec = Jvm.exec) (hb : c.code = code) (hml : c.maxLocals = 4) (hown : s.vm.findClass R_law = some m.cls) (hts : ∀ w ∈ lw_all, w.before #[Value.ref b] s = true) (hX : va_X b L xs s s.heap) (hbl : b < s.heap.size) (hC : jd_C g (jd_A s) s s.heap) (hK : va_K D jd_cl [(cA, .object "YearMonth"), (c1, .int), (c2, .int)] s) (hL2 : L ≤ 288) (hL : 6 * k + 6 ≤ L) (hok : jd_ok k Y M) (hP : va_P D jd_cl (jd_LW x q cA a mo q1 q2 c1 c2 Y M) H) (hD : va_D (jd_A s) (jd_LW x q cA a mo q1 q2 c1 c2 Y M)) (hS : va_S (jd_A s) s.heap H locs) (hl : lv_has ls 4 [(0, .ref b), (1, .ref x), (2, .ref mo), (3, .int (nI (6 * k)))]) (hcont : ∀ (a2 : Nat → Nat) (Y2 M2 : Nat → Int) (H2 : Heap) (locs2 : List Loc), jd_ok (k + 1) Y2 M2 → va_P D jd_cl (jd_LW x q cA a2 mo q1 q2 c1 c2 Y2 M2) H2 → va_D (jd_A s) (jd_LW x q cA a2 mo q1 q2 c1 c2 Y2 M2) → va_S (jd_A s) s.heap H2 locs2 → W p l e room_1 s m #[Value.ref b] below meth c H2 locs2 (100 + k + 1) (100 + 3 * k + 3) Q (F0 m 468 ls [])) : W p l e room_1 s m #[Value.ref b] below meth c H locs (100 + k) (100 + 3 * k) Q (F0 m 176 ls []) := by
  have hA : ∀ q : Nat, s.heap.size ≤ q → jd_A s q := fun _ h => h
  have hbA : ¬ jd_A s b := Nat.not_le.mpr hbl
  have hP : va_P D jd_cl [jd_dk x q, jd_ar q cA (fun j => some (a j)), jd_ym (a 0) (Y 0) (M 0), jd_ym (a 1) (Y 1) (M 1), jd_mm mo q1 q2, jd_ia q1 c1 (fun j => jd_i (Y j)), jd_ia q2 c2 (fun j => jd_i (M j))] H := hP
  have hD : va_D (jd_A s) [jd_dk x q, jd_ar q cA (fun j => some (a j)), jd_ym (a 0) (Y 0) (M 0), jd_ym (a 1) (Y 1) (M 1), jd_mm mo q1 q2, jd_ia q1 c1 (fun j => jd_i (Y j)), jd_ia q2 c2 (fun j => jd_i (M j))] := hD
  obtain ⟨i, hi, hw⟩ := pk_andE (xs (6 * k + 1)) (m := 1) 1 (by decide)
  have hi : i < 2 := hi
  have hw : xs (6 * k + 1) &&& 1 = nI i := hw
  obtain ⟨b1, b2, m1, m2⟩ := hok i hi
  refine lv_aload_n hx hb dL_law_176 rfl (lv_at hl 1 rfl) ?_
  refine lv_aload_n hx hb dL_law_177 rfl (lv_at hl 0 rfl) ?_
  refine lv_iload_n hx hb dL_law_178 rfl (lv_at hl 3 rfl) ?_
  refine lv_iconst (v := jd_i 1) hx hb dL_law_179 (by decide) ?_
  refine lv_iadd hx hb dL_law_180 ?_
  refine jd_ti (y := (nI (6 * k + 1))) (nI_add (6 * k) 1) ?_
  refine jd_sld hx hb hX hbl hbA hS (show 6 * k + 1 < L by omega) hL2 dL_law_181 ?_
  refine lv_aload_n hx hb dL_law_182 rfl (lv_at hl 0 rfl) ?_
  refine lv_iload_n hx hb dL_law_183 rfl (lv_at hl 3 rfl) ?_
  refine lv_iconst (v := jd_i 2) hx hb dL_law_184 (by decide) ?_
  refine lv_iadd hx hb dL_law_185 ?_
  refine jd_ti (y := (nI (6 * k + 2))) (nI_add (6 * k) 2) ?_
  refine jd_sld hx hb hX hbl hbA hS (show 6 * k + 2 < L by omega) hL2 dL_law_186 ?_
  have hFc := va_free (wc := [jd_dk x q, jd_ar q cA (fun j => some (a j)), jd_ym (a 0) (Y 0) (M 0), jd_ym (a 1) (Y 1) (M 1)]) hD hS hA [0, 1, 2, 3] rfl
  refine va_callv (va_runV (As := [.int ((xs (6 * k + 1))), .int ((xs (6 * k + 2)))]) (rest := []) ⟨hx, hb, hml, hown, hts⟩ (metX0_years l D g x q H.size cA a Y M i (xs (6 * k + 1)) (xs (6 * k + 2)) hi hw (by omega) (by omega) m1 m2) (cwV 2 hts (lw_V q191 q192 q193 q3 q194) rfl rfl rfl (by decide +kernel) ⟨Nat.le_of_ble_eq_true rfl, Nat.le_of_ble_eq_true rfl⟩) (jd_preV (jd_mvA (jd_mvZ _) (jd_mvA (jd_mvP _ _ _) (jd_mvA (jd_mvK _ _ _) (jd_mvA (jd_mvC _) jd_C.moved)))) (va_recv hK hP (ci := 0) (q0 := 0) rfl rfl) ⟨rfl, hP.sub [0, 1, 2, 3] rfl, hK.sub [0] rfl, (hD.sub [0, 1, 2, 3] (by decide) rfl).weaken (fun _ _ _ _ => trivial), (hC.kept hS.2.1).narrow hFc⟩) rfl rfl hl.1 rfl (lv_room (Nat.le_of_ble_eq_true rfl)) dL_law_187 ⟨by show 100 + k + 1 ≤ 1200096; omega, by show 100 + 3 * k + 2 ≤ 5501386; omega⟩) hS (fun q _ h => hFc q h) hFc (fun u_ t H1 locs ht hvm hw1 hB hz1 hk1 hS => ?_)
  obtain ⟨hP1, hK1, hD1⟩ := hB
  rw [ht] at hP1
  obtain ⟨hP, hD⟩ := va_join (wr := [jd_mm mo q1 q2, jd_ia q1 c1 (fun j => jd_i (Y j)), jd_ia q2 c2 (fun j => jd_i (M j))]) (w1 := [jd_dk x q, jd_ar q cA (fun j => some ((va_up a i u_) j)), jd_ym ((va_up a i u_) 0) ((va_up Y i (if -999999 < Y i + jd_r6 (xs (6 * k + 2)) ∧ Y i + jd_r6 (xs (6 * k + 2)) < 999999 then Y i + jd_r6 (xs (6 * k + 2)) else Y i)) 0) (M 0), jd_ym ((va_up a i u_) 1) ((va_up Y i (if -999999 < Y i + jd_r6 (xs (6 * k + 2)) ∧ Y i + jd_r6 (xs (6 * k + 2)) < 999999 then Y i + jd_r6 (xs (6 * k + 2)) else Y i)) 1) (M 1)]) hP hD [0, 1, 2, 3] [4, 5, 6] rfl rfl (by decide) (by decide) hk1 hFc hP1 hD1
  generalize H1 = H at hP hS ⊢
  have hP : va_P D jd_cl [jd_mm mo q1 q2, jd_ia q1 c1 (fun j => jd_i (Y j)), jd_ia q2 c2 (fun j => jd_i (M j)), jd_dk x q, jd_ar q cA (fun j => some ((va_up a i u_) j)), jd_ym ((va_up a i u_) 0) ((va_up Y i (if -999999 < Y i + jd_r6 (xs (6 * k + 2)) ∧ Y i + jd_r6 (xs (6 * k + 2)) < 999999 then Y i + jd_r6 (xs (6 * k + 2)) else Y i)) 0) (M 0), jd_ym ((va_up a i u_) 1) ((va_up Y i (if -999999 < Y i + jd_r6 (xs (6 * k + 2)) ∧ Y i + jd_r6 (xs (6 * k + 2)) < 999999 then Y i + jd_r6 (xs (6 * k + 2)) else Y i)) 1) (M 1)] H := hP
  have hD : va_D (jd_A s) [jd_mm mo q1 q2, jd_ia q1 c1 (fun j => jd_i (Y j)), jd_ia q2 c2 (fun j => jd_i (M j)), jd_dk x q, jd_ar q cA (fun j => some ((va_up a i u_) j)), jd_ym ((va_up a i u_) 0) ((va_up Y i (if -999999 < Y i + jd_r6 (xs (6 * k + 2)) ∧ Y i + jd_r6 (xs (6 * k + 2)) < 999999 then Y i + jd_r6 (xs (6 * k + 2)) else Y i)) 0) (M 0), jd_ym ((va_up a i u_) 1) ((va_up Y i (if -999999 < Y i + jd_r6 (xs (6 * k + 2)) ∧ Y i + jd_r6 (xs (6 * k + 2)) < 999999 then Y i + jd_r6 (xs (6 * k + 2)) else Y i)) 1) (M 1)] := hD
  have hP := hP.sub (ws' := [jd_dk x q, jd_ar q cA (fun j => some ((va_up a i u_) j)), jd_ym ((va_up a i u_) 0) ((va_up Y i (if -999999 < Y i + jd_r6 (xs (6 * k + 2)) ∧ Y i + jd_r6 (xs (6 * k + 2)) < 999999 then Y i + jd_r6 (xs (6 * k + 2)) else Y i)) 0) (M 0), jd_ym ((va_up a i u_) 1) ((va_up Y i (if -999999 < Y i + jd_r6 (xs (6 * k + 2)) ∧ Y i + jd_r6 (xs (6 * k + 2)) < 999999 then Y i + jd_r6 (xs (6 * k + 2)) else Y i)) 1) (M 1), jd_mm mo q1 q2, jd_ia q1 c1 (fun j => jd_i (Y j)), jd_ia q2 c2 (fun j => jd_i (M j))]) [3, 4, 5, 6, 0, 1, 2] rfl
  have hD := hD.sub (ws' := [jd_dk x q, jd_ar q cA (fun j => some ((va_up a i u_) j)), jd_ym ((va_up a i u_) 0) ((va_up Y i (if -999999 < Y i + jd_r6 (xs (6 * k + 2)) ∧ Y i + jd_r6 (xs (6 * k + 2)) < 999999 then Y i + jd_r6 (xs (6 * k + 2)) else Y i)) 0) (M 0), jd_ym ((va_up a i u_) 1) ((va_up Y i (if -999999 < Y i + jd_r6 (xs (6 * k + 2)) ∧ Y i + jd_r6 (xs (6 * k + 2)) < 999999 then Y i + jd_r6 (xs (6 * k + 2)) else Y i)) 1) (M 1), jd_mm mo q1 q2, jd_ia q1 c1 (fun j => jd_i (Y j)), jd_ia q2 c2 (fun j => jd_i (M j))]) [3, 4, 5, 6, 0, 1, 2] (by decide) rfl
  refine lv_aload_n hx hb dL_law_190 rfl (lv_at hl 2 rfl) ?_
  refine lv_aload_n hx hb dL_law_191 rfl (lv_at hl 0 rfl) ?_
  refine lv_iload_n hx hb dL_law_192 rfl (lv_at hl 3 rfl) ?_
  refine lv_iconst (v := jd_i 1) hx hb dL_law_193 (by decide) ?_
  refine lv_iadd hx hb dL_law_194 ?_
  refine jd_ti (y := (nI (6 * k + 1))) (nI_add (6 * k) 1) ?_
  refine jd_sld hx hb hX hbl hbA hS (show 6 * k + 1 < L by omega) hL2 dL_law_195 ?_
  refine lv_aload_n hx hb dL_law_196 rfl (lv_at hl 0 rfl) ?_
  refine lv_iload_n hx hb dL_law_197 rfl (lv_at hl 3 rfl) ?_
  refine lv_iconst (v := jd_i 2) hx hb dL_law_198 (by decide) ?_
  refine lv_iadd hx hb dL_law_199 ?_
  refine jd_ti (y := (nI (6 * k + 2))) (nI_add (6 * k) 2) ?_
  refine jd_sld hx hb hX hbl hbA hS (show 6 * k + 2 < L by omega) hL2 dL_law_200 ?_
  have hFc := va_free (wc := [jd_mm mo q1 q2, jd_ia q1 c1 (fun j => jd_i (Y j)), jd_ia q2 c2 (fun j => jd_i (M j))]) hD hS hA [4, 5, 6] rfl
  refine va_callv (va_runV (As := [.int ((xs (6 * k + 1))), .int ((xs (6 * k + 2)))]) (rest := []) ⟨hx, hb, hml, hown, hts⟩ (metX5_years l D mo q1 q2 H.size c1 c2 Y M i (xs (6 * k + 1)) (xs (6 * k + 2)) hi hw (by omega) (by omega) m1 m2) (cwV 2 hts (lw_V q433 q434 q435 q12 q436) rfl rfl rfl (by decide +kernel) ⟨Nat.le_of_ble_eq_true rfl, Nat.le_of_ble_eq_true rfl⟩) (jd_preV (jd_mvA (jd_mvZ _) (jd_mvA (jd_mvP _ _ _) (jd_mvA (jd_mvK _ _ _) (jd_mvC _)))) (va_recv hK hP (ci := 3) (q0 := 4) rfl rfl) ⟨rfl, hP.sub [4, 5, 6] rfl, hK.sub [1, 2] rfl, (hD.sub [4, 5, 6] (by decide) rfl).weaken (fun _ _ _ _ => trivial)⟩) rfl rfl hl.1 rfl (lv_room (Nat.le_of_ble_eq_true rfl)) dL_law_201 ⟨by show 100 + k + 1 + 0 ≤ 1200096; omega, by show 100 + 3 * k + 2 + 0 ≤ 5501386; omega⟩) hS (fun q _ h => hFc q h) hFc (fun v_ t H1 locs ht hvm hw1 hB hz1 hk1 hS => ?_)
  obtain ⟨hP1, hK1, hD1⟩ := hB
  rw [ht] at hP1
  obtain ⟨hP, hD⟩ := va_join (wr := [jd_dk x q, jd_ar q cA (fun j => some ((va_up a i u_) j)), jd_ym ((va_up a i u_) 0) ((va_up Y i (if -999999 < Y i + jd_r6 (xs (6 * k + 2)) ∧ Y i + jd_r6 (xs (6 * k + 2)) < 999999 then Y i + jd_r6 (xs (6 * k + 2)) else Y i)) 0) (M 0), jd_ym ((va_up a i u_) 1) ((va_up Y i (if -999999 < Y i + jd_r6 (xs (6 * k + 2)) ∧ Y i + jd_r6 (xs (6 * k + 2)) < 999999 then Y i + jd_r6 (xs (6 * k + 2)) else Y i)) 1) (M 1)]) (w1 := [jd_mm mo q1 q2, jd_ia q1 c1 (fun j => jd_i ((va_up Y i (if -999999 < Y i + jd_r6 (xs (6 * k + 2)) ∧ Y i + jd_r6 (xs (6 * k + 2)) < 999999 then Y i + jd_r6 (xs (6 * k + 2)) else Y i)) j)), jd_ia q2 c2 (fun j => jd_i (M j))]) hP hD [4, 5, 6] [0, 1, 2, 3] rfl rfl (by decide) (by decide) hk1 hFc hP1 hD1
  generalize H1 = H at hP hS ⊢
  have hP : va_P D jd_cl [jd_dk x q, jd_ar q cA (fun j => some ((va_up a i u_) j)), jd_ym ((va_up a i u_) 0) ((va_up Y i (if -999999 < Y i + jd_r6 (xs (6 * k + 2)) ∧ Y i + jd_r6 (xs (6 * k + 2)) < 999999 then Y i + jd_r6 (xs (6 * k + 2)) else Y i)) 0) (M 0), jd_ym ((va_up a i u_) 1) ((va_up Y i (if -999999 < Y i + jd_r6 (xs (6 * k + 2)) ∧ Y i + jd_r6 (xs (6 * k + 2)) < 999999 then Y i + jd_r6 (xs (6 * k + 2)) else Y i)) 1) (M 1), jd_mm mo q1 q2, jd_ia q1 c1 (fun j => jd_i ((va_up Y i (if -999999 < Y i + jd_r6 (xs (6 * k + 2)) ∧ Y i + jd_r6 (xs (6 * k + 2)) < 999999 then Y i + jd_r6 (xs (6 * k + 2)) else Y i)) j)), jd_ia q2 c2 (fun j => jd_i (M j))] H := hP
  have hD : va_D (jd_A s) [jd_dk x q, jd_ar q cA (fun j => some ((va_up a i u_) j)), jd_ym ((va_up a i u_) 0) ((va_up Y i (if -999999 < Y i + jd_r6 (xs (6 * k + 2)) ∧ Y i + jd_r6 (xs (6 * k + 2)) < 999999 then Y i + jd_r6 (xs (6 * k + 2)) else Y i)) 0) (M 0), jd_ym ((va_up a i u_) 1) ((va_up Y i (if -999999 < Y i + jd_r6 (xs (6 * k + 2)) ∧ Y i + jd_r6 (xs (6 * k + 2)) < 999999 then Y i + jd_r6 (xs (6 * k + 2)) else Y i)) 1) (M 1), jd_mm mo q1 q2, jd_ia q1 c1 (fun j => jd_i ((va_up Y i (if -999999 < Y i + jd_r6 (xs (6 * k + 2)) ∧ Y i + jd_r6 (xs (6 * k + 2)) < 999999 then Y i + jd_r6 (xs (6 * k + 2)) else Y i)) j)), jd_ia q2 c2 (fun j => jd_i (M j))] := hD
  refine lv_goto (tgt := 468) hx hb dL_law_204 (by decide) ?_
  refine W.widen (k := 100 + k + 1) (n := 100 + 3 * k + 3) (by omega) (by omega) ?_
  exact hcont (va_up a i u_) (va_up Y i (if -999999 < Y i + jd_r6 (xs (6 * k + 2)) ∧ Y i + jd_r6 (xs (6 * k + 2)) < 999999 then Y i + jd_r6 (xs (6 * k + 2)) else Y i)) M _ _ (jd_ok_upY hok (by split <;> omega) (by split <;> omega)) hP hD hS
set_option maxHeartbeats 4000000 in
set_option maxRecDepth 100000 in
/-- the law, case 3: withMonth -/
theorem law_op3 {p : Program} {l : Launch} {e : Env} {s : State} {m : MethodId} {below : List Frame} {meth : Method} {c : Code} {b L : Nat} {xs : Nat → Int32} {D : va_G} {g : Nat → Nat} {x q mo q1 q2 : Nat} {cA c1 c2 : ClassId} {Q : State → Prop} {k : Nat} {ls : Array Slot} {a : Nat → Nat} {Y M : Nat → Int} {H : Heap} {locs : List Loc} (hx : p.tables.exec = Jvm.exec) (hb : c.code = code) (hml : c.maxLocals = 4) (hown : s.vm.findClass R_law = some m.cls) (hts : ∀ w ∈ lw_all, w.before #[Value.ref b] s = true) (hX : va_X b L xs s s.heap) (hbl : b < s.heap.size) (hC : jd_C g (jd_A s) s s.heap) (hK : va_K D jd_cl [(cA, .object "YearMonth"), (c1, .int), (c2, .int)] s) (hL2 : L ≤ 288) (hL : 6 * k + 6 ≤ L) (hok : jd_ok k Y M) (hP : va_P D jd_cl (jd_LW x q cA a mo q1 q2 c1 c2 Y M) H) (hD : va_D (jd_A s) (jd_LW x q cA a mo q1 q2 c1 c2 Y M)) (hS : va_S (jd_A s) s.heap H locs) (hl : lv_has ls 4 [(0, .ref b), (1, .ref x), (2, .ref mo), (3, .int (nI (6 * k)))]) (hcont : ∀ (a2 : Nat → Nat) (Y2 M2 : Nat → Int) (H2 : Heap) (locs2 : List Loc), jd_ok (k + 1) Y2 M2 → va_P D jd_cl (jd_LW x q cA a2 mo q1 q2 c1 c2 Y2 M2) H2 → va_D (jd_A s) (jd_LW x q cA a2 mo q1 q2 c1 c2 Y2 M2) → va_S (jd_A s) s.heap H2 locs2 → W p l e room_1 s m #[Value.ref b] below meth c H2 locs2 (100 + k + 1) (100 + 3 * k + 3) Q (F0 m 468 ls [])) : W p l e room_1 s m #[Value.ref b] below meth c H locs (100 + k) (100 + 3 * k) Q (F0 m 207 ls []) := by
  have hA : ∀ q : Nat, s.heap.size ≤ q → jd_A s q := fun _ h => h
  have hbA : ¬ jd_A s b := Nat.not_le.mpr hbl
  have hP : va_P D jd_cl [jd_dk x q, jd_ar q cA (fun j => some (a j)), jd_ym (a 0) (Y 0) (M 0), jd_ym (a 1) (Y 1) (M 1), jd_mm mo q1 q2, jd_ia q1 c1 (fun j => jd_i (Y j)), jd_ia q2 c2 (fun j => jd_i (M j))] H := hP
  have hD : va_D (jd_A s) [jd_dk x q, jd_ar q cA (fun j => some (a j)), jd_ym (a 0) (Y 0) (M 0), jd_ym (a 1) (Y 1) (M 1), jd_mm mo q1 q2, jd_ia q1 c1 (fun j => jd_i (Y j)), jd_ia q2 c2 (fun j => jd_i (M j))] := hD
  obtain ⟨i, hi, hw⟩ := pk_andE (xs (6 * k + 1)) (m := 1) 1 (by decide)
  have hi : i < 2 := hi
  have hw : xs (6 * k + 1) &&& 1 = nI i := hw
  obtain ⟨b1, b2, m1, m2⟩ := hok i hi
  refine lv_aload_n hx hb dL_law_207 rfl (lv_at hl 1 rfl) ?_
  refine lv_aload_n hx hb dL_law_208 rfl (lv_at hl 0 rfl) ?_
  refine lv_iload_n hx hb dL_law_209 rfl (lv_at hl 3 rfl) ?_
  refine lv_iconst (v := jd_i 1) hx hb dL_law_210 (by decide) ?_
  refine lv_iadd hx hb dL_law_211 ?_
  refine jd_ti (y := (nI (6 * k + 1))) (nI_add (6 * k) 1) ?_
  refine jd_sld hx hb hX hbl hbA hS (show 6 * k + 1 < L by omega) hL2 dL_law_212 ?_
  refine lv_aload_n hx hb dL_law_213 rfl (lv_at hl 0 rfl) ?_
  refine lv_iload_n hx hb dL_law_214 rfl (lv_at hl 3 rfl) ?_
  refine lv_iconst (v := jd_i 2) hx hb dL_law_215 (by decide) ?_
  refine lv_iadd hx hb dL_law_216 ?_
  refine jd_ti (y := (nI (6 * k + 2))) (nI_add (6 * k) 2) ?_
  refine jd_sld hx hb hX hbl hbA hS (show 6 * k + 2 < L by omega) hL2 dL_law_217 ?_
  have hFc := va_free (wc := [jd_dk x q, jd_ar q cA (fun j => some (a j)), jd_ym (a 0) (Y 0) (M 0), jd_ym (a 1) (Y 1) (M 1)]) hD hS hA [0, 1, 2, 3] rfl
  refine va_callv (va_runV (As := [.int ((xs (6 * k + 1))), .int ((xs (6 * k + 2)))]) (rest := []) ⟨hx, hb, hml, hown, hts⟩ (metX0_withMonth l D g x q H.size cA a Y M i (xs (6 * k + 1)) (xs (6 * k + 2)) hi hw (by omega) (by omega) m1 m2) (cwV 2 hts (lw_V q205 q206 q207 q3 q208) rfl rfl rfl (by decide +kernel) ⟨Nat.le_of_ble_eq_true rfl, Nat.le_of_ble_eq_true rfl⟩) (jd_preV (jd_mvA (jd_mvZ _) (jd_mvA (jd_mvP _ _ _) (jd_mvA (jd_mvK _ _ _) (jd_mvA (jd_mvC _) jd_C.moved)))) (va_recv hK hP (ci := 0) (q0 := 0) rfl rfl) ⟨rfl, hP.sub [0, 1, 2, 3] rfl, hK.sub [0] rfl, (hD.sub [0, 1, 2, 3] (by decide) rfl).weaken (fun _ _ _ _ => trivial), (hC.kept hS.2.1).narrow hFc⟩) rfl rfl hl.1 rfl (lv_room (Nat.le_of_ble_eq_true rfl)) dL_law_218 ⟨by show 100 + k + 1 ≤ 1200096; omega, by show 100 + 3 * k + 2 ≤ 5501386; omega⟩) hS (fun q _ h => hFc q h) hFc (fun u_ t H1 locs ht hvm hw1 hB hz1 hk1 hS => ?_)
  obtain ⟨hP1, hK1, hD1⟩ := hB
  rw [ht] at hP1
  obtain ⟨hP, hD⟩ := va_join (wr := [jd_mm mo q1 q2, jd_ia q1 c1 (fun j => jd_i (Y j)), jd_ia q2 c2 (fun j => jd_i (M j))]) (w1 := [jd_dk x q, jd_ar q cA (fun j => some ((va_up a i u_) j)), jd_ym ((va_up a i u_) 0) (Y 0) ((va_up M i (jd_mf (xs (6 * k + 2)))) 0), jd_ym ((va_up a i u_) 1) (Y 1) ((va_up M i (jd_mf (xs (6 * k + 2)))) 1)]) hP hD [0, 1, 2, 3] [4, 5, 6] rfl rfl (by decide) (by decide) hk1 hFc hP1 hD1
  generalize H1 = H at hP hS ⊢
  have hP : va_P D jd_cl [jd_mm mo q1 q2, jd_ia q1 c1 (fun j => jd_i (Y j)), jd_ia q2 c2 (fun j => jd_i (M j)), jd_dk x q, jd_ar q cA (fun j => some ((va_up a i u_) j)), jd_ym ((va_up a i u_) 0) (Y 0) ((va_up M i (jd_mf (xs (6 * k + 2)))) 0), jd_ym ((va_up a i u_) 1) (Y 1) ((va_up M i (jd_mf (xs (6 * k + 2)))) 1)] H := hP
  have hD : va_D (jd_A s) [jd_mm mo q1 q2, jd_ia q1 c1 (fun j => jd_i (Y j)), jd_ia q2 c2 (fun j => jd_i (M j)), jd_dk x q, jd_ar q cA (fun j => some ((va_up a i u_) j)), jd_ym ((va_up a i u_) 0) (Y 0) ((va_up M i (jd_mf (xs (6 * k + 2)))) 0), jd_ym ((va_up a i u_) 1) (Y 1) ((va_up M i (jd_mf (xs (6 * k + 2)))) 1)] := hD
  have hP := hP.sub (ws' := [jd_dk x q, jd_ar q cA (fun j => some ((va_up a i u_) j)), jd_ym ((va_up a i u_) 0) (Y 0) ((va_up M i (jd_mf (xs (6 * k + 2)))) 0), jd_ym ((va_up a i u_) 1) (Y 1) ((va_up M i (jd_mf (xs (6 * k + 2)))) 1), jd_mm mo q1 q2, jd_ia q1 c1 (fun j => jd_i (Y j)), jd_ia q2 c2 (fun j => jd_i (M j))]) [3, 4, 5, 6, 0, 1, 2] rfl
  have hD := hD.sub (ws' := [jd_dk x q, jd_ar q cA (fun j => some ((va_up a i u_) j)), jd_ym ((va_up a i u_) 0) (Y 0) ((va_up M i (jd_mf (xs (6 * k + 2)))) 0), jd_ym ((va_up a i u_) 1) (Y 1) ((va_up M i (jd_mf (xs (6 * k + 2)))) 1), jd_mm mo q1 q2, jd_ia q1 c1 (fun j => jd_i (Y j)), jd_ia q2 c2 (fun j => jd_i (M j))]) [3, 4, 5, 6, 0, 1, 2] (by decide) rfl
  refine lv_aload_n hx hb dL_law_221 rfl (lv_at hl 2 rfl) ?_
  refine lv_aload_n hx hb dL_law_222 rfl (lv_at hl 0 rfl) ?_
  refine lv_iload_n hx hb dL_law_223 rfl (lv_at hl 3 rfl) ?_
  refine lv_iconst (v := jd_i 1) hx hb dL_law_224 (by decide) ?_
  refine lv_iadd hx hb dL_law_225 ?_
  refine jd_ti (y := (nI (6 * k + 1))) (nI_add (6 * k) 1) ?_
  refine jd_sld hx hb hX hbl hbA hS (show 6 * k + 1 < L by omega) hL2 dL_law_226 ?_
  refine lv_aload_n hx hb dL_law_227 rfl (lv_at hl 0 rfl) ?_
  refine lv_iload_n hx hb dL_law_228 rfl (lv_at hl 3 rfl) ?_
  refine lv_iconst (v := jd_i 2) hx hb dL_law_229 (by decide) ?_
  refine lv_iadd hx hb dL_law_230 ?_
  refine jd_ti (y := (nI (6 * k + 2))) (nI_add (6 * k) 2) ?_
  refine jd_sld hx hb hX hbl hbA hS (show 6 * k + 2 < L by omega) hL2 dL_law_231 ?_
  have hFc := va_free (wc := [jd_mm mo q1 q2, jd_ia q1 c1 (fun j => jd_i (Y j)), jd_ia q2 c2 (fun j => jd_i (M j))]) hD hS hA [4, 5, 6] rfl
  refine va_callv (va_runV (As := [.int ((xs (6 * k + 1))), .int ((xs (6 * k + 2)))]) (rest := []) ⟨hx, hb, hml, hown, hts⟩ (metX5_withMonth l D mo q1 q2 H.size c1 c2 Y M i (xs (6 * k + 1)) (xs (6 * k + 2)) hi hw (by omega) (by omega) m1 m2) (cwV 2 hts (lw_V q439 q440 q441 q12 q442) rfl rfl rfl (by decide +kernel) ⟨Nat.le_of_ble_eq_true rfl, Nat.le_of_ble_eq_true rfl⟩) (jd_preV (jd_mvA (jd_mvZ _) (jd_mvA (jd_mvP _ _ _) (jd_mvA (jd_mvK _ _ _) (jd_mvC _)))) (va_recv hK hP (ci := 3) (q0 := 4) rfl rfl) ⟨rfl, hP.sub [4, 5, 6] rfl, hK.sub [1, 2] rfl, (hD.sub [4, 5, 6] (by decide) rfl).weaken (fun _ _ _ _ => trivial)⟩) rfl rfl hl.1 rfl (lv_room (Nat.le_of_ble_eq_true rfl)) dL_law_232 ⟨by show 100 + k + 1 + 0 ≤ 1200096; omega, by show 100 + 3 * k + 2 + 0 ≤ 5501386; omega⟩) hS (fun q _ h => hFc q h) hFc (fun v_ t H1 locs ht hvm hw1 hB hz1 hk1 hS => ?_)
  obtain ⟨hP1, hK1, hD1⟩ := hB
  rw [ht] at hP1
  obtain ⟨hP, hD⟩ := va_join (wr := [jd_dk x q, jd_ar q cA (fun j => some ((va_up a i u_) j)), jd_ym ((va_up a i u_) 0) (Y 0) ((va_up M i (jd_mf (xs (6 * k + 2)))) 0), jd_ym ((va_up a i u_) 1) (Y 1) ((va_up M i (jd_mf (xs (6 * k + 2)))) 1)]) (w1 := [jd_mm mo q1 q2, jd_ia q1 c1 (fun j => jd_i (Y j)), jd_ia q2 c2 (fun j => jd_i ((va_up M i (jd_mf (xs (6 * k + 2)))) j))]) hP hD [4, 5, 6] [0, 1, 2, 3] rfl rfl (by decide) (by decide) hk1 hFc hP1 hD1
  generalize H1 = H at hP hS ⊢
  have hP : va_P D jd_cl [jd_dk x q, jd_ar q cA (fun j => some ((va_up a i u_) j)), jd_ym ((va_up a i u_) 0) (Y 0) ((va_up M i (jd_mf (xs (6 * k + 2)))) 0), jd_ym ((va_up a i u_) 1) (Y 1) ((va_up M i (jd_mf (xs (6 * k + 2)))) 1), jd_mm mo q1 q2, jd_ia q1 c1 (fun j => jd_i (Y j)), jd_ia q2 c2 (fun j => jd_i ((va_up M i (jd_mf (xs (6 * k + 2)))) j))] H := hP
  have hD : va_D (jd_A s) [jd_dk x q, jd_ar q cA (fun j => some ((va_up a i u_) j)), jd_ym ((va_up a i u_) 0) (Y 0) ((va_up M i (jd_mf (xs (6 * k + 2)))) 0), jd_ym ((va_up a i u_) 1) (Y 1) ((va_up M i (jd_mf (xs (6 * k + 2)))) 1), jd_mm mo q1 q2, jd_ia q1 c1 (fun j => jd_i (Y j)), jd_ia q2 c2 (fun j => jd_i ((va_up M i (jd_mf (xs (6 * k + 2)))) j))] := hD
  refine lv_goto (tgt := 468) hx hb dL_law_235 (by decide) ?_
  refine W.widen (k := 100 + k + 1) (n := 100 + 3 * k + 3) (by omega) (by omega) ?_
  exact hcont (va_up a i u_) Y (va_up M i (jd_mf (xs (6 * k + 2)))) _ _ (jd_ok_upM hok (jd_mf_rg _).1 (jd_mf_rg _).2) hP hD hS
set_option maxHeartbeats 4000000 in
set_option maxRecDepth 100000 in
/-- the law, case 4: withYear -/
theorem law_op4 {p : Program} {l : Launch} {e : Env} {s : State} {m : MethodId} {below : List Frame} {meth : Method} {c : Code} {b L : Nat} {xs : Nat → Int32} {D : va_G} {g : Nat → Nat} {x q mo q1 q2 : Nat} {cA c1 c2 : ClassId} {Q : State → Prop} {k : Nat} {ls : Array Slot} {a : Nat → Nat} {Y M : Nat → Int} {H : Heap} {locs : List Loc} (hx : p.tables.exec = Jvm.exec) (hb : c.code = code) (hml : c.maxLocals = 4) (hown : s.vm.findClass R_law = some m.cls) (hts : ∀ w ∈ lw_all, w.before #[Value.ref b] s = true) (hX : va_X b L xs s s.heap) (hbl : b < s.heap.size) (hC : jd_C g (jd_A s) s s.heap) (hK : va_K D jd_cl [(cA, .object "YearMonth"), (c1, .int), (c2, .int)] s) (hL2 : L ≤ 288) (hL : 6 * k + 6 ≤ L) (hok : jd_ok k Y M) (hP : va_P D jd_cl (jd_LW x q cA a mo q1 q2 c1 c2 Y M) H) (hD : va_D (jd_A s) (jd_LW x q cA a mo q1 q2 c1 c2 Y M)) (hS : va_S (jd_A s) s.heap H locs) (hl : lv_has ls 4 [(0, .ref b), (1, .ref x), (2, .ref mo), (3, .int (nI (6 * k)))]) (hcont : ∀ (a2 : Nat → Nat) (Y2 M2 : Nat → Int) (H2 : Heap) (locs2 : List Loc), jd_ok (k + 1) Y2 M2 → va_P D jd_cl (jd_LW x q cA a2 mo q1 q2 c1 c2 Y2 M2) H2 → va_D (jd_A s) (jd_LW x q cA a2 mo q1 q2 c1 c2 Y2 M2) → va_S (jd_A s) s.heap H2 locs2 → W p l e room_1 s m #[Value.ref b] below meth c H2 locs2 (100 + k + 1) (100 + 3 * k + 3) Q (F0 m 468 ls [])) : W p l e room_1 s m #[Value.ref b] below meth c H locs (100 + k) (100 + 3 * k) Q (F0 m 238 ls []) := by
  have hA : ∀ q : Nat, s.heap.size ≤ q → jd_A s q := fun _ h => h
  have hbA : ¬ jd_A s b := Nat.not_le.mpr hbl
  have hP : va_P D jd_cl [jd_dk x q, jd_ar q cA (fun j => some (a j)), jd_ym (a 0) (Y 0) (M 0), jd_ym (a 1) (Y 1) (M 1), jd_mm mo q1 q2, jd_ia q1 c1 (fun j => jd_i (Y j)), jd_ia q2 c2 (fun j => jd_i (M j))] H := hP
  have hD : va_D (jd_A s) [jd_dk x q, jd_ar q cA (fun j => some (a j)), jd_ym (a 0) (Y 0) (M 0), jd_ym (a 1) (Y 1) (M 1), jd_mm mo q1 q2, jd_ia q1 c1 (fun j => jd_i (Y j)), jd_ia q2 c2 (fun j => jd_i (M j))] := hD
  obtain ⟨i, hi, hw⟩ := pk_andE (xs (6 * k + 1)) (m := 1) 1 (by decide)
  have hi : i < 2 := hi
  have hw : xs (6 * k + 1) &&& 1 = nI i := hw
  obtain ⟨b1, b2, m1, m2⟩ := hok i hi
  refine lv_aload_n hx hb dL_law_238 rfl (lv_at hl 1 rfl) ?_
  refine lv_aload_n hx hb dL_law_239 rfl (lv_at hl 0 rfl) ?_
  refine lv_iload_n hx hb dL_law_240 rfl (lv_at hl 3 rfl) ?_
  refine lv_iconst (v := jd_i 1) hx hb dL_law_241 (by decide) ?_
  refine lv_iadd hx hb dL_law_242 ?_
  refine jd_ti (y := (nI (6 * k + 1))) (nI_add (6 * k) 1) ?_
  refine jd_sld hx hb hX hbl hbA hS (show 6 * k + 1 < L by omega) hL2 dL_law_243 ?_
  refine lv_aload_n hx hb dL_law_244 rfl (lv_at hl 0 rfl) ?_
  refine lv_iload_n hx hb dL_law_245 rfl (lv_at hl 3 rfl) ?_
  refine lv_iconst (v := jd_i 2) hx hb dL_law_246 (by decide) ?_
  refine lv_iadd hx hb dL_law_247 ?_
  refine jd_ti (y := (nI (6 * k + 2))) (nI_add (6 * k) 2) ?_
  refine jd_sld hx hb hX hbl hbA hS (show 6 * k + 2 < L by omega) hL2 dL_law_248 ?_
  have hFc := va_free (wc := [jd_dk x q, jd_ar q cA (fun j => some (a j)), jd_ym (a 0) (Y 0) (M 0), jd_ym (a 1) (Y 1) (M 1)]) hD hS hA [0, 1, 2, 3] rfl
  refine va_callv (va_runV (As := [.int ((xs (6 * k + 1))), .int ((xs (6 * k + 2)))]) (rest := []) ⟨hx, hb, hml, hown, hts⟩ (metX0_withYear l D g x q H.size cA a Y M i (xs (6 * k + 1)) (xs (6 * k + 2)) hi hw (by omega) (by omega) m1 m2) (cwV 2 hts (lw_V q213 q214 q215 q3 q216) rfl rfl rfl (by decide +kernel) ⟨Nat.le_of_ble_eq_true rfl, Nat.le_of_ble_eq_true rfl⟩) (jd_preV (jd_mvA (jd_mvZ _) (jd_mvA (jd_mvP _ _ _) (jd_mvA (jd_mvK _ _ _) (jd_mvA (jd_mvC _) jd_C.moved)))) (va_recv hK hP (ci := 0) (q0 := 0) rfl rfl) ⟨rfl, hP.sub [0, 1, 2, 3] rfl, hK.sub [0] rfl, (hD.sub [0, 1, 2, 3] (by decide) rfl).weaken (fun _ _ _ _ => trivial), (hC.kept hS.2.1).narrow hFc⟩) rfl rfl hl.1 rfl (lv_room (Nat.le_of_ble_eq_true rfl)) dL_law_249 ⟨by show 100 + k + 1 ≤ 1200096; omega, by show 100 + 3 * k + 2 ≤ 5501386; omega⟩) hS (fun q _ h => hFc q h) hFc (fun u_ t H1 locs ht hvm hw1 hB hz1 hk1 hS => ?_)
  obtain ⟨hP1, hK1, hD1⟩ := hB
  rw [ht] at hP1
  obtain ⟨hP, hD⟩ := va_join (wr := [jd_mm mo q1 q2, jd_ia q1 c1 (fun j => jd_i (Y j)), jd_ia q2 c2 (fun j => jd_i (M j))]) (w1 := [jd_dk x q, jd_ar q cA (fun j => some ((va_up a i u_) j)), jd_ym ((va_up a i u_) 0) ((va_up Y i (jd_r6 (xs (6 * k + 2)))) 0) (M 0), jd_ym ((va_up a i u_) 1) ((va_up Y i (jd_r6 (xs (6 * k + 2)))) 1) (M 1)]) hP hD [0, 1, 2, 3] [4, 5, 6] rfl rfl (by decide) (by decide) hk1 hFc hP1 hD1
  generalize H1 = H at hP hS ⊢
  have hP : va_P D jd_cl [jd_mm mo q1 q2, jd_ia q1 c1 (fun j => jd_i (Y j)), jd_ia q2 c2 (fun j => jd_i (M j)), jd_dk x q, jd_ar q cA (fun j => some ((va_up a i u_) j)), jd_ym ((va_up a i u_) 0) ((va_up Y i (jd_r6 (xs (6 * k + 2)))) 0) (M 0), jd_ym ((va_up a i u_) 1) ((va_up Y i (jd_r6 (xs (6 * k + 2)))) 1) (M 1)] H := hP
  have hD : va_D (jd_A s) [jd_mm mo q1 q2, jd_ia q1 c1 (fun j => jd_i (Y j)), jd_ia q2 c2 (fun j => jd_i (M j)), jd_dk x q, jd_ar q cA (fun j => some ((va_up a i u_) j)), jd_ym ((va_up a i u_) 0) ((va_up Y i (jd_r6 (xs (6 * k + 2)))) 0) (M 0), jd_ym ((va_up a i u_) 1) ((va_up Y i (jd_r6 (xs (6 * k + 2)))) 1) (M 1)] := hD
  have hP := hP.sub (ws' := [jd_dk x q, jd_ar q cA (fun j => some ((va_up a i u_) j)), jd_ym ((va_up a i u_) 0) ((va_up Y i (jd_r6 (xs (6 * k + 2)))) 0) (M 0), jd_ym ((va_up a i u_) 1) ((va_up Y i (jd_r6 (xs (6 * k + 2)))) 1) (M 1), jd_mm mo q1 q2, jd_ia q1 c1 (fun j => jd_i (Y j)), jd_ia q2 c2 (fun j => jd_i (M j))]) [3, 4, 5, 6, 0, 1, 2] rfl
  have hD := hD.sub (ws' := [jd_dk x q, jd_ar q cA (fun j => some ((va_up a i u_) j)), jd_ym ((va_up a i u_) 0) ((va_up Y i (jd_r6 (xs (6 * k + 2)))) 0) (M 0), jd_ym ((va_up a i u_) 1) ((va_up Y i (jd_r6 (xs (6 * k + 2)))) 1) (M 1), jd_mm mo q1 q2, jd_ia q1 c1 (fun j => jd_i (Y j)), jd_ia q2 c2 (fun j => jd_i (M j))]) [3, 4, 5, 6, 0, 1, 2] (by decide) rfl
  refine lv_aload_n hx hb dL_law_252 rfl (lv_at hl 2 rfl) ?_
  refine lv_aload_n hx hb dL_law_253 rfl (lv_at hl 0 rfl) ?_
  refine lv_iload_n hx hb dL_law_254 rfl (lv_at hl 3 rfl) ?_
  refine lv_iconst (v := jd_i 1) hx hb dL_law_255 (by decide) ?_
  refine lv_iadd hx hb dL_law_256 ?_
  refine jd_ti (y := (nI (6 * k + 1))) (nI_add (6 * k) 1) ?_
  refine jd_sld hx hb hX hbl hbA hS (show 6 * k + 1 < L by omega) hL2 dL_law_257 ?_
  refine lv_aload_n hx hb dL_law_258 rfl (lv_at hl 0 rfl) ?_
  refine lv_iload_n hx hb dL_law_259 rfl (lv_at hl 3 rfl) ?_
  refine lv_iconst (v := jd_i 2) hx hb dL_law_260 (by decide) ?_
  refine lv_iadd hx hb dL_law_261 ?_
  refine jd_ti (y := (nI (6 * k + 2))) (nI_add (6 * k) 2) ?_
  refine jd_sld hx hb hX hbl hbA hS (show 6 * k + 2 < L by omega) hL2 dL_law_262 ?_
  have hFc := va_free (wc := [jd_mm mo q1 q2, jd_ia q1 c1 (fun j => jd_i (Y j)), jd_ia q2 c2 (fun j => jd_i (M j))]) hD hS hA [4, 5, 6] rfl
  refine va_callv (va_runV (As := [.int ((xs (6 * k + 1))), .int ((xs (6 * k + 2)))]) (rest := []) ⟨hx, hb, hml, hown, hts⟩ (metX5_withYear l D mo q1 q2 H.size c1 c2 Y M i (xs (6 * k + 1)) (xs (6 * k + 2)) hi hw (by omega) (by omega) m1 m2) (cwV 2 hts (lw_V q443 q444 q445 q12 q446) rfl rfl rfl (by decide +kernel) ⟨Nat.le_of_ble_eq_true rfl, Nat.le_of_ble_eq_true rfl⟩) (jd_preV (jd_mvA (jd_mvZ _) (jd_mvA (jd_mvP _ _ _) (jd_mvA (jd_mvK _ _ _) (jd_mvC _)))) (va_recv hK hP (ci := 3) (q0 := 4) rfl rfl) ⟨rfl, hP.sub [4, 5, 6] rfl, hK.sub [1, 2] rfl, (hD.sub [4, 5, 6] (by decide) rfl).weaken (fun _ _ _ _ => trivial)⟩) rfl rfl hl.1 rfl (lv_room (Nat.le_of_ble_eq_true rfl)) dL_law_263 ⟨by show 100 + k + 1 + 0 ≤ 1200096; omega, by show 100 + 3 * k + 2 + 0 ≤ 5501386; omega⟩) hS (fun q _ h => hFc q h) hFc (fun v_ t H1 locs ht hvm hw1 hB hz1 hk1 hS => ?_)
  obtain ⟨hP1, hK1, hD1⟩ := hB
  rw [ht] at hP1
  obtain ⟨hP, hD⟩ := va_join (wr := [jd_dk x q, jd_ar q cA (fun j => some ((va_up a i u_) j)), jd_ym ((va_up a i u_) 0) ((va_up Y i (jd_r6 (xs (6 * k + 2)))) 0) (M 0), jd_ym ((va_up a i u_) 1) ((va_up Y i (jd_r6 (xs (6 * k + 2)))) 1) (M 1)]) (w1 := [jd_mm mo q1 q2, jd_ia q1 c1 (fun j => jd_i ((va_up Y i (jd_r6 (xs (6 * k + 2)))) j)), jd_ia q2 c2 (fun j => jd_i (M j))]) hP hD [4, 5, 6] [0, 1, 2, 3] rfl rfl (by decide) (by decide) hk1 hFc hP1 hD1
  generalize H1 = H at hP hS ⊢
  have hP : va_P D jd_cl [jd_dk x q, jd_ar q cA (fun j => some ((va_up a i u_) j)), jd_ym ((va_up a i u_) 0) ((va_up Y i (jd_r6 (xs (6 * k + 2)))) 0) (M 0), jd_ym ((va_up a i u_) 1) ((va_up Y i (jd_r6 (xs (6 * k + 2)))) 1) (M 1), jd_mm mo q1 q2, jd_ia q1 c1 (fun j => jd_i ((va_up Y i (jd_r6 (xs (6 * k + 2)))) j)), jd_ia q2 c2 (fun j => jd_i (M j))] H := hP
  have hD : va_D (jd_A s) [jd_dk x q, jd_ar q cA (fun j => some ((va_up a i u_) j)), jd_ym ((va_up a i u_) 0) ((va_up Y i (jd_r6 (xs (6 * k + 2)))) 0) (M 0), jd_ym ((va_up a i u_) 1) ((va_up Y i (jd_r6 (xs (6 * k + 2)))) 1) (M 1), jd_mm mo q1 q2, jd_ia q1 c1 (fun j => jd_i ((va_up Y i (jd_r6 (xs (6 * k + 2)))) j)), jd_ia q2 c2 (fun j => jd_i (M j))] := hD
  refine lv_goto (tgt := 468) hx hb dL_law_266 (by decide) ?_
  refine W.widen (k := 100 + k + 1) (n := 100 + 3 * k + 3) (by omega) (by omega) ?_
  exact hcont (va_up a i u_) (va_up Y i (jd_r6 (xs (6 * k + 2)))) M _ _ (jd_ok_upY hok (by have := jd_r6_rg (xs (6 * k + 2)); omega) (by have := jd_r6_rg (xs (6 * k + 2)); omega)) hP hD hS
set_option maxHeartbeats 4000000 in
set_option maxRecDepth 100000 in
/-- the law, case 5: year -/
theorem law_op5 {p : Program} {l : Launch} {e : Env} {s : State} {m : MethodId} {below : List Frame} {meth : Method} {c : Code} {b L : Nat} {xs : Nat → Int32} {D : va_G} {g : Nat → Nat} {x q mo q1 q2 : Nat} {cA c1 c2 : ClassId} {Q : State → Prop} {k : Nat} {ls : Array Slot} {a : Nat → Nat} {Y M : Nat → Int} {H : Heap} {locs : List Loc} (hx : p.tables.exec = Jvm.exec) (hb : c.code = code) (hml : c.maxLocals = 4) (hown : s.vm.findClass R_law = some m.cls) (hts : ∀ w ∈ lw_all, w.before #[Value.ref b] s = true) (hX : va_X b L xs s s.heap) (hbl : b < s.heap.size) (hC : jd_C g (jd_A s) s s.heap) (hK : va_K D jd_cl [(cA, .object "YearMonth"), (c1, .int), (c2, .int)] s) (hL2 : L ≤ 288) (hL : 6 * k + 6 ≤ L) (hok : jd_ok k Y M) (hP : va_P D jd_cl (jd_LW x q cA a mo q1 q2 c1 c2 Y M) H) (hD : va_D (jd_A s) (jd_LW x q cA a mo q1 q2 c1 c2 Y M)) (hS : va_S (jd_A s) s.heap H locs) (hl : lv_has ls 4 [(0, .ref b), (1, .ref x), (2, .ref mo), (3, .int (nI (6 * k)))]) (hcont : ∀ (a2 : Nat → Nat) (Y2 M2 : Nat → Int) (H2 : Heap) (locs2 : List Loc), jd_ok (k + 1) Y2 M2 → va_P D jd_cl (jd_LW x q cA a2 mo q1 q2 c1 c2 Y2 M2) H2 → va_D (jd_A s) (jd_LW x q cA a2 mo q1 q2 c1 c2 Y2 M2) → va_S (jd_A s) s.heap H2 locs2 → W p l e room_1 s m #[Value.ref b] below meth c H2 locs2 (100 + k + 1) (100 + 3 * k + 3) Q (F0 m 468 ls [])) : W p l e room_1 s m #[Value.ref b] below meth c H locs (100 + k) (100 + 3 * k) Q (F0 m 269 ls []) := by
  have hA : ∀ q : Nat, s.heap.size ≤ q → jd_A s q := fun _ h => h
  have hbA : ¬ jd_A s b := Nat.not_le.mpr hbl
  have hP : va_P D jd_cl [jd_dk x q, jd_ar q cA (fun j => some (a j)), jd_ym (a 0) (Y 0) (M 0), jd_ym (a 1) (Y 1) (M 1), jd_mm mo q1 q2, jd_ia q1 c1 (fun j => jd_i (Y j)), jd_ia q2 c2 (fun j => jd_i (M j))] H := hP
  have hD : va_D (jd_A s) [jd_dk x q, jd_ar q cA (fun j => some (a j)), jd_ym (a 0) (Y 0) (M 0), jd_ym (a 1) (Y 1) (M 1), jd_mm mo q1 q2, jd_ia q1 c1 (fun j => jd_i (Y j)), jd_ia q2 c2 (fun j => jd_i (M j))] := hD
  obtain ⟨i, hi, hw⟩ := pk_andE (xs (6 * k + 1)) (m := 1) 1 (by decide)
  have hi : i < 2 := hi
  have hw : xs (6 * k + 1) &&& 1 = nI i := hw
  obtain ⟨b1, b2, m1, m2⟩ := hok i hi
  refine lv_aload_n hx hb dL_law_269 rfl (lv_at hl 1 rfl) ?_
  refine lv_aload_n hx hb dL_law_270 rfl (lv_at hl 0 rfl) ?_
  refine lv_iload_n hx hb dL_law_271 rfl (lv_at hl 3 rfl) ?_
  refine lv_iconst (v := jd_i 1) hx hb dL_law_272 (by decide) ?_
  refine lv_iadd hx hb dL_law_273 ?_
  refine jd_ti (y := (nI (6 * k + 1))) (nI_add (6 * k) 1) ?_
  refine jd_sld hx hb hX hbl hbA hS (show 6 * k + 1 < L by omega) hL2 dL_law_274 ?_
  refine vp_callSi (W.runV (As := [.int ((xs (6 * k + 1)))]) (rest := []) ⟨hx, hb, hml, hown, hts⟩ (metX0_year l D g x q cA a Y M i (xs (6 * k + 1)) hi hw (by omega) (by omega) m1 m2) (cwV 1 hts (lw_V q221 q222 q223 q3 q224) rfl rfl rfl (by decide +kernel) ⟨Nat.le_of_ble_eq_true rfl, Nat.le_of_ble_eq_true rfl⟩) (jd_preV (jd_mvA (jd_mvP _ _ _) (jd_mvK _ _ _)) (va_recv hK hP (ci := 0) (q0 := 0) rfl rfl) ⟨hP.sub [0, 1, 2, 3] rfl, hK.sub [0] rfl⟩) rfl rfl hl.1 rfl (lv_room (Nat.le_of_ble_eq_true rfl)) dL_law_275 ⟨by show 100 + k + 0 ≤ 1200096; omega, by show 100 + 3 * k + 0 ≤ 5501386; omega⟩) (fun r_1 hr_1 => ?_)
  obtain rfl : (jd_i ((Y i))) = r_1 := Eq.symm hr_1
  refine lv_aload_n hx hb dL_law_278 rfl (lv_at hl 2 rfl) ?_
  refine lv_aload_n hx hb dL_law_279 rfl (lv_at hl 0 rfl) ?_
  refine lv_iload_n hx hb dL_law_280 rfl (lv_at hl 3 rfl) ?_
  refine lv_iconst (v := jd_i 1) hx hb dL_law_281 (by decide) ?_
  refine lv_iadd hx hb dL_law_282 ?_
  refine jd_ti (y := (nI (6 * k + 1))) (nI_add (6 * k) 1) ?_
  refine jd_sld hx hb hX hbl hbA hS (show 6 * k + 1 < L by omega) hL2 dL_law_283 ?_
  refine vp_callSi (W.runV (As := [.int ((xs (6 * k + 1)))]) (rest := [.int (jd_i ((Y i)))]) ⟨hx, hb, hml, hown, hts⟩ (metX5_year l D mo q1 q2 c1 c2 Y M i (xs (6 * k + 1)) hi hw (by omega) (by omega) m1 m2) (cwV 1 hts (lw_V q447 q448 q449 q12 q450) rfl rfl rfl (by decide +kernel) ⟨Nat.le_of_ble_eq_true rfl, Nat.le_of_ble_eq_true rfl⟩) (jd_preV (jd_mvA (jd_mvP _ _ _) (jd_mvK _ _ _)) (va_recv hK hP (ci := 3) (q0 := 4) rfl rfl) ⟨hP.sub [4, 5, 6] rfl, hK.sub [1, 2] rfl⟩) rfl rfl hl.1 rfl (lv_room (Nat.le_of_ble_eq_true rfl)) dL_law_284 ⟨by show 100 + k + 0 ≤ 1200096; omega, by show 100 + 3 * k + 0 ≤ 5501386; omega⟩) (fun r_2 hr_2 => ?_)
  obtain rfl : (jd_i ((Y i))) = r_2 := Eq.symm hr_2
  refine lv_icmp_eq (tgt := 468) hx hb dL_law_287 (by decide) (fun _ => ?_) (fun c9 => absurd rfl c9)
  refine W.widen (k := 100 + k + 1) (n := 100 + 3 * k + 3) (by omega) (by omega) ?_
  exact hcont a Y M _ _ (jd_ok_mono hok) hP hD hS
set_option maxHeartbeats 4000000 in
set_option maxRecDepth 100000 in
/-- the law, case 6: month -/
theorem law_op6 {p : Program} {l : Launch} {e : Env} {s : State} {m : MethodId} {below : List Frame} {meth : Method} {c : Code} {b L : Nat} {xs : Nat → Int32} {D : va_G} {g : Nat → Nat} {x q mo q1 q2 : Nat} {cA c1 c2 : ClassId} {Q : State → Prop} {k : Nat} {ls : Array Slot} {a : Nat → Nat} {Y M : Nat → Int} {H : Heap} {locs : List Loc} (hx : p.tables.exec = Jvm.exec) (hb : c.code = code) (hml : c.maxLocals = 4) (hown : s.vm.findClass R_law = some m.cls) (hts : ∀ w ∈ lw_all, w.before #[Value.ref b] s = true) (hX : va_X b L xs s s.heap) (hbl : b < s.heap.size) (hC : jd_C g (jd_A s) s s.heap) (hK : va_K D jd_cl [(cA, .object "YearMonth"), (c1, .int), (c2, .int)] s) (hL2 : L ≤ 288) (hL : 6 * k + 6 ≤ L) (hok : jd_ok k Y M) (hP : va_P D jd_cl (jd_LW x q cA a mo q1 q2 c1 c2 Y M) H) (hD : va_D (jd_A s) (jd_LW x q cA a mo q1 q2 c1 c2 Y M)) (hS : va_S (jd_A s) s.heap H locs) (hl : lv_has ls 4 [(0, .ref b), (1, .ref x), (2, .ref mo), (3, .int (nI (6 * k)))]) (hcont : ∀ (a2 : Nat → Nat) (Y2 M2 : Nat → Int) (H2 : Heap) (locs2 : List Loc), jd_ok (k + 1) Y2 M2 → va_P D jd_cl (jd_LW x q cA a2 mo q1 q2 c1 c2 Y2 M2) H2 → va_D (jd_A s) (jd_LW x q cA a2 mo q1 q2 c1 c2 Y2 M2) → va_S (jd_A s) s.heap H2 locs2 → W p l e room_1 s m #[Value.ref b] below meth c H2 locs2 (100 + k + 1) (100 + 3 * k + 3) Q (F0 m 468 ls [])) : W p l e room_1 s m #[Value.ref b] below meth c H locs (100 + k) (100 + 3 * k) Q (F0 m 292 ls []) := by
  have hA : ∀ q : Nat, s.heap.size ≤ q → jd_A s q := fun _ h => h
  have hbA : ¬ jd_A s b := Nat.not_le.mpr hbl
  have hP : va_P D jd_cl [jd_dk x q, jd_ar q cA (fun j => some (a j)), jd_ym (a 0) (Y 0) (M 0), jd_ym (a 1) (Y 1) (M 1), jd_mm mo q1 q2, jd_ia q1 c1 (fun j => jd_i (Y j)), jd_ia q2 c2 (fun j => jd_i (M j))] H := hP
  have hD : va_D (jd_A s) [jd_dk x q, jd_ar q cA (fun j => some (a j)), jd_ym (a 0) (Y 0) (M 0), jd_ym (a 1) (Y 1) (M 1), jd_mm mo q1 q2, jd_ia q1 c1 (fun j => jd_i (Y j)), jd_ia q2 c2 (fun j => jd_i (M j))] := hD
  obtain ⟨i, hi, hw⟩ := pk_andE (xs (6 * k + 1)) (m := 1) 1 (by decide)
  have hi : i < 2 := hi
  have hw : xs (6 * k + 1) &&& 1 = nI i := hw
  obtain ⟨b1, b2, m1, m2⟩ := hok i hi
  refine lv_aload_n hx hb dL_law_292 rfl (lv_at hl 1 rfl) ?_
  refine lv_aload_n hx hb dL_law_293 rfl (lv_at hl 0 rfl) ?_
  refine lv_iload_n hx hb dL_law_294 rfl (lv_at hl 3 rfl) ?_
  refine lv_iconst (v := jd_i 1) hx hb dL_law_295 (by decide) ?_
  refine lv_iadd hx hb dL_law_296 ?_
  refine jd_ti (y := (nI (6 * k + 1))) (nI_add (6 * k) 1) ?_
  refine jd_sld hx hb hX hbl hbA hS (show 6 * k + 1 < L by omega) hL2 dL_law_297 ?_
  refine vp_callSi (W.runV (As := [.int ((xs (6 * k + 1)))]) (rest := []) ⟨hx, hb, hml, hown, hts⟩ (metX0_month l D g x q cA a Y M i (xs (6 * k + 1)) hi hw (by omega) (by omega) m1 m2) (cwV 1 hts (lw_V q225 q226 q227 q3 q228) rfl rfl rfl (by decide +kernel) ⟨Nat.le_of_ble_eq_true rfl, Nat.le_of_ble_eq_true rfl⟩) (jd_preV (jd_mvA (jd_mvP _ _ _) (jd_mvK _ _ _)) (va_recv hK hP (ci := 0) (q0 := 0) rfl rfl) ⟨hP.sub [0, 1, 2, 3] rfl, hK.sub [0] rfl⟩) rfl rfl hl.1 rfl (lv_room (Nat.le_of_ble_eq_true rfl)) dL_law_298 ⟨by show 100 + k + 0 ≤ 1200096; omega, by show 100 + 3 * k + 0 ≤ 5501386; omega⟩) (fun r_1 hr_1 => ?_)
  obtain rfl : (jd_i ((M i))) = r_1 := Eq.symm hr_1
  refine lv_aload_n hx hb dL_law_301 rfl (lv_at hl 2 rfl) ?_
  refine lv_aload_n hx hb dL_law_302 rfl (lv_at hl 0 rfl) ?_
  refine lv_iload_n hx hb dL_law_303 rfl (lv_at hl 3 rfl) ?_
  refine lv_iconst (v := jd_i 1) hx hb dL_law_304 (by decide) ?_
  refine lv_iadd hx hb dL_law_305 ?_
  refine jd_ti (y := (nI (6 * k + 1))) (nI_add (6 * k) 1) ?_
  refine jd_sld hx hb hX hbl hbA hS (show 6 * k + 1 < L by omega) hL2 dL_law_306 ?_
  refine vp_callSi (W.runV (As := [.int ((xs (6 * k + 1)))]) (rest := [.int (jd_i ((M i)))]) ⟨hx, hb, hml, hown, hts⟩ (metX5_month l D mo q1 q2 c1 c2 Y M i (xs (6 * k + 1)) hi hw (by omega) (by omega) m1 m2) (cwV 1 hts (lw_V q451 q452 q453 q12 q454) rfl rfl rfl (by decide +kernel) ⟨Nat.le_of_ble_eq_true rfl, Nat.le_of_ble_eq_true rfl⟩) (jd_preV (jd_mvA (jd_mvP _ _ _) (jd_mvK _ _ _)) (va_recv hK hP (ci := 3) (q0 := 4) rfl rfl) ⟨hP.sub [4, 5, 6] rfl, hK.sub [1, 2] rfl⟩) rfl rfl hl.1 rfl (lv_room (Nat.le_of_ble_eq_true rfl)) dL_law_307 ⟨by show 100 + k + 0 ≤ 1200096; omega, by show 100 + 3 * k + 0 ≤ 5501386; omega⟩) (fun r_2 hr_2 => ?_)
  obtain rfl : (jd_i ((M i))) = r_2 := Eq.symm hr_2
  refine lv_icmp_eq (tgt := 468) hx hb dL_law_310 (by decide) (fun _ => ?_) (fun c9 => absurd rfl c9)
  refine W.widen (k := 100 + k + 1) (n := 100 + 3 * k + 3) (by omega) (by omega) ?_
  exact hcont a Y M _ _ (jd_ok_mono hok) hP hD hS
set_option maxHeartbeats 4000000 in
set_option maxRecDepth 100000 in
/-- the law, case 7: length -/
theorem law_op7 {p : Program} {l : Launch} {e : Env} {s : State} {m : MethodId} {below : List Frame} {meth : Method} {c : Code} {b L : Nat} {xs : Nat → Int32} {D : va_G} {g : Nat → Nat} {x q mo q1 q2 : Nat} {cA c1 c2 : ClassId} {Q : State → Prop} {k : Nat} {ls : Array Slot} {a : Nat → Nat} {Y M : Nat → Int} {H : Heap} {locs : List Loc} (hx : p.tables.exec = Jvm.exec) (hb : c.code = code) (hml : c.maxLocals = 4) (hown : s.vm.findClass R_law = some m.cls) (hts : ∀ w ∈ lw_all, w.before #[Value.ref b] s = true) (hX : va_X b L xs s s.heap) (hbl : b < s.heap.size) (hC : jd_C g (jd_A s) s s.heap) (hK : va_K D jd_cl [(cA, .object "YearMonth"), (c1, .int), (c2, .int)] s) (hL2 : L ≤ 288) (hL : 6 * k + 6 ≤ L) (hok : jd_ok k Y M) (hP : va_P D jd_cl (jd_LW x q cA a mo q1 q2 c1 c2 Y M) H) (hD : va_D (jd_A s) (jd_LW x q cA a mo q1 q2 c1 c2 Y M)) (hS : va_S (jd_A s) s.heap H locs) (hl : lv_has ls 4 [(0, .ref b), (1, .ref x), (2, .ref mo), (3, .int (nI (6 * k)))]) (hcont : ∀ (a2 : Nat → Nat) (Y2 M2 : Nat → Int) (H2 : Heap) (locs2 : List Loc), jd_ok (k + 1) Y2 M2 → va_P D jd_cl (jd_LW x q cA a2 mo q1 q2 c1 c2 Y2 M2) H2 → va_D (jd_A s) (jd_LW x q cA a2 mo q1 q2 c1 c2 Y2 M2) → va_S (jd_A s) s.heap H2 locs2 → W p l e room_1 s m #[Value.ref b] below meth c H2 locs2 (100 + k + 1) (100 + 3 * k + 3) Q (F0 m 468 ls [])) : W p l e room_1 s m #[Value.ref b] below meth c H locs (100 + k) (100 + 3 * k) Q (F0 m 315 ls []) := by
  have hA : ∀ q : Nat, s.heap.size ≤ q → jd_A s q := fun _ h => h
  have hbA : ¬ jd_A s b := Nat.not_le.mpr hbl
  have hP : va_P D jd_cl [jd_dk x q, jd_ar q cA (fun j => some (a j)), jd_ym (a 0) (Y 0) (M 0), jd_ym (a 1) (Y 1) (M 1), jd_mm mo q1 q2, jd_ia q1 c1 (fun j => jd_i (Y j)), jd_ia q2 c2 (fun j => jd_i (M j))] H := hP
  have hD : va_D (jd_A s) [jd_dk x q, jd_ar q cA (fun j => some (a j)), jd_ym (a 0) (Y 0) (M 0), jd_ym (a 1) (Y 1) (M 1), jd_mm mo q1 q2, jd_ia q1 c1 (fun j => jd_i (Y j)), jd_ia q2 c2 (fun j => jd_i (M j))] := hD
  obtain ⟨i, hi, hw⟩ := pk_andE (xs (6 * k + 1)) (m := 1) 1 (by decide)
  have hi : i < 2 := hi
  have hw : xs (6 * k + 1) &&& 1 = nI i := hw
  obtain ⟨b1, b2, m1, m2⟩ := hok i hi
  refine lv_aload_n hx hb dL_law_315 rfl (lv_at hl 1 rfl) ?_
  refine lv_aload_n hx hb dL_law_316 rfl (lv_at hl 0 rfl) ?_
  refine lv_iload_n hx hb dL_law_317 rfl (lv_at hl 3 rfl) ?_
  refine lv_iconst (v := jd_i 1) hx hb dL_law_318 (by decide) ?_
  refine lv_iadd hx hb dL_law_319 ?_
  refine jd_ti (y := (nI (6 * k + 1))) (nI_add (6 * k) 1) ?_
  refine jd_sld hx hb hX hbl hbA hS (show 6 * k + 1 < L by omega) hL2 dL_law_320 ?_
  refine vp_callSi (W.runV (As := [.int ((xs (6 * k + 1)))]) (rest := []) ⟨hx, hb, hml, hown, hts⟩ (metX0_length l D g x q cA a Y M i (xs (6 * k + 1)) hi hw (by omega) (by omega) m1 m2) (cwV 1 hts (lw_V q233 q234 q235 q3 q236) rfl rfl rfl (by decide +kernel) ⟨Nat.le_of_ble_eq_true rfl, Nat.le_of_ble_eq_true rfl⟩) (jd_preV (jd_mvA (jd_mvP _ _ _) (jd_mvA (jd_mvK _ _ _) (jd_mvA jd_E.moved jd_I.moved))) (va_recv hK hP (ci := 0) (q0 := 0) rfl rfl) ⟨hP.sub [0, 1, 2, 3] rfl, hK.sub [0] rfl, (hC.kept hS.2.1).2.2.2.1.narrow jd_nn, (hC.kept hS.2.1).2.2.2.2.narrow jd_nn⟩) rfl rfl hl.1 rfl (lv_room (Nat.le_of_ble_eq_true rfl)) dL_law_321 ⟨by show 100 + k + 0 ≤ 1200096; omega, by show 100 + 3 * k + 0 ≤ 5501386; omega⟩) (fun r_1 hr_1 => ?_)
  obtain rfl : (jd_i ((jd_dm (jd_lp (Y i)) (M i)))) = r_1 := Eq.symm hr_1
  refine lv_aload_n hx hb dL_law_324 rfl (lv_at hl 2 rfl) ?_
  refine lv_aload_n hx hb dL_law_325 rfl (lv_at hl 0 rfl) ?_
  refine lv_iload_n hx hb dL_law_326 rfl (lv_at hl 3 rfl) ?_
  refine lv_iconst (v := jd_i 1) hx hb dL_law_327 (by decide) ?_
  refine lv_iadd hx hb dL_law_328 ?_
  refine jd_ti (y := (nI (6 * k + 1))) (nI_add (6 * k) 1) ?_
  refine jd_sld hx hb hX hbl hbA hS (show 6 * k + 1 < L by omega) hL2 dL_law_329 ?_
  refine vp_callSi (W.runV (As := [.int ((xs (6 * k + 1)))]) (rest := [.int (jd_i ((jd_dm (jd_lp (Y i)) (M i))))]) ⟨hx, hb, hml, hown, hts⟩ (metX5_length l D mo q1 q2 c1 c2 Y M i (xs (6 * k + 1)) hi hw (by omega) (by omega) m1 m2) (cwV 1 hts (lw_V q455 q456 q457 q12 q458) rfl rfl rfl (by decide +kernel) ⟨Nat.le_of_ble_eq_true rfl, Nat.le_of_ble_eq_true rfl⟩) (jd_preV (jd_mvA (jd_mvP _ _ _) (jd_mvK _ _ _)) (va_recv hK hP (ci := 3) (q0 := 4) rfl rfl) ⟨hP.sub [4, 5, 6] rfl, hK.sub [1, 2] rfl⟩) rfl rfl hl.1 rfl (lv_room (Nat.le_of_ble_eq_true rfl)) dL_law_330 ⟨by show 100 + k + 0 ≤ 1200096; omega, by show 100 + 3 * k + 0 ≤ 5501386; omega⟩) (fun r_2 hr_2 => ?_)
  obtain rfl : (jd_i ((jd_dm (jd_lp (Y i)) (M i)))) = r_2 := Eq.symm hr_2
  refine lv_icmp_eq (tgt := 468) hx hb dL_law_333 (by decide) (fun _ => ?_) (fun c9 => absurd rfl c9)
  refine W.widen (k := 100 + k + 1) (n := 100 + 3 * k + 3) (by omega) (by omega) ?_
  exact hcont a Y M _ _ (jd_ok_mono hok) hP hD hS
set_option maxHeartbeats 4000000 in
set_option maxRecDepth 100000 in
/-- the law, case 8: yearLength -/
theorem law_op8 {p : Program} {l : Launch} {e : Env} {s : State} {m : MethodId} {below : List Frame} {meth : Method} {c : Code} {b L : Nat} {xs : Nat → Int32} {D : va_G} {g : Nat → Nat} {x q mo q1 q2 : Nat} {cA c1 c2 : ClassId} {Q : State → Prop} {k : Nat} {ls : Array Slot} {a : Nat → Nat} {Y M : Nat → Int} {H : Heap} {locs : List Loc} (hx : p.tables.exec = Jvm.exec) (hb : c.code = code) (hml : c.maxLocals = 4) (hown : s.vm.findClass R_law = some m.cls) (hts : ∀ w ∈ lw_all, w.before #[Value.ref b] s = true) (hX : va_X b L xs s s.heap) (hbl : b < s.heap.size) (hC : jd_C g (jd_A s) s s.heap) (hK : va_K D jd_cl [(cA, .object "YearMonth"), (c1, .int), (c2, .int)] s) (hL2 : L ≤ 288) (hL : 6 * k + 6 ≤ L) (hok : jd_ok k Y M) (hP : va_P D jd_cl (jd_LW x q cA a mo q1 q2 c1 c2 Y M) H) (hD : va_D (jd_A s) (jd_LW x q cA a mo q1 q2 c1 c2 Y M)) (hS : va_S (jd_A s) s.heap H locs) (hl : lv_has ls 4 [(0, .ref b), (1, .ref x), (2, .ref mo), (3, .int (nI (6 * k)))]) (hcont : ∀ (a2 : Nat → Nat) (Y2 M2 : Nat → Int) (H2 : Heap) (locs2 : List Loc), jd_ok (k + 1) Y2 M2 → va_P D jd_cl (jd_LW x q cA a2 mo q1 q2 c1 c2 Y2 M2) H2 → va_D (jd_A s) (jd_LW x q cA a2 mo q1 q2 c1 c2 Y2 M2) → va_S (jd_A s) s.heap H2 locs2 → W p l e room_1 s m #[Value.ref b] below meth c H2 locs2 (100 + k + 1) (100 + 3 * k + 3) Q (F0 m 468 ls [])) : W p l e room_1 s m #[Value.ref b] below meth c H locs (100 + k) (100 + 3 * k) Q (F0 m 338 ls []) := by
  have hA : ∀ q : Nat, s.heap.size ≤ q → jd_A s q := fun _ h => h
  have hbA : ¬ jd_A s b := Nat.not_le.mpr hbl
  have hP : va_P D jd_cl [jd_dk x q, jd_ar q cA (fun j => some (a j)), jd_ym (a 0) (Y 0) (M 0), jd_ym (a 1) (Y 1) (M 1), jd_mm mo q1 q2, jd_ia q1 c1 (fun j => jd_i (Y j)), jd_ia q2 c2 (fun j => jd_i (M j))] H := hP
  have hD : va_D (jd_A s) [jd_dk x q, jd_ar q cA (fun j => some (a j)), jd_ym (a 0) (Y 0) (M 0), jd_ym (a 1) (Y 1) (M 1), jd_mm mo q1 q2, jd_ia q1 c1 (fun j => jd_i (Y j)), jd_ia q2 c2 (fun j => jd_i (M j))] := hD
  obtain ⟨i, hi, hw⟩ := pk_andE (xs (6 * k + 1)) (m := 1) 1 (by decide)
  have hi : i < 2 := hi
  have hw : xs (6 * k + 1) &&& 1 = nI i := hw
  obtain ⟨b1, b2, m1, m2⟩ := hok i hi
  refine lv_aload_n hx hb dL_law_338 rfl (lv_at hl 1 rfl) ?_
  refine lv_aload_n hx hb dL_law_339 rfl (lv_at hl 0 rfl) ?_
  refine lv_iload_n hx hb dL_law_340 rfl (lv_at hl 3 rfl) ?_
  refine lv_iconst (v := jd_i 1) hx hb dL_law_341 (by decide) ?_
  refine lv_iadd hx hb dL_law_342 ?_
  refine jd_ti (y := (nI (6 * k + 1))) (nI_add (6 * k) 1) ?_
  refine jd_sld hx hb hX hbl hbA hS (show 6 * k + 1 < L by omega) hL2 dL_law_343 ?_
  refine vp_callSi (W.runV (As := [.int ((xs (6 * k + 1)))]) (rest := []) ⟨hx, hb, hml, hown, hts⟩ (metX0_yearLength l D g x q cA a Y M i (xs (6 * k + 1)) hi hw (by omega) (by omega) m1 m2) (cwV 1 hts (lw_V q276 q277 q278 q3 q279) rfl rfl rfl (by decide +kernel) ⟨Nat.le_of_ble_eq_true rfl, Nat.le_of_ble_eq_true rfl⟩) (jd_preV (jd_mvA (jd_mvP _ _ _) (jd_mvA (jd_mvK _ _ _) (jd_mvA jd_E.moved jd_I.moved))) (va_recv hK hP (ci := 0) (q0 := 0) rfl rfl) ⟨hP.sub [0, 1, 2, 3] rfl, hK.sub [0] rfl, (hC.kept hS.2.1).2.2.2.1.narrow jd_nn, (hC.kept hS.2.1).2.2.2.2.narrow jd_nn⟩) rfl rfl hl.1 rfl (lv_room (Nat.le_of_ble_eq_true rfl)) dL_law_344 ⟨by show 100 + k + 0 ≤ 1200096; omega, by show 100 + 3 * k + 0 ≤ 5501386; omega⟩) (fun r_1 hr_1 => ?_)
  obtain rfl : (jd_i ((jd_dy (jd_lp (Y i))))) = r_1 := Eq.symm hr_1
  refine lv_aload_n hx hb dL_law_347 rfl (lv_at hl 2 rfl) ?_
  refine lv_aload_n hx hb dL_law_348 rfl (lv_at hl 0 rfl) ?_
  refine lv_iload_n hx hb dL_law_349 rfl (lv_at hl 3 rfl) ?_
  refine lv_iconst (v := jd_i 1) hx hb dL_law_350 (by decide) ?_
  refine lv_iadd hx hb dL_law_351 ?_
  refine jd_ti (y := (nI (6 * k + 1))) (nI_add (6 * k) 1) ?_
  refine jd_sld hx hb hX hbl hbA hS (show 6 * k + 1 < L by omega) hL2 dL_law_352 ?_
  refine vp_callSi (W.runV (As := [.int ((xs (6 * k + 1)))]) (rest := [.int (jd_i ((jd_dy (jd_lp (Y i)))))]) ⟨hx, hb, hml, hown, hts⟩ (metX5_yearLength l D mo q1 q2 c1 c2 Y M i (xs (6 * k + 1)) hi hw (by omega) (by omega) m1 m2) (cwV 1 hts (lw_V q465 q466 q467 q12 q468) rfl rfl rfl (by decide +kernel) ⟨Nat.le_of_ble_eq_true rfl, Nat.le_of_ble_eq_true rfl⟩) (jd_preV (jd_mvA (jd_mvP _ _ _) (jd_mvK _ _ _)) (va_recv hK hP (ci := 3) (q0 := 4) rfl rfl) ⟨hP.sub [4, 5, 6] rfl, hK.sub [1, 2] rfl⟩) rfl rfl hl.1 rfl (lv_room (Nat.le_of_ble_eq_true rfl)) dL_law_353 ⟨by show 100 + k + 0 ≤ 1200096; omega, by show 100 + 3 * k + 0 ≤ 5501386; omega⟩) (fun r_2 hr_2 => ?_)
  obtain rfl : (jd_i ((jd_dy (jd_lp (Y i))))) = r_2 := Eq.symm hr_2
  refine lv_icmp_eq (tgt := 468) hx hb dL_law_356 (by decide) (fun _ => ?_) (fun c9 => absurd rfl c9)
  refine W.widen (k := 100 + k + 1) (n := 100 + 3 * k + 3) (by omega) (by omega) ?_
  exact hcont a Y M _ _ (jd_ok_mono hok) hP hD hS
set_option maxHeartbeats 4000000 in
set_option maxRecDepth 100000 in
/-- the law, case 9: leap -/
theorem law_op9 {p : Program} {l : Launch} {e : Env} {s : State} {m : MethodId} {below : List Frame} {meth : Method} {c : Code} {b L : Nat} {xs : Nat → Int32} {D : va_G} {g : Nat → Nat} {x q mo q1 q2 : Nat} {cA c1 c2 : ClassId} {Q : State → Prop} {k : Nat} {ls : Array Slot} {a : Nat → Nat} {Y M : Nat → Int} {H : Heap} {locs : List Loc} (hx : p.tables.exec = Jvm.exec) (hb : c.code = code) (hml : c.maxLocals = 4) (hown : s.vm.findClass R_law = some m.cls) (hts : ∀ w ∈ lw_all, w.before #[Value.ref b] s = true) (hX : va_X b L xs s s.heap) (hbl : b < s.heap.size) (hC : jd_C g (jd_A s) s s.heap) (hK : va_K D jd_cl [(cA, .object "YearMonth"), (c1, .int), (c2, .int)] s) (hL2 : L ≤ 288) (hL : 6 * k + 6 ≤ L) (hok : jd_ok k Y M) (hP : va_P D jd_cl (jd_LW x q cA a mo q1 q2 c1 c2 Y M) H) (hD : va_D (jd_A s) (jd_LW x q cA a mo q1 q2 c1 c2 Y M)) (hS : va_S (jd_A s) s.heap H locs) (hl : lv_has ls 4 [(0, .ref b), (1, .ref x), (2, .ref mo), (3, .int (nI (6 * k)))]) (hcont : ∀ (a2 : Nat → Nat) (Y2 M2 : Nat → Int) (H2 : Heap) (locs2 : List Loc), jd_ok (k + 1) Y2 M2 → va_P D jd_cl (jd_LW x q cA a2 mo q1 q2 c1 c2 Y2 M2) H2 → va_D (jd_A s) (jd_LW x q cA a2 mo q1 q2 c1 c2 Y2 M2) → va_S (jd_A s) s.heap H2 locs2 → W p l e room_1 s m #[Value.ref b] below meth c H2 locs2 (100 + k + 1) (100 + 3 * k + 3) Q (F0 m 468 ls [])) : W p l e room_1 s m #[Value.ref b] below meth c H locs (100 + k) (100 + 3 * k) Q (F0 m 361 ls []) := by
  have hA : ∀ q : Nat, s.heap.size ≤ q → jd_A s q := fun _ h => h
  have hbA : ¬ jd_A s b := Nat.not_le.mpr hbl
  have hP : va_P D jd_cl [jd_dk x q, jd_ar q cA (fun j => some (a j)), jd_ym (a 0) (Y 0) (M 0), jd_ym (a 1) (Y 1) (M 1), jd_mm mo q1 q2, jd_ia q1 c1 (fun j => jd_i (Y j)), jd_ia q2 c2 (fun j => jd_i (M j))] H := hP
  have hD : va_D (jd_A s) [jd_dk x q, jd_ar q cA (fun j => some (a j)), jd_ym (a 0) (Y 0) (M 0), jd_ym (a 1) (Y 1) (M 1), jd_mm mo q1 q2, jd_ia q1 c1 (fun j => jd_i (Y j)), jd_ia q2 c2 (fun j => jd_i (M j))] := hD
  obtain ⟨i, hi, hw⟩ := pk_andE (xs (6 * k + 1)) (m := 1) 1 (by decide)
  have hi : i < 2 := hi
  have hw : xs (6 * k + 1) &&& 1 = nI i := hw
  obtain ⟨b1, b2, m1, m2⟩ := hok i hi
  refine lv_aload_n hx hb dL_law_361 rfl (lv_at hl 1 rfl) ?_
  refine lv_aload_n hx hb dL_law_362 rfl (lv_at hl 0 rfl) ?_
  refine lv_iload_n hx hb dL_law_363 rfl (lv_at hl 3 rfl) ?_
  refine lv_iconst (v := jd_i 1) hx hb dL_law_364 (by decide) ?_
  refine lv_iadd hx hb dL_law_365 ?_
  refine jd_ti (y := (nI (6 * k + 1))) (nI_add (6 * k) 1) ?_
  refine jd_sld hx hb hX hbl hbA hS (show 6 * k + 1 < L by omega) hL2 dL_law_366 ?_
  refine vp_callSi (W.runV (As := [.int ((xs (6 * k + 1)))]) (rest := []) ⟨hx, hb, hml, hown, hts⟩ (metX0_leap l D g x q cA a Y M i (xs (6 * k + 1)) hi hw (by omega) (by omega) m1 m2) (cwV 1 hts (lw_V q284 q285 q286 q3 q287) rfl rfl rfl (by decide +kernel) ⟨Nat.le_of_ble_eq_true rfl, Nat.le_of_ble_eq_true rfl⟩) (jd_preV (jd_mvA (jd_mvP _ _ _) (jd_mvA (jd_mvK _ _ _) (jd_mvA jd_E.moved jd_I.moved))) (va_recv hK hP (ci := 0) (q0 := 0) rfl rfl) ⟨hP.sub [0, 1, 2, 3] rfl, hK.sub [0] rfl, (hC.kept hS.2.1).2.2.2.1.narrow jd_nn, (hC.kept hS.2.1).2.2.2.2.narrow jd_nn⟩) rfl rfl hl.1 rfl (lv_room (Nat.le_of_ble_eq_true rfl)) dL_law_367 ⟨by show 100 + k + 0 ≤ 1200096; omega, by show 100 + 3 * k + 0 ≤ 5501386; omega⟩) (fun r_1 hr_1 => ?_)
  obtain rfl : (jd_b (jd_lp (Y i))) = r_1 := Eq.symm hr_1
  refine lv_aload_n hx hb dL_law_370 rfl (lv_at hl 2 rfl) ?_
  refine lv_aload_n hx hb dL_law_371 rfl (lv_at hl 0 rfl) ?_
  refine lv_iload_n hx hb dL_law_372 rfl (lv_at hl 3 rfl) ?_
  refine lv_iconst (v := jd_i 1) hx hb dL_law_373 (by decide) ?_
  refine lv_iadd hx hb dL_law_374 ?_
  refine jd_ti (y := (nI (6 * k + 1))) (nI_add (6 * k) 1) ?_
  refine jd_sld hx hb hX hbl hbA hS (show 6 * k + 1 < L by omega) hL2 dL_law_375 ?_
  refine vp_callSi (W.runV (As := [.int ((xs (6 * k + 1)))]) (rest := [.int (jd_b (jd_lp (Y i)))]) ⟨hx, hb, hml, hown, hts⟩ (metX5_leap l D mo q1 q2 c1 c2 Y M i (xs (6 * k + 1)) hi hw (by omega) (by omega) m1 m2) (cwV 1 hts (lw_V q472 q473 q474 q12 q475) rfl rfl rfl (by decide +kernel) ⟨Nat.le_of_ble_eq_true rfl, Nat.le_of_ble_eq_true rfl⟩) (jd_preV (jd_mvA (jd_mvP _ _ _) (jd_mvK _ _ _)) (va_recv hK hP (ci := 3) (q0 := 4) rfl rfl) ⟨hP.sub [4, 5, 6] rfl, hK.sub [1, 2] rfl⟩) rfl rfl hl.1 rfl (lv_room (Nat.le_of_ble_eq_true rfl)) dL_law_376 ⟨by show 100 + k + 0 ≤ 1200096; omega, by show 100 + 3 * k + 0 ≤ 5501386; omega⟩) (fun r_2 hr_2 => ?_)
  obtain rfl : (jd_b (jd_lp (Y i))) = r_2 := Eq.symm hr_2
  refine lv_icmp_eq (tgt := 468) hx hb dL_law_379 (by decide) (fun _ => ?_) (fun c9 => absurd rfl c9)
  refine W.widen (k := 100 + k + 1) (n := 100 + 3 * k + 3) (by omega) (by omega) ?_
  exact hcont a Y M _ _ (jd_ok_mono hok) hP hD hS
set_option maxHeartbeats 4000000 in
set_option maxRecDepth 100000 in
/-- the law, case 10: firstDay -/
theorem law_op10 {p : Program} {l : Launch} {e : Env} {s : State} {m : MethodId} {below : List Frame} {meth : Method} {c : Code} {b L : Nat} {xs : Nat → Int32} {D : va_G} {g : Nat → Nat} {x q mo q1 q2 : Nat} {cA c1 c2 : ClassId} {Q : State → Prop} {k : Nat} {ls : Array Slot} {a : Nat → Nat} {Y M : Nat → Int} {H : Heap} {locs : List Loc} (hx : p.tables.exec = Jvm.exec) (hb : c.code = code) (hml : c.maxLocals = 4) (hown : s.vm.findClass R_law = some m.cls) (hts : ∀ w ∈ lw_all, w.before #[Value.ref b] s = true) (hX : va_X b L xs s s.heap) (hbl : b < s.heap.size) (hC : jd_C g (jd_A s) s s.heap) (hK : va_K D jd_cl [(cA, .object "YearMonth"), (c1, .int), (c2, .int)] s) (hL2 : L ≤ 288) (hL : 6 * k + 6 ≤ L) (hok : jd_ok k Y M) (hP : va_P D jd_cl (jd_LW x q cA a mo q1 q2 c1 c2 Y M) H) (hD : va_D (jd_A s) (jd_LW x q cA a mo q1 q2 c1 c2 Y M)) (hS : va_S (jd_A s) s.heap H locs) (hl : lv_has ls 4 [(0, .ref b), (1, .ref x), (2, .ref mo), (3, .int (nI (6 * k)))]) (hcont : ∀ (a2 : Nat → Nat) (Y2 M2 : Nat → Int) (H2 : Heap) (locs2 : List Loc), jd_ok (k + 1) Y2 M2 → va_P D jd_cl (jd_LW x q cA a2 mo q1 q2 c1 c2 Y2 M2) H2 → va_D (jd_A s) (jd_LW x q cA a2 mo q1 q2 c1 c2 Y2 M2) → va_S (jd_A s) s.heap H2 locs2 → W p l e room_1 s m #[Value.ref b] below meth c H2 locs2 (100 + k + 1) (100 + 3 * k + 3) Q (F0 m 468 ls [])) : W p l e room_1 s m #[Value.ref b] below meth c H locs (100 + k) (100 + 3 * k) Q (F0 m 384 ls []) := by
  have hA : ∀ q : Nat, s.heap.size ≤ q → jd_A s q := fun _ h => h
  have hbA : ¬ jd_A s b := Nat.not_le.mpr hbl
  have hP : va_P D jd_cl [jd_dk x q, jd_ar q cA (fun j => some (a j)), jd_ym (a 0) (Y 0) (M 0), jd_ym (a 1) (Y 1) (M 1), jd_mm mo q1 q2, jd_ia q1 c1 (fun j => jd_i (Y j)), jd_ia q2 c2 (fun j => jd_i (M j))] H := hP
  have hD : va_D (jd_A s) [jd_dk x q, jd_ar q cA (fun j => some (a j)), jd_ym (a 0) (Y 0) (M 0), jd_ym (a 1) (Y 1) (M 1), jd_mm mo q1 q2, jd_ia q1 c1 (fun j => jd_i (Y j)), jd_ia q2 c2 (fun j => jd_i (M j))] := hD
  obtain ⟨i, hi, hw⟩ := pk_andE (xs (6 * k + 1)) (m := 1) 1 (by decide)
  have hi : i < 2 := hi
  have hw : xs (6 * k + 1) &&& 1 = nI i := hw
  obtain ⟨b1, b2, m1, m2⟩ := hok i hi
  refine lv_aload_n hx hb dL_law_384 rfl (lv_at hl 1 rfl) ?_
  refine lv_aload_n hx hb dL_law_385 rfl (lv_at hl 0 rfl) ?_
  refine lv_iload_n hx hb dL_law_386 rfl (lv_at hl 3 rfl) ?_
  refine lv_iconst (v := jd_i 1) hx hb dL_law_387 (by decide) ?_
  refine lv_iadd hx hb dL_law_388 ?_
  refine jd_ti (y := (nI (6 * k + 1))) (nI_add (6 * k) 1) ?_
  refine jd_sld hx hb hX hbl hbA hS (show 6 * k + 1 < L by omega) hL2 dL_law_389 ?_
  have hFc := va_free (wc := []) hD hS hA [] rfl
  refine va_calll (va_runV (As := [.int ((xs (6 * k + 1)))]) (rest := []) ⟨hx, hb, hml, hown, hts⟩ (metX0_firstDay l D g x q H.size cA a Y M i (xs (6 * k + 1)) hi hw (by omega) (by omega) m1 m2) (cwV 1 hts (lw_V q289 q290 q291 q3 q292) rfl rfl rfl (by decide +kernel) ⟨Nat.le_of_ble_eq_true rfl, Nat.le_of_ble_eq_true rfl⟩) (jd_preV (jd_mvA (jd_mvZ _) (jd_mvA (jd_mvP _ _ _) (jd_mvA (jd_mvK _ _ _) jd_C.moved))) (va_recv hK hP (ci := 0) (q0 := 0) rfl rfl) ⟨rfl, hP.sub [0, 1, 2, 3] rfl, hK.sub [0] rfl, (hC.kept hS.2.1).narrow hFc⟩) rfl rfl hl.1 rfl (lv_room (Nat.le_of_ble_eq_true rfl)) dL_law_390 ⟨by show 100 + k + 1 ≤ 1200096; omega, by show 100 + 3 * k + 3 ≤ 5501386; omega⟩) hS (fun q _ h => hFc q h) hFc (fun r_ u_ t H1 locs ht hvm hw1 hB hz1 hk1 hS => ?_)
  obtain rfl : (jd_l ((jd_ed (Y i) (M i)))) = r_ := Eq.symm hw1
  have hP := jd_kp hP rfl hk1
  generalize H1 = H at hP hS ⊢
  refine lv_aload_n hx hb dL_law_393 rfl (lv_at hl 2 rfl) ?_
  refine lv_aload_n hx hb dL_law_394 rfl (lv_at hl 0 rfl) ?_
  refine lv_iload_n hx hb dL_law_395 rfl (lv_at hl 3 rfl) ?_
  refine lv_iconst (v := jd_i 1) hx hb dL_law_396 (by decide) ?_
  refine lv_iadd hx hb dL_law_397 ?_
  refine jd_ti (y := (nI (6 * k + 1))) (nI_add (6 * k) 1) ?_
  refine jd_sld hx hb hX hbl hbA hS (show 6 * k + 1 < L by omega) hL2 dL_law_398 ?_
  refine vp_callSl (W.runV (As := [.int ((xs (6 * k + 1)))]) (rest := [.long (jd_l ((jd_ed (Y i) (M i))))]) ⟨hx, hb, hml, hown, hts⟩ (metX5_firstDay l D mo q1 q2 c1 c2 Y M i (xs (6 * k + 1)) hi hw (by omega) (by omega) m1 m2) (cwV 1 hts (lw_V q476 q477 q478 q12 q479) rfl rfl rfl (by decide +kernel) ⟨Nat.le_of_ble_eq_true rfl, Nat.le_of_ble_eq_true rfl⟩) (jd_preV (jd_mvA (jd_mvP _ _ _) (jd_mvK _ _ _)) (va_recv hK hP (ci := 3) (q0 := 4) rfl rfl) ⟨hP.sub [4, 5, 6] rfl, hK.sub [1, 2] rfl⟩) rfl rfl hl.1 rfl (lv_room (Nat.le_of_ble_eq_true rfl)) dL_law_399 ⟨by show 100 + k + 1 + 0 ≤ 1200096; omega, by show 100 + 3 * k + 3 + 0 ≤ 5501386; omega⟩) (fun r_1 hr_1 => ?_)
  obtain rfl : (jd_l ((jd_ed (Y i) (M i)))) = r_1 := Eq.symm hr_1
  refine W.lcmp hx hb dL_law_402 ?_
  refine lv_if_eq (tgt := 468) hx hb dL_law_403 (by decide) (fun _ => ?_) (fun c9 => absurd ((lg_cmp_eq _ _).mpr rfl) c9)
  refine W.widen (k := 100 + k + 1) (n := 100 + 3 * k + 3) (by omega) (by omega) ?_
  exact hcont a Y M _ _ (jd_ok_mono hok) hP hD hS
set_option maxHeartbeats 4000000 in
set_option maxRecDepth 100000 in
/-- the law, case 11: lastDay -/
theorem law_op11 {p : Program} {l : Launch} {e : Env} {s : State} {m : MethodId} {below : List Frame} {meth : Method} {c : Code} {b L : Nat} {xs : Nat → Int32} {D : va_G} {g : Nat → Nat} {x q mo q1 q2 : Nat} {cA c1 c2 : ClassId} {Q : State → Prop} {k : Nat} {ls : Array Slot} {a : Nat → Nat} {Y M : Nat → Int} {H : Heap} {locs : List Loc} (hx : p.tables.exec = Jvm.exec) (hb : c.code = code) (hml : c.maxLocals = 4) (hown : s.vm.findClass R_law = some m.cls) (hts : ∀ w ∈ lw_all, w.before #[Value.ref b] s = true) (hX : va_X b L xs s s.heap) (hbl : b < s.heap.size) (hC : jd_C g (jd_A s) s s.heap) (hK : va_K D jd_cl [(cA, .object "YearMonth"), (c1, .int), (c2, .int)] s) (hL2 : L ≤ 288) (hL : 6 * k + 6 ≤ L) (hok : jd_ok k Y M) (hP : va_P D jd_cl (jd_LW x q cA a mo q1 q2 c1 c2 Y M) H) (hD : va_D (jd_A s) (jd_LW x q cA a mo q1 q2 c1 c2 Y M)) (hS : va_S (jd_A s) s.heap H locs) (hl : lv_has ls 4 [(0, .ref b), (1, .ref x), (2, .ref mo), (3, .int (nI (6 * k)))]) (hcont : ∀ (a2 : Nat → Nat) (Y2 M2 : Nat → Int) (H2 : Heap) (locs2 : List Loc), jd_ok (k + 1) Y2 M2 → va_P D jd_cl (jd_LW x q cA a2 mo q1 q2 c1 c2 Y2 M2) H2 → va_D (jd_A s) (jd_LW x q cA a2 mo q1 q2 c1 c2 Y2 M2) → va_S (jd_A s) s.heap H2 locs2 → W p l e room_1 s m #[Value.ref b] below meth c H2 locs2 (100 + k + 1) (100 + 3 * k + 3) Q (F0 m 468 ls [])) : W p l e room_1 s m #[Value.ref b] below meth c H locs (100 + k) (100 + 3 * k) Q (F0 m 408 ls []) := by
  have hA : ∀ q : Nat, s.heap.size ≤ q → jd_A s q := fun _ h => h
  have hbA : ¬ jd_A s b := Nat.not_le.mpr hbl
  have hP : va_P D jd_cl [jd_dk x q, jd_ar q cA (fun j => some (a j)), jd_ym (a 0) (Y 0) (M 0), jd_ym (a 1) (Y 1) (M 1), jd_mm mo q1 q2, jd_ia q1 c1 (fun j => jd_i (Y j)), jd_ia q2 c2 (fun j => jd_i (M j))] H := hP
  have hD : va_D (jd_A s) [jd_dk x q, jd_ar q cA (fun j => some (a j)), jd_ym (a 0) (Y 0) (M 0), jd_ym (a 1) (Y 1) (M 1), jd_mm mo q1 q2, jd_ia q1 c1 (fun j => jd_i (Y j)), jd_ia q2 c2 (fun j => jd_i (M j))] := hD
  obtain ⟨i, hi, hw⟩ := pk_andE (xs (6 * k + 1)) (m := 1) 1 (by decide)
  have hi : i < 2 := hi
  have hw : xs (6 * k + 1) &&& 1 = nI i := hw
  obtain ⟨b1, b2, m1, m2⟩ := hok i hi
  refine lv_aload_n hx hb dL_law_408 rfl (lv_at hl 1 rfl) ?_
  refine lv_aload_n hx hb dL_law_409 rfl (lv_at hl 0 rfl) ?_
  refine lv_iload_n hx hb dL_law_410 rfl (lv_at hl 3 rfl) ?_
  refine lv_iconst (v := jd_i 1) hx hb dL_law_411 (by decide) ?_
  refine lv_iadd hx hb dL_law_412 ?_
  refine jd_ti (y := (nI (6 * k + 1))) (nI_add (6 * k) 1) ?_
  refine jd_sld hx hb hX hbl hbA hS (show 6 * k + 1 < L by omega) hL2 dL_law_413 ?_
  have hFc := va_free (wc := []) hD hS hA [] rfl
  refine va_calll (va_runV (As := [.int ((xs (6 * k + 1)))]) (rest := []) ⟨hx, hb, hml, hown, hts⟩ (metX0_lastDay l D g x q H.size cA a Y M i (xs (6 * k + 1)) hi hw (by omega) (by omega) m1 m2) (cwV 1 hts (lw_V q364 q365 q366 q3 q367) rfl rfl rfl (by decide +kernel) ⟨Nat.le_of_ble_eq_true rfl, Nat.le_of_ble_eq_true rfl⟩) (jd_preV (jd_mvA (jd_mvZ _) (jd_mvA (jd_mvP _ _ _) (jd_mvA (jd_mvK _ _ _) jd_C.moved))) (va_recv hK hP (ci := 0) (q0 := 0) rfl rfl) ⟨rfl, hP.sub [0, 1, 2, 3] rfl, hK.sub [0] rfl, (hC.kept hS.2.1).narrow hFc⟩) rfl rfl hl.1 rfl (lv_room (Nat.le_of_ble_eq_true rfl)) dL_law_414 ⟨by show 100 + k + 1 ≤ 1200096; omega, by show 100 + 3 * k + 3 ≤ 5501386; omega⟩) hS (fun q _ h => hFc q h) hFc (fun r_ u_ t H1 locs ht hvm hw1 hB hz1 hk1 hS => ?_)
  obtain rfl : (jd_l ((jd_ed (Y i) (M i) + jd_dm (jd_lp (Y i)) (M i) - 1))) = r_ := Eq.symm hw1
  have hP := jd_kp hP rfl hk1
  generalize H1 = H at hP hS ⊢
  refine lv_aload_n hx hb dL_law_417 rfl (lv_at hl 2 rfl) ?_
  refine lv_aload_n hx hb dL_law_418 rfl (lv_at hl 0 rfl) ?_
  refine lv_iload_n hx hb dL_law_419 rfl (lv_at hl 3 rfl) ?_
  refine lv_iconst (v := jd_i 1) hx hb dL_law_420 (by decide) ?_
  refine lv_iadd hx hb dL_law_421 ?_
  refine jd_ti (y := (nI (6 * k + 1))) (nI_add (6 * k) 1) ?_
  refine jd_sld hx hb hX hbl hbA hS (show 6 * k + 1 < L by omega) hL2 dL_law_422 ?_
  refine vp_callSl (W.runV (As := [.int ((xs (6 * k + 1)))]) (rest := [.long (jd_l ((jd_ed (Y i) (M i) + jd_dm (jd_lp (Y i)) (M i) - 1)))]) ⟨hx, hb, hml, hown, hts⟩ (metX5_lastDay l D mo q1 q2 c1 c2 Y M i (xs (6 * k + 1)) hi hw (by omega) (by omega) m1 m2) (cwV 1 hts (lw_V q486 q487 q488 q12 q489) rfl rfl rfl (by decide +kernel) ⟨Nat.le_of_ble_eq_true rfl, Nat.le_of_ble_eq_true rfl⟩) (jd_preV (jd_mvA (jd_mvP _ _ _) (jd_mvK _ _ _)) (va_recv hK hP (ci := 3) (q0 := 4) rfl rfl) ⟨hP.sub [4, 5, 6] rfl, hK.sub [1, 2] rfl⟩) rfl rfl hl.1 rfl (lv_room (Nat.le_of_ble_eq_true rfl)) dL_law_423 ⟨by show 100 + k + 1 + 0 ≤ 1200096; omega, by show 100 + 3 * k + 3 + 0 ≤ 5501386; omega⟩) (fun r_1 hr_1 => ?_)
  obtain rfl : (jd_l ((jd_ed (Y i) (M i) + jd_dm (jd_lp (Y i)) (M i) - 1))) = r_1 := Eq.symm hr_1
  refine W.lcmp hx hb dL_law_426 ?_
  refine lv_if_eq (tgt := 468) hx hb dL_law_427 (by decide) (fun _ => ?_) (fun c9 => absurd ((lg_cmp_eq _ _).mpr rfl) c9)
  refine W.widen (k := 100 + k + 1) (n := 100 + 3 * k + 3) (by omega) (by omega) ?_
  exact hcont a Y M _ _ (jd_ok_mono hok) hP hD hS
set_option maxHeartbeats 4000000 in
set_option maxRecDepth 100000 in
/-- the law, case 12: order -/
theorem law_op12 {p : Program} {l : Launch} {e : Env} {s : State} {m : MethodId} {below : List Frame} {meth : Method} {c : Code} {b L : Nat} {xs : Nat → Int32} {D : va_G} {g : Nat → Nat} {x q mo q1 q2 : Nat} {cA c1 c2 : ClassId} {Q : State → Prop} {k : Nat} {ls : Array Slot} {a : Nat → Nat} {Y M : Nat → Int} {H : Heap} {locs : List Loc} (hx : p.tables.exec = Jvm.exec) (hb : c.code = code) (hml : c.maxLocals = 4) (hown : s.vm.findClass R_law = some m.cls) (hts : ∀ w ∈ lw_all, w.before #[Value.ref b] s = true) (hX : va_X b L xs s s.heap) (hbl : b < s.heap.size) (hC : jd_C g (jd_A s) s s.heap) (hK : va_K D jd_cl [(cA, .object "YearMonth"), (c1, .int), (c2, .int)] s) (hL2 : L ≤ 288) (hL : 6 * k + 6 ≤ L) (hok : jd_ok k Y M) (hP : va_P D jd_cl (jd_LW x q cA a mo q1 q2 c1 c2 Y M) H) (hD : va_D (jd_A s) (jd_LW x q cA a mo q1 q2 c1 c2 Y M)) (hS : va_S (jd_A s) s.heap H locs) (hl : lv_has ls 4 [(0, .ref b), (1, .ref x), (2, .ref mo), (3, .int (nI (6 * k)))]) (hcont : ∀ (a2 : Nat → Nat) (Y2 M2 : Nat → Int) (H2 : Heap) (locs2 : List Loc), jd_ok (k + 1) Y2 M2 → va_P D jd_cl (jd_LW x q cA a2 mo q1 q2 c1 c2 Y2 M2) H2 → va_D (jd_A s) (jd_LW x q cA a2 mo q1 q2 c1 c2 Y2 M2) → va_S (jd_A s) s.heap H2 locs2 → W p l e room_1 s m #[Value.ref b] below meth c H2 locs2 (100 + k + 1) (100 + 3 * k + 3) Q (F0 m 468 ls [])) : W p l e room_1 s m #[Value.ref b] below meth c H locs (100 + k) (100 + 3 * k) Q (F0 m 432 ls []) := by
  have hA : ∀ q : Nat, s.heap.size ≤ q → jd_A s q := fun _ h => h
  have hbA : ¬ jd_A s b := Nat.not_le.mpr hbl
  have hP : va_P D jd_cl [jd_dk x q, jd_ar q cA (fun j => some (a j)), jd_ym (a 0) (Y 0) (M 0), jd_ym (a 1) (Y 1) (M 1), jd_mm mo q1 q2, jd_ia q1 c1 (fun j => jd_i (Y j)), jd_ia q2 c2 (fun j => jd_i (M j))] H := hP
  have hD : va_D (jd_A s) [jd_dk x q, jd_ar q cA (fun j => some (a j)), jd_ym (a 0) (Y 0) (M 0), jd_ym (a 1) (Y 1) (M 1), jd_mm mo q1 q2, jd_ia q1 c1 (fun j => jd_i (Y j)), jd_ia q2 c2 (fun j => jd_i (M j))] := hD
  obtain ⟨b1, b2, m1, m2⟩ := hok 0 (by decide)
  obtain ⟨b3, b4, m3, m4⟩ := hok 1 (by decide)
  refine lv_aload_n hx hb dL_law_432 rfl (lv_at hl 1 rfl) ?_
  refine vp_callSi (W.runV (As := []) (rest := []) ⟨hx, hb, hml, hown, hts⟩ (metX0_order l D x q cA a Y M (by omega) (by omega) (by omega) (by omega) m1 m2 m3 m4) (cwV 0 hts (lw_V q373 q374 q375 q3 q376) rfl rfl rfl (by decide +kernel) ⟨Nat.le_of_ble_eq_true rfl, Nat.le_of_ble_eq_true rfl⟩) (jd_preV (jd_mvA (jd_mvP _ _ _) (jd_mvK _ _ _)) (va_recv hK hP (ci := 0) (q0 := 0) rfl rfl) ⟨hP.sub [0, 1, 2, 3] rfl, hK.sub [0] rfl⟩) rfl rfl hl.1 rfl (lv_room (Nat.le_of_ble_eq_true rfl)) dL_law_433 ⟨by show 100 + k + 0 ≤ 1200096; omega, by show 100 + 3 * k + 0 ≤ 5501386; omega⟩) (fun r_1 hr_1 => ?_)
  obtain rfl : (jd_i ((jd_or (Y 0) (Y 1) (M 0) (M 1)))) = r_1 := Eq.symm hr_1
  refine lv_aload_n hx hb dL_law_436 rfl (lv_at hl 2 rfl) ?_
  refine vp_callSi (W.runV (As := []) (rest := [.int (jd_i ((jd_or (Y 0) (Y 1) (M 0) (M 1))))]) ⟨hx, hb, hml, hown, hts⟩ (metX5_order l D mo q1 q2 c1 c2 Y M (by omega) (by omega) (by omega) (by omega) m1 m2 m3 m4) (cwV 0 hts (lw_V q490 q491 q492 q12 q493) rfl rfl rfl (by decide +kernel) ⟨Nat.le_of_ble_eq_true rfl, Nat.le_of_ble_eq_true rfl⟩) (jd_preV (jd_mvA (jd_mvP _ _ _) (jd_mvK _ _ _)) (va_recv hK hP (ci := 3) (q0 := 4) rfl rfl) ⟨hP.sub [4, 5, 6] rfl, hK.sub [1, 2] rfl⟩) rfl rfl hl.1 rfl (lv_room (Nat.le_of_ble_eq_true rfl)) dL_law_437 ⟨by show 100 + k + 0 ≤ 1200096; omega, by show 100 + 3 * k + 0 ≤ 5501386; omega⟩) (fun r_2 hr_2 => ?_)
  obtain rfl : (jd_i ((jd_or (Y 0) (Y 1) (M 0) (M 1)))) = r_2 := Eq.symm hr_2
  refine lv_icmp_eq (tgt := 468) hx hb dL_law_440 (by decide) (fun _ => ?_) (fun c9 => absurd rfl c9)
  refine W.widen (k := 100 + k + 1) (n := 100 + 3 * k + 3) (by omega) (by omega) ?_
  exact hcont a Y M _ _ (jd_ok_mono hok) hP hD hS
set_option maxHeartbeats 4000000 in
set_option maxRecDepth 100000 in
/-- the law, case 13: keep -/
theorem law_op13 {p : Program} {l : Launch} {e : Env} {s : State} {m : MethodId} {below : List Frame} {meth : Method} {c : Code} {b L : Nat} {xs : Nat → Int32} {D : va_G} {g : Nat → Nat} {x q mo q1 q2 : Nat} {cA c1 c2 : ClassId} {Q : State → Prop} {k : Nat} {ls : Array Slot} {a : Nat → Nat} {Y M : Nat → Int} {H : Heap} {locs : List Loc} (hx : p.tables.exec = Jvm.exec) (hb : c.code = code) (hml : c.maxLocals = 4) (hown : s.vm.findClass R_law = some m.cls) (hts : ∀ w ∈ lw_all, w.before #[Value.ref b] s = true) (hX : va_X b L xs s s.heap) (hbl : b < s.heap.size) (hC : jd_C g (jd_A s) s s.heap) (hK : va_K D jd_cl [(cA, .object "YearMonth"), (c1, .int), (c2, .int)] s) (hL2 : L ≤ 288) (hL : 6 * k + 6 ≤ L) (hok : jd_ok k Y M) (hP : va_P D jd_cl (jd_LW x q cA a mo q1 q2 c1 c2 Y M) H) (hD : va_D (jd_A s) (jd_LW x q cA a mo q1 q2 c1 c2 Y M)) (hS : va_S (jd_A s) s.heap H locs) (hl : lv_has ls 4 [(0, .ref b), (1, .ref x), (2, .ref mo), (3, .int (nI (6 * k)))]) (hcont : ∀ (a2 : Nat → Nat) (Y2 M2 : Nat → Int) (H2 : Heap) (locs2 : List Loc), jd_ok (k + 1) Y2 M2 → va_P D jd_cl (jd_LW x q cA a2 mo q1 q2 c1 c2 Y2 M2) H2 → va_D (jd_A s) (jd_LW x q cA a2 mo q1 q2 c1 c2 Y2 M2) → va_S (jd_A s) s.heap H2 locs2 → W p l e room_1 s m #[Value.ref b] below meth c H2 locs2 (100 + k + 1) (100 + 3 * k + 3) Q (F0 m 468 ls [])) : W p l e room_1 s m #[Value.ref b] below meth c H locs (100 + k) (100 + 3 * k) Q (F0 m 445 ls []) := by
  have hA : ∀ q : Nat, s.heap.size ≤ q → jd_A s q := fun _ h => h
  have hbA : ¬ jd_A s b := Nat.not_le.mpr hbl
  have hP : va_P D jd_cl [jd_dk x q, jd_ar q cA (fun j => some (a j)), jd_ym (a 0) (Y 0) (M 0), jd_ym (a 1) (Y 1) (M 1), jd_mm mo q1 q2, jd_ia q1 c1 (fun j => jd_i (Y j)), jd_ia q2 c2 (fun j => jd_i (M j))] H := hP
  have hD : va_D (jd_A s) [jd_dk x q, jd_ar q cA (fun j => some (a j)), jd_ym (a 0) (Y 0) (M 0), jd_ym (a 1) (Y 1) (M 1), jd_mm mo q1 q2, jd_ia q1 c1 (fun j => jd_i (Y j)), jd_ia q2 c2 (fun j => jd_i (M j))] := hD
  obtain ⟨i, hi, hw⟩ := pk_andE (xs (6 * k + 1)) (m := 1) 1 (by decide)
  have hi : i < 2 := hi
  have hw : xs (6 * k + 1) &&& 1 = nI i := hw
  obtain ⟨b1, b2, m1, m2⟩ := hok i hi
  refine lv_aload_n hx hb dL_law_445 rfl (lv_at hl 1 rfl) ?_
  refine lv_aload_n hx hb dL_law_446 rfl (lv_at hl 0 rfl) ?_
  refine lv_iload_n hx hb dL_law_447 rfl (lv_at hl 3 rfl) ?_
  refine lv_iconst (v := jd_i 1) hx hb dL_law_448 (by decide) ?_
  refine lv_iadd hx hb dL_law_449 ?_
  refine jd_ti (y := (nI (6 * k + 1))) (nI_add (6 * k) 1) ?_
  refine jd_sld hx hb hX hbl hbA hS (show 6 * k + 1 < L by omega) hL2 dL_law_450 ?_
  have hFc := va_free (wc := [jd_dk x q, jd_ar q cA (fun j => some (a j)), jd_ym (a 0) (Y 0) (M 0), jd_ym (a 1) (Y 1) (M 1)]) hD hS hA [0, 1, 2, 3] rfl
  refine va_calli (va_runV (As := [.int ((xs (6 * k + 1)))]) (rest := []) ⟨hx, hb, hml, hown, hts⟩ (metX0_keep l D g x q H.size cA a Y M i (xs (6 * k + 1)) hi hw (by omega) (by omega) m1 m2) (cwV 1 hts (lw_V q381 q382 q383 q3 q384) rfl rfl rfl (by decide +kernel) ⟨Nat.le_of_ble_eq_true rfl, Nat.le_of_ble_eq_true rfl⟩) (jd_preV (jd_mvA (jd_mvZ _) (jd_mvA (jd_mvP _ _ _) (jd_mvA (jd_mvK _ _ _) (jd_mvA (jd_mvC _) jd_C.moved)))) (va_recv hK hP (ci := 0) (q0 := 0) rfl rfl) ⟨rfl, hP.sub [0, 1, 2, 3] rfl, hK.sub [0] rfl, (hD.sub [0, 1, 2, 3] (by decide) rfl).weaken (fun _ _ _ _ => trivial), (hC.kept hS.2.1).narrow hFc⟩) rfl rfl hl.1 rfl (lv_room (Nat.le_of_ble_eq_true rfl)) dL_law_451 ⟨by show 100 + k + 1 ≤ 1200096; omega, by show 100 + 3 * k + 2 ≤ 5501386; omega⟩) hS (fun q _ h => hFc q h) hFc (fun r_ u_ t H1 locs ht hvm hw1 hB hz1 hk1 hS => ?_)
  obtain ⟨hP1, hK1, hD1⟩ := hB
  rw [ht] at hP1
  obtain ⟨hP, hD⟩ := va_join (wr := [jd_mm mo q1 q2, jd_ia q1 c1 (fun j => jd_i (Y j)), jd_ia q2 c2 (fun j => jd_i (M j))]) (w1 := [jd_dk x q, jd_ar q cA (fun j => some ((va_up a i u_) j)), jd_ym ((va_up a i u_) 0) ((va_up Y i (if jd_out (Y i) = true then 2000 else Y i)) 0) ((va_up M i (if jd_out (Y i) = true then 1 else M i)) 0), jd_ym ((va_up a i u_) 1) ((va_up Y i (if jd_out (Y i) = true then 2000 else Y i)) 1) ((va_up M i (if jd_out (Y i) = true then 1 else M i)) 1)]) hP hD [0, 1, 2, 3] [4, 5, 6] rfl rfl (by decide) (by decide) hk1 hFc hP1 hD1
  generalize H1 = H at hP hS ⊢
  have hP : va_P D jd_cl [jd_mm mo q1 q2, jd_ia q1 c1 (fun j => jd_i (Y j)), jd_ia q2 c2 (fun j => jd_i (M j)), jd_dk x q, jd_ar q cA (fun j => some ((va_up a i u_) j)), jd_ym ((va_up a i u_) 0) ((va_up Y i (if jd_out (Y i) = true then 2000 else Y i)) 0) ((va_up M i (if jd_out (Y i) = true then 1 else M i)) 0), jd_ym ((va_up a i u_) 1) ((va_up Y i (if jd_out (Y i) = true then 2000 else Y i)) 1) ((va_up M i (if jd_out (Y i) = true then 1 else M i)) 1)] H := hP
  have hD : va_D (jd_A s) [jd_mm mo q1 q2, jd_ia q1 c1 (fun j => jd_i (Y j)), jd_ia q2 c2 (fun j => jd_i (M j)), jd_dk x q, jd_ar q cA (fun j => some ((va_up a i u_) j)), jd_ym ((va_up a i u_) 0) ((va_up Y i (if jd_out (Y i) = true then 2000 else Y i)) 0) ((va_up M i (if jd_out (Y i) = true then 1 else M i)) 0), jd_ym ((va_up a i u_) 1) ((va_up Y i (if jd_out (Y i) = true then 2000 else Y i)) 1) ((va_up M i (if jd_out (Y i) = true then 1 else M i)) 1)] := hD
  have hP := hP.sub (ws' := [jd_dk x q, jd_ar q cA (fun j => some ((va_up a i u_) j)), jd_ym ((va_up a i u_) 0) ((va_up Y i (if jd_out (Y i) = true then 2000 else Y i)) 0) ((va_up M i (if jd_out (Y i) = true then 1 else M i)) 0), jd_ym ((va_up a i u_) 1) ((va_up Y i (if jd_out (Y i) = true then 2000 else Y i)) 1) ((va_up M i (if jd_out (Y i) = true then 1 else M i)) 1), jd_mm mo q1 q2, jd_ia q1 c1 (fun j => jd_i (Y j)), jd_ia q2 c2 (fun j => jd_i (M j))]) [3, 4, 5, 6, 0, 1, 2] rfl
  have hD := hD.sub (ws' := [jd_dk x q, jd_ar q cA (fun j => some ((va_up a i u_) j)), jd_ym ((va_up a i u_) 0) ((va_up Y i (if jd_out (Y i) = true then 2000 else Y i)) 0) ((va_up M i (if jd_out (Y i) = true then 1 else M i)) 0), jd_ym ((va_up a i u_) 1) ((va_up Y i (if jd_out (Y i) = true then 2000 else Y i)) 1) ((va_up M i (if jd_out (Y i) = true then 1 else M i)) 1), jd_mm mo q1 q2, jd_ia q1 c1 (fun j => jd_i (Y j)), jd_ia q2 c2 (fun j => jd_i (M j))]) [3, 4, 5, 6, 0, 1, 2] (by decide) rfl
  obtain rfl : (jd_i ((if jd_out (Y i) = true then 0 else 1))) = r_ := Eq.symm hw1
  refine lv_aload_n hx hb dL_law_454 rfl (lv_at hl 2 rfl) ?_
  refine lv_aload_n hx hb dL_law_455 rfl (lv_at hl 0 rfl) ?_
  refine lv_iload_n hx hb dL_law_456 rfl (lv_at hl 3 rfl) ?_
  refine lv_iconst (v := jd_i 1) hx hb dL_law_457 (by decide) ?_
  refine lv_iadd hx hb dL_law_458 ?_
  refine jd_ti (y := (nI (6 * k + 1))) (nI_add (6 * k) 1) ?_
  refine jd_sld hx hb hX hbl hbA hS (show 6 * k + 1 < L by omega) hL2 dL_law_459 ?_
  have hFc := va_free (wc := [jd_mm mo q1 q2, jd_ia q1 c1 (fun j => jd_i (Y j)), jd_ia q2 c2 (fun j => jd_i (M j))]) hD hS hA [4, 5, 6] rfl
  refine va_calli (va_runV (As := [.int ((xs (6 * k + 1)))]) (rest := [.int (jd_i ((if jd_out (Y i) = true then 0 else 1)))]) ⟨hx, hb, hml, hown, hts⟩ (metX5_keep l D mo q1 q2 H.size c1 c2 Y M i (xs (6 * k + 1)) hi hw (by omega) (by omega) m1 m2) (cwV 1 hts (lw_V q494 q495 q496 q12 q497) rfl rfl rfl (by decide +kernel) ⟨Nat.le_of_ble_eq_true rfl, Nat.le_of_ble_eq_true rfl⟩) (jd_preV (jd_mvA (jd_mvZ _) (jd_mvA (jd_mvP _ _ _) (jd_mvA (jd_mvK _ _ _) (jd_mvC _)))) (va_recv hK hP (ci := 3) (q0 := 4) rfl rfl) ⟨rfl, hP.sub [4, 5, 6] rfl, hK.sub [1, 2] rfl, (hD.sub [4, 5, 6] (by decide) rfl).weaken (fun _ _ _ _ => trivial)⟩) rfl rfl hl.1 rfl (lv_room (Nat.le_of_ble_eq_true rfl)) dL_law_460 ⟨by show 100 + k + 1 + 0 ≤ 1200096; omega, by show 100 + 3 * k + 2 + 0 ≤ 5501386; omega⟩) hS (fun q _ h => hFc q h) hFc (fun rr_ v_ t H1 locs ht hvm hw1 hB hz1 hk1 hS => ?_)
  obtain ⟨hP1, hK1, hD1⟩ := hB
  rw [ht] at hP1
  obtain ⟨hP, hD⟩ := va_join (wr := [jd_dk x q, jd_ar q cA (fun j => some ((va_up a i u_) j)), jd_ym ((va_up a i u_) 0) ((va_up Y i (if jd_out (Y i) = true then 2000 else Y i)) 0) ((va_up M i (if jd_out (Y i) = true then 1 else M i)) 0), jd_ym ((va_up a i u_) 1) ((va_up Y i (if jd_out (Y i) = true then 2000 else Y i)) 1) ((va_up M i (if jd_out (Y i) = true then 1 else M i)) 1)]) (w1 := [jd_mm mo q1 q2, jd_ia q1 c1 (fun j => jd_i ((va_up Y i (if jd_out (Y i) = true then 2000 else Y i)) j)), jd_ia q2 c2 (fun j => jd_i ((va_up M i (if jd_out (Y i) = true then 1 else M i)) j))]) hP hD [4, 5, 6] [0, 1, 2, 3] rfl rfl (by decide) (by decide) hk1 hFc hP1 hD1
  generalize H1 = H at hP hS ⊢
  have hP : va_P D jd_cl [jd_dk x q, jd_ar q cA (fun j => some ((va_up a i u_) j)), jd_ym ((va_up a i u_) 0) ((va_up Y i (if jd_out (Y i) = true then 2000 else Y i)) 0) ((va_up M i (if jd_out (Y i) = true then 1 else M i)) 0), jd_ym ((va_up a i u_) 1) ((va_up Y i (if jd_out (Y i) = true then 2000 else Y i)) 1) ((va_up M i (if jd_out (Y i) = true then 1 else M i)) 1), jd_mm mo q1 q2, jd_ia q1 c1 (fun j => jd_i ((va_up Y i (if jd_out (Y i) = true then 2000 else Y i)) j)), jd_ia q2 c2 (fun j => jd_i ((va_up M i (if jd_out (Y i) = true then 1 else M i)) j))] H := hP
  have hD : va_D (jd_A s) [jd_dk x q, jd_ar q cA (fun j => some ((va_up a i u_) j)), jd_ym ((va_up a i u_) 0) ((va_up Y i (if jd_out (Y i) = true then 2000 else Y i)) 0) ((va_up M i (if jd_out (Y i) = true then 1 else M i)) 0), jd_ym ((va_up a i u_) 1) ((va_up Y i (if jd_out (Y i) = true then 2000 else Y i)) 1) ((va_up M i (if jd_out (Y i) = true then 1 else M i)) 1), jd_mm mo q1 q2, jd_ia q1 c1 (fun j => jd_i ((va_up Y i (if jd_out (Y i) = true then 2000 else Y i)) j)), jd_ia q2 c2 (fun j => jd_i ((va_up M i (if jd_out (Y i) = true then 1 else M i)) j))] := hD
  obtain rfl : (jd_i ((if jd_out (Y i) = true then 0 else 1))) = rr_ := Eq.symm hw1
  refine lv_icmp_eq (tgt := 468) hx hb dL_law_463 (by decide) (fun _ => ?_) (fun c9 => absurd rfl c9)
  refine W.widen (k := 100 + k + 1) (n := 100 + 3 * k + 3) (by omega) (by omega) ?_
  exact hcont (va_up a i u_) (va_up Y i (if jd_out (Y i) = true then 2000 else Y i)) (va_up M i (if jd_out (Y i) = true then 1 else M i)) _ _ (jd_ok_up hok (by split <;> omega) (by split <;> omega) (by split <;> omega) (by split <;> omega)) hP hD hS
set_option maxHeartbeats 4000000 in
set_option maxRecDepth 100000 in
/-- the law's loop at its head, k steps done -/
theorem law_loop {p : Program} {l : Launch} {e : Env} {s : State} {m : MethodId} {below : List Frame} {meth : Method} {c : Code} {b L : Nat} {xs : Nat → Int32} {D : va_G} {g : Nat → Nat} {x q mo q1 q2 : Nat} {cA c1 c2 : ClassId} (hx : p.tables.exec = Jvm.exec) (hb : c.code = code) (hml : c.maxLocals = 4) (hown : s.vm.findClass R_law = some m.cls) (hts : ∀ w ∈ lw_all, w.before #[Value.ref b] s = true) (hX : va_X b L xs s s.heap) (hbl : b < s.heap.size) (hC : jd_C g (jd_A s) s s.heap) (hK : va_K D jd_cl [(cA, .object "YearMonth"), (c1, .int), (c2, .int)] s) (hL2 : L ≤ 288) (hr : meth.sig.returnType = ret) (hlocks : meth.locks = false) : ∀ (n k : Nat), k + n = 49 → 6 * k ≤ L → ∀ (a : Nat → Nat) (Y M : Nat → Int) (H : Heap) (locs : List Loc), jd_ok k Y M → va_P D jd_cl (jd_LW x q cA a mo q1 q2 c1 c2 Y M) H → va_D (jd_A s) (jd_LW x q cA a mo q1 q2 c1 c2 Y M) → va_S (jd_A s) s.heap H locs → ∀ (ls : Array Slot), lv_has ls 4 [(0, .ref b), (1, .ref x), (2, .ref mo), (3, .int (nI (6 * k)))] → W p l e room_1 s m #[Value.ref b] below meth c H locs (100 + k) (100 + 3 * k) (lw_Z below #[Value.ref b] s) (F0 m 18 ls []) := by
  have hA : ∀ q : Nat, s.heap.size ≤ q → jd_A s q := fun _ h => h
  have hbA : ¬ jd_A s b := Nat.not_le.mpr hbl
  intro n
  induction n with
  | zero =>
    intro k hk h6
    exact absurd h6 (by omega)
  | succ n ih =>
    intro k hk h6 a Y M H locs hok hP hD hS ls hl
    refine lv_iload_n hx hb dL_law_18 rfl (lv_at hl 3 rfl) ?_
    refine lv_aload_n hx hb dL_law_19 rfl (lv_at hl 0 rfl) ?_
    refine va_slen hx hb hX hbl hbA hS dL_law_20 ?_
    refine jd_ti (y := jd_i (L : Int)) (jd_nI (show L < 2 ^ 31 by omega)) ?_
    refine lv_bipush (v := jd_i 6) hx hb dL_law_21 (by decide) ?_
    refine lv_isub hx hb dL_law_23 ?_
    refine jd_ti (jd_i_sub _ _) ?_
    refine lv_icmp_gt (tgt := 474) hx hb dL_law_24 (by decide) (fun _ => ?_) (fun c9 => ?_)
    · skip
      refine lv_iconst (v := 1) hx hb dL_law_474 (by decide) ?_
      refine va_forget (fun q h => hS.2.2 q h) ?_
      refine W.widen (k := 1200096) (n := 5501386) (by omega) (by omega) ?_
      exact lw_ret hx hb hr hlocks dL_law_475
    · have hL : 6 * k + 6 ≤ L := jd_head hL2 h6 c9
      have cont : ∀ (a2 : Nat → Nat) (Y2 M2 : Nat → Int) (H2 : Heap) (locs2 : List Loc), jd_ok (k + 1) Y2 M2 → va_P D jd_cl (jd_LW x q cA a2 mo q1 q2 c1 c2 Y2 M2) H2 → va_D (jd_A s) (jd_LW x q cA a2 mo q1 q2 c1 c2 Y2 M2) → va_S (jd_A s) s.heap H2 locs2 → W p l e room_1 s m #[Value.ref b] below meth c H2 locs2 (100 + k + 1) (100 + 3 * k + 3) (lw_Z below #[Value.ref b] s) (F0 m 468 ls []) := by
        intro a2 Y2 M2 H2 locs2 hok2 hP2 hD2 hS2
        refine lv_iinc (v := nI (6 * (k + 1))) (lv' := [(3, .int (nI (6 * (k + 1)))), (0, .ref b), (1, .ref x), (2, .ref mo)]) hx hb dL_law_468 hl (k := 3) rfl (nI_add (6 * k) 6) (by decide) rfl (fun ls hl => ?_)
        refine lv_goto (tgt := 18) hx hb dL_law_471 (by decide) ?_
        exact ih (k + 1) (by omega) (by omega) a2 Y2 M2 H2 locs2 hok2 hP2 hD2 hS2 ls (lv_sub hl [1, 2, 3, 0] rfl)
      refine lv_aload_n hx hb dL_law_27 rfl (lv_at hl 0 rfl) ?_
      refine lv_iload_n hx hb dL_law_28 rfl (lv_at hl 3 rfl) ?_
      refine jd_sld hx hb hX hbl hbA hS (show 6 * k < L by omega) hL2 dL_law_29 ?_
      refine lv_bipush (v := jd_i 15) hx hb dL_law_30 (by decide) ?_
      refine lv_iand hx hb dL_law_32 ?_
      obtain ⟨j, hj, ej⟩ := pk_andE (xs (6 * k)) (m := 15) 4 (by decide)
      have hj : j < 16 := hj
      refine jd_ti (y := (nI j)) ej ?_
      rcases (show j = 0 ∨ j = 1 ∨ j = 2 ∨ j = 3 ∨ j = 4 ∨ j = 5 ∨ j = 6 ∨ j = 7 ∨ j = 8 ∨ j = 9 ∨ j = 10 ∨ j = 11 ∨ j = 12 ∨ j = 13 ∨ j = 14 ∨ j = 15 by omega) with rfl | rfl | rfl | rfl | rfl | rfl | rfl | rfl | rfl | rfl | rfl | rfl | rfl | rfl | rfl | rfl
      · refine lv_tableIn (off := 71) (tgt := 104) hx hb dL_law_33 (by decide) (by decide) (by decide) (by decide) ?_
        exact law_op0 hx hb hml hown hts hX hbl hC hK hL2 hL hok hP hD hS hl cont
      · refine lv_tableIn (off := 112) (tgt := 145) hx hb dL_law_33 (by decide) (by decide) (by decide) (by decide) ?_
        exact law_op1 hx hb hml hown hts hX hbl hC hK hL2 hL hok hP hD hS hl cont
      · refine lv_tableIn (off := 143) (tgt := 176) hx hb dL_law_33 (by decide) (by decide) (by decide) (by decide) ?_
        exact law_op2 hx hb hml hown hts hX hbl hC hK hL2 hL hok hP hD hS hl cont
      · refine lv_tableIn (off := 174) (tgt := 207) hx hb dL_law_33 (by decide) (by decide) (by decide) (by decide) ?_
        exact law_op3 hx hb hml hown hts hX hbl hC hK hL2 hL hok hP hD hS hl cont
      · refine lv_tableIn (off := 205) (tgt := 238) hx hb dL_law_33 (by decide) (by decide) (by decide) (by decide) ?_
        exact law_op4 hx hb hml hown hts hX hbl hC hK hL2 hL hok hP hD hS hl cont
      · refine lv_tableIn (off := 236) (tgt := 269) hx hb dL_law_33 (by decide) (by decide) (by decide) (by decide) ?_
        exact law_op5 hx hb hml hown hts hX hbl hC hK hL2 hL hok hP hD hS hl cont
      · refine lv_tableIn (off := 259) (tgt := 292) hx hb dL_law_33 (by decide) (by decide) (by decide) (by decide) ?_
        exact law_op6 hx hb hml hown hts hX hbl hC hK hL2 hL hok hP hD hS hl cont
      · refine lv_tableIn (off := 282) (tgt := 315) hx hb dL_law_33 (by decide) (by decide) (by decide) (by decide) ?_
        exact law_op7 hx hb hml hown hts hX hbl hC hK hL2 hL hok hP hD hS hl cont
      · refine lv_tableIn (off := 305) (tgt := 338) hx hb dL_law_33 (by decide) (by decide) (by decide) (by decide) ?_
        exact law_op8 hx hb hml hown hts hX hbl hC hK hL2 hL hok hP hD hS hl cont
      · refine lv_tableIn (off := 328) (tgt := 361) hx hb dL_law_33 (by decide) (by decide) (by decide) (by decide) ?_
        exact law_op9 hx hb hml hown hts hX hbl hC hK hL2 hL hok hP hD hS hl cont
      · refine lv_tableIn (off := 351) (tgt := 384) hx hb dL_law_33 (by decide) (by decide) (by decide) (by decide) ?_
        exact law_op10 hx hb hml hown hts hX hbl hC hK hL2 hL hok hP hD hS hl cont
      · refine lv_tableIn (off := 375) (tgt := 408) hx hb dL_law_33 (by decide) (by decide) (by decide) (by decide) ?_
        exact law_op11 hx hb hml hown hts hX hbl hC hK hL2 hL hok hP hD hS hl cont
      · refine lv_tableIn (off := 399) (tgt := 432) hx hb dL_law_33 (by decide) (by decide) (by decide) (by decide) ?_
        exact law_op12 hx hb hml hown hts hX hbl hC hK hL2 hL hok hP hD hS hl cont
      · refine lv_tableIn (off := 412) (tgt := 445) hx hb dL_law_33 (by decide) (by decide) (by decide) (by decide) ?_
        exact law_op13 hx hb hml hown hts hX hbl hC hK hL2 hL hok hP hD hS hl cont
      · refine lv_tableOut (tgt := 468) hx hb dL_law_33 (by decide) (by decide) ?_
        refine W.widen (k := 100 + k + 1) (n := 100 + 3 * k + 3) (by omega) (by omega) ?_
        exact cont a Y M H locs (jd_ok_mono hok) hP hD hS
      · refine lv_tableOut (tgt := 468) hx hb dL_law_33 (by decide) (by decide) ?_
        refine W.widen (k := 100 + k + 1) (n := 100 + 3 * k + 3) (by omega) (by omega) ?_
        exact cont a Y M H locs (jd_ok_mono hok) hP hD hS
end
section
/-! the start: the constants, the two objects (printed by gen/g13.py) -/
theorem jd_OFof {args : Array Value} {s : State} {t : Term} {o n d : String} {v : Value} {a : Nat} {A : Nat → Prop} (ht : t.eval args s none [] s = some (.ref a)) (hv : (Term.field t o n d).eval args s none [] s = some v) (hA : ∀ a : Nat, a < s.heap.size → ¬ A a) : va_OF o n d v a A s s.heap := by
  cases hfo : s.fieldFound? o n d with
  | none =>
    rw [va_fe ht] at hv
    simp [State.fieldOf?, State.fieldNamed?, hfo] at hv
  | some x =>
    obtain ⟨cf, k, fi, f⟩ := x
    obtain ⟨g1, cell, g2, g3, -, -, g6⟩ := Term.field_spec hfo ht hv
    exact ⟨cf, k, fi, f, cell, hfo, g1, g2, g3, g6, hA _ (Array.getElem?_eq_some_iff.mp g2).1⟩
theorem jd_refof {args : Array Value} {s : State} {t : Term} {nm : String} (h : (Cond.exactly t nm).before args s = true) : ∃ a : Nat, t.eval args s none [] s = some (.ref a) := by
  obtain ⟨a, c, cell, k, q1, -⟩ := Cond.exactly_spec (args := args) (first := s) (o := none) (s := s) (idx := []) (t := t) (cls := nm) h
  exact ⟨a, q1⟩
theorem jd_Fof {args : Array Value} {s : State} {nm : String} {mn mx : Int64} {mn' mx' : Int} {A : Nat → Prop} (hl : (Cond.laysStatic "ChronoField" nm "LChronoField;").before args s = true) (hini : (Cond.initialized "ChronoField").before args s = true) (h1 : (Cond.exactly (.static "ChronoField" nm "LChronoField;") "ChronoField").before args s = true) (h2 : (Cond.exactly (.field (.static "ChronoField" nm "LChronoField;") "ChronoField" "range" "LValueRange;") "ValueRange").before args s = true) (h3 : (Cond.eq (.field (.field (.static "ChronoField" nm "LChronoField;") "ChronoField" "range" "LValueRange;") "ValueRange" "minSmallest" "J") (.long mn)).before args s = true) (h4 : (Cond.eq (.field (.field (.static "ChronoField" nm "LChronoField;") "ChronoField" "range" "LValueRange;") "ValueRange" "maxLargest" "J") (.long mx)).before args s = true) (e1 : mn = jd_l mn') (e2 : mx = jd_l mx') (hA : ∀ a : Nat, a < s.heap.size → ¬ A a) : ∃ a r : Nat, jd_F nm a r mn' mx' A s s.heap := by
  obtain ⟨a, ha⟩ := jd_refof h1
  obtain ⟨r, hr⟩ := jd_refof h2
  subst e1
  subst e2
  exact ⟨a, r, va_Zref hl hini ha hA, va_Oof h1 ha hA, jd_OFof ha hr hA, va_Oof h2 hr hA, jd_OFof hr (va_eqtl h3) hA, jd_OFof hr (va_eqtl h4) hA⟩
theorem jd_Moof {args : Array Value} {s : State} {nm : String} {j : Nat} {z : Int32} {A : Nat → Prop} (h1 : (Cond.exactly (.static "Month" nm "LMonth;") "Month").before args s = true) (h2 : (Cond.eq (.field (.static "Month" nm "LMonth;") "java/lang/Enum" "ordinal" "I") (.int z)).before args s = true) (e : z = nI j) (hA : ∀ a : Nat, a < s.heap.size → ¬ A a) : ∃ a : Nat, (Term.static "Month" nm "LMonth;").eval args s none [] s = some (.ref a) ∧ jd_Mo j a A s s.heap := by
  obtain ⟨a, ha⟩ := jd_refof h1
  subst e
  exact ⟨a, ha, va_Oof h1 ha hA, jd_OFof ha (va_eqt h2) hA⟩
theorem jd_ok0 : jd_ok 0 (fun _ => 2000) (fun _ => 1) := fun j hj => show -(1000000 + 90000 * ((0 : Nat) : Int)) ≤ 2000 ∧ (2000 : Int) ≤ 1000000 + 90000 * ((0 : Nat) : Int) ∧ (1 : Int) ≤ 1 ∧ (1 : Int) ≤ 12 by decide
def jd_mn (j : Nat) : String := (["JANUARY", "FEBRUARY", "MARCH", "APRIL", "MAY", "JUNE", "JULY", "AUGUST", "SEPTEMBER", "OCTOBER", "NOVEMBER", "DECEMBER"] : List String).getD j ""
set_option maxHeartbeats 4000000 in
set_option maxRecDepth 100000 in
/-- the constants, as the start has them -/
theorem jd_consts {s : State} {b : Addr} (ht0 : ∀ w ∈ lw_tbl, w.before #[Value.ref b] s = true) (hgv : (Jvm.Cond.and given_1 narrow_1).before #[Value.ref b] s = true) : ∃ g : Nat → Nat, jd_C g (jd_A s) s s.heap := by
  have hs := flat_of_before _ hgv
  have hA : ∀ a : Nat, a < s.heap.size → ¬ jd_A s a := fun a h => Nat.not_le.mpr h
  obtain ⟨aY, rY, haY⟩ := jd_Fof (nm := "YEAR") (mn := -999999999) (mx := 999999999) (mn' := -999999999) (mx' := 999999999) (ht0 _ q34) (ht0 _ (lw_all_tbl q7)) (hs _ (by decide +kernel)) (hs _ (by decide +kernel)) (hs _ (by decide +kernel)) (hs _ (by decide +kernel)) (by decide) (by decide) hA
  obtain ⟨aM, rM, haM⟩ := jd_Fof (nm := "MONTH_OF_YEAR") (mn := 1) (mx := 12) (mn' := 1) (mx' := 12) (ht0 _ q127) (ht0 _ (lw_all_tbl q7)) (hs _ (by decide +kernel)) (hs _ (by decide +kernel)) (hs _ (by decide +kernel)) (hs _ (by decide +kernel)) (by decide) (by decide) hA
  obtain ⟨aD, rD, haD⟩ := jd_Fof (nm := "DAY_OF_MONTH") (mn := 1) (mx := 31) (mn' := 1) (mx' := 31) (ht0 _ q304) (ht0 _ (lw_all_tbl q7)) (hs _ (by decide +kernel)) (hs _ (by decide +kernel)) (hs _ (by decide +kernel)) (hs _ (by decide +kernel)) (by decide) (by decide) hA
  have hmon : ∀ j : Nat, ∃ a : Nat, j < 12 → (Term.static "Month" (jd_mn j) "LMonth;").eval #[Value.ref b] s none [] s = some (.ref a) ∧ jd_Mo j a (jd_A s) s s.heap := by
    intro j
    by_cases hj : j < 12
    · rcases (show j = 0 ∨ j = 1 ∨ j = 2 ∨ j = 3 ∨ j = 4 ∨ j = 5 ∨ j = 6 ∨ j = 7 ∨ j = 8 ∨ j = 9 ∨ j = 10 ∨ j = 11 by omega) with rfl | rfl | rfl | rfl | rfl | rfl | rfl | rfl | rfl | rfl | rfl | rfl
      · obtain ⟨a, h1, h2⟩ := jd_Moof (nm := "JANUARY") (j := 0) (z := 0) (hs _ (by decide +kernel)) (hs _ (by decide +kernel)) (by decide) hA
        exact ⟨a, fun _ => ⟨h1, h2⟩⟩
      · obtain ⟨a, h1, h2⟩ := jd_Moof (nm := "FEBRUARY") (j := 1) (z := 1) (hs _ (by decide +kernel)) (hs _ (by decide +kernel)) (by decide) hA
        exact ⟨a, fun _ => ⟨h1, h2⟩⟩
      · obtain ⟨a, h1, h2⟩ := jd_Moof (nm := "MARCH") (j := 2) (z := 2) (hs _ (by decide +kernel)) (hs _ (by decide +kernel)) (by decide) hA
        exact ⟨a, fun _ => ⟨h1, h2⟩⟩
      · obtain ⟨a, h1, h2⟩ := jd_Moof (nm := "APRIL") (j := 3) (z := 3) (hs _ (by decide +kernel)) (hs _ (by decide +kernel)) (by decide) hA
        exact ⟨a, fun _ => ⟨h1, h2⟩⟩
      · obtain ⟨a, h1, h2⟩ := jd_Moof (nm := "MAY") (j := 4) (z := 4) (hs _ (by decide +kernel)) (hs _ (by decide +kernel)) (by decide) hA
        exact ⟨a, fun _ => ⟨h1, h2⟩⟩
      · obtain ⟨a, h1, h2⟩ := jd_Moof (nm := "JUNE") (j := 5) (z := 5) (hs _ (by decide +kernel)) (hs _ (by decide +kernel)) (by decide) hA
        exact ⟨a, fun _ => ⟨h1, h2⟩⟩
      · obtain ⟨a, h1, h2⟩ := jd_Moof (nm := "JULY") (j := 6) (z := 6) (hs _ (by decide +kernel)) (hs _ (by decide +kernel)) (by decide) hA
        exact ⟨a, fun _ => ⟨h1, h2⟩⟩
      · obtain ⟨a, h1, h2⟩ := jd_Moof (nm := "AUGUST") (j := 7) (z := 7) (hs _ (by decide +kernel)) (hs _ (by decide +kernel)) (by decide) hA
        exact ⟨a, fun _ => ⟨h1, h2⟩⟩
      · obtain ⟨a, h1, h2⟩ := jd_Moof (nm := "SEPTEMBER") (j := 8) (z := 8) (hs _ (by decide +kernel)) (hs _ (by decide +kernel)) (by decide) hA
        exact ⟨a, fun _ => ⟨h1, h2⟩⟩
      · obtain ⟨a, h1, h2⟩ := jd_Moof (nm := "OCTOBER") (j := 9) (z := 9) (hs _ (by decide +kernel)) (hs _ (by decide +kernel)) (by decide) hA
        exact ⟨a, fun _ => ⟨h1, h2⟩⟩
      · obtain ⟨a, h1, h2⟩ := jd_Moof (nm := "NOVEMBER") (j := 10) (z := 10) (hs _ (by decide +kernel)) (hs _ (by decide +kernel)) (by decide) hA
        exact ⟨a, fun _ => ⟨h1, h2⟩⟩
      · obtain ⟨a, h1, h2⟩ := jd_Moof (nm := "DECEMBER") (j := 11) (z := 11) (hs _ (by decide +kernel)) (hs _ (by decide +kernel)) (by decide) hA
        exact ⟨a, fun _ => ⟨h1, h2⟩⟩
    · exact ⟨0, fun h => absurd h hj⟩
  obtain ⟨am, ham⟩ := Classical.axiomOfChoice hmon
  obtain ⟨aE, hEv, hEt⟩ := va_Tof (tm := .static "Month" "ENUMS" "[LMonth;") (ty := .object "Month") (N := 12) (f := fun j => .ref (am j)) (A := jd_A s) (by decide) (hs _ (by decide +kernel)) (va_eqt (z := 12) (hs _ (by decide +kernel))) (fun j hj => by
    rcases (show j = 0 ∨ j = 1 ∨ j = 2 ∨ j = 3 ∨ j = 4 ∨ j = 5 ∨ j = 6 ∨ j = 7 ∨ j = 8 ∨ j = 9 ∨ j = 10 ∨ j = 11 by omega) with rfl | rfl | rfl | rfl | rfl | rfl | rfl | rfl | rfl | rfl | rfl | rfl
    · exact va_eqv (hs (.eq (.elem (.static "Month" "ENUMS" "[LMonth;") (.int 0)) (.static "Month" "JANUARY" "LMonth;")) (by decide +kernel)) (ham 0 (by decide)).1
    · exact va_eqv (hs (.eq (.elem (.static "Month" "ENUMS" "[LMonth;") (.int 1)) (.static "Month" "FEBRUARY" "LMonth;")) (by decide +kernel)) (ham 1 (by decide)).1
    · exact va_eqv (hs (.eq (.elem (.static "Month" "ENUMS" "[LMonth;") (.int 2)) (.static "Month" "MARCH" "LMonth;")) (by decide +kernel)) (ham 2 (by decide)).1
    · exact va_eqv (hs (.eq (.elem (.static "Month" "ENUMS" "[LMonth;") (.int 3)) (.static "Month" "APRIL" "LMonth;")) (by decide +kernel)) (ham 3 (by decide)).1
    · exact va_eqv (hs (.eq (.elem (.static "Month" "ENUMS" "[LMonth;") (.int 4)) (.static "Month" "MAY" "LMonth;")) (by decide +kernel)) (ham 4 (by decide)).1
    · exact va_eqv (hs (.eq (.elem (.static "Month" "ENUMS" "[LMonth;") (.int 5)) (.static "Month" "JUNE" "LMonth;")) (by decide +kernel)) (ham 5 (by decide)).1
    · exact va_eqv (hs (.eq (.elem (.static "Month" "ENUMS" "[LMonth;") (.int 6)) (.static "Month" "JULY" "LMonth;")) (by decide +kernel)) (ham 6 (by decide)).1
    · exact va_eqv (hs (.eq (.elem (.static "Month" "ENUMS" "[LMonth;") (.int 7)) (.static "Month" "AUGUST" "LMonth;")) (by decide +kernel)) (ham 7 (by decide)).1
    · exact va_eqv (hs (.eq (.elem (.static "Month" "ENUMS" "[LMonth;") (.int 8)) (.static "Month" "SEPTEMBER" "LMonth;")) (by decide +kernel)) (ham 8 (by decide)).1
    · exact va_eqv (hs (.eq (.elem (.static "Month" "ENUMS" "[LMonth;") (.int 9)) (.static "Month" "OCTOBER" "LMonth;")) (by decide +kernel)) (ham 9 (by decide)).1
    · exact va_eqv (hs (.eq (.elem (.static "Month" "ENUMS" "[LMonth;") (.int 10)) (.static "Month" "NOVEMBER" "LMonth;")) (by decide +kernel)) (ham 10 (by decide)).1
    · exact va_eqv (hs (.eq (.elem (.static "Month" "ENUMS" "[LMonth;") (.int 11)) (.static "Month" "DECEMBER" "LMonth;")) (by decide +kernel)) (ham 11 (by decide)).1) hA
  have hEz := va_Zref (A := jd_A s) (ht0 _ q252) (ht0 _ (lw_all_tbl q14)) hEv hA
  have hIx : (Cond.exactly (.static "IsoChronology" "INSTANCE" "LIsoChronology;") "IsoChronology").before #[Value.ref b] s = true := hs _ (by decide +kernel)
  obtain ⟨aI, hIv⟩ := jd_refof hIx
  have hIz := va_Zref (A := jd_A s) (ht0 _ q258) (ht0 _ (lw_all_tbl q16)) hIv hA
  have hIo := va_Oof (A := jd_A s) hIx hIv hA
  obtain ⟨g, e0, e1, e2, e3, e4, e5, e6, e7, e8⟩ : ∃ g : Nat → Nat, g 0 = aY ∧ g 1 = rY ∧ g 2 = aM ∧ g 3 = rM ∧ g 4 = aD ∧ g 5 = rD ∧ g 6 = aE ∧ g 7 = aI ∧ ∀ j, g (8 + j) = am j :=
    ⟨fun k => match k with | 0 => aY | 1 => rY | 2 => aM | 3 => rM | 4 => aD | 5 => rD | 6 => aE | 7 => aI | k + 8 => am k, rfl, rfl, rfl, rfl, rfl, rfl, rfl, rfl, fun j => by rw [Nat.add_comm]⟩
  refine ⟨g, ?_⟩
  unfold jd_C jd_E jd_I
  simp only [e0, e1, e2, e3, e4, e5, e6, e7, e8]
  exact ⟨haY, haM, haD, ⟨hEz, hEt, fun j hj => (ham j hj).2⟩, hIz, hIo⟩
set_option maxHeartbeats 4000000 in
set_option maxRecDepth 100000 in
/-- THE LAW, from its entry -/
theorem whole_start {p : Program} {e : Env} {s : State} {m : MethodId} {below : List Frame} {meth : Method} {c : Code} (l : Launch) (hflags : l.flags = flags0) {b L : Nat} {xs : Nat → Int32} (hL : L ≤ 288) (C0 : lw_At p s m meth c b L xs) : W p l e room_1 s m #[Value.ref b] below meth c s.heap [] 0 0 (lw_Z below #[Value.ref b] s) (entryFrame m ([Value.ref b] : List Value).toArray 4) := by
  obtain ⟨hx, hb, hr, hml, hown, hts0, hX, hbl, hlocks, hgv⟩ := id C0
  have hts : ∀ w ∈ lw_all, w.before #[Value.ref b] s = true := fun w h => hts0 w (lw_all_tbl h)
  obtain ⟨g, hC⟩ := jd_consts hts0 hgv
  have hO : va_AO "YearMonth" s := va_AO.of (hts0 _ q29)
  have hA : ∀ q : Nat, s.heap.size ≤ q → jd_A s q := fun _ h => h
  obtain ⟨d0_, iS0, hKn0⟩ := u_known (C := RX0) (T := TX0) (N := 1) (n := 1) hts0 (fun w h => lw_all_tbl (in_X0 w h)) (hts0 _ (lw_all_tbl q21))
  obtain ⟨d1_, iS1, hKn1⟩ := u_known (C := RX2) (T := TX2) (N := 2) (n := 2) hts0 (fun w h => lw_all_tbl (in_X2 w h)) (hts0 _ (lw_all_tbl q129))
  obtain ⟨d2_, iS2, hKn2⟩ := u_known (C := RX11) (T := TX11) (N := 3) (n := 3) hts0 (fun w h => lw_all_tbl (in_X11 w h)) (hts0 _ (lw_all_tbl q316))
  obtain ⟨d3_, iS3, hKn3⟩ := u_known (C := RX5) (T := TX5) (N := 2) (n := 2) hts0 (fun w h => lw_all_tbl (in_X5 w h)) (hts0 _ (lw_all_tbl q388))
  obtain ⟨D, hKc⟩ : ∃ D : va_G, ∀ (k : Nat) (q : vw_C), jd_cl[k]? = some q → u_Kn s q.1 q.2.1 q.2.2 (D.1 k) (D.2 k) := by
    refine ⟨(fun k => match k with | 0 => d0_ | 1 => d1_ | 2 => d2_ | _ => d3_, fun k => match k with | 0 => iS0 | 1 => iS1 | 2 => iS2 | _ => iS3), ?_⟩
    intro k q hq
    match k, hq with
    | 0, hq => cases hq; exact hKn0
    | 1, hq => cases hq; exact hKn1
    | 2, hq => cases hq; exact hKn2
    | 3, hq => cases hq; exact hKn3
    | k + 4, hq => simp [jd_cl] at hq
  have hK : va_K D jd_cl [] s := ⟨hKc, fun k q h => by simp at h⟩
  have hP : va_P D jd_cl [] s.heap := jd_P0
  have hD : va_D (jd_A s) [] := jd_D0
  have hS : va_S (jd_A s) s.heap s.heap [] := va_S.rf
  have hl := lv_entry ([.ref b]) (n := 4) (Nat.le_of_ble_eq_true rfl)
  rw [lg_entry_eq]
  generalize (lg_sl ([.ref b]) ++ List.replicate (4 - (lg_sl ([.ref b])).length) Slot.unset).toArray = ls at hl ⊢
  have hl : lv_has ls 4 [(0, .ref b)] := hl
  refine va_new (ci := 0) (fs := [.null]) (C := RX0) (T := TX0) (N := 1) hx hb hts in_X0 tyX0 tyX0_ok hown (hts _ q20) (hts _ q21) (hts _ q3) hK hP hD hS hA rfl (fun j hj => by rcases (show j = 0 by omega) with rfl <;> rfl) (Nat.le_of_ble_eq_true rfl) (Nat.le_of_ble_eq_true rfl) dL_law_0 (fun x H hP hD hS => ?_)
  have hP : va_P D jd_cl [(x, .inr (0, [.null]))] H := hP
  have hD : va_D (jd_A s) [(x, .inr (0, [.null]))] := hD
  refine lv_dup hx hb dL_law_3 rfl ?_
  have hFc := va_free (wc := [(x, .inr (0, [.null]))]) hD hS hA [0] rfl
  refine va_callv (va_runI (As := []) (rest := [.ref x]) ⟨hx, hb, hml, hown, hts⟩ (metX0_init l D g x H.size) (cwI 0 hts (lw_meth q24) rfl rfl rfl (hts _ q3) (hts _ q22) (hts _ q23) rfl (by decide +kernel) ⟨Nat.le_of_ble_eq_true rfl, Nat.le_of_ble_eq_true rfl⟩) (jd_preS (jd_mvA (jd_mvZ _) (jd_mvA (jd_mvP _ _ _) (jd_mvA (jd_mvK _ _ _) (jd_mvA (fun _ _ _ hv h => va_AO.moved hv h) jd_C.moved)))) ⟨rfl, hP, hK, hO, (hC.kept hS.2.1).narrow hFc⟩) rfl rfl hl.1 rfl (lv_room (Nat.le_of_ble_eq_true rfl)) dL_law_4 ⟨Nat.le_of_ble_eq_true rfl, Nat.le_of_ble_eq_true rfl⟩) hS (fun q _ h => hFc q h) hFc (fun u_ t H1 locs ht hvm hw1 hB hz1 hk1 hS => ?_)
  obtain ⟨q, cA, a⟩ := u_
  obtain ⟨hP1, hK1, hD1⟩ := hB
  rw [ht] at hP1
  obtain ⟨hP, hD⟩ := va_join (wr := []) (w1 := [jd_dk x q, jd_ar q cA (fun j => some (a j)), jd_ym (a 0) 2000 1, jd_ym (a 1) 2000 1]) hP hD [0] [] rfl rfl (by decide) (by decide) hk1 hFc hP1 hD1
  generalize H1 = H at hP hS ⊢
  have hP : va_P D jd_cl [jd_dk x q, jd_ar q cA (fun j => some (a j)), jd_ym (a 0) 2000 1, jd_ym (a 1) 2000 1] H := hP
  have hD : va_D (jd_A s) [jd_dk x q, jd_ar q cA (fun j => some (a j)), jd_ym (a 0) 2000 1, jd_ym (a 1) 2000 1] := hD
  have hK : va_K D jd_cl [(cA, .object "YearMonth")] s := va_K.moved hvm.symm hK1
  refine lv_astore_n (lv' := [(1, .ref x), (0, .ref b)]) hx hb dL_law_7 rfl hl (by decide) rfl (fun ls hl => ?_)
  refine va_new (ci := 3) (fs := [.null, .null]) (C := RX5) (T := TX5) (N := 2) hx hb hts in_X5 tyX5 tyX5_ok hown (hts _ q387) (hts _ q388) (hts _ q12) hK hP hD hS hA rfl (fun j hj => by rcases (show j = 0 ∨ j = 1 by omega) with rfl | rfl <;> rfl) (Nat.le_of_ble_eq_true rfl) (Nat.le_of_ble_eq_true rfl) dL_law_8 (fun mo H hP hD hS => ?_)
  have hP : va_P D jd_cl [jd_dk x q, jd_ar q cA (fun j => some (a j)), jd_ym (a 0) 2000 1, jd_ym (a 1) 2000 1, (mo, .inr (3, [.null, .null]))] H := hP
  have hD : va_D (jd_A s) [jd_dk x q, jd_ar q cA (fun j => some (a j)), jd_ym (a 0) 2000 1, jd_ym (a 1) 2000 1, (mo, .inr (3, [.null, .null]))] := hD
  refine lv_dup hx hb dL_law_11 rfl ?_
  have hFc := va_free (wc := [(mo, .inr (3, [.null, .null]))]) hD hS hA [4] rfl
  refine va_callv (va_runI (As := []) (rest := [.ref mo]) ⟨hx, hb, hml, hown, hts⟩ (metX5_init l D mo H.size) (cwI 0 hts (lw_meth q391) rfl rfl rfl (hts _ q12) (hts _ q389) (hts _ q390) rfl (by decide +kernel) ⟨Nat.le_of_ble_eq_true rfl, Nat.le_of_ble_eq_true rfl⟩) (jd_preS (jd_mvA (jd_mvZ _) (jd_mvA (jd_mvP _ _ _) (jd_mvK _ _ _))) ⟨rfl, hP.sub [4] rfl, hK.sub [] rfl⟩) rfl rfl hl.1 rfl (lv_room (Nat.le_of_ble_eq_true rfl)) dL_law_12 ⟨Nat.le_of_ble_eq_true rfl, Nat.le_of_ble_eq_true rfl⟩) hS (fun q _ h => hFc q h) hFc (fun u_ t H1 locs ht hvm hw1 hB hz1 hk1 hS => ?_)
  obtain ⟨q1, q2, c1, c2⟩ := u_
  obtain ⟨hP1, hK1, hD1⟩ := hB
  rw [ht] at hP1
  obtain ⟨hP, hD⟩ := va_join (wr := [jd_dk x q, jd_ar q cA (fun j => some (a j)), jd_ym (a 0) 2000 1, jd_ym (a 1) 2000 1]) (w1 := [jd_mm mo q1 q2, jd_ia q1 c1 (fun j => jd_i ((fun _ => 2000 : Nat → Int) j)), jd_ia q2 c2 (fun j => jd_i ((fun _ => 1 : Nat → Int) j))]) hP hD [4] [0, 1, 2, 3] rfl rfl (by decide) (by decide) hk1 hFc hP1 hD1
  generalize H1 = H at hP hS ⊢
  have hP : va_P D jd_cl [jd_dk x q, jd_ar q cA (fun j => some (a j)), jd_ym (a 0) 2000 1, jd_ym (a 1) 2000 1, jd_mm mo q1 q2, jd_ia q1 c1 (fun j => jd_i ((fun _ => 2000 : Nat → Int) j)), jd_ia q2 c2 (fun j => jd_i ((fun _ => 1 : Nat → Int) j))] H := hP
  have hD : va_D (jd_A s) [jd_dk x q, jd_ar q cA (fun j => some (a j)), jd_ym (a 0) 2000 1, jd_ym (a 1) 2000 1, jd_mm mo q1 q2, jd_ia q1 c1 (fun j => jd_i ((fun _ => 2000 : Nat → Int) j)), jd_ia q2 c2 (fun j => jd_i ((fun _ => 1 : Nat → Int) j))] := hD
  have hK : va_K D jd_cl [(cA, .object "YearMonth"), (c1, .int), (c2, .int)] s := hK.app (va_K.moved hvm.symm hK1)
  refine lv_astore_n (lv' := [(2, .ref mo), (1, .ref x), (0, .ref b)]) hx hb dL_law_15 rfl hl (by decide) rfl (fun ls hl => ?_)
  refine lv_iconst (v := jd_i 0) hx hb dL_law_16 (by decide) ?_
  refine jd_ti (y := (nI (6 * 0))) (by decide) ?_
  refine lv_istore_n (lv' := [(3, .int (nI (6 * 0))), (2, .ref mo), (1, .ref x), (0, .ref b)]) hx hb dL_law_17 rfl hl (by decide) rfl (fun ls hl => ?_)
  refine W.widen (k := 100 + 0) (n := 100 + 3 * 0) (Nat.le_of_ble_eq_true rfl) (Nat.le_of_ble_eq_true rfl) ?_
  exact law_loop hx hb hml hown hts hX hbl hC hK hL hr hlocks 49 0 rfl (Nat.zero_le _) a (fun _ => 2000) (fun _ => 1) _ _ jd_ok0 hP hD hS ls (lv_sub hl [3, 2, 1, 0] rfl)
end
section
/-! the skeleton's end: the claim out of whole_start -/
set_option maxHeartbeats 4000000 in
theorem lw_walk (l : Launch) (hflags : l.flags = flags0) (b : Addr) (xs : List Int32) : MetFree l x (headSpec (Jvm.Cond.code x code maxLocals ret :: tables_1) room_1) (lw_P b xs) (fun _ _ _ _ _ => True) lw_Q := by
  refine MetFree.of_bodyS (code := code) (maxLocals := maxLocals) (ret := ret) (by decide) ?_ ?_
  · intro args s m h hn
    obtain ⟨meth, c, h1, h2, h3, h4, h5, h6, -, -⟩ := Cond.code_spec hn (atoms_spec (ws := Jvm.Cond.code x code maxLocals ret :: tables_1) h _ List.mem_cons_self)
    exact ⟨meth, c, h1, h2, h3, h4, h5, h6⟩
  · intro p e s m args below meth c s₁ B hml0 hP _
    obtain ⟨rfl, hx, hbd, hgv⟩ := hP
    obtain ⟨scr, harrAt, hlist, hof, hsmall⟩ := hx
    obtain ⟨hcb, hkn, -, -⟩ := State.arrayAt?_spec harrAt
    have hown : s.vm.findClass R_law = some m.cls := findClass_of_methodNamed B.named
    have hts0 : ∀ c ∈ (Jvm.Cond.code x code maxLocals ret :: tables_1), c.before #[Value.ref b] s = true := atoms_spec (ws := Jvm.Cond.code x code maxLocals ret :: tables_1) B.pre
    have hts : ∀ w ∈ lw_tbl, w.before #[Value.ref b] s = true := k2_hts_sels lw_privs (fun w hw => hts0 w (List.mem_cons_of_mem _ hw)) lw_privs_ok
    have hml : c.maxLocals = 4 := B.maxLocals_eq (hts0 _ List.mem_cons_self)
    have X₀ : Stand p l e room_1 s m #[Value.ref b] below meth c s₁ [] 0 0 := Stand.of_body B
    have hh0 : s₁.heap = s.heap := by rw [B.state]; rfl
    have hsz : scr.slots.size = xs.length := by rw [← Array.length_toList, hlist, List.length_map]
    have hval : ∀ j : Nat, j < xs.length → scr.slots[j]? = some (.int (xs.getD j 0)) := fun j hj => by
      rw [← Array.getElem?_toList, hlist]
      simp [hj]
    have hbl : b < s.heap.size := (Array.getElem?_eq_some_iff.mp hcb).1
    have hX : va_X b xs.length (fun j => xs.getD j 0) s s.heap := ⟨scr, hcb, hof, hkn, hsz, hval⟩
    have K : W p l e room_1 s m #[Value.ref b] below meth c s₁.heap [] 0 0 (lw_Z below #[Value.ref b] s) (entryFrame m ([Value.ref b] : List Value).toArray 4) := by
      rw [hh0]
      exact whole_start l hflags hbd ⟨B.exec, B.bytes, B.returns, hml, hown, hts, hX, hbl, B.notSynchronized, hgv⟩
    obtain ⟨t, a1, o, b1, b2, b3⟩ := K s₁ rfl X₀
    exact ⟨t, o, a1, b1, b2, b3⟩
theorem lw_pre_spec {args : Array Value} {s : State} (h : (Jvm.Cond.and given_1 narrow_1).before args s = true) (hr : rest_1_c.before args s = true) : ∃ (b : Addr) (xs : List Int32), lw_P b xs args s := by
  have hs := flat_of_before _ h
  have hq := flat_of_before _ hr
  have hc : (Cond.count 1).before args s = true := hs _ (by decide +kernel)
  have harr : (Cond.arrayOf (.arg 0) .int).before args s = true := hs _ (by decide +kernel)
  have hle : (Cond.le (.length (.arg 0)) (.int 288)).before args s = true := hs _ (by decide +kernel)
  have hlen : (Cond.isInt (.length (.arg 0))).before args s = true := hq _ (by decide +kernel)
  have hall : (Cond.all (.arg 0) (.isInt (.elem (.arg 0) (.index 0)))).before args s = true := hq _ (by decide +kernel)
  obtain ⟨b, xs, hb, hx⟩ := State.ints_of_pre rfl harr hlen hall
  have hsm : xs.length < 2 ^ 31 := hx.choose_spec.2.2.2
  have hev : (Term.length (.arg 0)).eval args s none [] s = some (.int xs.length.toInt32) := hx.length_eval hb
  have hv := Cond.le_ints hev (show (Term.int 288).eval args s none [] s = some (.int 288) from rfl)
  have hd : xs.length.toInt32 ≤ 288 := by
    simpa [Cond.before, Cond.holds, hv] using hle
  have hN : xs.length ≤ 288 := (Int32.ofNat_le_ofNat hsm (by decide)).mp (show Int32.ofNat xs.length ≤ Int32.ofNat 288 from hd)
  exact ⟨b, xs, Cond.one_arg hc (show args[0]? = some (.ref b) from hb), hx, hN, h⟩
theorem lw_comes (l : Launch) (hflags : l.flags = flags0) : Comes l x (Jvm.Cond.code x code maxLocals ret :: tables_1) room_1 (fun tb e args s => Calls_1 tb e args s ∧ rest_1 tb e args s ∧ Pre_1 tb e args s)
    (fun _ _ args s o t => lw_Q args s o t) := by
  intro p e ha hc hk s m args below hf hfit hheap happ hpre
  obtain ⟨b, xs, hP⟩ := lw_pre_spec hpre.2.2 hpre.2.1
  obtain ⟨k, o, h1, h2, h3, hQ⟩ := lw_walk l hflags b xs p e ha hc hk s m args below hf ((Spec.applies_iff_loose hf).mp happ).1 hP trivial
  exact ⟨k, o, h1, h2, h3, hQ⟩
theorem lw_frame {s t : State} {o : Outcome} {args : Array Value} (h : Framed s o t [] 1200096 5501386) :
    Framed s o t (fieldLocs frame_1_writes args s ++ arrayLocs frame_1_arrays args s ++ staticLocs frame_1_statics s) 1200096 5501386 := h
theorem lw_limb (L : Cond) (hL : ∀ (args : Array Value) (s t : State), L.after args s (.returned (some (.int 1))) t = true) :
    ArmFor flags0 classFile x code maxLocals ret World_1 tables_1 room_1 Calls_1 rest_1 Pre_1
      (fun tb e a s o t => postC L tb e a s o t ∧ Framed s o t (fieldLocs frame_1_writes a s ++ arrayLocs frame_1_arrays a s ++ staticLocs frame_1_statics s) 1200096 5501386) := by
  intro l hflags _ _ p e ha hc hk s m args below hf hfit hheap happ hpre
  obtain ⟨k, o, h1, h2, h3, rfl, hF⟩ := lw_comes l hflags p e ha hc hk s m args below hf hfit hheap happ hpre
  exact ⟨k, _, h1, h2, h3, hL args s _, lw_frame hF⟩
theorem i_vc : Claimed_1_1 ∧ Claimed_1_2 := ⟨lw_limb limb_1_1 (fun args s t => by simp [limb_1_1, Cond.after, Cond.holds, Cond.value]), lw_limb limb_1_2 (fun args s t => Cond.after_iff.mpr (by
  first | (rw [show limb_1_2 = Cond.eq .result (.int 1) from rfl, Cond.eq_ints (x := 1) (y := 1) rfl rfl]; simp; done) | (simp [limb_1_2, Cond.value, Term.eval]; done)))⟩
end
