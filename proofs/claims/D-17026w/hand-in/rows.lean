section
-- ===== PART A: goes FIRST, ahead of the names: the tables' words, and 'selects' of the private methods out of them =====
/-- a private method of a class that the tables say can be made, by its rows of tables_1 -/
def lw_okq (q : MethodName × Nat) : Prop := (q.1.cls ≠ "java/lang/invoke/MethodHandle" ∧ q.1.cls ≠ "java/lang/invoke/VarHandle") ∧ Cond.instantiable q.1.cls q.2 ∈ tables_1 ∧ Cond.privateMethod q.1 ∈ tables_1 ∧ Cond.instanceMethod q.1 ∈ tables_1
set_option maxRecDepth 100000
theorem lw_t1 {w : Cond} (h : w ∈ tables_1_1) : w ∈ tables_1 := List.mem_append_left _ h
theorem lw_t2 {w : Cond} (h : w ∈ tables_1_2) : w ∈ tables_1 := List.mem_append_right _ (List.mem_append_left _ h)
theorem lw_t3 {w : Cond} (h : w ∈ tables_1_3) : w ∈ tables_1 := List.mem_append_right _ (List.mem_append_right _ h)
theorem lw_p0 : lw_okq (⟨"java/lang/Throwable", "fillInStackTrace", "(I)Ljava/lang/Throwable;"⟩, 6) := ⟨⟨by decide +kernel, by decide +kernel⟩, lw_t1 (List.mem_of_getElem? (i := 74) rfl), lw_t1 (List.mem_of_getElem? (i := 72) rfl), lw_t1 (List.mem_of_getElem? (i := 73) rfl)⟩
theorem lw_p1 : lw_okq (⟨"IntArrayFIFOQueue", "expand", "()V"⟩, 4) := ⟨⟨by decide +kernel, by decide +kernel⟩, lw_t1 (List.mem_of_getElem? (i := 30) rfl), lw_t2 (List.mem_of_getElem? (i := 133) rfl), lw_t2 (List.mem_of_getElem? (i := 134) rfl)⟩
theorem lw_p2 : lw_okq (⟨"IntArrayFIFOQueue", "resize", "(II)V"⟩, 4) := ⟨⟨by decide +kernel, by decide +kernel⟩, lw_t1 (List.mem_of_getElem? (i := 30) rfl), lw_t2 (List.mem_of_getElem? (i := 142) rfl), lw_t2 (List.mem_of_getElem? (i := 143) rfl)⟩
theorem lw_p3 : lw_okq (⟨"IntArrayFIFOQueue", "reduce", "()V"⟩, 4) := ⟨⟨by decide +kernel, by decide +kernel⟩, lw_t1 (List.mem_of_getElem? (i := 30) rfl), lw_t2 (List.mem_of_getElem? (i := 197) rfl), lw_t2 (List.mem_of_getElem? (i := 198) rfl)⟩
def lw_privs_1 : List (MethodName × Nat) := [(⟨"java/lang/Throwable", "fillInStackTrace", "(I)Ljava/lang/Throwable;"⟩, 6), (⟨"IntArrayFIFOQueue", "expand", "()V"⟩, 4), (⟨"IntArrayFIFOQueue", "resize", "(II)V"⟩, 4), (⟨"IntArrayFIFOQueue", "reduce", "()V"⟩, 4)]
theorem lw_r1 : ∀ q ∈ lw_privs_1, lw_okq q := List.forall_mem_cons.mpr ⟨lw_p0, List.forall_mem_cons.mpr ⟨lw_p1, List.forall_mem_cons.mpr ⟨lw_p2, List.forall_mem_cons.mpr ⟨lw_p3, fun _ h => absurd h List.not_mem_nil⟩⟩⟩⟩
def lw_privs : List (MethodName × Nat) := lw_privs_1
def lw_tbl : List Cond := k2_sels lw_privs ++ tables_1
theorem lw_privs_ok : ∀ q ∈ lw_privs, lw_okq q := lw_r1
-- ===== ONE list of words for every method: the tables' words that hold all through a run =====
def lw_all : List Cond := lw_tbl.filter goodWord
/-- a word of the tables by its place: claim/WORDS.tsv -/
theorem lw_w {w : Cond} (i : Nat) (h : lw_tbl[i]? = some w) (g : goodWord w = true) : w ∈ lw_all := List.mem_filter.mpr ⟨List.mem_of_getElem? h, g⟩
theorem lw_all_tbl {w : Cond} (h : w ∈ lw_all) : w ∈ lw_tbl := (List.mem_filter.mp h).1
theorem lw_self : GoodIn lw_all lw_all := fun w h => ⟨h, good_of_word (List.mem_filter.mp h).2⟩
/-- a class's field words, by their places -/
theorem lw_in (ws : List Cond) (ps : List Nat) (hp : ws = ps.filterMap (fun i => lw_tbl[i]?)) (hg : ws.all goodWord = true) : ∀ w ∈ ws, w ∈ lw_all := by
  intro w h
  have h1 := List.all_eq_true.mp hg w h
  rw [hp] at h
  obtain ⟨i, -, hi⟩ := List.mem_filterMap.mp h
  exact lw_w i hi h1
/-- the words of a contract for the method y with code b, L locals, answer r -/
abbrev ws_ (y : MethodName) (b : ByteArray) (L : Nat) (r : Option FieldType) : List Cond := Cond.code y b L r :: lw_all
theorem lw_meth {y : MethodName} {b : ByteArray} {L : Nat} {r : Option FieldType} (h : Cond.code y b L r ∈ lw_all) : GoodIn lw_all (ws_ y b L r) := by
  intro w hw
  rcases List.mem_cons.mp hw with e | e
  · rw [e]
    exact lw_self _ h
  · exact lw_self _ e
theorem lw_app {a c : List Cond} (ha : ∀ w ∈ a, w ∈ lw_all) (hc : GoodIn lw_all c) : GoodIn lw_all (a ++ c) := by
  intro w hw
  rcases List.mem_append.mp hw with e | e
  · exact lw_self w (ha w e)
  · exact hc w e
/-- what a call through an object asks: cwV n hts (lw_V ..) -/
theorem lw_V {own : String} {idx : Nat} {C : String} {y : MethodName} {b : ByteArray} {L : Nat} {r : Option FieldType} (h1 : Cond.methodLink own idx y ∈ lw_all) (h2 : Cond.instanceMethod y ∈ lw_all) (h3 : Cond.selects C y y ∈ lw_all) (h4 : Cond.initialized C ∈ lw_all) (h5 : Cond.code y b L r ∈ lw_all) : GoodIn lw_all (wsV own idx C y (ws_ y b L r)) := by
  refine lw_app ?_ (lw_meth h5)
  intro w hw
  simp only [List.mem_cons, List.not_mem_nil, or_false] at hw
  rcases hw with e | e | e | e
  · rw [e]; exact h1
  · rw [e]; exact h2
  · rw [e]; exact h3
  · rw [e]; exact h4
/-- what a static call asks: va_cwS n hts (lw_S ..) -/
theorem lw_S {own : String} {idx : Nat} {y : MethodName} {b : ByteArray} {L : Nat} {r : Option FieldType} (h1 : Cond.methodLink own idx y ∈ lw_all) (h2 : Cond.static y ∈ lw_all) (h3 : Cond.initialized y.cls ∈ lw_all) (h4 : Cond.code y b L r ∈ lw_all) : GoodIn lw_all (va_wsS own idx y (ws_ y b L r)) := by
  refine lw_app ?_ (lw_meth h4)
  intro w hw
  simp only [List.mem_cons, List.not_mem_nil, or_false] at hw
  rcases hw with e | e | e
  · rw [e]; exact h1
  · rw [e]; exact h2
  · rw [e]; exact h3
/-- the words of a contract for a method WITH HANDLERS (hh: its table) -/
abbrev wsW_ (y : MethodName) (b : ByteArray) (L : Nat) (r : Option FieldType) (hh : List (Nat × Nat × Nat × Nat)) : List Cond := Cond.codeWith y b L r hh :: lw_all
theorem lw_methW {y : MethodName} {b : ByteArray} {L : Nat} {r : Option FieldType} {hh : List (Nat × Nat × Nat × Nat)} (h : Cond.codeWith y b L r hh ∈ lw_all) : GoodIn lw_all (wsW_ y b L r hh) := by
  intro w hw
  rcases List.mem_cons.mp hw with e | e
  · rw [e]
    exact lw_self _ h
  · exact lw_self _ e
/-- any list of words by their places (lw_in), good -/
theorem lw_good {ws : List Cond} (h : ∀ w ∈ ws, w ∈ lw_all) : GoodIn lw_all ws := fun w hw => lw_self w (h w hw)
/-- what a call of a method with handlers asks: vx_cwVW n hts (lw_VW ..), vx_cwSW n hts (lw_SW ..) -/
theorem lw_VW {own : String} {idx : Nat} {C : String} {y : MethodName} {b : ByteArray} {L : Nat} {r : Option FieldType} {hh : List (Nat × Nat × Nat × Nat)} (h1 : Cond.methodLink own idx y ∈ lw_all) (h2 : Cond.instanceMethod y ∈ lw_all) (h3 : Cond.selects C y y ∈ lw_all) (h4 : Cond.initialized C ∈ lw_all) (h5 : Cond.codeWith y b L r hh ∈ lw_all) : GoodIn lw_all (wsV own idx C y (wsW_ y b L r hh)) := by
  refine lw_app ?_ (lw_methW h5)
  intro w hw
  simp only [List.mem_cons, List.not_mem_nil, or_false] at hw
  rcases hw with e | e | e | e
  · rw [e]; exact h1
  · rw [e]; exact h2
  · rw [e]; exact h3
  · rw [e]; exact h4
theorem lw_SW {own : String} {idx : Nat} {y : MethodName} {b : ByteArray} {L : Nat} {r : Option FieldType} {hh : List (Nat × Nat × Nat × Nat)} (h1 : Cond.methodLink own idx y ∈ lw_all) (h2 : Cond.static y ∈ lw_all) (h3 : Cond.initialized y.cls ∈ lw_all) (h4 : Cond.codeWith y b L r hh ∈ lw_all) : GoodIn lw_all (va_wsS own idx y (wsW_ y b L r hh)) := by
  refine lw_app ?_ (lw_methW h4)
  intro w hw
  simp only [List.mem_cons, List.not_mem_nil, or_false] at hw
  rcases hw with e | e | e
  · rw [e]; exact h1
  · rw [e]; exact h2
  · rw [e]; exact h3
/-- a word by its place in its run of the tables -/
theorem lw_at {r : List Cond} (hr : ∀ w ∈ r, w ∈ lw_tbl) {w : Cond} (i : Nat) (h : r[i]? = some w) : w ∈ lw_tbl := hr w (List.mem_of_getElem? h)
theorem lw_g {w : Cond} (h : w ∈ lw_tbl) (g : goodWord w = true) : w ∈ lw_all := List.mem_filter.mpr ⟨h, g⟩
theorem lw_ms : ∀ w ∈ k2_sels lw_privs, w ∈ lw_tbl := fun w h => show w ∈ k2_sels lw_privs ++ tables_1 from List.mem_append_left _ h
theorem lw_m1 : ∀ w ∈ tables_1_1, w ∈ lw_tbl := fun w h => show w ∈ k2_sels lw_privs ++ tables_1 from List.mem_append_right (k2_sels lw_privs) (show w ∈ tables_1 from List.mem_append_left _ h)
theorem lw_m2 : ∀ w ∈ tables_1_2, w ∈ lw_tbl := fun w h => show w ∈ k2_sels lw_privs ++ tables_1 from List.mem_append_right (k2_sels lw_privs) (show w ∈ tables_1 from List.mem_append_right _ (List.mem_append_left _ h))
theorem lw_m3 : ∀ w ∈ tables_1_3, w ∈ lw_tbl := fun w h => show w ∈ k2_sels lw_privs ++ tables_1 from List.mem_append_right (k2_sels lw_privs) (show w ∈ tables_1 from List.mem_append_right _ (List.mem_append_right _ h))
theorem qs0 : (Cond.selects "java/lang/Throwable" ⟨"java/lang/Throwable", "fillInStackTrace", "(I)Ljava/lang/Throwable;"⟩ ⟨"java/lang/Throwable", "fillInStackTrace", "(I)Ljava/lang/Throwable;"⟩) ∈ lw_all := lw_g (lw_at lw_ms 0 rfl) rfl
theorem qs1 : (Cond.selects "IntArrayFIFOQueue" ⟨"IntArrayFIFOQueue", "expand", "()V"⟩ ⟨"IntArrayFIFOQueue", "expand", "()V"⟩) ∈ lw_all := lw_g (lw_at lw_ms 1 rfl) rfl
theorem qs2 : (Cond.selects "IntArrayFIFOQueue" ⟨"IntArrayFIFOQueue", "resize", "(II)V"⟩ ⟨"IntArrayFIFOQueue", "resize", "(II)V"⟩) ∈ lw_all := lw_g (lw_at lw_ms 2 rfl) rfl
theorem qs3 : (Cond.selects "IntArrayFIFOQueue" ⟨"IntArrayFIFOQueue", "reduce", "()V"⟩ ⟨"IntArrayFIFOQueue", "reduce", "()V"⟩) ∈ lw_all := lw_g (lw_at lw_ms 3 rfl) rfl
end
section
/-! DECODE ROWS BY BYTES: one lemma an opcode; a method's code is cut into short pieces once, and a row reads its own piece alone. -/
set_option maxRecDepth 100000
/-- the code has just these bytes from pc on -/
def DkAt (code : ByteArray) (pc : Nat) (bs : List UInt8) : Prop := ∀ (j : Nat) (b : UInt8), bs[j]? = some b → code.data.toList[pc + j]? = some b
/-- the piece W has the bytes bs from its place j on -/
def dkIn (W : List UInt8) (j : Nat) (bs : List UInt8) : Bool := decide ((W.drop j).take bs.length = bs)
theorem dk_seg {l W T : List UInt8} {o o2 : Nat} (h : l.drop o = W ++ T) (n : Nat) (hn : W.length = n) (ho : o + n = o2) : l.drop o2 = T := by
  subst ho
  rw [← List.drop_drop, h, List.drop_left' hn]
theorem dk_at {code : ByteArray} {W T bs : List UInt8} {o pc : Nat} (h : code.data.toList.drop o = W ++ T) (j : Nat) (hp : o + j = pc) (hw : dkIn W j bs = true) : DkAt code pc bs := by
  subst hp
  intro i b e
  have h1 := of_decide_eq_true hw
  have h2 : i < bs.length := (List.getElem?_eq_some_iff.mp e).1
  have h3 : W[j + i]? = some b := by
    rw [← h1, List.getElem?_take, if_pos h2, List.getElem?_drop] at e
    exact e
  have h4 : j + i < W.length := (List.getElem?_eq_some_iff.mp h3).1
  have h5 : (code.data.toList.drop o)[j + i]? = some b := by
    rw [h, List.getElem?_append_left h4]
    exact h3
  rw [List.getElem?_drop, ← Nat.add_assoc] at h5
  exact h5
theorem dk_u1 {A : ByteArray} {p : Nat} {b : UInt8} (h : A.data.toList[p]? = some b) : (Reader.u1 : Reader DecodeError Nat) A p = .ok (b.toNat, p + 1) := by
  obtain ⟨h1, h2⟩ := List.getElem?_eq_some_iff.mp h
  have h3 : p < A.size := by simpa using h1
  have h4 : A[p]'h3 = b := h2
  have e : (Reader.u1 : Reader DecodeError Nat) A p = (if h : p < A.size then .ok (A[p].toNat, p + 1) else .error (HasTruncated.truncated p)) := by
    show (do if h : p < A.size then do set (p + 1); Pure.pure A[p].toNat else MonadExcept.throw (HasTruncated.truncated p) : Reader DecodeError Nat) A p = _
    by_cases hi : p < A.size
    · rw [dif_pos hi, dif_pos hi]; rfl
    · rw [dif_neg hi, dif_neg hi]; rfl
  rw [e, dif_pos h3, h4]
theorem dk_bind {α β : Type} {r : Reader DecodeError α} {f : α → Reader DecodeError β} {A : ByteArray} {p s : Nat} {a : α} (h : r A p = .ok (a, s)) : (r >>= f) A p = f a A s := by
  show (do let (a, s) ← r A p; f a A s : Except DecodeError (β × Nat)) = _
  rw [h]
  rfl
theorem dk_map {α β : Type} {r : Reader DecodeError α} {g : α → β} {A : ByteArray} {p s : Nat} {a : α} (h : r A p = .ok (a, s)) : (g <$> r) A p = .ok (g a, s) := by
  show (do let (a, s) ← r A p; .ok (g a, s) : Except DecodeError (β × Nat)) = _
  rw [h]
  rfl
theorem dk_u2 {A : ByteArray} {p : Nat} {a b : UInt8} (h : A.data.toList[p]? = some a) (h2 : A.data.toList[p + 1]? = some b) : (Reader.u2 : Reader DecodeError Nat) A p = .ok (a.toNat * 256 + b.toNat, p + 2) := by
  show (Reader.u1 >>= fun hi => Reader.u1 >>= fun lo => Pure.pure (hi * 256 + lo) : Reader DecodeError Nat) A p = _
  rw [dk_bind (dk_u1 h), dk_bind (dk_u1 h2)]
  rfl
theorem dk_of {code : ByteArray} {pc n : Nat} {i : Instr} (h : Decoder.instr pc code pc = .ok (i, pc + n)) : decode code pc = .ok (i, n) := by
  have e : decode code pc = (match Decoder.instr pc code pc with | .error x => .error x | .ok (j, s) => .ok (j, s - pc)) := by
    show (do let (j, s) ← Decoder.instr pc code pc; Pure.pure (j, s - pc) : Except DecodeError (Instr × Nat)) = _
    cases Decoder.instr pc code pc <;> rfl
  rw [e, h]
  show Except.ok (i, pc + n - pc) = _
  rw [Nat.add_sub_cancel_left]
theorem dk_1 {code : ByteArray} {pc : Nat} (h : DkAt code pc [1]) : decode code pc = .ok (.aconst_null, 1) := dk_of ((dk_bind (dk_u1 (h 0 _ rfl))).trans rfl)
theorem dk_3 {code : ByteArray} {pc : Nat} (h : DkAt code pc [3]) : decode code pc = .ok (.iconst 0, 1) := dk_of ((dk_bind (dk_u1 (h 0 _ rfl))).trans rfl)
theorem dk_4 {code : ByteArray} {pc : Nat} (h : DkAt code pc [4]) : decode code pc = .ok (.iconst 1, 1) := dk_of ((dk_bind (dk_u1 (h 0 _ rfl))).trans rfl)
theorem dk_5 {code : ByteArray} {pc : Nat} (h : DkAt code pc [5]) : decode code pc = .ok (.iconst 2, 1) := dk_of ((dk_bind (dk_u1 (h 0 _ rfl))).trans rfl)
theorem dk_7 {code : ByteArray} {pc : Nat} (h : DkAt code pc [7]) : decode code pc = .ok (.iconst 4, 1) := dk_of ((dk_bind (dk_u1 (h 0 _ rfl))).trans rfl)
theorem dk_16 {code : ByteArray} {pc : Nat} (a : UInt8) (h : DkAt code pc [16, a]) : decode code pc = .ok (.bipush (Reader.signed 8 a.toNat), 2) := dk_of ((dk_bind (dk_u1 (h 0 _ rfl))).trans ((dk_bind (dk_map (dk_u1 (h 1 _ rfl)))).trans rfl))
theorem dk_17 {code : ByteArray} {pc : Nat} (a b : UInt8) (h : DkAt code pc [17, a, b]) : decode code pc = .ok (.sipush (Reader.signed 16 (a.toNat * 256 + b.toNat)), 3) := dk_of ((dk_bind (dk_u1 (h 0 _ rfl))).trans ((dk_bind (dk_map (dk_u2 (h 1 _ rfl) (h 2 _ rfl)))).trans rfl))
theorem dk_18 {code : ByteArray} {pc : Nat} (a : UInt8) (h : DkAt code pc [18, a]) : decode code pc = .ok (.ldc a.toNat, 2) := dk_of ((dk_bind (dk_u1 (h 0 _ rfl))).trans ((dk_bind (dk_u1 (h 1 _ rfl))).trans rfl))
theorem dk_19 {code : ByteArray} {pc : Nat} (a b : UInt8) (h : DkAt code pc [19, a, b]) : decode code pc = .ok (.ldc_w (a.toNat * 256 + b.toNat), 3) := dk_of ((dk_bind (dk_u1 (h 0 _ rfl))).trans ((dk_bind (dk_u2 (h 1 _ rfl) (h 2 _ rfl))).trans rfl))
theorem dk_20 {code : ByteArray} {pc : Nat} (a b : UInt8) (h : DkAt code pc [20, a, b]) : decode code pc = .ok (.ldc2_w (a.toNat * 256 + b.toNat), 3) := dk_of ((dk_bind (dk_u1 (h 0 _ rfl))).trans ((dk_bind (dk_u2 (h 1 _ rfl) (h 2 _ rfl))).trans rfl))
theorem dk_21 {code : ByteArray} {pc : Nat} (a : UInt8) (h : DkAt code pc [21, a]) : decode code pc = .ok (.iload a.toNat, 2) := dk_of ((dk_bind (dk_u1 (h 0 _ rfl))).trans ((dk_bind (dk_u1 (h 1 _ rfl))).trans rfl))
theorem dk_25 {code : ByteArray} {pc : Nat} (a : UInt8) (h : DkAt code pc [25, a]) : decode code pc = .ok (.aload a.toNat, 2) := dk_of ((dk_bind (dk_u1 (h 0 _ rfl))).trans ((dk_bind (dk_u1 (h 1 _ rfl))).trans rfl))
theorem dk_26 {code : ByteArray} {pc : Nat} (h : DkAt code pc [26]) : decode code pc = .ok (.iload_n 0, 1) := dk_of ((dk_bind (dk_u1 (h 0 _ rfl))).trans rfl)
theorem dk_27 {code : ByteArray} {pc : Nat} (h : DkAt code pc [27]) : decode code pc = .ok (.iload_n 1, 1) := dk_of ((dk_bind (dk_u1 (h 0 _ rfl))).trans rfl)
theorem dk_28 {code : ByteArray} {pc : Nat} (h : DkAt code pc [28]) : decode code pc = .ok (.iload_n 2, 1) := dk_of ((dk_bind (dk_u1 (h 0 _ rfl))).trans rfl)
theorem dk_29 {code : ByteArray} {pc : Nat} (h : DkAt code pc [29]) : decode code pc = .ok (.iload_n 3, 1) := dk_of ((dk_bind (dk_u1 (h 0 _ rfl))).trans rfl)
theorem dk_30 {code : ByteArray} {pc : Nat} (h : DkAt code pc [30]) : decode code pc = .ok (.lload_n 0, 1) := dk_of ((dk_bind (dk_u1 (h 0 _ rfl))).trans rfl)
theorem dk_32 {code : ByteArray} {pc : Nat} (h : DkAt code pc [32]) : decode code pc = .ok (.lload_n 2, 1) := dk_of ((dk_bind (dk_u1 (h 0 _ rfl))).trans rfl)
theorem dk_42 {code : ByteArray} {pc : Nat} (h : DkAt code pc [42]) : decode code pc = .ok (.aload_n 0, 1) := dk_of ((dk_bind (dk_u1 (h 0 _ rfl))).trans rfl)
theorem dk_43 {code : ByteArray} {pc : Nat} (h : DkAt code pc [43]) : decode code pc = .ok (.aload_n 1, 1) := dk_of ((dk_bind (dk_u1 (h 0 _ rfl))).trans rfl)
theorem dk_44 {code : ByteArray} {pc : Nat} (h : DkAt code pc [44]) : decode code pc = .ok (.aload_n 2, 1) := dk_of ((dk_bind (dk_u1 (h 0 _ rfl))).trans rfl)
theorem dk_45 {code : ByteArray} {pc : Nat} (h : DkAt code pc [45]) : decode code pc = .ok (.aload_n 3, 1) := dk_of ((dk_bind (dk_u1 (h 0 _ rfl))).trans rfl)
theorem dk_46 {code : ByteArray} {pc : Nat} (h : DkAt code pc [46]) : decode code pc = .ok (.iaload, 1) := dk_of ((dk_bind (dk_u1 (h 0 _ rfl))).trans rfl)
theorem dk_51 {code : ByteArray} {pc : Nat} (h : DkAt code pc [51]) : decode code pc = .ok (.baload, 1) := dk_of ((dk_bind (dk_u1 (h 0 _ rfl))).trans rfl)
theorem dk_54 {code : ByteArray} {pc : Nat} (a : UInt8) (h : DkAt code pc [54, a]) : decode code pc = .ok (.istore a.toNat, 2) := dk_of ((dk_bind (dk_u1 (h 0 _ rfl))).trans ((dk_bind (dk_u1 (h 1 _ rfl))).trans rfl))
theorem dk_58 {code : ByteArray} {pc : Nat} (a : UInt8) (h : DkAt code pc [58, a]) : decode code pc = .ok (.astore a.toNat, 2) := dk_of ((dk_bind (dk_u1 (h 0 _ rfl))).trans ((dk_bind (dk_u1 (h 1 _ rfl))).trans rfl))
theorem dk_59 {code : ByteArray} {pc : Nat} (h : DkAt code pc [59]) : decode code pc = .ok (.istore_n 0, 1) := dk_of ((dk_bind (dk_u1 (h 0 _ rfl))).trans rfl)
theorem dk_60 {code : ByteArray} {pc : Nat} (h : DkAt code pc [60]) : decode code pc = .ok (.istore_n 1, 1) := dk_of ((dk_bind (dk_u1 (h 0 _ rfl))).trans rfl)
theorem dk_61 {code : ByteArray} {pc : Nat} (h : DkAt code pc [61]) : decode code pc = .ok (.istore_n 2, 1) := dk_of ((dk_bind (dk_u1 (h 0 _ rfl))).trans rfl)
theorem dk_62 {code : ByteArray} {pc : Nat} (h : DkAt code pc [62]) : decode code pc = .ok (.istore_n 3, 1) := dk_of ((dk_bind (dk_u1 (h 0 _ rfl))).trans rfl)
theorem dk_76 {code : ByteArray} {pc : Nat} (h : DkAt code pc [76]) : decode code pc = .ok (.astore_n 1, 1) := dk_of ((dk_bind (dk_u1 (h 0 _ rfl))).trans rfl)
theorem dk_77 {code : ByteArray} {pc : Nat} (h : DkAt code pc [77]) : decode code pc = .ok (.astore_n 2, 1) := dk_of ((dk_bind (dk_u1 (h 0 _ rfl))).trans rfl)
theorem dk_78 {code : ByteArray} {pc : Nat} (h : DkAt code pc [78]) : decode code pc = .ok (.astore_n 3, 1) := dk_of ((dk_bind (dk_u1 (h 0 _ rfl))).trans rfl)
theorem dk_79 {code : ByteArray} {pc : Nat} (h : DkAt code pc [79]) : decode code pc = .ok (.iastore, 1) := dk_of ((dk_bind (dk_u1 (h 0 _ rfl))).trans rfl)
theorem dk_84 {code : ByteArray} {pc : Nat} (h : DkAt code pc [84]) : decode code pc = .ok (.bastore, 1) := dk_of ((dk_bind (dk_u1 (h 0 _ rfl))).trans rfl)
theorem dk_87 {code : ByteArray} {pc : Nat} (h : DkAt code pc [87]) : decode code pc = .ok (.pop, 1) := dk_of ((dk_bind (dk_u1 (h 0 _ rfl))).trans rfl)
theorem dk_89 {code : ByteArray} {pc : Nat} (h : DkAt code pc [89]) : decode code pc = .ok (.dup, 1) := dk_of ((dk_bind (dk_u1 (h 0 _ rfl))).trans rfl)
theorem dk_90 {code : ByteArray} {pc : Nat} (h : DkAt code pc [90]) : decode code pc = .ok (.dup_x1, 1) := dk_of ((dk_bind (dk_u1 (h 0 _ rfl))).trans rfl)
theorem dk_96 {code : ByteArray} {pc : Nat} (h : DkAt code pc [96]) : decode code pc = .ok (.iadd, 1) := dk_of ((dk_bind (dk_u1 (h 0 _ rfl))).trans rfl)
theorem dk_100 {code : ByteArray} {pc : Nat} (h : DkAt code pc [100]) : decode code pc = .ok (.isub, 1) := dk_of ((dk_bind (dk_u1 (h 0 _ rfl))).trans rfl)
theorem dk_104 {code : ByteArray} {pc : Nat} (h : DkAt code pc [104]) : decode code pc = .ok (.imul, 1) := dk_of ((dk_bind (dk_u1 (h 0 _ rfl))).trans rfl)
theorem dk_105 {code : ByteArray} {pc : Nat} (h : DkAt code pc [105]) : decode code pc = .ok (.lmul, 1) := dk_of ((dk_bind (dk_u1 (h 0 _ rfl))).trans rfl)
theorem dk_108 {code : ByteArray} {pc : Nat} (h : DkAt code pc [108]) : decode code pc = .ok (.idiv, 1) := dk_of ((dk_bind (dk_u1 (h 0 _ rfl))).trans rfl)
theorem dk_116 {code : ByteArray} {pc : Nat} (h : DkAt code pc [116]) : decode code pc = .ok (.ineg, 1) := dk_of ((dk_bind (dk_u1 (h 0 _ rfl))).trans rfl)
theorem dk_120 {code : ByteArray} {pc : Nat} (h : DkAt code pc [120]) : decode code pc = .ok (.ishl, 1) := dk_of ((dk_bind (dk_u1 (h 0 _ rfl))).trans rfl)
theorem dk_122 {code : ByteArray} {pc : Nat} (h : DkAt code pc [122]) : decode code pc = .ok (.ishr, 1) := dk_of ((dk_bind (dk_u1 (h 0 _ rfl))).trans rfl)
theorem dk_124 {code : ByteArray} {pc : Nat} (h : DkAt code pc [124]) : decode code pc = .ok (.iushr, 1) := dk_of ((dk_bind (dk_u1 (h 0 _ rfl))).trans rfl)
theorem dk_126 {code : ByteArray} {pc : Nat} (h : DkAt code pc [126]) : decode code pc = .ok (.iand, 1) := dk_of ((dk_bind (dk_u1 (h 0 _ rfl))).trans rfl)
theorem dk_128 {code : ByteArray} {pc : Nat} (h : DkAt code pc [128]) : decode code pc = .ok (.ior, 1) := dk_of ((dk_bind (dk_u1 (h 0 _ rfl))).trans rfl)
theorem dk_132 {code : ByteArray} {pc : Nat} (a b : UInt8) (h : DkAt code pc [132, a, b]) : decode code pc = .ok (.iinc a.toNat (Reader.signed 8 b.toNat), 3) := dk_of ((dk_bind (dk_u1 (h 0 _ rfl))).trans ((dk_bind (dk_u1 (h 1 _ rfl))).trans ((dk_bind (dk_map (dk_u1 (h 2 _ rfl)))).trans rfl)))
theorem dk_133 {code : ByteArray} {pc : Nat} (h : DkAt code pc [133]) : decode code pc = .ok (.i2l, 1) := dk_of ((dk_bind (dk_u1 (h 0 _ rfl))).trans rfl)
theorem dk_136 {code : ByteArray} {pc : Nat} (h : DkAt code pc [136]) : decode code pc = .ok (.l2i, 1) := dk_of ((dk_bind (dk_u1 (h 0 _ rfl))).trans rfl)
theorem dk_145 {code : ByteArray} {pc : Nat} (h : DkAt code pc [145]) : decode code pc = .ok (.i2b, 1) := dk_of ((dk_bind (dk_u1 (h 0 _ rfl))).trans rfl)
theorem dk_146 {code : ByteArray} {pc : Nat} (h : DkAt code pc [146]) : decode code pc = .ok (.i2c, 1) := dk_of ((dk_bind (dk_u1 (h 0 _ rfl))).trans rfl)
theorem dk_148 {code : ByteArray} {pc : Nat} (h : DkAt code pc [148]) : decode code pc = .ok (.lcmp, 1) := dk_of ((dk_bind (dk_u1 (h 0 _ rfl))).trans rfl)
theorem dk_153 {code : ByteArray} {pc : Nat} (a b : UInt8) (h : DkAt code pc [153, a, b]) : decode code pc = .ok (.ifCond .eq (Reader.signed 16 (a.toNat * 256 + b.toNat)), 3) := dk_of ((dk_bind (dk_u1 (h 0 _ rfl))).trans ((dk_bind (dk_map (dk_u2 (h 1 _ rfl) (h 2 _ rfl)))).trans rfl))
theorem dk_154 {code : ByteArray} {pc : Nat} (a b : UInt8) (h : DkAt code pc [154, a, b]) : decode code pc = .ok (.ifCond .ne (Reader.signed 16 (a.toNat * 256 + b.toNat)), 3) := dk_of ((dk_bind (dk_u1 (h 0 _ rfl))).trans ((dk_bind (dk_map (dk_u2 (h 1 _ rfl) (h 2 _ rfl)))).trans rfl))
theorem dk_155 {code : ByteArray} {pc : Nat} (a b : UInt8) (h : DkAt code pc [155, a, b]) : decode code pc = .ok (.ifCond .lt (Reader.signed 16 (a.toNat * 256 + b.toNat)), 3) := dk_of ((dk_bind (dk_u1 (h 0 _ rfl))).trans ((dk_bind (dk_map (dk_u2 (h 1 _ rfl) (h 2 _ rfl)))).trans rfl))
theorem dk_156 {code : ByteArray} {pc : Nat} (a b : UInt8) (h : DkAt code pc [156, a, b]) : decode code pc = .ok (.ifCond .ge (Reader.signed 16 (a.toNat * 256 + b.toNat)), 3) := dk_of ((dk_bind (dk_u1 (h 0 _ rfl))).trans ((dk_bind (dk_map (dk_u2 (h 1 _ rfl) (h 2 _ rfl)))).trans rfl))
theorem dk_157 {code : ByteArray} {pc : Nat} (a b : UInt8) (h : DkAt code pc [157, a, b]) : decode code pc = .ok (.ifCond .gt (Reader.signed 16 (a.toNat * 256 + b.toNat)), 3) := dk_of ((dk_bind (dk_u1 (h 0 _ rfl))).trans ((dk_bind (dk_map (dk_u2 (h 1 _ rfl) (h 2 _ rfl)))).trans rfl))
theorem dk_158 {code : ByteArray} {pc : Nat} (a b : UInt8) (h : DkAt code pc [158, a, b]) : decode code pc = .ok (.ifCond .le (Reader.signed 16 (a.toNat * 256 + b.toNat)), 3) := dk_of ((dk_bind (dk_u1 (h 0 _ rfl))).trans ((dk_bind (dk_map (dk_u2 (h 1 _ rfl) (h 2 _ rfl)))).trans rfl))
theorem dk_159 {code : ByteArray} {pc : Nat} (a b : UInt8) (h : DkAt code pc [159, a, b]) : decode code pc = .ok (.if_icmp .eq (Reader.signed 16 (a.toNat * 256 + b.toNat)), 3) := dk_of ((dk_bind (dk_u1 (h 0 _ rfl))).trans ((dk_bind (dk_map (dk_u2 (h 1 _ rfl) (h 2 _ rfl)))).trans rfl))
theorem dk_160 {code : ByteArray} {pc : Nat} (a b : UInt8) (h : DkAt code pc [160, a, b]) : decode code pc = .ok (.if_icmp .ne (Reader.signed 16 (a.toNat * 256 + b.toNat)), 3) := dk_of ((dk_bind (dk_u1 (h 0 _ rfl))).trans ((dk_bind (dk_map (dk_u2 (h 1 _ rfl) (h 2 _ rfl)))).trans rfl))
theorem dk_161 {code : ByteArray} {pc : Nat} (a b : UInt8) (h : DkAt code pc [161, a, b]) : decode code pc = .ok (.if_icmp .lt (Reader.signed 16 (a.toNat * 256 + b.toNat)), 3) := dk_of ((dk_bind (dk_u1 (h 0 _ rfl))).trans ((dk_bind (dk_map (dk_u2 (h 1 _ rfl) (h 2 _ rfl)))).trans rfl))
theorem dk_162 {code : ByteArray} {pc : Nat} (a b : UInt8) (h : DkAt code pc [162, a, b]) : decode code pc = .ok (.if_icmp .ge (Reader.signed 16 (a.toNat * 256 + b.toNat)), 3) := dk_of ((dk_bind (dk_u1 (h 0 _ rfl))).trans ((dk_bind (dk_map (dk_u2 (h 1 _ rfl) (h 2 _ rfl)))).trans rfl))
theorem dk_163 {code : ByteArray} {pc : Nat} (a b : UInt8) (h : DkAt code pc [163, a, b]) : decode code pc = .ok (.if_icmp .gt (Reader.signed 16 (a.toNat * 256 + b.toNat)), 3) := dk_of ((dk_bind (dk_u1 (h 0 _ rfl))).trans ((dk_bind (dk_map (dk_u2 (h 1 _ rfl) (h 2 _ rfl)))).trans rfl))
theorem dk_164 {code : ByteArray} {pc : Nat} (a b : UInt8) (h : DkAt code pc [164, a, b]) : decode code pc = .ok (.if_icmp .le (Reader.signed 16 (a.toNat * 256 + b.toNat)), 3) := dk_of ((dk_bind (dk_u1 (h 0 _ rfl))).trans ((dk_bind (dk_map (dk_u2 (h 1 _ rfl) (h 2 _ rfl)))).trans rfl))
theorem dk_167 {code : ByteArray} {pc : Nat} (a b : UInt8) (h : DkAt code pc [167, a, b]) : decode code pc = .ok (.goto (Reader.signed 16 (a.toNat * 256 + b.toNat)), 3) := dk_of ((dk_bind (dk_u1 (h 0 _ rfl))).trans ((dk_bind (dk_map (dk_u2 (h 1 _ rfl) (h 2 _ rfl)))).trans rfl))
theorem dk_172 {code : ByteArray} {pc : Nat} (h : DkAt code pc [172]) : decode code pc = .ok (.ireturn, 1) := dk_of ((dk_bind (dk_u1 (h 0 _ rfl))).trans rfl)
theorem dk_173 {code : ByteArray} {pc : Nat} (h : DkAt code pc [173]) : decode code pc = .ok (.lreturn, 1) := dk_of ((dk_bind (dk_u1 (h 0 _ rfl))).trans rfl)
theorem dk_176 {code : ByteArray} {pc : Nat} (h : DkAt code pc [176]) : decode code pc = .ok (.areturn, 1) := dk_of ((dk_bind (dk_u1 (h 0 _ rfl))).trans rfl)
theorem dk_177 {code : ByteArray} {pc : Nat} (h : DkAt code pc [177]) : decode code pc = .ok (.return_, 1) := dk_of ((dk_bind (dk_u1 (h 0 _ rfl))).trans rfl)
theorem dk_178 {code : ByteArray} {pc : Nat} (a b : UInt8) (h : DkAt code pc [178, a, b]) : decode code pc = .ok (.getstatic (a.toNat * 256 + b.toNat), 3) := dk_of ((dk_bind (dk_u1 (h 0 _ rfl))).trans ((dk_bind (dk_u2 (h 1 _ rfl) (h 2 _ rfl))).trans rfl))
theorem dk_180 {code : ByteArray} {pc : Nat} (a b : UInt8) (h : DkAt code pc [180, a, b]) : decode code pc = .ok (.getfield (a.toNat * 256 + b.toNat), 3) := dk_of ((dk_bind (dk_u1 (h 0 _ rfl))).trans ((dk_bind (dk_u2 (h 1 _ rfl) (h 2 _ rfl))).trans rfl))
theorem dk_181 {code : ByteArray} {pc : Nat} (a b : UInt8) (h : DkAt code pc [181, a, b]) : decode code pc = .ok (.putfield (a.toNat * 256 + b.toNat), 3) := dk_of ((dk_bind (dk_u1 (h 0 _ rfl))).trans ((dk_bind (dk_u2 (h 1 _ rfl) (h 2 _ rfl))).trans rfl))
theorem dk_182 {code : ByteArray} {pc : Nat} (a b : UInt8) (h : DkAt code pc [182, a, b]) : decode code pc = .ok (.invokevirtual (a.toNat * 256 + b.toNat), 3) := dk_of ((dk_bind (dk_u1 (h 0 _ rfl))).trans ((dk_bind (dk_u2 (h 1 _ rfl) (h 2 _ rfl))).trans rfl))
theorem dk_183 {code : ByteArray} {pc : Nat} (a b : UInt8) (h : DkAt code pc [183, a, b]) : decode code pc = .ok (.invokespecial (a.toNat * 256 + b.toNat), 3) := dk_of ((dk_bind (dk_u1 (h 0 _ rfl))).trans ((dk_bind (dk_u2 (h 1 _ rfl) (h 2 _ rfl))).trans rfl))
theorem dk_184 {code : ByteArray} {pc : Nat} (a b : UInt8) (h : DkAt code pc [184, a, b]) : decode code pc = .ok (.invokestatic (a.toNat * 256 + b.toNat), 3) := dk_of ((dk_bind (dk_u1 (h 0 _ rfl))).trans ((dk_bind (dk_u2 (h 1 _ rfl) (h 2 _ rfl))).trans rfl))
theorem dk_187 {code : ByteArray} {pc : Nat} (a b : UInt8) (h : DkAt code pc [187, a, b]) : decode code pc = .ok (.new (a.toNat * 256 + b.toNat), 3) := dk_of ((dk_bind (dk_u1 (h 0 _ rfl))).trans ((dk_bind (dk_u2 (h 1 _ rfl) (h 2 _ rfl))).trans rfl))
theorem dk_188_8 {code : ByteArray} {pc : Nat} (h : DkAt code pc [188, 8]) : decode code pc = .ok (.newarray .byte, 2) := dk_of ((dk_bind (dk_u1 (h 0 _ rfl))).trans ((dk_bind (dk_u1 (h 1 _ rfl))).trans rfl))
theorem dk_188_10 {code : ByteArray} {pc : Nat} (h : DkAt code pc [188, 10]) : decode code pc = .ok (.newarray .int, 2) := dk_of ((dk_bind (dk_u1 (h 0 _ rfl))).trans ((dk_bind (dk_u1 (h 1 _ rfl))).trans rfl))
theorem dk_190 {code : ByteArray} {pc : Nat} (h : DkAt code pc [190]) : decode code pc = .ok (.arraylength, 1) := dk_of ((dk_bind (dk_u1 (h 0 _ rfl))).trans rfl)
theorem dk_191 {code : ByteArray} {pc : Nat} (h : DkAt code pc [191]) : decode code pc = .ok (.athrow, 1) := dk_of ((dk_bind (dk_u1 (h 0 _ rfl))).trans rfl)
theorem dk_192 {code : ByteArray} {pc : Nat} (a b : UInt8) (h : DkAt code pc [192, a, b]) : decode code pc = .ok (.checkcast (a.toNat * 256 + b.toNat), 3) := dk_of ((dk_bind (dk_u1 (h 0 _ rfl))).trans ((dk_bind (dk_u2 (h 1 _ rfl) (h 2 _ rfl))).trans rfl))
theorem dk_199 {code : ByteArray} {pc : Nat} (a b : UInt8) (h : DkAt code pc [199, a, b]) : decode code pc = .ok (.ifnonnull (Reader.signed 16 (a.toNat * 256 + b.toNat)), 3) := dk_of ((dk_bind (dk_u1 (h 0 _ rfl))).trans ((dk_bind (dk_map (dk_u2 (h 1 _ rfl) (h 2 _ rfl)))).trans rfl))
/-! java/lang/Object -/
set_option maxRecDepth 100000
def RJ15 : String := "java/lang/Object"
abbrev cJ15_init : ByteArray := object_method_1_code
def yJ15_init : MethodName := ⟨RJ15, "<init>", "()V"⟩
theorem dJ15_init_0 : decode cJ15_init 0 = .ok (.return_, 1) := by decide +kernel
theorem q31 : (Jvm.Cond.instanceMethod ({ cls := "java/lang/Object", name := "<init>", desc := "()V" } : Jvm.MethodName)) ∈ lw_all := lw_g (lw_at lw_m1 27 rfl) rfl
theorem q32 : (Jvm.Cond.code ({ cls := "java/lang/Object", name := "<init>", desc := "()V" } : Jvm.MethodName) object_method_1_code (1 : Nat) (Option.none : Option Jvm.ClassFile.FieldType)) ∈ lw_all := lw_g (lw_at lw_m1 28 rfl) rfl
theorem q148 : (Jvm.Cond.native ({ cls := "java/lang/Object", name := "clone", desc := "()Ljava/lang/Object;" } : Jvm.MethodName)) ∈ lw_all := lw_g (lw_at lw_m1 144 rfl) rfl
theorem q149 : (Jvm.Cond.instanceMethod ({ cls := "java/lang/Object", name := "clone", desc := "()Ljava/lang/Object;" } : Jvm.MethodName)) ∈ lw_all := lw_g (lw_at lw_m1 145 rfl) rfl
theorem q547 : (Jvm.Cond.initialized "java/lang/Object") ∈ lw_all := lw_g (lw_at lw_m3 63 rfl) rfl
/-! java/lang/Math -/
set_option maxRecDepth 100000
def RJ9 : String := "java/lang/Math"
abbrev cJ9_max : ByteArray := prog_17_method_65_code
def yJ9_max : MethodName := ⟨RJ9, "max", "(II)I"⟩
def dkwJ9_max_0 : List UInt8 := [26, 27, 161, 0, 7, 26, 167, 0, 4, 27, 172]
abbrev dktJ9_max_0 : List UInt8 := dkwJ9_max_0 ++ []
theorem dksJ9_max_0 : cJ9_max.data.toList.drop 0 = dktJ9_max_0 := by decide +kernel
theorem dJ9_max_0 : decode cJ9_max 0 = .ok (.iload_n 0, 1) := dk_26 (dk_at dksJ9_max_0 0 rfl rfl)
theorem dJ9_max_1 : decode cJ9_max 1 = .ok (.iload_n 1, 1) := dk_27 (dk_at dksJ9_max_0 1 rfl rfl)
theorem dJ9_max_2 : decode cJ9_max 2 = .ok (.if_icmp .lt 7, 3) := dk_161 0 7 (dk_at dksJ9_max_0 2 rfl rfl)
theorem dJ9_max_5 : decode cJ9_max 5 = .ok (.iload_n 0, 1) := dk_26 (dk_at dksJ9_max_0 5 rfl rfl)
theorem dJ9_max_6 : decode cJ9_max 6 = .ok (.goto 4, 3) := dk_167 0 4 (dk_at dksJ9_max_0 6 rfl rfl)
theorem dJ9_max_9 : decode cJ9_max 9 = .ok (.iload_n 1, 1) := dk_27 (dk_at dksJ9_max_0 9 rfl rfl)
theorem dJ9_max_10 : decode cJ9_max 10 = .ok (.ireturn, 1) := dk_172 (dk_at dksJ9_max_0 10 rfl rfl)
abbrev cJ9_min : ByteArray := prog_17_method_69_code
def yJ9_min : MethodName := ⟨RJ9, "min", "(II)I"⟩
def dkwJ9_min_0 : List UInt8 := [26, 27, 163, 0, 7, 26, 167, 0, 4, 27, 172]
abbrev dktJ9_min_0 : List UInt8 := dkwJ9_min_0 ++ []
theorem dksJ9_min_0 : cJ9_min.data.toList.drop 0 = dktJ9_min_0 := by decide +kernel
theorem dJ9_min_0 : decode cJ9_min 0 = .ok (.iload_n 0, 1) := dk_26 (dk_at dksJ9_min_0 0 rfl rfl)
theorem dJ9_min_1 : decode cJ9_min 1 = .ok (.iload_n 1, 1) := dk_27 (dk_at dksJ9_min_0 1 rfl rfl)
theorem dJ9_min_2 : decode cJ9_min 2 = .ok (.if_icmp .gt 7, 3) := dk_163 0 7 (dk_at dksJ9_min_0 2 rfl rfl)
theorem dJ9_min_5 : decode cJ9_min 5 = .ok (.iload_n 0, 1) := dk_26 (dk_at dksJ9_min_0 5 rfl rfl)
theorem dJ9_min_6 : decode cJ9_min 6 = .ok (.goto 4, 3) := dk_167 0 4 (dk_at dksJ9_min_0 6 rfl rfl)
theorem dJ9_min_9 : decode cJ9_min 9 = .ok (.iload_n 1, 1) := dk_27 (dk_at dksJ9_min_0 9 rfl rfl)
theorem dJ9_min_10 : decode cJ9_min 10 = .ok (.ireturn, 1) := dk_172 (dk_at dksJ9_min_0 10 rfl rfl)
abbrev cJ9_min_2 : ByteArray := prog_17_method_70_code
def yJ9_min_2 : MethodName := ⟨RJ9, "min", "(JJ)J"⟩
def dkwJ9_min_2_0 : List UInt8 := [30, 32, 148, 157, 0, 7, 30, 167, 0, 4, 32, 173]
abbrev dktJ9_min_2_0 : List UInt8 := dkwJ9_min_2_0 ++ []
theorem dksJ9_min_2_0 : cJ9_min_2.data.toList.drop 0 = dktJ9_min_2_0 := by decide +kernel
theorem dJ9_min_2_0 : decode cJ9_min_2 0 = .ok (.lload_n 0, 1) := dk_30 (dk_at dksJ9_min_2_0 0 rfl rfl)
theorem dJ9_min_2_1 : decode cJ9_min_2 1 = .ok (.lload_n 2, 1) := dk_32 (dk_at dksJ9_min_2_0 1 rfl rfl)
theorem dJ9_min_2_2 : decode cJ9_min_2 2 = .ok (.lcmp, 1) := dk_148 (dk_at dksJ9_min_2_0 2 rfl rfl)
theorem dJ9_min_2_3 : decode cJ9_min_2 3 = .ok (.ifCond .gt 7, 3) := dk_157 0 7 (dk_at dksJ9_min_2_0 3 rfl rfl)
theorem dJ9_min_2_6 : decode cJ9_min_2 6 = .ok (.lload_n 0, 1) := dk_30 (dk_at dksJ9_min_2_0 6 rfl rfl)
theorem dJ9_min_2_7 : decode cJ9_min_2 7 = .ok (.goto 4, 3) := dk_167 0 4 (dk_at dksJ9_min_2_0 7 rfl rfl)
theorem dJ9_min_2_10 : decode cJ9_min_2 10 = .ok (.lload_n 2, 1) := dk_32 (dk_at dksJ9_min_2_0 10 rfl rfl)
theorem dJ9_min_2_11 : decode cJ9_min_2 11 = .ok (.lreturn, 1) := dk_173 (dk_at dksJ9_min_2_0 11 rfl rfl)
theorem q16 : (Jvm.Cond.initialized "java/lang/Math") ∈ lw_all := lw_g (lw_at lw_m1 12 rfl) rfl
theorem q136 : (Jvm.Cond.static ({ cls := "java/lang/Math", name := "max", desc := "(II)I" } : Jvm.MethodName)) ∈ lw_all := lw_g (lw_at lw_m1 132 rfl) rfl
theorem q137 : (Jvm.Cond.code ({ cls := "java/lang/Math", name := "max", desc := "(II)I" } : Jvm.MethodName) prog_17_method_65_code (2 : Nat) (Option.some Jvm.ClassFile.FieldType.int)) ∈ lw_all := lw_g (lw_at lw_m1 133 rfl) rfl
theorem q154 : (Jvm.Cond.static ({ cls := "java/lang/Math", name := "min", desc := "(II)I" } : Jvm.MethodName)) ∈ lw_all := lw_g (lw_at lw_m1 150 rfl) rfl
theorem q155 : (Jvm.Cond.code ({ cls := "java/lang/Math", name := "min", desc := "(II)I" } : Jvm.MethodName) prog_17_method_69_code (2 : Nat) (Option.some Jvm.ClassFile.FieldType.int)) ∈ lw_all := lw_g (lw_at lw_m1 151 rfl) rfl
theorem q383 : (Jvm.Cond.static ({ cls := "java/lang/Math", name := "min", desc := "(JJ)J" } : Jvm.MethodName)) ∈ lw_all := lw_g (lw_at lw_m2 139 rfl) rfl
theorem q384 : (Jvm.Cond.code ({ cls := "java/lang/Math", name := "min", desc := "(JJ)J" } : Jvm.MethodName) prog_17_method_70_code (4 : Nat) (Option.some Jvm.ClassFile.FieldType.long)) ∈ lw_all := lw_g (lw_at lw_m2 140 rfl) rfl
/-! OwnPriorityQueue -/
set_option maxRecDepth 100000
def RX3 : String := "OwnPriorityQueue"
abbrev cX3_isEmpty : ByteArray := prog_7_method_1_code
def yX3_isEmpty : MethodName := ⟨RX3, "isEmpty", "()Z"⟩
def dkwX3_isEmpty_0 : List UInt8 := [42, 185, 0, 1, 1, 0, 154, 0, 7, 4, 167, 0, 4, 3, 172]
abbrev dktX3_isEmpty_0 : List UInt8 := dkwX3_isEmpty_0 ++ []
theorem dksX3_isEmpty_0 : cX3_isEmpty.data.toList.drop 0 = dktX3_isEmpty_0 := by decide +kernel
theorem dX3_isEmpty_0 : decode cX3_isEmpty 0 = .ok (.aload_n 0, 1) := dk_42 (dk_at dksX3_isEmpty_0 0 rfl rfl)
theorem dX3_isEmpty_1 : decode cX3_isEmpty 1 = .ok (.invokeinterface 1 1, 5) := by decide +kernel
theorem dX3_isEmpty_6 : decode cX3_isEmpty 6 = .ok (.ifCond .ne 7, 3) := dk_154 0 7 (dk_at dksX3_isEmpty_0 6 rfl rfl)
theorem dX3_isEmpty_9 : decode cX3_isEmpty 9 = .ok (.iconst 1, 1) := dk_4 (dk_at dksX3_isEmpty_0 9 rfl rfl)
theorem dX3_isEmpty_10 : decode cX3_isEmpty 10 = .ok (.goto 4, 3) := dk_167 0 4 (dk_at dksX3_isEmpty_0 10 rfl rfl)
theorem dX3_isEmpty_13 : decode cX3_isEmpty 13 = .ok (.iconst 0, 1) := dk_3 (dk_at dksX3_isEmpty_0 13 rfl rfl)
theorem dX3_isEmpty_14 : decode cX3_isEmpty 14 = .ok (.ireturn, 1) := dk_172 (dk_at dksX3_isEmpty_0 14 rfl rfl)
theorem q402 : (Jvm.Cond.declares ({ cls := "OwnPriorityQueue", name := "isEmpty", desc := "()Z" } : Jvm.MethodName)) ∈ lw_tbl := lw_at lw_m2 158 rfl
theorem q404 : (Jvm.Cond.instanceMethod ({ cls := "OwnPriorityQueue", name := "isEmpty", desc := "()Z" } : Jvm.MethodName)) ∈ lw_all := lw_g (lw_at lw_m2 160 rfl) rfl
theorem q405 : (Jvm.Cond.publicMethod ({ cls := "OwnPriorityQueue", name := "isEmpty", desc := "()Z" } : Jvm.MethodName)) ∈ lw_tbl := lw_at lw_m2 161 rfl
theorem q406 : (Jvm.Cond.code ({ cls := "OwnPriorityQueue", name := "isEmpty", desc := "()Z" } : Jvm.MethodName) prog_7_method_1_code (1 : Nat) (Option.some Jvm.ClassFile.FieldType.boolean)) ∈ lw_all := lw_g (lw_at lw_m2 162 rfl) rfl
theorem q407 : (Jvm.Cond.interfaceEntry "OwnPriorityQueue" (1 : Nat)) ∈ lw_tbl := lw_at lw_m2 163 rfl
theorem q408 : (Jvm.Cond.methodLink "OwnPriorityQueue" (1 : Nat) ({ cls := "OwnPriorityQueue", name := "size", desc := "()I" } : Jvm.MethodName)) ∈ lw_all := lw_g (lw_at lw_m2 164 rfl) rfl
theorem q409 : (Jvm.Cond.interfaceMethod "OwnPriorityQueue" "OwnPriorityQueue" "size" "()I") ∈ lw_tbl := lw_at lw_m2 165 rfl
theorem q410 : (Jvm.Cond.declares ({ cls := "OwnPriorityQueue", name := "size", desc := "()I" } : Jvm.MethodName)) ∈ lw_tbl := lw_at lw_m2 166 rfl
theorem q548 : (Jvm.Cond.initialized "OwnPriorityQueue") ∈ lw_all := lw_g (lw_at lw_m3 64 rfl) rfl
/-! IntArrayFIFOQueue -/
set_option maxRecDepth 100000
def RX1 : String := "IntArrayFIFOQueue"
def TX1 : u_T := fun k => match k with
  | 0 => ("IntArrayFIFOQueue", "array", "[I", false)
  | 1 => ("IntArrayFIFOQueue", "length", "I", false)
  | 2 => ("IntArrayFIFOQueue", "start", "I", false)
  | _ => ("IntArrayFIFOQueue", "end", "I", false)
def tyX1 : Nat → FieldType := fun k => match k with
  | 0 => .array .int
  | 1 => .int
  | 2 => .int
  | _ => .int
abbrev wsX10 : List Cond := u_ws RX1 TX1 4
theorem nmX1 : ∀ a, a < 4 → ∀ b, b < 4 → a ≠ b → (TX1 a).2.1 ≠ (TX1 b).2.1 := by decide +kernel
theorem tyX1_ok : ∀ k, k < 4 → parseFieldDescriptor (TX1 k).2.2.1 = some (tyX1 k) := by decide +kernel
abbrev cX1_init : ByteArray := prog_4_method_1_code
def yX1_init : MethodName := ⟨RX1, "<init>", "(I)V"⟩
def dkwX1_init_4 : List UInt8 := [181, 0, 41, 42, 42, 180, 0, 41, 190, 181, 0, 47, 177]
abbrev dktX1_init_4 : List UInt8 := dkwX1_init_4 ++ []
def dkwX1_init_3 : List UInt8 := [18, 33, 182, 0, 17, 182, 0, 26, 183, 0, 30, 191, 42, 4, 27, 4, 96, 184, 0, 35, 188, 10]
abbrev dktX1_init_3 : List UInt8 := dkwX1_init_3 ++ dktX1_init_4
def dkwX1_init_2 : List UInt8 := [27, 156, 0, 35, 187, 0, 10, 89, 187, 0, 12, 89, 183, 0, 14, 18, 15, 182, 0, 17, 27, 182, 0, 21]
abbrev dktX1_init_2 : List UInt8 := dkwX1_init_2 ++ dktX1_init_3
def dkwX1_init_1 : List UInt8 := [182, 0, 17, 27, 182, 0, 21, 18, 24, 182, 0, 17, 18, 9, 182, 0, 21, 182, 0, 26, 183, 0, 30, 191]
abbrev dktX1_init_1 : List UInt8 := dkwX1_init_1 ++ dktX1_init_2
def dkwX1_init_0 : List UInt8 := [42, 183, 0, 1, 27, 18, 9, 164, 0, 40, 187, 0, 10, 89, 187, 0, 12, 89, 183, 0, 14, 18, 15]
abbrev dktX1_init_0 : List UInt8 := dkwX1_init_0 ++ dktX1_init_1
theorem dksX1_init_0 : cX1_init.data.toList.drop 0 = dktX1_init_0 := by decide +kernel
theorem dksX1_init_1 : cX1_init.data.toList.drop 23 = dktX1_init_1 := dk_seg dksX1_init_0 23 rfl rfl
theorem dksX1_init_2 : cX1_init.data.toList.drop 47 = dktX1_init_2 := dk_seg dksX1_init_1 24 rfl rfl
theorem dksX1_init_3 : cX1_init.data.toList.drop 71 = dktX1_init_3 := dk_seg dksX1_init_2 24 rfl rfl
theorem dksX1_init_4 : cX1_init.data.toList.drop 93 = dktX1_init_4 := dk_seg dksX1_init_3 22 rfl rfl
theorem dX1_init_0 : decode cX1_init 0 = .ok (.aload_n 0, 1) := dk_42 (dk_at dksX1_init_0 0 rfl rfl)
theorem dX1_init_1 : decode cX1_init 1 = .ok (.invokespecial 1, 3) := dk_183 0 1 (dk_at dksX1_init_0 1 rfl rfl)
theorem dX1_init_4 : decode cX1_init 4 = .ok (.iload_n 1, 1) := dk_27 (dk_at dksX1_init_0 4 rfl rfl)
theorem dX1_init_5 : decode cX1_init 5 = .ok (.ldc 9, 2) := dk_18 9 (dk_at dksX1_init_0 5 rfl rfl)
theorem dX1_init_7 : decode cX1_init 7 = .ok (.if_icmp .le 40, 3) := dk_164 0 40 (dk_at dksX1_init_0 7 rfl rfl)
theorem dX1_init_10 : decode cX1_init 10 = .ok (.new 10, 3) := dk_187 0 10 (dk_at dksX1_init_0 10 rfl rfl)
theorem dX1_init_13 : decode cX1_init 13 = .ok (.dup, 1) := dk_89 (dk_at dksX1_init_0 13 rfl rfl)
theorem dX1_init_14 : decode cX1_init 14 = .ok (.new 12, 3) := dk_187 0 12 (dk_at dksX1_init_0 14 rfl rfl)
theorem dX1_init_17 : decode cX1_init 17 = .ok (.dup, 1) := dk_89 (dk_at dksX1_init_0 17 rfl rfl)
theorem dX1_init_18 : decode cX1_init 18 = .ok (.invokespecial 14, 3) := dk_183 0 14 (dk_at dksX1_init_0 18 rfl rfl)
theorem dX1_init_21 : decode cX1_init 21 = .ok (.ldc 15, 2) := dk_18 15 (dk_at dksX1_init_0 21 rfl rfl)
theorem dX1_init_23 : decode cX1_init 23 = .ok (.invokevirtual 17, 3) := dk_182 0 17 (dk_at dksX1_init_1 0 rfl rfl)
theorem dX1_init_26 : decode cX1_init 26 = .ok (.iload_n 1, 1) := dk_27 (dk_at dksX1_init_1 3 rfl rfl)
theorem dX1_init_27 : decode cX1_init 27 = .ok (.invokevirtual 21, 3) := dk_182 0 21 (dk_at dksX1_init_1 4 rfl rfl)
theorem dX1_init_30 : decode cX1_init 30 = .ok (.ldc 24, 2) := dk_18 24 (dk_at dksX1_init_1 7 rfl rfl)
theorem dX1_init_32 : decode cX1_init 32 = .ok (.invokevirtual 17, 3) := dk_182 0 17 (dk_at dksX1_init_1 9 rfl rfl)
theorem dX1_init_35 : decode cX1_init 35 = .ok (.ldc 9, 2) := dk_18 9 (dk_at dksX1_init_1 12 rfl rfl)
theorem dX1_init_37 : decode cX1_init 37 = .ok (.invokevirtual 21, 3) := dk_182 0 21 (dk_at dksX1_init_1 14 rfl rfl)
theorem dX1_init_40 : decode cX1_init 40 = .ok (.invokevirtual 26, 3) := dk_182 0 26 (dk_at dksX1_init_1 17 rfl rfl)
theorem dX1_init_43 : decode cX1_init 43 = .ok (.invokespecial 30, 3) := dk_183 0 30 (dk_at dksX1_init_1 20 rfl rfl)
theorem dX1_init_46 : decode cX1_init 46 = .ok (.athrow, 1) := dk_191 (dk_at dksX1_init_1 23 rfl rfl)
theorem dX1_init_47 : decode cX1_init 47 = .ok (.iload_n 1, 1) := dk_27 (dk_at dksX1_init_2 0 rfl rfl)
theorem dX1_init_48 : decode cX1_init 48 = .ok (.ifCond .ge 35, 3) := dk_156 0 35 (dk_at dksX1_init_2 1 rfl rfl)
theorem dX1_init_51 : decode cX1_init 51 = .ok (.new 10, 3) := dk_187 0 10 (dk_at dksX1_init_2 4 rfl rfl)
theorem dX1_init_54 : decode cX1_init 54 = .ok (.dup, 1) := dk_89 (dk_at dksX1_init_2 7 rfl rfl)
theorem dX1_init_55 : decode cX1_init 55 = .ok (.new 12, 3) := dk_187 0 12 (dk_at dksX1_init_2 8 rfl rfl)
theorem dX1_init_58 : decode cX1_init 58 = .ok (.dup, 1) := dk_89 (dk_at dksX1_init_2 11 rfl rfl)
theorem dX1_init_59 : decode cX1_init 59 = .ok (.invokespecial 14, 3) := dk_183 0 14 (dk_at dksX1_init_2 12 rfl rfl)
theorem dX1_init_62 : decode cX1_init 62 = .ok (.ldc 15, 2) := dk_18 15 (dk_at dksX1_init_2 15 rfl rfl)
theorem dX1_init_64 : decode cX1_init 64 = .ok (.invokevirtual 17, 3) := dk_182 0 17 (dk_at dksX1_init_2 17 rfl rfl)
theorem dX1_init_67 : decode cX1_init 67 = .ok (.iload_n 1, 1) := dk_27 (dk_at dksX1_init_2 20 rfl rfl)
theorem dX1_init_68 : decode cX1_init 68 = .ok (.invokevirtual 21, 3) := dk_182 0 21 (dk_at dksX1_init_2 21 rfl rfl)
theorem dX1_init_71 : decode cX1_init 71 = .ok (.ldc 33, 2) := dk_18 33 (dk_at dksX1_init_3 0 rfl rfl)
theorem dX1_init_73 : decode cX1_init 73 = .ok (.invokevirtual 17, 3) := dk_182 0 17 (dk_at dksX1_init_3 2 rfl rfl)
theorem dX1_init_76 : decode cX1_init 76 = .ok (.invokevirtual 26, 3) := dk_182 0 26 (dk_at dksX1_init_3 5 rfl rfl)
theorem dX1_init_79 : decode cX1_init 79 = .ok (.invokespecial 30, 3) := dk_183 0 30 (dk_at dksX1_init_3 8 rfl rfl)
theorem dX1_init_82 : decode cX1_init 82 = .ok (.athrow, 1) := dk_191 (dk_at dksX1_init_3 11 rfl rfl)
theorem dX1_init_83 : decode cX1_init 83 = .ok (.aload_n 0, 1) := dk_42 (dk_at dksX1_init_3 12 rfl rfl)
theorem dX1_init_84 : decode cX1_init 84 = .ok (.iconst 1, 1) := dk_4 (dk_at dksX1_init_3 13 rfl rfl)
theorem dX1_init_85 : decode cX1_init 85 = .ok (.iload_n 1, 1) := dk_27 (dk_at dksX1_init_3 14 rfl rfl)
theorem dX1_init_86 : decode cX1_init 86 = .ok (.iconst 1, 1) := dk_4 (dk_at dksX1_init_3 15 rfl rfl)
theorem dX1_init_87 : decode cX1_init 87 = .ok (.iadd, 1) := dk_96 (dk_at dksX1_init_3 16 rfl rfl)
theorem dX1_init_88 : decode cX1_init 88 = .ok (.invokestatic 35, 3) := dk_184 0 35 (dk_at dksX1_init_3 17 rfl rfl)
theorem dX1_init_91 : decode cX1_init 91 = .ok (.newarray .int, 2) := dk_188_10 (dk_at dksX1_init_3 20 rfl rfl)
theorem dX1_init_93 : decode cX1_init 93 = .ok (.putfield 41, 3) := dk_181 0 41 (dk_at dksX1_init_4 0 rfl rfl)
theorem dX1_init_96 : decode cX1_init 96 = .ok (.aload_n 0, 1) := dk_42 (dk_at dksX1_init_4 3 rfl rfl)
theorem dX1_init_97 : decode cX1_init 97 = .ok (.aload_n 0, 1) := dk_42 (dk_at dksX1_init_4 4 rfl rfl)
theorem dX1_init_98 : decode cX1_init 98 = .ok (.getfield 41, 3) := dk_180 0 41 (dk_at dksX1_init_4 5 rfl rfl)
theorem dX1_init_101 : decode cX1_init 101 = .ok (.arraylength, 1) := dk_190 (dk_at dksX1_init_4 8 rfl rfl)
theorem dX1_init_102 : decode cX1_init 102 = .ok (.putfield 47, 3) := dk_181 0 47 (dk_at dksX1_init_4 9 rfl rfl)
theorem dX1_init_105 : decode cX1_init 105 = .ok (.return_, 1) := dk_177 (dk_at dksX1_init_4 12 rfl rfl)
abbrev cX1_size : ByteArray := prog_4_method_13_code
def yX1_size : MethodName := ⟨RX1, "size", "()I"⟩
def dkwX1_size_1 : List UInt8 := [172]
abbrev dktX1_size_1 : List UInt8 := dkwX1_size_1 ++ []
def dkwX1_size_0 : List UInt8 := [42, 180, 0, 54, 42, 180, 0, 51, 100, 60, 27, 155, 0, 7, 27, 167, 0, 9, 42, 180, 0, 47, 27, 96]
abbrev dktX1_size_0 : List UInt8 := dkwX1_size_0 ++ dktX1_size_1
theorem dksX1_size_0 : cX1_size.data.toList.drop 0 = dktX1_size_0 := by decide +kernel
theorem dksX1_size_1 : cX1_size.data.toList.drop 24 = dktX1_size_1 := dk_seg dksX1_size_0 24 rfl rfl
theorem dX1_size_0 : decode cX1_size 0 = .ok (.aload_n 0, 1) := dk_42 (dk_at dksX1_size_0 0 rfl rfl)
theorem dX1_size_1 : decode cX1_size 1 = .ok (.getfield 54, 3) := dk_180 0 54 (dk_at dksX1_size_0 1 rfl rfl)
theorem dX1_size_4 : decode cX1_size 4 = .ok (.aload_n 0, 1) := dk_42 (dk_at dksX1_size_0 4 rfl rfl)
theorem dX1_size_5 : decode cX1_size 5 = .ok (.getfield 51, 3) := dk_180 0 51 (dk_at dksX1_size_0 5 rfl rfl)
theorem dX1_size_8 : decode cX1_size 8 = .ok (.isub, 1) := dk_100 (dk_at dksX1_size_0 8 rfl rfl)
theorem dX1_size_9 : decode cX1_size 9 = .ok (.istore_n 1, 1) := dk_60 (dk_at dksX1_size_0 9 rfl rfl)
theorem dX1_size_10 : decode cX1_size 10 = .ok (.iload_n 1, 1) := dk_27 (dk_at dksX1_size_0 10 rfl rfl)
theorem dX1_size_11 : decode cX1_size 11 = .ok (.ifCond .lt 7, 3) := dk_155 0 7 (dk_at dksX1_size_0 11 rfl rfl)
theorem dX1_size_14 : decode cX1_size 14 = .ok (.iload_n 1, 1) := dk_27 (dk_at dksX1_size_0 14 rfl rfl)
theorem dX1_size_15 : decode cX1_size 15 = .ok (.goto 9, 3) := dk_167 0 9 (dk_at dksX1_size_0 15 rfl rfl)
theorem dX1_size_18 : decode cX1_size 18 = .ok (.aload_n 0, 1) := dk_42 (dk_at dksX1_size_0 18 rfl rfl)
theorem dX1_size_19 : decode cX1_size 19 = .ok (.getfield 47, 3) := dk_180 0 47 (dk_at dksX1_size_0 19 rfl rfl)
theorem dX1_size_22 : decode cX1_size 22 = .ok (.iload_n 1, 1) := dk_27 (dk_at dksX1_size_0 22 rfl rfl)
theorem dX1_size_23 : decode cX1_size 23 = .ok (.iadd, 1) := dk_96 (dk_at dksX1_size_0 23 rfl rfl)
theorem dX1_size_24 : decode cX1_size 24 = .ok (.ireturn, 1) := dk_172 (dk_at dksX1_size_1 0 rfl rfl)
abbrev cX1_enqueue : ByteArray := prog_4_method_7_code
def yX1_enqueue : MethodName := ⟨RX1, "enqueue", "(I)V"⟩
def dkwX1_enqueue_2 : List UInt8 := [182, 0, 85, 177]
abbrev dktX1_enqueue_2 : List UInt8 := dkwX1_enqueue_2 ++ []
def dkwX1_enqueue_1 : List UInt8 := [180, 0, 47, 160, 0, 8, 42, 3, 181, 0, 54, 42, 180, 0, 54, 42, 180, 0, 51, 160, 0, 7, 42]
abbrev dktX1_enqueue_1 : List UInt8 := dkwX1_enqueue_1 ++ dktX1_enqueue_2
def dkwX1_enqueue_0 : List UInt8 := [42, 180, 0, 41, 42, 89, 180, 0, 54, 90, 4, 96, 181, 0, 54, 27, 79, 42, 180, 0, 54, 42]
abbrev dktX1_enqueue_0 : List UInt8 := dkwX1_enqueue_0 ++ dktX1_enqueue_1
theorem dksX1_enqueue_0 : cX1_enqueue.data.toList.drop 0 = dktX1_enqueue_0 := by decide +kernel
theorem dksX1_enqueue_1 : cX1_enqueue.data.toList.drop 22 = dktX1_enqueue_1 := dk_seg dksX1_enqueue_0 22 rfl rfl
theorem dksX1_enqueue_2 : cX1_enqueue.data.toList.drop 45 = dktX1_enqueue_2 := dk_seg dksX1_enqueue_1 23 rfl rfl
theorem dX1_enqueue_0 : decode cX1_enqueue 0 = .ok (.aload_n 0, 1) := dk_42 (dk_at dksX1_enqueue_0 0 rfl rfl)
theorem dX1_enqueue_1 : decode cX1_enqueue 1 = .ok (.getfield 41, 3) := dk_180 0 41 (dk_at dksX1_enqueue_0 1 rfl rfl)
theorem dX1_enqueue_4 : decode cX1_enqueue 4 = .ok (.aload_n 0, 1) := dk_42 (dk_at dksX1_enqueue_0 4 rfl rfl)
theorem dX1_enqueue_5 : decode cX1_enqueue 5 = .ok (.dup, 1) := dk_89 (dk_at dksX1_enqueue_0 5 rfl rfl)
theorem dX1_enqueue_6 : decode cX1_enqueue 6 = .ok (.getfield 54, 3) := dk_180 0 54 (dk_at dksX1_enqueue_0 6 rfl rfl)
theorem dX1_enqueue_9 : decode cX1_enqueue 9 = .ok (.dup_x1, 1) := dk_90 (dk_at dksX1_enqueue_0 9 rfl rfl)
theorem dX1_enqueue_10 : decode cX1_enqueue 10 = .ok (.iconst 1, 1) := dk_4 (dk_at dksX1_enqueue_0 10 rfl rfl)
theorem dX1_enqueue_11 : decode cX1_enqueue 11 = .ok (.iadd, 1) := dk_96 (dk_at dksX1_enqueue_0 11 rfl rfl)
theorem dX1_enqueue_12 : decode cX1_enqueue 12 = .ok (.putfield 54, 3) := dk_181 0 54 (dk_at dksX1_enqueue_0 12 rfl rfl)
theorem dX1_enqueue_15 : decode cX1_enqueue 15 = .ok (.iload_n 1, 1) := dk_27 (dk_at dksX1_enqueue_0 15 rfl rfl)
theorem dX1_enqueue_16 : decode cX1_enqueue 16 = .ok (.iastore, 1) := dk_79 (dk_at dksX1_enqueue_0 16 rfl rfl)
theorem dX1_enqueue_17 : decode cX1_enqueue 17 = .ok (.aload_n 0, 1) := dk_42 (dk_at dksX1_enqueue_0 17 rfl rfl)
theorem dX1_enqueue_18 : decode cX1_enqueue 18 = .ok (.getfield 54, 3) := dk_180 0 54 (dk_at dksX1_enqueue_0 18 rfl rfl)
theorem dX1_enqueue_21 : decode cX1_enqueue 21 = .ok (.aload_n 0, 1) := dk_42 (dk_at dksX1_enqueue_0 21 rfl rfl)
theorem dX1_enqueue_22 : decode cX1_enqueue 22 = .ok (.getfield 47, 3) := dk_180 0 47 (dk_at dksX1_enqueue_1 0 rfl rfl)
theorem dX1_enqueue_25 : decode cX1_enqueue 25 = .ok (.if_icmp .ne 8, 3) := dk_160 0 8 (dk_at dksX1_enqueue_1 3 rfl rfl)
theorem dX1_enqueue_28 : decode cX1_enqueue 28 = .ok (.aload_n 0, 1) := dk_42 (dk_at dksX1_enqueue_1 6 rfl rfl)
theorem dX1_enqueue_29 : decode cX1_enqueue 29 = .ok (.iconst 0, 1) := dk_3 (dk_at dksX1_enqueue_1 7 rfl rfl)
theorem dX1_enqueue_30 : decode cX1_enqueue 30 = .ok (.putfield 54, 3) := dk_181 0 54 (dk_at dksX1_enqueue_1 8 rfl rfl)
theorem dX1_enqueue_33 : decode cX1_enqueue 33 = .ok (.aload_n 0, 1) := dk_42 (dk_at dksX1_enqueue_1 11 rfl rfl)
theorem dX1_enqueue_34 : decode cX1_enqueue 34 = .ok (.getfield 54, 3) := dk_180 0 54 (dk_at dksX1_enqueue_1 12 rfl rfl)
theorem dX1_enqueue_37 : decode cX1_enqueue 37 = .ok (.aload_n 0, 1) := dk_42 (dk_at dksX1_enqueue_1 15 rfl rfl)
theorem dX1_enqueue_38 : decode cX1_enqueue 38 = .ok (.getfield 51, 3) := dk_180 0 51 (dk_at dksX1_enqueue_1 16 rfl rfl)
theorem dX1_enqueue_41 : decode cX1_enqueue 41 = .ok (.if_icmp .ne 7, 3) := dk_160 0 7 (dk_at dksX1_enqueue_1 19 rfl rfl)
theorem dX1_enqueue_44 : decode cX1_enqueue 44 = .ok (.aload_n 0, 1) := dk_42 (dk_at dksX1_enqueue_1 22 rfl rfl)
theorem dX1_enqueue_45 : decode cX1_enqueue 45 = .ok (.invokevirtual 85, 3) := dk_182 0 85 (dk_at dksX1_enqueue_2 0 rfl rfl)
theorem dX1_enqueue_48 : decode cX1_enqueue 48 = .ok (.return_, 1) := dk_177 (dk_at dksX1_enqueue_2 3 rfl rfl)
abbrev cX1_expand : ByteArray := prog_4_method_5_code
def yX1_expand : MethodName := ⟨RX1, "expand", "()V"⟩
def dkwX1_expand_1 : List UInt8 := [177]
abbrev dktX1_expand_1 : List UInt8 := dkwX1_expand_1 ++ []
def dkwX1_expand_0 : List UInt8 := [42, 42, 180, 0, 47, 20, 0, 69, 20, 0, 71, 42, 180, 0, 47, 133, 105, 184, 0, 73, 136, 182, 0, 77]
abbrev dktX1_expand_0 : List UInt8 := dkwX1_expand_0 ++ dktX1_expand_1
theorem dksX1_expand_0 : cX1_expand.data.toList.drop 0 = dktX1_expand_0 := by decide +kernel
theorem dksX1_expand_1 : cX1_expand.data.toList.drop 24 = dktX1_expand_1 := dk_seg dksX1_expand_0 24 rfl rfl
theorem dX1_expand_0 : decode cX1_expand 0 = .ok (.aload_n 0, 1) := dk_42 (dk_at dksX1_expand_0 0 rfl rfl)
theorem dX1_expand_1 : decode cX1_expand 1 = .ok (.aload_n 0, 1) := dk_42 (dk_at dksX1_expand_0 1 rfl rfl)
theorem dX1_expand_2 : decode cX1_expand 2 = .ok (.getfield 47, 3) := dk_180 0 47 (dk_at dksX1_expand_0 2 rfl rfl)
theorem dX1_expand_5 : decode cX1_expand 5 = .ok (.ldc2_w 69, 3) := dk_20 0 69 (dk_at dksX1_expand_0 5 rfl rfl)
theorem dX1_expand_8 : decode cX1_expand 8 = .ok (.ldc2_w 71, 3) := dk_20 0 71 (dk_at dksX1_expand_0 8 rfl rfl)
theorem dX1_expand_11 : decode cX1_expand 11 = .ok (.aload_n 0, 1) := dk_42 (dk_at dksX1_expand_0 11 rfl rfl)
theorem dX1_expand_12 : decode cX1_expand 12 = .ok (.getfield 47, 3) := dk_180 0 47 (dk_at dksX1_expand_0 12 rfl rfl)
theorem dX1_expand_15 : decode cX1_expand 15 = .ok (.i2l, 1) := dk_133 (dk_at dksX1_expand_0 15 rfl rfl)
theorem dX1_expand_16 : decode cX1_expand 16 = .ok (.lmul, 1) := dk_105 (dk_at dksX1_expand_0 16 rfl rfl)
theorem dX1_expand_17 : decode cX1_expand 17 = .ok (.invokestatic 73, 3) := dk_184 0 73 (dk_at dksX1_expand_0 17 rfl rfl)
theorem dX1_expand_20 : decode cX1_expand 20 = .ok (.l2i, 1) := dk_136 (dk_at dksX1_expand_0 20 rfl rfl)
theorem dX1_expand_21 : decode cX1_expand 21 = .ok (.invokevirtual 77, 3) := dk_182 0 77 (dk_at dksX1_expand_0 21 rfl rfl)
theorem dX1_expand_24 : decode cX1_expand 24 = .ok (.return_, 1) := dk_177 (dk_at dksX1_expand_1 0 rfl rfl)
abbrev cX1_resize : ByteArray := prog_4_method_4_code
def yX1_resize : MethodName := ⟨RX1, "resize", "(II)V"⟩
def dkwX1_resize_4 : List UInt8 := [181, 0, 54, 42, 45, 181, 0, 41, 42, 28, 181, 0, 47, 177]
abbrev dktX1_resize_4 : List UInt8 := dkwX1_resize_4 ++ []
def dkwX1_resize_3 : List UInt8 := [180, 0, 51, 45, 3, 42, 180, 0, 54, 42, 180, 0, 51, 100, 184, 0, 63, 42, 3, 181, 0, 51, 42, 27]
abbrev dktX1_resize_3 : List UInt8 := dkwX1_resize_3 ++ dktX1_resize_4
def dkwX1_resize_2 : List UInt8 := [180, 0, 47, 42, 180, 0, 51, 100, 42, 180, 0, 54, 184, 0, 63, 167, 0, 25, 42, 180, 0, 41, 42]
abbrev dktX1_resize_2 : List UInt8 := dkwX1_resize_2 ++ dktX1_resize_3
def dkwX1_resize_1 : List UInt8 := [180, 0, 51, 45, 3, 42, 180, 0, 47, 42, 180, 0, 51, 100, 184, 0, 63, 42, 180, 0, 41, 3, 45, 42]
abbrev dktX1_resize_1 : List UInt8 := dkwX1_resize_1 ++ dktX1_resize_2
def dkwX1_resize_0 : List UInt8 := [28, 188, 10, 78, 42, 180, 0, 51, 42, 180, 0, 54, 161, 0, 54, 27, 153, 0, 72, 42, 180, 0, 41, 42]
abbrev dktX1_resize_0 : List UInt8 := dkwX1_resize_0 ++ dktX1_resize_1
theorem dksX1_resize_0 : cX1_resize.data.toList.drop 0 = dktX1_resize_0 := by decide +kernel
theorem dksX1_resize_1 : cX1_resize.data.toList.drop 24 = dktX1_resize_1 := dk_seg dksX1_resize_0 24 rfl rfl
theorem dksX1_resize_2 : cX1_resize.data.toList.drop 48 = dktX1_resize_2 := dk_seg dksX1_resize_1 24 rfl rfl
theorem dksX1_resize_3 : cX1_resize.data.toList.drop 71 = dktX1_resize_3 := dk_seg dksX1_resize_2 23 rfl rfl
theorem dksX1_resize_4 : cX1_resize.data.toList.drop 95 = dktX1_resize_4 := dk_seg dksX1_resize_3 24 rfl rfl
theorem dX1_resize_0 : decode cX1_resize 0 = .ok (.iload_n 2, 1) := dk_28 (dk_at dksX1_resize_0 0 rfl rfl)
theorem dX1_resize_1 : decode cX1_resize 1 = .ok (.newarray .int, 2) := dk_188_10 (dk_at dksX1_resize_0 1 rfl rfl)
theorem dX1_resize_3 : decode cX1_resize 3 = .ok (.astore_n 3, 1) := dk_78 (dk_at dksX1_resize_0 3 rfl rfl)
theorem dX1_resize_4 : decode cX1_resize 4 = .ok (.aload_n 0, 1) := dk_42 (dk_at dksX1_resize_0 4 rfl rfl)
theorem dX1_resize_5 : decode cX1_resize 5 = .ok (.getfield 51, 3) := dk_180 0 51 (dk_at dksX1_resize_0 5 rfl rfl)
theorem dX1_resize_8 : decode cX1_resize 8 = .ok (.aload_n 0, 1) := dk_42 (dk_at dksX1_resize_0 8 rfl rfl)
theorem dX1_resize_9 : decode cX1_resize 9 = .ok (.getfield 54, 3) := dk_180 0 54 (dk_at dksX1_resize_0 9 rfl rfl)
theorem dX1_resize_12 : decode cX1_resize 12 = .ok (.if_icmp .lt 54, 3) := dk_161 0 54 (dk_at dksX1_resize_0 12 rfl rfl)
theorem dX1_resize_15 : decode cX1_resize 15 = .ok (.iload_n 1, 1) := dk_27 (dk_at dksX1_resize_0 15 rfl rfl)
theorem dX1_resize_16 : decode cX1_resize 16 = .ok (.ifCond .eq 72, 3) := dk_153 0 72 (dk_at dksX1_resize_0 16 rfl rfl)
theorem dX1_resize_19 : decode cX1_resize 19 = .ok (.aload_n 0, 1) := dk_42 (dk_at dksX1_resize_0 19 rfl rfl)
theorem dX1_resize_20 : decode cX1_resize 20 = .ok (.getfield 41, 3) := dk_180 0 41 (dk_at dksX1_resize_0 20 rfl rfl)
theorem dX1_resize_23 : decode cX1_resize 23 = .ok (.aload_n 0, 1) := dk_42 (dk_at dksX1_resize_0 23 rfl rfl)
theorem dX1_resize_24 : decode cX1_resize 24 = .ok (.getfield 51, 3) := dk_180 0 51 (dk_at dksX1_resize_1 0 rfl rfl)
theorem dX1_resize_27 : decode cX1_resize 27 = .ok (.aload_n 3, 1) := dk_45 (dk_at dksX1_resize_1 3 rfl rfl)
theorem dX1_resize_28 : decode cX1_resize 28 = .ok (.iconst 0, 1) := dk_3 (dk_at dksX1_resize_1 4 rfl rfl)
theorem dX1_resize_29 : decode cX1_resize 29 = .ok (.aload_n 0, 1) := dk_42 (dk_at dksX1_resize_1 5 rfl rfl)
theorem dX1_resize_30 : decode cX1_resize 30 = .ok (.getfield 47, 3) := dk_180 0 47 (dk_at dksX1_resize_1 6 rfl rfl)
theorem dX1_resize_33 : decode cX1_resize 33 = .ok (.aload_n 0, 1) := dk_42 (dk_at dksX1_resize_1 9 rfl rfl)
theorem dX1_resize_34 : decode cX1_resize 34 = .ok (.getfield 51, 3) := dk_180 0 51 (dk_at dksX1_resize_1 10 rfl rfl)
theorem dX1_resize_37 : decode cX1_resize 37 = .ok (.isub, 1) := dk_100 (dk_at dksX1_resize_1 13 rfl rfl)
theorem dX1_resize_38 : decode cX1_resize 38 = .ok (.invokestatic 63, 3) := dk_184 0 63 (dk_at dksX1_resize_1 14 rfl rfl)
theorem dX1_resize_41 : decode cX1_resize 41 = .ok (.aload_n 0, 1) := dk_42 (dk_at dksX1_resize_1 17 rfl rfl)
theorem dX1_resize_42 : decode cX1_resize 42 = .ok (.getfield 41, 3) := dk_180 0 41 (dk_at dksX1_resize_1 18 rfl rfl)
theorem dX1_resize_45 : decode cX1_resize 45 = .ok (.iconst 0, 1) := dk_3 (dk_at dksX1_resize_1 21 rfl rfl)
theorem dX1_resize_46 : decode cX1_resize 46 = .ok (.aload_n 3, 1) := dk_45 (dk_at dksX1_resize_1 22 rfl rfl)
theorem dX1_resize_47 : decode cX1_resize 47 = .ok (.aload_n 0, 1) := dk_42 (dk_at dksX1_resize_1 23 rfl rfl)
theorem dX1_resize_48 : decode cX1_resize 48 = .ok (.getfield 47, 3) := dk_180 0 47 (dk_at dksX1_resize_2 0 rfl rfl)
theorem dX1_resize_51 : decode cX1_resize 51 = .ok (.aload_n 0, 1) := dk_42 (dk_at dksX1_resize_2 3 rfl rfl)
theorem dX1_resize_52 : decode cX1_resize 52 = .ok (.getfield 51, 3) := dk_180 0 51 (dk_at dksX1_resize_2 4 rfl rfl)
theorem dX1_resize_55 : decode cX1_resize 55 = .ok (.isub, 1) := dk_100 (dk_at dksX1_resize_2 7 rfl rfl)
theorem dX1_resize_56 : decode cX1_resize 56 = .ok (.aload_n 0, 1) := dk_42 (dk_at dksX1_resize_2 8 rfl rfl)
theorem dX1_resize_57 : decode cX1_resize 57 = .ok (.getfield 54, 3) := dk_180 0 54 (dk_at dksX1_resize_2 9 rfl rfl)
theorem dX1_resize_60 : decode cX1_resize 60 = .ok (.invokestatic 63, 3) := dk_184 0 63 (dk_at dksX1_resize_2 12 rfl rfl)
theorem dX1_resize_63 : decode cX1_resize 63 = .ok (.goto 25, 3) := dk_167 0 25 (dk_at dksX1_resize_2 15 rfl rfl)
theorem dX1_resize_66 : decode cX1_resize 66 = .ok (.aload_n 0, 1) := dk_42 (dk_at dksX1_resize_2 18 rfl rfl)
theorem dX1_resize_67 : decode cX1_resize 67 = .ok (.getfield 41, 3) := dk_180 0 41 (dk_at dksX1_resize_2 19 rfl rfl)
theorem dX1_resize_70 : decode cX1_resize 70 = .ok (.aload_n 0, 1) := dk_42 (dk_at dksX1_resize_2 22 rfl rfl)
theorem dX1_resize_71 : decode cX1_resize 71 = .ok (.getfield 51, 3) := dk_180 0 51 (dk_at dksX1_resize_3 0 rfl rfl)
theorem dX1_resize_74 : decode cX1_resize 74 = .ok (.aload_n 3, 1) := dk_45 (dk_at dksX1_resize_3 3 rfl rfl)
theorem dX1_resize_75 : decode cX1_resize 75 = .ok (.iconst 0, 1) := dk_3 (dk_at dksX1_resize_3 4 rfl rfl)
theorem dX1_resize_76 : decode cX1_resize 76 = .ok (.aload_n 0, 1) := dk_42 (dk_at dksX1_resize_3 5 rfl rfl)
theorem dX1_resize_77 : decode cX1_resize 77 = .ok (.getfield 54, 3) := dk_180 0 54 (dk_at dksX1_resize_3 6 rfl rfl)
theorem dX1_resize_80 : decode cX1_resize 80 = .ok (.aload_n 0, 1) := dk_42 (dk_at dksX1_resize_3 9 rfl rfl)
theorem dX1_resize_81 : decode cX1_resize 81 = .ok (.getfield 51, 3) := dk_180 0 51 (dk_at dksX1_resize_3 10 rfl rfl)
theorem dX1_resize_84 : decode cX1_resize 84 = .ok (.isub, 1) := dk_100 (dk_at dksX1_resize_3 13 rfl rfl)
theorem dX1_resize_85 : decode cX1_resize 85 = .ok (.invokestatic 63, 3) := dk_184 0 63 (dk_at dksX1_resize_3 14 rfl rfl)
theorem dX1_resize_88 : decode cX1_resize 88 = .ok (.aload_n 0, 1) := dk_42 (dk_at dksX1_resize_3 17 rfl rfl)
theorem dX1_resize_89 : decode cX1_resize 89 = .ok (.iconst 0, 1) := dk_3 (dk_at dksX1_resize_3 18 rfl rfl)
theorem dX1_resize_90 : decode cX1_resize 90 = .ok (.putfield 51, 3) := dk_181 0 51 (dk_at dksX1_resize_3 19 rfl rfl)
theorem dX1_resize_93 : decode cX1_resize 93 = .ok (.aload_n 0, 1) := dk_42 (dk_at dksX1_resize_3 22 rfl rfl)
theorem dX1_resize_94 : decode cX1_resize 94 = .ok (.iload_n 1, 1) := dk_27 (dk_at dksX1_resize_3 23 rfl rfl)
theorem dX1_resize_95 : decode cX1_resize 95 = .ok (.putfield 54, 3) := dk_181 0 54 (dk_at dksX1_resize_4 0 rfl rfl)
theorem dX1_resize_98 : decode cX1_resize 98 = .ok (.aload_n 0, 1) := dk_42 (dk_at dksX1_resize_4 3 rfl rfl)
theorem dX1_resize_99 : decode cX1_resize 99 = .ok (.aload_n 3, 1) := dk_45 (dk_at dksX1_resize_4 4 rfl rfl)
theorem dX1_resize_100 : decode cX1_resize 100 = .ok (.putfield 41, 3) := dk_181 0 41 (dk_at dksX1_resize_4 5 rfl rfl)
theorem dX1_resize_103 : decode cX1_resize 103 = .ok (.aload_n 0, 1) := dk_42 (dk_at dksX1_resize_4 8 rfl rfl)
theorem dX1_resize_104 : decode cX1_resize 104 = .ok (.iload_n 2, 1) := dk_28 (dk_at dksX1_resize_4 9 rfl rfl)
theorem dX1_resize_105 : decode cX1_resize 105 = .ok (.putfield 47, 3) := dk_181 0 47 (dk_at dksX1_resize_4 10 rfl rfl)
theorem dX1_resize_108 : decode cX1_resize 108 = .ok (.return_, 1) := dk_177 (dk_at dksX1_resize_4 13 rfl rfl)
abbrev cX1_enqueueFirst : ByteArray := prog_4_method_8_code
def yX1_enqueueFirst : MethodName := ⟨RX1, "enqueueFirst", "(I)V"⟩
def dkwX1_enqueueFirst_1 : List UInt8 := [4, 100, 90, 181, 0, 51, 27, 79, 42, 180, 0, 54, 42, 180, 0, 51, 160, 0, 7, 42, 182, 0, 85, 177]
abbrev dktX1_enqueueFirst_1 : List UInt8 := dkwX1_enqueueFirst_1 ++ []
def dkwX1_enqueueFirst_0 : List UInt8 := [42, 180, 0, 51, 154, 0, 11, 42, 42, 180, 0, 47, 181, 0, 51, 42, 180, 0, 41, 42, 89, 180, 0, 51]
abbrev dktX1_enqueueFirst_0 : List UInt8 := dkwX1_enqueueFirst_0 ++ dktX1_enqueueFirst_1
theorem dksX1_enqueueFirst_0 : cX1_enqueueFirst.data.toList.drop 0 = dktX1_enqueueFirst_0 := by decide +kernel
theorem dksX1_enqueueFirst_1 : cX1_enqueueFirst.data.toList.drop 24 = dktX1_enqueueFirst_1 := dk_seg dksX1_enqueueFirst_0 24 rfl rfl
theorem dX1_enqueueFirst_0 : decode cX1_enqueueFirst 0 = .ok (.aload_n 0, 1) := dk_42 (dk_at dksX1_enqueueFirst_0 0 rfl rfl)
theorem dX1_enqueueFirst_1 : decode cX1_enqueueFirst 1 = .ok (.getfield 51, 3) := dk_180 0 51 (dk_at dksX1_enqueueFirst_0 1 rfl rfl)
theorem dX1_enqueueFirst_4 : decode cX1_enqueueFirst 4 = .ok (.ifCond .ne 11, 3) := dk_154 0 11 (dk_at dksX1_enqueueFirst_0 4 rfl rfl)
theorem dX1_enqueueFirst_7 : decode cX1_enqueueFirst 7 = .ok (.aload_n 0, 1) := dk_42 (dk_at dksX1_enqueueFirst_0 7 rfl rfl)
theorem dX1_enqueueFirst_8 : decode cX1_enqueueFirst 8 = .ok (.aload_n 0, 1) := dk_42 (dk_at dksX1_enqueueFirst_0 8 rfl rfl)
theorem dX1_enqueueFirst_9 : decode cX1_enqueueFirst 9 = .ok (.getfield 47, 3) := dk_180 0 47 (dk_at dksX1_enqueueFirst_0 9 rfl rfl)
theorem dX1_enqueueFirst_12 : decode cX1_enqueueFirst 12 = .ok (.putfield 51, 3) := dk_181 0 51 (dk_at dksX1_enqueueFirst_0 12 rfl rfl)
theorem dX1_enqueueFirst_15 : decode cX1_enqueueFirst 15 = .ok (.aload_n 0, 1) := dk_42 (dk_at dksX1_enqueueFirst_0 15 rfl rfl)
theorem dX1_enqueueFirst_16 : decode cX1_enqueueFirst 16 = .ok (.getfield 41, 3) := dk_180 0 41 (dk_at dksX1_enqueueFirst_0 16 rfl rfl)
theorem dX1_enqueueFirst_19 : decode cX1_enqueueFirst 19 = .ok (.aload_n 0, 1) := dk_42 (dk_at dksX1_enqueueFirst_0 19 rfl rfl)
theorem dX1_enqueueFirst_20 : decode cX1_enqueueFirst 20 = .ok (.dup, 1) := dk_89 (dk_at dksX1_enqueueFirst_0 20 rfl rfl)
theorem dX1_enqueueFirst_21 : decode cX1_enqueueFirst 21 = .ok (.getfield 51, 3) := dk_180 0 51 (dk_at dksX1_enqueueFirst_0 21 rfl rfl)
theorem dX1_enqueueFirst_24 : decode cX1_enqueueFirst 24 = .ok (.iconst 1, 1) := dk_4 (dk_at dksX1_enqueueFirst_1 0 rfl rfl)
theorem dX1_enqueueFirst_25 : decode cX1_enqueueFirst 25 = .ok (.isub, 1) := dk_100 (dk_at dksX1_enqueueFirst_1 1 rfl rfl)
theorem dX1_enqueueFirst_26 : decode cX1_enqueueFirst 26 = .ok (.dup_x1, 1) := dk_90 (dk_at dksX1_enqueueFirst_1 2 rfl rfl)
theorem dX1_enqueueFirst_27 : decode cX1_enqueueFirst 27 = .ok (.putfield 51, 3) := dk_181 0 51 (dk_at dksX1_enqueueFirst_1 3 rfl rfl)
theorem dX1_enqueueFirst_30 : decode cX1_enqueueFirst 30 = .ok (.iload_n 1, 1) := dk_27 (dk_at dksX1_enqueueFirst_1 6 rfl rfl)
theorem dX1_enqueueFirst_31 : decode cX1_enqueueFirst 31 = .ok (.iastore, 1) := dk_79 (dk_at dksX1_enqueueFirst_1 7 rfl rfl)
theorem dX1_enqueueFirst_32 : decode cX1_enqueueFirst 32 = .ok (.aload_n 0, 1) := dk_42 (dk_at dksX1_enqueueFirst_1 8 rfl rfl)
theorem dX1_enqueueFirst_33 : decode cX1_enqueueFirst 33 = .ok (.getfield 54, 3) := dk_180 0 54 (dk_at dksX1_enqueueFirst_1 9 rfl rfl)
theorem dX1_enqueueFirst_36 : decode cX1_enqueueFirst 36 = .ok (.aload_n 0, 1) := dk_42 (dk_at dksX1_enqueueFirst_1 12 rfl rfl)
theorem dX1_enqueueFirst_37 : decode cX1_enqueueFirst 37 = .ok (.getfield 51, 3) := dk_180 0 51 (dk_at dksX1_enqueueFirst_1 13 rfl rfl)
theorem dX1_enqueueFirst_40 : decode cX1_enqueueFirst 40 = .ok (.if_icmp .ne 7, 3) := dk_160 0 7 (dk_at dksX1_enqueueFirst_1 16 rfl rfl)
theorem dX1_enqueueFirst_43 : decode cX1_enqueueFirst 43 = .ok (.aload_n 0, 1) := dk_42 (dk_at dksX1_enqueueFirst_1 19 rfl rfl)
theorem dX1_enqueueFirst_44 : decode cX1_enqueueFirst 44 = .ok (.invokevirtual 85, 3) := dk_182 0 85 (dk_at dksX1_enqueueFirst_1 20 rfl rfl)
theorem dX1_enqueueFirst_47 : decode cX1_enqueueFirst 47 = .ok (.return_, 1) := dk_177 (dk_at dksX1_enqueueFirst_1 23 rfl rfl)
abbrev cX1_dequeueInt : ByteArray := prog_4_method_2_code
def yX1_dequeueInt : MethodName := ⟨RX1, "dequeueInt", "()I"⟩
def dkwX1_dequeueInt_2 : List UInt8 := [3, 181, 0, 51, 42, 182, 0, 60, 27, 172]
abbrev dktX1_dequeueInt_2 : List UInt8 := dkwX1_dequeueInt_2 ++ []
def dkwX1_dequeueInt_1 : List UInt8 := [180, 0, 51, 46, 60, 42, 89, 180, 0, 51, 4, 96, 90, 181, 0, 51, 42, 180, 0, 47, 160, 0, 8, 42]
abbrev dktX1_dequeueInt_1 : List UInt8 := dkwX1_dequeueInt_1 ++ dktX1_dequeueInt_2
def dkwX1_dequeueInt_0 : List UInt8 := [42, 180, 0, 51, 42, 180, 0, 54, 160, 0, 11, 187, 0, 57, 89, 183, 0, 59, 191, 42, 180, 0, 41, 42]
abbrev dktX1_dequeueInt_0 : List UInt8 := dkwX1_dequeueInt_0 ++ dktX1_dequeueInt_1
theorem dksX1_dequeueInt_0 : cX1_dequeueInt.data.toList.drop 0 = dktX1_dequeueInt_0 := by decide +kernel
theorem dksX1_dequeueInt_1 : cX1_dequeueInt.data.toList.drop 24 = dktX1_dequeueInt_1 := dk_seg dksX1_dequeueInt_0 24 rfl rfl
theorem dksX1_dequeueInt_2 : cX1_dequeueInt.data.toList.drop 48 = dktX1_dequeueInt_2 := dk_seg dksX1_dequeueInt_1 24 rfl rfl
theorem dX1_dequeueInt_0 : decode cX1_dequeueInt 0 = .ok (.aload_n 0, 1) := dk_42 (dk_at dksX1_dequeueInt_0 0 rfl rfl)
theorem dX1_dequeueInt_1 : decode cX1_dequeueInt 1 = .ok (.getfield 51, 3) := dk_180 0 51 (dk_at dksX1_dequeueInt_0 1 rfl rfl)
theorem dX1_dequeueInt_4 : decode cX1_dequeueInt 4 = .ok (.aload_n 0, 1) := dk_42 (dk_at dksX1_dequeueInt_0 4 rfl rfl)
theorem dX1_dequeueInt_5 : decode cX1_dequeueInt 5 = .ok (.getfield 54, 3) := dk_180 0 54 (dk_at dksX1_dequeueInt_0 5 rfl rfl)
theorem dX1_dequeueInt_8 : decode cX1_dequeueInt 8 = .ok (.if_icmp .ne 11, 3) := dk_160 0 11 (dk_at dksX1_dequeueInt_0 8 rfl rfl)
theorem dX1_dequeueInt_11 : decode cX1_dequeueInt 11 = .ok (.new 57, 3) := dk_187 0 57 (dk_at dksX1_dequeueInt_0 11 rfl rfl)
theorem dX1_dequeueInt_14 : decode cX1_dequeueInt 14 = .ok (.dup, 1) := dk_89 (dk_at dksX1_dequeueInt_0 14 rfl rfl)
theorem dX1_dequeueInt_15 : decode cX1_dequeueInt 15 = .ok (.invokespecial 59, 3) := dk_183 0 59 (dk_at dksX1_dequeueInt_0 15 rfl rfl)
theorem dX1_dequeueInt_18 : decode cX1_dequeueInt 18 = .ok (.athrow, 1) := dk_191 (dk_at dksX1_dequeueInt_0 18 rfl rfl)
theorem dX1_dequeueInt_19 : decode cX1_dequeueInt 19 = .ok (.aload_n 0, 1) := dk_42 (dk_at dksX1_dequeueInt_0 19 rfl rfl)
theorem dX1_dequeueInt_20 : decode cX1_dequeueInt 20 = .ok (.getfield 41, 3) := dk_180 0 41 (dk_at dksX1_dequeueInt_0 20 rfl rfl)
theorem dX1_dequeueInt_23 : decode cX1_dequeueInt 23 = .ok (.aload_n 0, 1) := dk_42 (dk_at dksX1_dequeueInt_0 23 rfl rfl)
theorem dX1_dequeueInt_24 : decode cX1_dequeueInt 24 = .ok (.getfield 51, 3) := dk_180 0 51 (dk_at dksX1_dequeueInt_1 0 rfl rfl)
theorem dX1_dequeueInt_27 : decode cX1_dequeueInt 27 = .ok (.iaload, 1) := dk_46 (dk_at dksX1_dequeueInt_1 3 rfl rfl)
theorem dX1_dequeueInt_28 : decode cX1_dequeueInt 28 = .ok (.istore_n 1, 1) := dk_60 (dk_at dksX1_dequeueInt_1 4 rfl rfl)
theorem dX1_dequeueInt_29 : decode cX1_dequeueInt 29 = .ok (.aload_n 0, 1) := dk_42 (dk_at dksX1_dequeueInt_1 5 rfl rfl)
theorem dX1_dequeueInt_30 : decode cX1_dequeueInt 30 = .ok (.dup, 1) := dk_89 (dk_at dksX1_dequeueInt_1 6 rfl rfl)
theorem dX1_dequeueInt_31 : decode cX1_dequeueInt 31 = .ok (.getfield 51, 3) := dk_180 0 51 (dk_at dksX1_dequeueInt_1 7 rfl rfl)
theorem dX1_dequeueInt_34 : decode cX1_dequeueInt 34 = .ok (.iconst 1, 1) := dk_4 (dk_at dksX1_dequeueInt_1 10 rfl rfl)
theorem dX1_dequeueInt_35 : decode cX1_dequeueInt 35 = .ok (.iadd, 1) := dk_96 (dk_at dksX1_dequeueInt_1 11 rfl rfl)
theorem dX1_dequeueInt_36 : decode cX1_dequeueInt 36 = .ok (.dup_x1, 1) := dk_90 (dk_at dksX1_dequeueInt_1 12 rfl rfl)
theorem dX1_dequeueInt_37 : decode cX1_dequeueInt 37 = .ok (.putfield 51, 3) := dk_181 0 51 (dk_at dksX1_dequeueInt_1 13 rfl rfl)
theorem dX1_dequeueInt_40 : decode cX1_dequeueInt 40 = .ok (.aload_n 0, 1) := dk_42 (dk_at dksX1_dequeueInt_1 16 rfl rfl)
theorem dX1_dequeueInt_41 : decode cX1_dequeueInt 41 = .ok (.getfield 47, 3) := dk_180 0 47 (dk_at dksX1_dequeueInt_1 17 rfl rfl)
theorem dX1_dequeueInt_44 : decode cX1_dequeueInt 44 = .ok (.if_icmp .ne 8, 3) := dk_160 0 8 (dk_at dksX1_dequeueInt_1 20 rfl rfl)
theorem dX1_dequeueInt_47 : decode cX1_dequeueInt 47 = .ok (.aload_n 0, 1) := dk_42 (dk_at dksX1_dequeueInt_1 23 rfl rfl)
theorem dX1_dequeueInt_48 : decode cX1_dequeueInt 48 = .ok (.iconst 0, 1) := dk_3 (dk_at dksX1_dequeueInt_2 0 rfl rfl)
theorem dX1_dequeueInt_49 : decode cX1_dequeueInt 49 = .ok (.putfield 51, 3) := dk_181 0 51 (dk_at dksX1_dequeueInt_2 1 rfl rfl)
theorem dX1_dequeueInt_52 : decode cX1_dequeueInt 52 = .ok (.aload_n 0, 1) := dk_42 (dk_at dksX1_dequeueInt_2 4 rfl rfl)
theorem dX1_dequeueInt_53 : decode cX1_dequeueInt 53 = .ok (.invokevirtual 60, 3) := dk_182 0 60 (dk_at dksX1_dequeueInt_2 5 rfl rfl)
theorem dX1_dequeueInt_56 : decode cX1_dequeueInt 56 = .ok (.iload_n 1, 1) := dk_27 (dk_at dksX1_dequeueInt_2 8 rfl rfl)
theorem dX1_dequeueInt_57 : decode cX1_dequeueInt 57 = .ok (.ireturn, 1) := dk_172 (dk_at dksX1_dequeueInt_2 9 rfl rfl)
abbrev cX1_reduce : ByteArray := prog_4_method_6_code
def yX1_reduce : MethodName := ⟨RX1, "reduce", "()V"⟩
def dkwX1_reduce_1 : List UInt8 := [27, 42, 180, 0, 47, 5, 108, 182, 0, 77, 177]
abbrev dktX1_reduce_1 : List UInt8 := dkwX1_reduce_1 ++ []
def dkwX1_reduce_0 : List UInt8 := [42, 182, 0, 81, 60, 42, 180, 0, 47, 7, 164, 0, 24, 27, 42, 180, 0, 47, 7, 108, 163, 0, 14, 42]
abbrev dktX1_reduce_0 : List UInt8 := dkwX1_reduce_0 ++ dktX1_reduce_1
theorem dksX1_reduce_0 : cX1_reduce.data.toList.drop 0 = dktX1_reduce_0 := by decide +kernel
theorem dksX1_reduce_1 : cX1_reduce.data.toList.drop 24 = dktX1_reduce_1 := dk_seg dksX1_reduce_0 24 rfl rfl
theorem dX1_reduce_0 : decode cX1_reduce 0 = .ok (.aload_n 0, 1) := dk_42 (dk_at dksX1_reduce_0 0 rfl rfl)
theorem dX1_reduce_1 : decode cX1_reduce 1 = .ok (.invokevirtual 81, 3) := dk_182 0 81 (dk_at dksX1_reduce_0 1 rfl rfl)
theorem dX1_reduce_4 : decode cX1_reduce 4 = .ok (.istore_n 1, 1) := dk_60 (dk_at dksX1_reduce_0 4 rfl rfl)
theorem dX1_reduce_5 : decode cX1_reduce 5 = .ok (.aload_n 0, 1) := dk_42 (dk_at dksX1_reduce_0 5 rfl rfl)
theorem dX1_reduce_6 : decode cX1_reduce 6 = .ok (.getfield 47, 3) := dk_180 0 47 (dk_at dksX1_reduce_0 6 rfl rfl)
theorem dX1_reduce_9 : decode cX1_reduce 9 = .ok (.iconst 4, 1) := dk_7 (dk_at dksX1_reduce_0 9 rfl rfl)
theorem dX1_reduce_10 : decode cX1_reduce 10 = .ok (.if_icmp .le 24, 3) := dk_164 0 24 (dk_at dksX1_reduce_0 10 rfl rfl)
theorem dX1_reduce_13 : decode cX1_reduce 13 = .ok (.iload_n 1, 1) := dk_27 (dk_at dksX1_reduce_0 13 rfl rfl)
theorem dX1_reduce_14 : decode cX1_reduce 14 = .ok (.aload_n 0, 1) := dk_42 (dk_at dksX1_reduce_0 14 rfl rfl)
theorem dX1_reduce_15 : decode cX1_reduce 15 = .ok (.getfield 47, 3) := dk_180 0 47 (dk_at dksX1_reduce_0 15 rfl rfl)
theorem dX1_reduce_18 : decode cX1_reduce 18 = .ok (.iconst 4, 1) := dk_7 (dk_at dksX1_reduce_0 18 rfl rfl)
theorem dX1_reduce_19 : decode cX1_reduce 19 = .ok (.idiv, 1) := dk_108 (dk_at dksX1_reduce_0 19 rfl rfl)
theorem dX1_reduce_20 : decode cX1_reduce 20 = .ok (.if_icmp .gt 14, 3) := dk_163 0 14 (dk_at dksX1_reduce_0 20 rfl rfl)
theorem dX1_reduce_23 : decode cX1_reduce 23 = .ok (.aload_n 0, 1) := dk_42 (dk_at dksX1_reduce_0 23 rfl rfl)
theorem dX1_reduce_24 : decode cX1_reduce 24 = .ok (.iload_n 1, 1) := dk_27 (dk_at dksX1_reduce_1 0 rfl rfl)
theorem dX1_reduce_25 : decode cX1_reduce 25 = .ok (.aload_n 0, 1) := dk_42 (dk_at dksX1_reduce_1 1 rfl rfl)
theorem dX1_reduce_26 : decode cX1_reduce 26 = .ok (.getfield 47, 3) := dk_180 0 47 (dk_at dksX1_reduce_1 2 rfl rfl)
theorem dX1_reduce_29 : decode cX1_reduce 29 = .ok (.iconst 2, 1) := dk_5 (dk_at dksX1_reduce_1 5 rfl rfl)
theorem dX1_reduce_30 : decode cX1_reduce 30 = .ok (.idiv, 1) := dk_108 (dk_at dksX1_reduce_1 6 rfl rfl)
theorem dX1_reduce_31 : decode cX1_reduce 31 = .ok (.invokevirtual 77, 3) := dk_182 0 77 (dk_at dksX1_reduce_1 7 rfl rfl)
theorem dX1_reduce_34 : decode cX1_reduce 34 = .ok (.return_, 1) := dk_177 (dk_at dksX1_reduce_1 10 rfl rfl)
abbrev cX1_dequeueLastInt : ByteArray := prog_4_method_3_code
def yX1_dequeueLastInt : MethodName := ⟨RX1, "dequeueLastInt", "()I"⟩
def dkwX1_dequeueLastInt_2 : List UInt8 := [181, 0, 54, 46, 60, 42, 182, 0, 60, 27, 172]
abbrev dktX1_dequeueLastInt_2 : List UInt8 := dkwX1_dequeueLastInt_2 ++ []
def dkwX1_dequeueLastInt_1 : List UInt8 := [154, 0, 11, 42, 42, 180, 0, 47, 181, 0, 54, 42, 180, 0, 41, 42, 89, 180, 0, 54, 4, 100, 90]
abbrev dktX1_dequeueLastInt_1 : List UInt8 := dkwX1_dequeueLastInt_1 ++ dktX1_dequeueLastInt_2
def dkwX1_dequeueLastInt_0 : List UInt8 := [42, 180, 0, 51, 42, 180, 0, 54, 160, 0, 11, 187, 0, 57, 89, 183, 0, 59, 191, 42, 180, 0, 54]
abbrev dktX1_dequeueLastInt_0 : List UInt8 := dkwX1_dequeueLastInt_0 ++ dktX1_dequeueLastInt_1
theorem dksX1_dequeueLastInt_0 : cX1_dequeueLastInt.data.toList.drop 0 = dktX1_dequeueLastInt_0 := by decide +kernel
theorem dksX1_dequeueLastInt_1 : cX1_dequeueLastInt.data.toList.drop 23 = dktX1_dequeueLastInt_1 := dk_seg dksX1_dequeueLastInt_0 23 rfl rfl
theorem dksX1_dequeueLastInt_2 : cX1_dequeueLastInt.data.toList.drop 46 = dktX1_dequeueLastInt_2 := dk_seg dksX1_dequeueLastInt_1 23 rfl rfl
theorem dX1_dequeueLastInt_0 : decode cX1_dequeueLastInt 0 = .ok (.aload_n 0, 1) := dk_42 (dk_at dksX1_dequeueLastInt_0 0 rfl rfl)
theorem dX1_dequeueLastInt_1 : decode cX1_dequeueLastInt 1 = .ok (.getfield 51, 3) := dk_180 0 51 (dk_at dksX1_dequeueLastInt_0 1 rfl rfl)
theorem dX1_dequeueLastInt_4 : decode cX1_dequeueLastInt 4 = .ok (.aload_n 0, 1) := dk_42 (dk_at dksX1_dequeueLastInt_0 4 rfl rfl)
theorem dX1_dequeueLastInt_5 : decode cX1_dequeueLastInt 5 = .ok (.getfield 54, 3) := dk_180 0 54 (dk_at dksX1_dequeueLastInt_0 5 rfl rfl)
theorem dX1_dequeueLastInt_8 : decode cX1_dequeueLastInt 8 = .ok (.if_icmp .ne 11, 3) := dk_160 0 11 (dk_at dksX1_dequeueLastInt_0 8 rfl rfl)
theorem dX1_dequeueLastInt_11 : decode cX1_dequeueLastInt 11 = .ok (.new 57, 3) := dk_187 0 57 (dk_at dksX1_dequeueLastInt_0 11 rfl rfl)
theorem dX1_dequeueLastInt_14 : decode cX1_dequeueLastInt 14 = .ok (.dup, 1) := dk_89 (dk_at dksX1_dequeueLastInt_0 14 rfl rfl)
theorem dX1_dequeueLastInt_15 : decode cX1_dequeueLastInt 15 = .ok (.invokespecial 59, 3) := dk_183 0 59 (dk_at dksX1_dequeueLastInt_0 15 rfl rfl)
theorem dX1_dequeueLastInt_18 : decode cX1_dequeueLastInt 18 = .ok (.athrow, 1) := dk_191 (dk_at dksX1_dequeueLastInt_0 18 rfl rfl)
theorem dX1_dequeueLastInt_19 : decode cX1_dequeueLastInt 19 = .ok (.aload_n 0, 1) := dk_42 (dk_at dksX1_dequeueLastInt_0 19 rfl rfl)
theorem dX1_dequeueLastInt_20 : decode cX1_dequeueLastInt 20 = .ok (.getfield 54, 3) := dk_180 0 54 (dk_at dksX1_dequeueLastInt_0 20 rfl rfl)
theorem dX1_dequeueLastInt_23 : decode cX1_dequeueLastInt 23 = .ok (.ifCond .ne 11, 3) := dk_154 0 11 (dk_at dksX1_dequeueLastInt_1 0 rfl rfl)
theorem dX1_dequeueLastInt_26 : decode cX1_dequeueLastInt 26 = .ok (.aload_n 0, 1) := dk_42 (dk_at dksX1_dequeueLastInt_1 3 rfl rfl)
theorem dX1_dequeueLastInt_27 : decode cX1_dequeueLastInt 27 = .ok (.aload_n 0, 1) := dk_42 (dk_at dksX1_dequeueLastInt_1 4 rfl rfl)
theorem dX1_dequeueLastInt_28 : decode cX1_dequeueLastInt 28 = .ok (.getfield 47, 3) := dk_180 0 47 (dk_at dksX1_dequeueLastInt_1 5 rfl rfl)
theorem dX1_dequeueLastInt_31 : decode cX1_dequeueLastInt 31 = .ok (.putfield 54, 3) := dk_181 0 54 (dk_at dksX1_dequeueLastInt_1 8 rfl rfl)
theorem dX1_dequeueLastInt_34 : decode cX1_dequeueLastInt 34 = .ok (.aload_n 0, 1) := dk_42 (dk_at dksX1_dequeueLastInt_1 11 rfl rfl)
theorem dX1_dequeueLastInt_35 : decode cX1_dequeueLastInt 35 = .ok (.getfield 41, 3) := dk_180 0 41 (dk_at dksX1_dequeueLastInt_1 12 rfl rfl)
theorem dX1_dequeueLastInt_38 : decode cX1_dequeueLastInt 38 = .ok (.aload_n 0, 1) := dk_42 (dk_at dksX1_dequeueLastInt_1 15 rfl rfl)
theorem dX1_dequeueLastInt_39 : decode cX1_dequeueLastInt 39 = .ok (.dup, 1) := dk_89 (dk_at dksX1_dequeueLastInt_1 16 rfl rfl)
theorem dX1_dequeueLastInt_40 : decode cX1_dequeueLastInt 40 = .ok (.getfield 54, 3) := dk_180 0 54 (dk_at dksX1_dequeueLastInt_1 17 rfl rfl)
theorem dX1_dequeueLastInt_43 : decode cX1_dequeueLastInt 43 = .ok (.iconst 1, 1) := dk_4 (dk_at dksX1_dequeueLastInt_1 20 rfl rfl)
theorem dX1_dequeueLastInt_44 : decode cX1_dequeueLastInt 44 = .ok (.isub, 1) := dk_100 (dk_at dksX1_dequeueLastInt_1 21 rfl rfl)
theorem dX1_dequeueLastInt_45 : decode cX1_dequeueLastInt 45 = .ok (.dup_x1, 1) := dk_90 (dk_at dksX1_dequeueLastInt_1 22 rfl rfl)
theorem dX1_dequeueLastInt_46 : decode cX1_dequeueLastInt 46 = .ok (.putfield 54, 3) := dk_181 0 54 (dk_at dksX1_dequeueLastInt_2 0 rfl rfl)
theorem dX1_dequeueLastInt_49 : decode cX1_dequeueLastInt 49 = .ok (.iaload, 1) := dk_46 (dk_at dksX1_dequeueLastInt_2 3 rfl rfl)
theorem dX1_dequeueLastInt_50 : decode cX1_dequeueLastInt 50 = .ok (.istore_n 1, 1) := dk_60 (dk_at dksX1_dequeueLastInt_2 4 rfl rfl)
theorem dX1_dequeueLastInt_51 : decode cX1_dequeueLastInt 51 = .ok (.aload_n 0, 1) := dk_42 (dk_at dksX1_dequeueLastInt_2 5 rfl rfl)
theorem dX1_dequeueLastInt_52 : decode cX1_dequeueLastInt 52 = .ok (.invokevirtual 60, 3) := dk_182 0 60 (dk_at dksX1_dequeueLastInt_2 6 rfl rfl)
theorem dX1_dequeueLastInt_55 : decode cX1_dequeueLastInt 55 = .ok (.iload_n 1, 1) := dk_27 (dk_at dksX1_dequeueLastInt_2 9 rfl rfl)
theorem dX1_dequeueLastInt_56 : decode cX1_dequeueLastInt 56 = .ok (.ireturn, 1) := dk_172 (dk_at dksX1_dequeueLastInt_2 10 rfl rfl)
abbrev cX1_firstInt : ByteArray := prog_4_method_9_code
def yX1_firstInt : MethodName := ⟨RX1, "firstInt", "()I"⟩
def dkwX1_firstInt_1 : List UInt8 := [180, 0, 51, 46, 172]
abbrev dktX1_firstInt_1 : List UInt8 := dkwX1_firstInt_1 ++ []
def dkwX1_firstInt_0 : List UInt8 := [42, 180, 0, 51, 42, 180, 0, 54, 160, 0, 11, 187, 0, 57, 89, 183, 0, 59, 191, 42, 180, 0, 41, 42]
abbrev dktX1_firstInt_0 : List UInt8 := dkwX1_firstInt_0 ++ dktX1_firstInt_1
theorem dksX1_firstInt_0 : cX1_firstInt.data.toList.drop 0 = dktX1_firstInt_0 := by decide +kernel
theorem dksX1_firstInt_1 : cX1_firstInt.data.toList.drop 24 = dktX1_firstInt_1 := dk_seg dksX1_firstInt_0 24 rfl rfl
theorem dX1_firstInt_0 : decode cX1_firstInt 0 = .ok (.aload_n 0, 1) := dk_42 (dk_at dksX1_firstInt_0 0 rfl rfl)
theorem dX1_firstInt_1 : decode cX1_firstInt 1 = .ok (.getfield 51, 3) := dk_180 0 51 (dk_at dksX1_firstInt_0 1 rfl rfl)
theorem dX1_firstInt_4 : decode cX1_firstInt 4 = .ok (.aload_n 0, 1) := dk_42 (dk_at dksX1_firstInt_0 4 rfl rfl)
theorem dX1_firstInt_5 : decode cX1_firstInt 5 = .ok (.getfield 54, 3) := dk_180 0 54 (dk_at dksX1_firstInt_0 5 rfl rfl)
theorem dX1_firstInt_8 : decode cX1_firstInt 8 = .ok (.if_icmp .ne 11, 3) := dk_160 0 11 (dk_at dksX1_firstInt_0 8 rfl rfl)
theorem dX1_firstInt_11 : decode cX1_firstInt 11 = .ok (.new 57, 3) := dk_187 0 57 (dk_at dksX1_firstInt_0 11 rfl rfl)
theorem dX1_firstInt_14 : decode cX1_firstInt 14 = .ok (.dup, 1) := dk_89 (dk_at dksX1_firstInt_0 14 rfl rfl)
theorem dX1_firstInt_15 : decode cX1_firstInt 15 = .ok (.invokespecial 59, 3) := dk_183 0 59 (dk_at dksX1_firstInt_0 15 rfl rfl)
theorem dX1_firstInt_18 : decode cX1_firstInt 18 = .ok (.athrow, 1) := dk_191 (dk_at dksX1_firstInt_0 18 rfl rfl)
theorem dX1_firstInt_19 : decode cX1_firstInt 19 = .ok (.aload_n 0, 1) := dk_42 (dk_at dksX1_firstInt_0 19 rfl rfl)
theorem dX1_firstInt_20 : decode cX1_firstInt 20 = .ok (.getfield 41, 3) := dk_180 0 41 (dk_at dksX1_firstInt_0 20 rfl rfl)
theorem dX1_firstInt_23 : decode cX1_firstInt 23 = .ok (.aload_n 0, 1) := dk_42 (dk_at dksX1_firstInt_0 23 rfl rfl)
theorem dX1_firstInt_24 : decode cX1_firstInt 24 = .ok (.getfield 51, 3) := dk_180 0 51 (dk_at dksX1_firstInt_1 0 rfl rfl)
theorem dX1_firstInt_27 : decode cX1_firstInt 27 = .ok (.iaload, 1) := dk_46 (dk_at dksX1_firstInt_1 3 rfl rfl)
theorem dX1_firstInt_28 : decode cX1_firstInt 28 = .ok (.ireturn, 1) := dk_172 (dk_at dksX1_firstInt_1 4 rfl rfl)
abbrev cX1_lastInt : ByteArray := prog_4_method_10_code
def yX1_lastInt : MethodName := ⟨RX1, "lastInt", "()I"⟩
def dkwX1_lastInt_1 : List UInt8 := [180, 0, 54, 154, 0, 10, 42, 180, 0, 47, 167, 0, 7, 42, 180, 0, 54, 4, 100, 46, 172]
abbrev dktX1_lastInt_1 : List UInt8 := dkwX1_lastInt_1 ++ []
def dkwX1_lastInt_0 : List UInt8 := [42, 180, 0, 51, 42, 180, 0, 54, 160, 0, 11, 187, 0, 57, 89, 183, 0, 59, 191, 42, 180, 0, 41, 42]
abbrev dktX1_lastInt_0 : List UInt8 := dkwX1_lastInt_0 ++ dktX1_lastInt_1
theorem dksX1_lastInt_0 : cX1_lastInt.data.toList.drop 0 = dktX1_lastInt_0 := by decide +kernel
theorem dksX1_lastInt_1 : cX1_lastInt.data.toList.drop 24 = dktX1_lastInt_1 := dk_seg dksX1_lastInt_0 24 rfl rfl
theorem dX1_lastInt_0 : decode cX1_lastInt 0 = .ok (.aload_n 0, 1) := dk_42 (dk_at dksX1_lastInt_0 0 rfl rfl)
theorem dX1_lastInt_1 : decode cX1_lastInt 1 = .ok (.getfield 51, 3) := dk_180 0 51 (dk_at dksX1_lastInt_0 1 rfl rfl)
theorem dX1_lastInt_4 : decode cX1_lastInt 4 = .ok (.aload_n 0, 1) := dk_42 (dk_at dksX1_lastInt_0 4 rfl rfl)
theorem dX1_lastInt_5 : decode cX1_lastInt 5 = .ok (.getfield 54, 3) := dk_180 0 54 (dk_at dksX1_lastInt_0 5 rfl rfl)
theorem dX1_lastInt_8 : decode cX1_lastInt 8 = .ok (.if_icmp .ne 11, 3) := dk_160 0 11 (dk_at dksX1_lastInt_0 8 rfl rfl)
theorem dX1_lastInt_11 : decode cX1_lastInt 11 = .ok (.new 57, 3) := dk_187 0 57 (dk_at dksX1_lastInt_0 11 rfl rfl)
theorem dX1_lastInt_14 : decode cX1_lastInt 14 = .ok (.dup, 1) := dk_89 (dk_at dksX1_lastInt_0 14 rfl rfl)
theorem dX1_lastInt_15 : decode cX1_lastInt 15 = .ok (.invokespecial 59, 3) := dk_183 0 59 (dk_at dksX1_lastInt_0 15 rfl rfl)
theorem dX1_lastInt_18 : decode cX1_lastInt 18 = .ok (.athrow, 1) := dk_191 (dk_at dksX1_lastInt_0 18 rfl rfl)
theorem dX1_lastInt_19 : decode cX1_lastInt 19 = .ok (.aload_n 0, 1) := dk_42 (dk_at dksX1_lastInt_0 19 rfl rfl)
theorem dX1_lastInt_20 : decode cX1_lastInt 20 = .ok (.getfield 41, 3) := dk_180 0 41 (dk_at dksX1_lastInt_0 20 rfl rfl)
theorem dX1_lastInt_23 : decode cX1_lastInt 23 = .ok (.aload_n 0, 1) := dk_42 (dk_at dksX1_lastInt_0 23 rfl rfl)
theorem dX1_lastInt_24 : decode cX1_lastInt 24 = .ok (.getfield 54, 3) := dk_180 0 54 (dk_at dksX1_lastInt_1 0 rfl rfl)
theorem dX1_lastInt_27 : decode cX1_lastInt 27 = .ok (.ifCond .ne 10, 3) := dk_154 0 10 (dk_at dksX1_lastInt_1 3 rfl rfl)
theorem dX1_lastInt_30 : decode cX1_lastInt 30 = .ok (.aload_n 0, 1) := dk_42 (dk_at dksX1_lastInt_1 6 rfl rfl)
theorem dX1_lastInt_31 : decode cX1_lastInt 31 = .ok (.getfield 47, 3) := dk_180 0 47 (dk_at dksX1_lastInt_1 7 rfl rfl)
theorem dX1_lastInt_34 : decode cX1_lastInt 34 = .ok (.goto 7, 3) := dk_167 0 7 (dk_at dksX1_lastInt_1 10 rfl rfl)
theorem dX1_lastInt_37 : decode cX1_lastInt 37 = .ok (.aload_n 0, 1) := dk_42 (dk_at dksX1_lastInt_1 13 rfl rfl)
theorem dX1_lastInt_38 : decode cX1_lastInt 38 = .ok (.getfield 54, 3) := dk_180 0 54 (dk_at dksX1_lastInt_1 14 rfl rfl)
theorem dX1_lastInt_41 : decode cX1_lastInt 41 = .ok (.iconst 1, 1) := dk_4 (dk_at dksX1_lastInt_1 17 rfl rfl)
theorem dX1_lastInt_42 : decode cX1_lastInt 42 = .ok (.isub, 1) := dk_100 (dk_at dksX1_lastInt_1 18 rfl rfl)
theorem dX1_lastInt_43 : decode cX1_lastInt 43 = .ok (.iaload, 1) := dk_46 (dk_at dksX1_lastInt_1 19 rfl rfl)
theorem dX1_lastInt_44 : decode cX1_lastInt 44 = .ok (.ireturn, 1) := dk_172 (dk_at dksX1_lastInt_1 20 rfl rfl)
abbrev cX1_trim : ByteArray := prog_4_method_12_code
def yX1_trim : MethodName := ⟨RX1, "trim", "()V"⟩
def dkwX1_trim_4 : List UInt8 := [181, 0, 51, 42, 42, 27, 90, 181, 0, 54, 4, 96, 181, 0, 47, 42, 44, 181, 0, 41, 177]
abbrev dktX1_trim_4 : List UInt8 := dkwX1_trim_4 ++ []
def dkwX1_trim_3 : List UInt8 := [180, 0, 41, 3, 44, 42, 180, 0, 47, 42, 180, 0, 51, 100, 42, 180, 0, 54, 184, 0, 63, 42, 3]
abbrev dktX1_trim_3 : List UInt8 := dkwX1_trim_3 ++ dktX1_trim_4
def dkwX1_trim_2 : List UInt8 := [42, 180, 0, 41, 42, 180, 0, 51, 44, 3, 42, 180, 0, 47, 42, 180, 0, 51, 100, 184, 0, 63, 42]
abbrev dktX1_trim_2 : List UInt8 := dkwX1_trim_2 ++ dktX1_trim_3
def dkwX1_trim_1 : List UInt8 := [180, 0, 41, 42, 180, 0, 51, 44, 3, 42, 180, 0, 54, 42, 180, 0, 51, 100, 184, 0, 63, 167, 0, 47]
abbrev dktX1_trim_1 : List UInt8 := dkwX1_trim_1 ++ dktX1_trim_2
def dkwX1_trim_0 : List UInt8 := [42, 182, 0, 81, 60, 27, 4, 96, 188, 10, 77, 42, 180, 0, 51, 42, 180, 0, 54, 163, 0, 28, 42]
abbrev dktX1_trim_0 : List UInt8 := dkwX1_trim_0 ++ dktX1_trim_1
theorem dksX1_trim_0 : cX1_trim.data.toList.drop 0 = dktX1_trim_0 := by decide +kernel
theorem dksX1_trim_1 : cX1_trim.data.toList.drop 23 = dktX1_trim_1 := dk_seg dksX1_trim_0 23 rfl rfl
theorem dksX1_trim_2 : cX1_trim.data.toList.drop 47 = dktX1_trim_2 := dk_seg dksX1_trim_1 24 rfl rfl
theorem dksX1_trim_3 : cX1_trim.data.toList.drop 70 = dktX1_trim_3 := dk_seg dksX1_trim_2 23 rfl rfl
theorem dksX1_trim_4 : cX1_trim.data.toList.drop 93 = dktX1_trim_4 := dk_seg dksX1_trim_3 23 rfl rfl
theorem dX1_trim_0 : decode cX1_trim 0 = .ok (.aload_n 0, 1) := dk_42 (dk_at dksX1_trim_0 0 rfl rfl)
theorem dX1_trim_1 : decode cX1_trim 1 = .ok (.invokevirtual 81, 3) := dk_182 0 81 (dk_at dksX1_trim_0 1 rfl rfl)
theorem dX1_trim_4 : decode cX1_trim 4 = .ok (.istore_n 1, 1) := dk_60 (dk_at dksX1_trim_0 4 rfl rfl)
theorem dX1_trim_5 : decode cX1_trim 5 = .ok (.iload_n 1, 1) := dk_27 (dk_at dksX1_trim_0 5 rfl rfl)
theorem dX1_trim_6 : decode cX1_trim 6 = .ok (.iconst 1, 1) := dk_4 (dk_at dksX1_trim_0 6 rfl rfl)
theorem dX1_trim_7 : decode cX1_trim 7 = .ok (.iadd, 1) := dk_96 (dk_at dksX1_trim_0 7 rfl rfl)
theorem dX1_trim_8 : decode cX1_trim 8 = .ok (.newarray .int, 2) := dk_188_10 (dk_at dksX1_trim_0 8 rfl rfl)
theorem dX1_trim_10 : decode cX1_trim 10 = .ok (.astore_n 2, 1) := dk_77 (dk_at dksX1_trim_0 10 rfl rfl)
theorem dX1_trim_11 : decode cX1_trim 11 = .ok (.aload_n 0, 1) := dk_42 (dk_at dksX1_trim_0 11 rfl rfl)
theorem dX1_trim_12 : decode cX1_trim 12 = .ok (.getfield 51, 3) := dk_180 0 51 (dk_at dksX1_trim_0 12 rfl rfl)
theorem dX1_trim_15 : decode cX1_trim 15 = .ok (.aload_n 0, 1) := dk_42 (dk_at dksX1_trim_0 15 rfl rfl)
theorem dX1_trim_16 : decode cX1_trim 16 = .ok (.getfield 54, 3) := dk_180 0 54 (dk_at dksX1_trim_0 16 rfl rfl)
theorem dX1_trim_19 : decode cX1_trim 19 = .ok (.if_icmp .gt 28, 3) := dk_163 0 28 (dk_at dksX1_trim_0 19 rfl rfl)
theorem dX1_trim_22 : decode cX1_trim 22 = .ok (.aload_n 0, 1) := dk_42 (dk_at dksX1_trim_0 22 rfl rfl)
theorem dX1_trim_23 : decode cX1_trim 23 = .ok (.getfield 41, 3) := dk_180 0 41 (dk_at dksX1_trim_1 0 rfl rfl)
theorem dX1_trim_26 : decode cX1_trim 26 = .ok (.aload_n 0, 1) := dk_42 (dk_at dksX1_trim_1 3 rfl rfl)
theorem dX1_trim_27 : decode cX1_trim 27 = .ok (.getfield 51, 3) := dk_180 0 51 (dk_at dksX1_trim_1 4 rfl rfl)
theorem dX1_trim_30 : decode cX1_trim 30 = .ok (.aload_n 2, 1) := dk_44 (dk_at dksX1_trim_1 7 rfl rfl)
theorem dX1_trim_31 : decode cX1_trim 31 = .ok (.iconst 0, 1) := dk_3 (dk_at dksX1_trim_1 8 rfl rfl)
theorem dX1_trim_32 : decode cX1_trim 32 = .ok (.aload_n 0, 1) := dk_42 (dk_at dksX1_trim_1 9 rfl rfl)
theorem dX1_trim_33 : decode cX1_trim 33 = .ok (.getfield 54, 3) := dk_180 0 54 (dk_at dksX1_trim_1 10 rfl rfl)
theorem dX1_trim_36 : decode cX1_trim 36 = .ok (.aload_n 0, 1) := dk_42 (dk_at dksX1_trim_1 13 rfl rfl)
theorem dX1_trim_37 : decode cX1_trim 37 = .ok (.getfield 51, 3) := dk_180 0 51 (dk_at dksX1_trim_1 14 rfl rfl)
theorem dX1_trim_40 : decode cX1_trim 40 = .ok (.isub, 1) := dk_100 (dk_at dksX1_trim_1 17 rfl rfl)
theorem dX1_trim_41 : decode cX1_trim 41 = .ok (.invokestatic 63, 3) := dk_184 0 63 (dk_at dksX1_trim_1 18 rfl rfl)
theorem dX1_trim_44 : decode cX1_trim 44 = .ok (.goto 47, 3) := dk_167 0 47 (dk_at dksX1_trim_1 21 rfl rfl)
theorem dX1_trim_47 : decode cX1_trim 47 = .ok (.aload_n 0, 1) := dk_42 (dk_at dksX1_trim_2 0 rfl rfl)
theorem dX1_trim_48 : decode cX1_trim 48 = .ok (.getfield 41, 3) := dk_180 0 41 (dk_at dksX1_trim_2 1 rfl rfl)
theorem dX1_trim_51 : decode cX1_trim 51 = .ok (.aload_n 0, 1) := dk_42 (dk_at dksX1_trim_2 4 rfl rfl)
theorem dX1_trim_52 : decode cX1_trim 52 = .ok (.getfield 51, 3) := dk_180 0 51 (dk_at dksX1_trim_2 5 rfl rfl)
theorem dX1_trim_55 : decode cX1_trim 55 = .ok (.aload_n 2, 1) := dk_44 (dk_at dksX1_trim_2 8 rfl rfl)
theorem dX1_trim_56 : decode cX1_trim 56 = .ok (.iconst 0, 1) := dk_3 (dk_at dksX1_trim_2 9 rfl rfl)
theorem dX1_trim_57 : decode cX1_trim 57 = .ok (.aload_n 0, 1) := dk_42 (dk_at dksX1_trim_2 10 rfl rfl)
theorem dX1_trim_58 : decode cX1_trim 58 = .ok (.getfield 47, 3) := dk_180 0 47 (dk_at dksX1_trim_2 11 rfl rfl)
theorem dX1_trim_61 : decode cX1_trim 61 = .ok (.aload_n 0, 1) := dk_42 (dk_at dksX1_trim_2 14 rfl rfl)
theorem dX1_trim_62 : decode cX1_trim 62 = .ok (.getfield 51, 3) := dk_180 0 51 (dk_at dksX1_trim_2 15 rfl rfl)
theorem dX1_trim_65 : decode cX1_trim 65 = .ok (.isub, 1) := dk_100 (dk_at dksX1_trim_2 18 rfl rfl)
theorem dX1_trim_66 : decode cX1_trim 66 = .ok (.invokestatic 63, 3) := dk_184 0 63 (dk_at dksX1_trim_2 19 rfl rfl)
theorem dX1_trim_69 : decode cX1_trim 69 = .ok (.aload_n 0, 1) := dk_42 (dk_at dksX1_trim_2 22 rfl rfl)
theorem dX1_trim_70 : decode cX1_trim 70 = .ok (.getfield 41, 3) := dk_180 0 41 (dk_at dksX1_trim_3 0 rfl rfl)
theorem dX1_trim_73 : decode cX1_trim 73 = .ok (.iconst 0, 1) := dk_3 (dk_at dksX1_trim_3 3 rfl rfl)
theorem dX1_trim_74 : decode cX1_trim 74 = .ok (.aload_n 2, 1) := dk_44 (dk_at dksX1_trim_3 4 rfl rfl)
theorem dX1_trim_75 : decode cX1_trim 75 = .ok (.aload_n 0, 1) := dk_42 (dk_at dksX1_trim_3 5 rfl rfl)
theorem dX1_trim_76 : decode cX1_trim 76 = .ok (.getfield 47, 3) := dk_180 0 47 (dk_at dksX1_trim_3 6 rfl rfl)
theorem dX1_trim_79 : decode cX1_trim 79 = .ok (.aload_n 0, 1) := dk_42 (dk_at dksX1_trim_3 9 rfl rfl)
theorem dX1_trim_80 : decode cX1_trim 80 = .ok (.getfield 51, 3) := dk_180 0 51 (dk_at dksX1_trim_3 10 rfl rfl)
theorem dX1_trim_83 : decode cX1_trim 83 = .ok (.isub, 1) := dk_100 (dk_at dksX1_trim_3 13 rfl rfl)
theorem dX1_trim_84 : decode cX1_trim 84 = .ok (.aload_n 0, 1) := dk_42 (dk_at dksX1_trim_3 14 rfl rfl)
theorem dX1_trim_85 : decode cX1_trim 85 = .ok (.getfield 54, 3) := dk_180 0 54 (dk_at dksX1_trim_3 15 rfl rfl)
theorem dX1_trim_88 : decode cX1_trim 88 = .ok (.invokestatic 63, 3) := dk_184 0 63 (dk_at dksX1_trim_3 18 rfl rfl)
theorem dX1_trim_91 : decode cX1_trim 91 = .ok (.aload_n 0, 1) := dk_42 (dk_at dksX1_trim_3 21 rfl rfl)
theorem dX1_trim_92 : decode cX1_trim 92 = .ok (.iconst 0, 1) := dk_3 (dk_at dksX1_trim_3 22 rfl rfl)
theorem dX1_trim_93 : decode cX1_trim 93 = .ok (.putfield 51, 3) := dk_181 0 51 (dk_at dksX1_trim_4 0 rfl rfl)
theorem dX1_trim_96 : decode cX1_trim 96 = .ok (.aload_n 0, 1) := dk_42 (dk_at dksX1_trim_4 3 rfl rfl)
theorem dX1_trim_97 : decode cX1_trim 97 = .ok (.aload_n 0, 1) := dk_42 (dk_at dksX1_trim_4 4 rfl rfl)
theorem dX1_trim_98 : decode cX1_trim 98 = .ok (.iload_n 1, 1) := dk_27 (dk_at dksX1_trim_4 5 rfl rfl)
theorem dX1_trim_99 : decode cX1_trim 99 = .ok (.dup_x1, 1) := dk_90 (dk_at dksX1_trim_4 6 rfl rfl)
theorem dX1_trim_100 : decode cX1_trim 100 = .ok (.putfield 54, 3) := dk_181 0 54 (dk_at dksX1_trim_4 7 rfl rfl)
theorem dX1_trim_103 : decode cX1_trim 103 = .ok (.iconst 1, 1) := dk_4 (dk_at dksX1_trim_4 10 rfl rfl)
theorem dX1_trim_104 : decode cX1_trim 104 = .ok (.iadd, 1) := dk_96 (dk_at dksX1_trim_4 11 rfl rfl)
theorem dX1_trim_105 : decode cX1_trim 105 = .ok (.putfield 47, 3) := dk_181 0 47 (dk_at dksX1_trim_4 12 rfl rfl)
theorem dX1_trim_108 : decode cX1_trim 108 = .ok (.aload_n 0, 1) := dk_42 (dk_at dksX1_trim_4 15 rfl rfl)
theorem dX1_trim_109 : decode cX1_trim 109 = .ok (.aload_n 2, 1) := dk_44 (dk_at dksX1_trim_4 16 rfl rfl)
theorem dX1_trim_110 : decode cX1_trim 110 = .ok (.putfield 41, 3) := dk_181 0 41 (dk_at dksX1_trim_4 17 rfl rfl)
theorem dX1_trim_113 : decode cX1_trim 113 = .ok (.return_, 1) := dk_177 (dk_at dksX1_trim_4 20 rfl rfl)
abbrev cX1_clear : ByteArray := prog_4_method_11_code
def yX1_clear : MethodName := ⟨RX1, "clear", "()V"⟩
def dkwX1_clear_0 : List UInt8 := [42, 42, 3, 90, 181, 0, 54, 181, 0, 51, 177]
abbrev dktX1_clear_0 : List UInt8 := dkwX1_clear_0 ++ []
theorem dksX1_clear_0 : cX1_clear.data.toList.drop 0 = dktX1_clear_0 := by decide +kernel
theorem dX1_clear_0 : decode cX1_clear 0 = .ok (.aload_n 0, 1) := dk_42 (dk_at dksX1_clear_0 0 rfl rfl)
theorem dX1_clear_1 : decode cX1_clear 1 = .ok (.aload_n 0, 1) := dk_42 (dk_at dksX1_clear_0 1 rfl rfl)
theorem dX1_clear_2 : decode cX1_clear 2 = .ok (.iconst 0, 1) := dk_3 (dk_at dksX1_clear_0 2 rfl rfl)
theorem dX1_clear_3 : decode cX1_clear 3 = .ok (.dup_x1, 1) := dk_90 (dk_at dksX1_clear_0 3 rfl rfl)
theorem dX1_clear_4 : decode cX1_clear 4 = .ok (.putfield 54, 3) := dk_181 0 54 (dk_at dksX1_clear_0 4 rfl rfl)
theorem dX1_clear_7 : decode cX1_clear 7 = .ok (.putfield 51, 3) := dk_181 0 51 (dk_at dksX1_clear_0 7 rfl rfl)
theorem dX1_clear_10 : decode cX1_clear 10 = .ok (.return_, 1) := dk_177 (dk_at dksX1_clear_0 10 rfl rfl)
theorem q6 : (Jvm.Cond.initialized "IntArrayFIFOQueue") ∈ lw_all := lw_g (lw_at lw_m1 2 rfl) rfl
theorem q34 : (Jvm.Cond.instantiable "IntArrayFIFOQueue" (4 : Nat)) ∈ lw_all := lw_g (lw_at lw_m1 30 rfl) rfl
theorem q36 : (Jvm.Cond.instanceMethod ({ cls := "IntArrayFIFOQueue", name := "<init>", desc := "(I)V" } : Jvm.MethodName)) ∈ lw_all := lw_g (lw_at lw_m1 32 rfl) rfl
theorem q37 : (Jvm.Cond.code ({ cls := "IntArrayFIFOQueue", name := "<init>", desc := "(I)V" } : Jvm.MethodName) prog_4_method_1_code (2 : Nat) (Option.none : Option Jvm.ClassFile.FieldType)) ∈ lw_all := lw_g (lw_at lw_m1 33 rfl) rfl
theorem q38 : (Jvm.Cond.methodLink "IntArrayFIFOQueue" (1 : Nat) ({ cls := "java/lang/Object", name := "<init>", desc := "()V" } : Jvm.MethodName)) ∈ lw_all := lw_g (lw_at lw_m1 34 rfl) rfl
theorem q39 : (Jvm.Cond.constant "IntArrayFIFOQueue" (9 : Nat) (2147483638 : Int32)) ∈ lw_all := lw_g (lw_at lw_m1 35 rfl) rfl
theorem q40 : (Jvm.Cond.classLink "IntArrayFIFOQueue" (10 : Nat) "java/lang/IllegalArgumentException") ∈ lw_all := lw_g (lw_at lw_m1 36 rfl) rfl
theorem q80 : (Jvm.Cond.classLink "IntArrayFIFOQueue" (12 : Nat) "java/lang/StringBuilder") ∈ lw_all := lw_g (lw_at lw_m1 76 rfl) rfl
theorem q82 : (Jvm.Cond.methodLink "IntArrayFIFOQueue" (14 : Nat) ({ cls := "java/lang/StringBuilder", name := "<init>", desc := "()V" } : Jvm.MethodName)) ∈ lw_all := lw_g (lw_at lw_m1 78 rfl) rfl
theorem q112 : (Jvm.Cond.stringRef "IntArrayFIFOQueue" (15 : Nat) "Initial capacity (") ∈ lw_tbl := lw_at lw_m1 108 rfl
theorem q113 : (Jvm.Cond.methodLink "IntArrayFIFOQueue" (17 : Nat) ({ cls := "java/lang/StringBuilder", name := "append", desc := "(Ljava/lang/String;)Ljava/lang/StringBuilder;" } : Jvm.MethodName)) ∈ lw_all := lw_g (lw_at lw_m1 109 rfl) rfl
theorem q233 : (Jvm.Cond.methodLink "IntArrayFIFOQueue" (21 : Nat) ({ cls := "java/lang/StringBuilder", name := "append", desc := "(I)Ljava/lang/StringBuilder;" } : Jvm.MethodName)) ∈ lw_all := lw_g (lw_at lw_m1 229 rfl) rfl
theorem q258 : (Jvm.Cond.stringRef "IntArrayFIFOQueue" (24 : Nat) ") exceeds ") ∈ lw_tbl := lw_at lw_m2 14 rfl
theorem q259 : (Jvm.Cond.methodLink "IntArrayFIFOQueue" (26 : Nat) ({ cls := "java/lang/StringBuilder", name := "toString", desc := "()Ljava/lang/String;" } : Jvm.MethodName)) ∈ lw_all := lw_g (lw_at lw_m2 15 rfl) rfl
theorem q319 : (Jvm.Cond.methodLink "IntArrayFIFOQueue" (30 : Nat) ({ cls := "java/lang/IllegalArgumentException", name := "<init>", desc := "(Ljava/lang/String;)V" } : Jvm.MethodName)) ∈ lw_all := lw_g (lw_at lw_m2 75 rfl) rfl
theorem q344 : (Jvm.Cond.stringRef "IntArrayFIFOQueue" (33 : Nat) ") is negative") ∈ lw_tbl := lw_at lw_m2 100 rfl
theorem q345 : (Jvm.Cond.methodLink "IntArrayFIFOQueue" (35 : Nat) ({ cls := "java/lang/Math", name := "max", desc := "(II)I" } : Jvm.MethodName)) ∈ lw_all := lw_g (lw_at lw_m2 101 rfl) rfl
theorem q346 : (Jvm.Cond.fieldLink "IntArrayFIFOQueue" (41 : Nat) "IntArrayFIFOQueue" "array" "[I") ∈ lw_all := lw_g (lw_at lw_m2 102 rfl) rfl
theorem q347 : (Jvm.Cond.fieldLink "IntArrayFIFOQueue" (47 : Nat) "IntArrayFIFOQueue" "length" "I") ∈ lw_all := lw_g (lw_at lw_m2 103 rfl) rfl
theorem q348 : (Jvm.Cond.fieldLink "IntArrayFIFOQueue" (51 : Nat) "IntArrayFIFOQueue" "start" "I") ∈ lw_all := lw_g (lw_at lw_m2 104 rfl) rfl
theorem q349 : (Jvm.Cond.fieldLink "IntArrayFIFOQueue" (54 : Nat) "IntArrayFIFOQueue" "end" "I") ∈ lw_all := lw_g (lw_at lw_m2 105 rfl) rfl
theorem q350 : (Jvm.Cond.lays "IntArrayFIFOQueue" "IntArrayFIFOQueue" "array" "[I") ∈ lw_all := lw_g (lw_at lw_m2 106 rfl) rfl
theorem q351 : (Jvm.Cond.soleField "IntArrayFIFOQueue" "array") ∈ lw_all := lw_g (lw_at lw_m2 107 rfl) rfl
theorem q352 : (Jvm.Cond.lays "IntArrayFIFOQueue" "IntArrayFIFOQueue" "length" "I") ∈ lw_all := lw_g (lw_at lw_m2 108 rfl) rfl
theorem q353 : (Jvm.Cond.soleField "IntArrayFIFOQueue" "length") ∈ lw_all := lw_g (lw_at lw_m2 109 rfl) rfl
theorem q354 : (Jvm.Cond.lays "IntArrayFIFOQueue" "IntArrayFIFOQueue" "start" "I") ∈ lw_all := lw_g (lw_at lw_m2 110 rfl) rfl
theorem q355 : (Jvm.Cond.soleField "IntArrayFIFOQueue" "start") ∈ lw_all := lw_g (lw_at lw_m2 111 rfl) rfl
theorem q356 : (Jvm.Cond.lays "IntArrayFIFOQueue" "IntArrayFIFOQueue" "end" "I") ∈ lw_all := lw_g (lw_at lw_m2 112 rfl) rfl
theorem q357 : (Jvm.Cond.soleField "IntArrayFIFOQueue" "end") ∈ lw_all := lw_g (lw_at lw_m2 113 rfl) rfl
theorem q358 : (Jvm.Cond.superclass "IntArrayFIFOQueue" "java/lang/Object") ∈ lw_all := lw_g (lw_at lw_m2 114 rfl) rfl
theorem q369 : (Jvm.Cond.instanceMethod ({ cls := "IntArrayFIFOQueue", name := "size", desc := "()I" } : Jvm.MethodName)) ∈ lw_all := lw_g (lw_at lw_m2 125 rfl) rfl
theorem q370 : (Jvm.Cond.selects "IntArrayFIFOQueue" ({ cls := "IntArrayFIFOQueue", name := "size", desc := "()I" } : Jvm.MethodName) ({ cls := "IntArrayFIFOQueue", name := "size", desc := "()I" } : Jvm.MethodName)) ∈ lw_all := lw_g (lw_at lw_m2 126 rfl) rfl
theorem q371 : (Jvm.Cond.code ({ cls := "IntArrayFIFOQueue", name := "size", desc := "()I" } : Jvm.MethodName) prog_4_method_13_code (2 : Nat) (Option.some Jvm.ClassFile.FieldType.int)) ∈ lw_all := lw_g (lw_at lw_m2 127 rfl) rfl
theorem q373 : (Jvm.Cond.instanceMethod ({ cls := "IntArrayFIFOQueue", name := "enqueue", desc := "(I)V" } : Jvm.MethodName)) ∈ lw_all := lw_g (lw_at lw_m2 129 rfl) rfl
theorem q374 : (Jvm.Cond.selects "IntArrayFIFOQueue" ({ cls := "IntArrayFIFOQueue", name := "enqueue", desc := "(I)V" } : Jvm.MethodName) ({ cls := "IntArrayFIFOQueue", name := "enqueue", desc := "(I)V" } : Jvm.MethodName)) ∈ lw_all := lw_g (lw_at lw_m2 130 rfl) rfl
theorem q375 : (Jvm.Cond.code ({ cls := "IntArrayFIFOQueue", name := "enqueue", desc := "(I)V" } : Jvm.MethodName) prog_4_method_7_code (2 : Nat) (Option.none : Option Jvm.ClassFile.FieldType)) ∈ lw_all := lw_g (lw_at lw_m2 131 rfl) rfl
theorem q376 : (Jvm.Cond.methodLink "IntArrayFIFOQueue" (85 : Nat) ({ cls := "IntArrayFIFOQueue", name := "expand", desc := "()V" } : Jvm.MethodName)) ∈ lw_all := lw_g (lw_at lw_m2 132 rfl) rfl
theorem q377 : (Jvm.Cond.privateMethod ({ cls := "IntArrayFIFOQueue", name := "expand", desc := "()V" } : Jvm.MethodName)) ∈ lw_tbl := lw_at lw_m2 133 rfl
theorem q378 : (Jvm.Cond.instanceMethod ({ cls := "IntArrayFIFOQueue", name := "expand", desc := "()V" } : Jvm.MethodName)) ∈ lw_all := lw_g (lw_at lw_m2 134 rfl) rfl
theorem q379 : (Jvm.Cond.code ({ cls := "IntArrayFIFOQueue", name := "expand", desc := "()V" } : Jvm.MethodName) prog_4_method_5_code (1 : Nat) (Option.none : Option Jvm.ClassFile.FieldType)) ∈ lw_all := lw_g (lw_at lw_m2 135 rfl) rfl
theorem q380 : (Jvm.Cond.constantLong "IntArrayFIFOQueue" (69 : Nat) (2147483639 : Int64)) ∈ lw_all := lw_g (lw_at lw_m2 136 rfl) rfl
theorem q381 : (Jvm.Cond.constantLong "IntArrayFIFOQueue" (71 : Nat) (2 : Int64)) ∈ lw_all := lw_g (lw_at lw_m2 137 rfl) rfl
theorem q382 : (Jvm.Cond.methodLink "IntArrayFIFOQueue" (73 : Nat) ({ cls := "java/lang/Math", name := "min", desc := "(JJ)J" } : Jvm.MethodName)) ∈ lw_all := lw_g (lw_at lw_m2 138 rfl) rfl
theorem q385 : (Jvm.Cond.methodLink "IntArrayFIFOQueue" (77 : Nat) ({ cls := "IntArrayFIFOQueue", name := "resize", desc := "(II)V" } : Jvm.MethodName)) ∈ lw_all := lw_g (lw_at lw_m2 141 rfl) rfl
theorem q386 : (Jvm.Cond.privateMethod ({ cls := "IntArrayFIFOQueue", name := "resize", desc := "(II)V" } : Jvm.MethodName)) ∈ lw_tbl := lw_at lw_m2 142 rfl
theorem q387 : (Jvm.Cond.instanceMethod ({ cls := "IntArrayFIFOQueue", name := "resize", desc := "(II)V" } : Jvm.MethodName)) ∈ lw_all := lw_g (lw_at lw_m2 143 rfl) rfl
theorem q388 : (Jvm.Cond.code ({ cls := "IntArrayFIFOQueue", name := "resize", desc := "(II)V" } : Jvm.MethodName) prog_4_method_4_code (4 : Nat) (Option.none : Option Jvm.ClassFile.FieldType)) ∈ lw_all := lw_g (lw_at lw_m2 144 rfl) rfl
theorem q389 : (Jvm.Cond.methodLink "IntArrayFIFOQueue" (63 : Nat) ({ cls := "java/lang/System", name := "arraycopy", desc := "(Ljava/lang/Object;ILjava/lang/Object;II)V" } : Jvm.MethodName)) ∈ lw_all := lw_g (lw_at lw_m2 145 rfl) rfl
theorem q395 : (Jvm.Cond.instanceMethod ({ cls := "IntArrayFIFOQueue", name := "enqueueFirst", desc := "(I)V" } : Jvm.MethodName)) ∈ lw_all := lw_g (lw_at lw_m2 151 rfl) rfl
theorem q396 : (Jvm.Cond.selects "IntArrayFIFOQueue" ({ cls := "IntArrayFIFOQueue", name := "enqueueFirst", desc := "(I)V" } : Jvm.MethodName) ({ cls := "IntArrayFIFOQueue", name := "enqueueFirst", desc := "(I)V" } : Jvm.MethodName)) ∈ lw_all := lw_g (lw_at lw_m2 152 rfl) rfl
theorem q397 : (Jvm.Cond.code ({ cls := "IntArrayFIFOQueue", name := "enqueueFirst", desc := "(I)V" } : Jvm.MethodName) prog_4_method_8_code (2 : Nat) (Option.none : Option Jvm.ClassFile.FieldType)) ∈ lw_all := lw_g (lw_at lw_m2 153 rfl) rfl
theorem q403 : (Jvm.Cond.unhidden "IntArrayFIFOQueue" "isEmpty" "()Z") ∈ lw_tbl := lw_at lw_m2 159 rfl
theorem q411 : (Jvm.Cond.castable "IntArrayFIFOQueue" "OwnPriorityQueue") ∈ lw_tbl := lw_at lw_m2 167 rfl
theorem q412 : (Jvm.Cond.selects "IntArrayFIFOQueue" ({ cls := "OwnPriorityQueue", name := "size", desc := "()I" } : Jvm.MethodName) ({ cls := "IntArrayFIFOQueue", name := "size", desc := "()I" } : Jvm.MethodName)) ∈ lw_all := lw_g (lw_at lw_m2 168 rfl) rfl
theorem q413 : (Jvm.Cond.unhidden "IntArrayFIFOQueue" "size" "()I") ∈ lw_tbl := lw_at lw_m2 169 rfl
theorem q414 : (Jvm.Cond.publicMethod ({ cls := "IntArrayFIFOQueue", name := "size", desc := "()I" } : Jvm.MethodName)) ∈ lw_tbl := lw_at lw_m2 170 rfl
theorem q416 : (Jvm.Cond.instanceMethod ({ cls := "IntArrayFIFOQueue", name := "dequeueInt", desc := "()I" } : Jvm.MethodName)) ∈ lw_all := lw_g (lw_at lw_m2 172 rfl) rfl
theorem q417 : (Jvm.Cond.selects "IntArrayFIFOQueue" ({ cls := "IntArrayFIFOQueue", name := "dequeueInt", desc := "()I" } : Jvm.MethodName) ({ cls := "IntArrayFIFOQueue", name := "dequeueInt", desc := "()I" } : Jvm.MethodName)) ∈ lw_all := lw_g (lw_at lw_m2 173 rfl) rfl
theorem q418 : (Jvm.Cond.code ({ cls := "IntArrayFIFOQueue", name := "dequeueInt", desc := "()I" } : Jvm.MethodName) prog_4_method_2_code (2 : Nat) (Option.some Jvm.ClassFile.FieldType.int)) ∈ lw_all := lw_g (lw_at lw_m2 174 rfl) rfl
theorem q419 : (Jvm.Cond.classLink "IntArrayFIFOQueue" (57 : Nat) "java/util/NoSuchElementException") ∈ lw_all := lw_g (lw_at lw_m2 175 rfl) rfl
theorem q428 : (Jvm.Cond.methodLink "IntArrayFIFOQueue" (59 : Nat) ({ cls := "java/util/NoSuchElementException", name := "<init>", desc := "()V" } : Jvm.MethodName)) ∈ lw_all := lw_g (lw_at lw_m2 184 rfl) rfl
theorem q440 : (Jvm.Cond.methodLink "IntArrayFIFOQueue" (60 : Nat) ({ cls := "IntArrayFIFOQueue", name := "reduce", desc := "()V" } : Jvm.MethodName)) ∈ lw_all := lw_g (lw_at lw_m2 196 rfl) rfl
theorem q441 : (Jvm.Cond.privateMethod ({ cls := "IntArrayFIFOQueue", name := "reduce", desc := "()V" } : Jvm.MethodName)) ∈ lw_tbl := lw_at lw_m2 197 rfl
theorem q442 : (Jvm.Cond.instanceMethod ({ cls := "IntArrayFIFOQueue", name := "reduce", desc := "()V" } : Jvm.MethodName)) ∈ lw_all := lw_g (lw_at lw_m2 198 rfl) rfl
theorem q443 : (Jvm.Cond.code ({ cls := "IntArrayFIFOQueue", name := "reduce", desc := "()V" } : Jvm.MethodName) prog_4_method_6_code (2 : Nat) (Option.none : Option Jvm.ClassFile.FieldType)) ∈ lw_all := lw_g (lw_at lw_m2 199 rfl) rfl
theorem q444 : (Jvm.Cond.methodLink "IntArrayFIFOQueue" (81 : Nat) ({ cls := "IntArrayFIFOQueue", name := "size", desc := "()I" } : Jvm.MethodName)) ∈ lw_all := lw_g (lw_at lw_m2 200 rfl) rfl
theorem q450 : (Jvm.Cond.instanceMethod ({ cls := "IntArrayFIFOQueue", name := "dequeueLastInt", desc := "()I" } : Jvm.MethodName)) ∈ lw_all := lw_g (lw_at lw_m2 206 rfl) rfl
theorem q451 : (Jvm.Cond.selects "IntArrayFIFOQueue" ({ cls := "IntArrayFIFOQueue", name := "dequeueLastInt", desc := "()I" } : Jvm.MethodName) ({ cls := "IntArrayFIFOQueue", name := "dequeueLastInt", desc := "()I" } : Jvm.MethodName)) ∈ lw_all := lw_g (lw_at lw_m2 207 rfl) rfl
theorem q452 : (Jvm.Cond.code ({ cls := "IntArrayFIFOQueue", name := "dequeueLastInt", desc := "()I" } : Jvm.MethodName) prog_4_method_3_code (2 : Nat) (Option.some Jvm.ClassFile.FieldType.int)) ∈ lw_all := lw_g (lw_at lw_m2 208 rfl) rfl
theorem q458 : (Jvm.Cond.instanceMethod ({ cls := "IntArrayFIFOQueue", name := "firstInt", desc := "()I" } : Jvm.MethodName)) ∈ lw_all := lw_g (lw_at lw_m2 214 rfl) rfl
theorem q459 : (Jvm.Cond.selects "IntArrayFIFOQueue" ({ cls := "IntArrayFIFOQueue", name := "firstInt", desc := "()I" } : Jvm.MethodName) ({ cls := "IntArrayFIFOQueue", name := "firstInt", desc := "()I" } : Jvm.MethodName)) ∈ lw_all := lw_g (lw_at lw_m2 215 rfl) rfl
theorem q460 : (Jvm.Cond.code ({ cls := "IntArrayFIFOQueue", name := "firstInt", desc := "()I" } : Jvm.MethodName) prog_4_method_9_code (1 : Nat) (Option.some Jvm.ClassFile.FieldType.int)) ∈ lw_all := lw_g (lw_at lw_m2 216 rfl) rfl
theorem q466 : (Jvm.Cond.instanceMethod ({ cls := "IntArrayFIFOQueue", name := "lastInt", desc := "()I" } : Jvm.MethodName)) ∈ lw_all := lw_g (lw_at lw_m2 222 rfl) rfl
theorem q467 : (Jvm.Cond.selects "IntArrayFIFOQueue" ({ cls := "IntArrayFIFOQueue", name := "lastInt", desc := "()I" } : Jvm.MethodName) ({ cls := "IntArrayFIFOQueue", name := "lastInt", desc := "()I" } : Jvm.MethodName)) ∈ lw_all := lw_g (lw_at lw_m2 223 rfl) rfl
theorem q468 : (Jvm.Cond.code ({ cls := "IntArrayFIFOQueue", name := "lastInt", desc := "()I" } : Jvm.MethodName) prog_4_method_10_code (1 : Nat) (Option.some Jvm.ClassFile.FieldType.int)) ∈ lw_all := lw_g (lw_at lw_m2 224 rfl) rfl
theorem q478 : (Jvm.Cond.instanceMethod ({ cls := "IntArrayFIFOQueue", name := "trim", desc := "()V" } : Jvm.MethodName)) ∈ lw_all := lw_g (lw_at lw_m2 234 rfl) rfl
theorem q479 : (Jvm.Cond.selects "IntArrayFIFOQueue" ({ cls := "IntArrayFIFOQueue", name := "trim", desc := "()V" } : Jvm.MethodName) ({ cls := "IntArrayFIFOQueue", name := "trim", desc := "()V" } : Jvm.MethodName)) ∈ lw_all := lw_g (lw_at lw_m2 235 rfl) rfl
theorem q480 : (Jvm.Cond.code ({ cls := "IntArrayFIFOQueue", name := "trim", desc := "()V" } : Jvm.MethodName) prog_4_method_12_code (3 : Nat) (Option.none : Option Jvm.ClassFile.FieldType)) ∈ lw_all := lw_g (lw_at lw_m2 236 rfl) rfl
theorem q486 : (Jvm.Cond.instanceMethod ({ cls := "IntArrayFIFOQueue", name := "clear", desc := "()V" } : Jvm.MethodName)) ∈ lw_all := lw_g (lw_at lw_m3 2 rfl) rfl
theorem q487 : (Jvm.Cond.selects "IntArrayFIFOQueue" ({ cls := "IntArrayFIFOQueue", name := "clear", desc := "()V" } : Jvm.MethodName) ({ cls := "IntArrayFIFOQueue", name := "clear", desc := "()V" } : Jvm.MethodName)) ∈ lw_all := lw_g (lw_at lw_m3 3 rfl) rfl
theorem q488 : (Jvm.Cond.code ({ cls := "IntArrayFIFOQueue", name := "clear", desc := "()V" } : Jvm.MethodName) prog_4_method_11_code (1 : Nat) (Option.none : Option Jvm.ClassFile.FieldType)) ∈ lw_all := lw_g (lw_at lw_m3 4 rfl) rfl
theorem q550 : (Jvm.Cond.castable "IntArrayFIFOQueue" "java/lang/Object") ∈ lw_tbl := lw_at lw_m3 66 rfl
theorem in_X1 : ∀ w ∈ wsX10, w ∈ lw_all := lw_in wsX10 [350, 352, 354, 356] (by decide +kernel) (by decide +kernel)
/-! CircleLine -/
set_option maxRecDepth 100000
def RX0 : String := "CircleLine"
def TX0 : u_T := fun k => match k with
  | _ => ("CircleLine", "line", "LIntArrayFIFOQueue;", true)
def tyX0 : Nat → FieldType := fun k => match k with
  | _ => .object "IntArrayFIFOQueue"
abbrev wsX00 : List Cond := u_ws RX0 TX0 1
theorem nmX0 : ∀ a, a < 1 → ∀ b, b < 1 → a ≠ b → (TX0 a).2.1 ≠ (TX0 b).2.1 := by decide +kernel
theorem tyX0_ok : ∀ k, k < 1 → parseFieldDescriptor (TX0 k).2.2.1 = some (tyX0 k) := by decide +kernel
abbrev cX0_init : ByteArray := prog_1_method_1_code
def yX0_init : MethodName := ⟨RX0, "<init>", "()V"⟩
def dkwX0_init_0 : List UInt8 := [42, 183, 0, 1, 42, 187, 0, 7, 89, 5, 183, 0, 9, 181, 0, 12, 177]
abbrev dktX0_init_0 : List UInt8 := dkwX0_init_0 ++ []
theorem dksX0_init_0 : cX0_init.data.toList.drop 0 = dktX0_init_0 := by decide +kernel
theorem dX0_init_0 : decode cX0_init 0 = .ok (.aload_n 0, 1) := dk_42 (dk_at dksX0_init_0 0 rfl rfl)
theorem dX0_init_1 : decode cX0_init 1 = .ok (.invokespecial 1, 3) := dk_183 0 1 (dk_at dksX0_init_0 1 rfl rfl)
theorem dX0_init_4 : decode cX0_init 4 = .ok (.aload_n 0, 1) := dk_42 (dk_at dksX0_init_0 4 rfl rfl)
theorem dX0_init_5 : decode cX0_init 5 = .ok (.new 7, 3) := dk_187 0 7 (dk_at dksX0_init_0 5 rfl rfl)
theorem dX0_init_8 : decode cX0_init 8 = .ok (.dup, 1) := dk_89 (dk_at dksX0_init_0 8 rfl rfl)
theorem dX0_init_9 : decode cX0_init 9 = .ok (.iconst 2, 1) := dk_5 (dk_at dksX0_init_0 9 rfl rfl)
theorem dX0_init_10 : decode cX0_init 10 = .ok (.invokespecial 9, 3) := dk_183 0 9 (dk_at dksX0_init_0 10 rfl rfl)
theorem dX0_init_13 : decode cX0_init 13 = .ok (.putfield 12, 3) := dk_181 0 12 (dk_at dksX0_init_0 13 rfl rfl)
theorem dX0_init_16 : decode cX0_init 16 = .ok (.return_, 1) := dk_177 (dk_at dksX0_init_0 16 rfl rfl)
abbrev cX0_back : ByteArray := prog_1_method_2_code
def yX0_back : MethodName := ⟨RX0, "back", "(I)Z"⟩
def dkwX0_back_1 : List UInt8 := [172]
abbrev dktX0_back_1 : List UInt8 := dkwX0_back_1 ++ []
def dkwX0_back_0 : List UInt8 := [42, 180, 0, 12, 182, 0, 18, 17, 16, 0, 161, 0, 5, 3, 172, 42, 180, 0, 12, 27, 182, 0, 22, 4]
abbrev dktX0_back_0 : List UInt8 := dkwX0_back_0 ++ dktX0_back_1
theorem dksX0_back_0 : cX0_back.data.toList.drop 0 = dktX0_back_0 := by decide +kernel
theorem dksX0_back_1 : cX0_back.data.toList.drop 24 = dktX0_back_1 := dk_seg dksX0_back_0 24 rfl rfl
theorem dX0_back_0 : decode cX0_back 0 = .ok (.aload_n 0, 1) := dk_42 (dk_at dksX0_back_0 0 rfl rfl)
theorem dX0_back_1 : decode cX0_back 1 = .ok (.getfield 12, 3) := dk_180 0 12 (dk_at dksX0_back_0 1 rfl rfl)
theorem dX0_back_4 : decode cX0_back 4 = .ok (.invokevirtual 18, 3) := dk_182 0 18 (dk_at dksX0_back_0 4 rfl rfl)
theorem dX0_back_7 : decode cX0_back 7 = .ok (.sipush 4096, 3) := dk_17 16 0 (dk_at dksX0_back_0 7 rfl rfl)
theorem dX0_back_10 : decode cX0_back 10 = .ok (.if_icmp .lt 5, 3) := dk_161 0 5 (dk_at dksX0_back_0 10 rfl rfl)
theorem dX0_back_13 : decode cX0_back 13 = .ok (.iconst 0, 1) := dk_3 (dk_at dksX0_back_0 13 rfl rfl)
theorem dX0_back_14 : decode cX0_back 14 = .ok (.ireturn, 1) := dk_172 (dk_at dksX0_back_0 14 rfl rfl)
theorem dX0_back_15 : decode cX0_back 15 = .ok (.aload_n 0, 1) := dk_42 (dk_at dksX0_back_0 15 rfl rfl)
theorem dX0_back_16 : decode cX0_back 16 = .ok (.getfield 12, 3) := dk_180 0 12 (dk_at dksX0_back_0 16 rfl rfl)
theorem dX0_back_19 : decode cX0_back 19 = .ok (.iload_n 1, 1) := dk_27 (dk_at dksX0_back_0 19 rfl rfl)
theorem dX0_back_20 : decode cX0_back 20 = .ok (.invokevirtual 22, 3) := dk_182 0 22 (dk_at dksX0_back_0 20 rfl rfl)
theorem dX0_back_23 : decode cX0_back 23 = .ok (.iconst 1, 1) := dk_4 (dk_at dksX0_back_0 23 rfl rfl)
theorem dX0_back_24 : decode cX0_back 24 = .ok (.ireturn, 1) := dk_172 (dk_at dksX0_back_1 0 rfl rfl)
abbrev cX0_front : ByteArray := prog_1_method_3_code
def yX0_front : MethodName := ⟨RX0, "front", "(I)Z"⟩
def dkwX0_front_1 : List UInt8 := [172]
abbrev dktX0_front_1 : List UInt8 := dkwX0_front_1 ++ []
def dkwX0_front_0 : List UInt8 := [42, 180, 0, 12, 182, 0, 18, 17, 16, 0, 161, 0, 5, 3, 172, 42, 180, 0, 12, 27, 182, 0, 25, 4]
abbrev dktX0_front_0 : List UInt8 := dkwX0_front_0 ++ dktX0_front_1
theorem dksX0_front_0 : cX0_front.data.toList.drop 0 = dktX0_front_0 := by decide +kernel
theorem dksX0_front_1 : cX0_front.data.toList.drop 24 = dktX0_front_1 := dk_seg dksX0_front_0 24 rfl rfl
theorem dX0_front_0 : decode cX0_front 0 = .ok (.aload_n 0, 1) := dk_42 (dk_at dksX0_front_0 0 rfl rfl)
theorem dX0_front_1 : decode cX0_front 1 = .ok (.getfield 12, 3) := dk_180 0 12 (dk_at dksX0_front_0 1 rfl rfl)
theorem dX0_front_4 : decode cX0_front 4 = .ok (.invokevirtual 18, 3) := dk_182 0 18 (dk_at dksX0_front_0 4 rfl rfl)
theorem dX0_front_7 : decode cX0_front 7 = .ok (.sipush 4096, 3) := dk_17 16 0 (dk_at dksX0_front_0 7 rfl rfl)
theorem dX0_front_10 : decode cX0_front 10 = .ok (.if_icmp .lt 5, 3) := dk_161 0 5 (dk_at dksX0_front_0 10 rfl rfl)
theorem dX0_front_13 : decode cX0_front 13 = .ok (.iconst 0, 1) := dk_3 (dk_at dksX0_front_0 13 rfl rfl)
theorem dX0_front_14 : decode cX0_front 14 = .ok (.ireturn, 1) := dk_172 (dk_at dksX0_front_0 14 rfl rfl)
theorem dX0_front_15 : decode cX0_front 15 = .ok (.aload_n 0, 1) := dk_42 (dk_at dksX0_front_0 15 rfl rfl)
theorem dX0_front_16 : decode cX0_front 16 = .ok (.getfield 12, 3) := dk_180 0 12 (dk_at dksX0_front_0 16 rfl rfl)
theorem dX0_front_19 : decode cX0_front 19 = .ok (.iload_n 1, 1) := dk_27 (dk_at dksX0_front_0 19 rfl rfl)
theorem dX0_front_20 : decode cX0_front 20 = .ok (.invokevirtual 25, 3) := dk_182 0 25 (dk_at dksX0_front_0 20 rfl rfl)
theorem dX0_front_23 : decode cX0_front 23 = .ok (.iconst 1, 1) := dk_4 (dk_at dksX0_front_0 23 rfl rfl)
theorem dX0_front_24 : decode cX0_front 24 = .ok (.ireturn, 1) := dk_172 (dk_at dksX0_front_1 0 rfl rfl)
abbrev cX0_takeFirst : ByteArray := prog_1_method_4_code
def yX0_takeFirst : MethodName := ⟨RX0, "takeFirst", "()I"⟩
def dkwX0_takeFirst_0 : List UInt8 := [42, 180, 0, 12, 182, 0, 28, 153, 0, 7, 3, 167, 0, 10, 42, 180, 0, 12, 182, 0, 32, 172]
abbrev dktX0_takeFirst_0 : List UInt8 := dkwX0_takeFirst_0 ++ []
theorem dksX0_takeFirst_0 : cX0_takeFirst.data.toList.drop 0 = dktX0_takeFirst_0 := by decide +kernel
theorem dX0_takeFirst_0 : decode cX0_takeFirst 0 = .ok (.aload_n 0, 1) := dk_42 (dk_at dksX0_takeFirst_0 0 rfl rfl)
theorem dX0_takeFirst_1 : decode cX0_takeFirst 1 = .ok (.getfield 12, 3) := dk_180 0 12 (dk_at dksX0_takeFirst_0 1 rfl rfl)
theorem dX0_takeFirst_4 : decode cX0_takeFirst 4 = .ok (.invokevirtual 28, 3) := dk_182 0 28 (dk_at dksX0_takeFirst_0 4 rfl rfl)
theorem dX0_takeFirst_7 : decode cX0_takeFirst 7 = .ok (.ifCond .eq 7, 3) := dk_153 0 7 (dk_at dksX0_takeFirst_0 7 rfl rfl)
theorem dX0_takeFirst_10 : decode cX0_takeFirst 10 = .ok (.iconst 0, 1) := dk_3 (dk_at dksX0_takeFirst_0 10 rfl rfl)
theorem dX0_takeFirst_11 : decode cX0_takeFirst 11 = .ok (.goto 10, 3) := dk_167 0 10 (dk_at dksX0_takeFirst_0 11 rfl rfl)
theorem dX0_takeFirst_14 : decode cX0_takeFirst 14 = .ok (.aload_n 0, 1) := dk_42 (dk_at dksX0_takeFirst_0 14 rfl rfl)
theorem dX0_takeFirst_15 : decode cX0_takeFirst 15 = .ok (.getfield 12, 3) := dk_180 0 12 (dk_at dksX0_takeFirst_0 15 rfl rfl)
theorem dX0_takeFirst_18 : decode cX0_takeFirst 18 = .ok (.invokevirtual 32, 3) := dk_182 0 32 (dk_at dksX0_takeFirst_0 18 rfl rfl)
theorem dX0_takeFirst_21 : decode cX0_takeFirst 21 = .ok (.ireturn, 1) := dk_172 (dk_at dksX0_takeFirst_0 21 rfl rfl)
abbrev cX0_takeLast : ByteArray := prog_1_method_5_code
def yX0_takeLast : MethodName := ⟨RX0, "takeLast", "()I"⟩
def dkwX0_takeLast_0 : List UInt8 := [42, 180, 0, 12, 182, 0, 28, 153, 0, 7, 3, 167, 0, 10, 42, 180, 0, 12, 182, 0, 35, 172]
abbrev dktX0_takeLast_0 : List UInt8 := dkwX0_takeLast_0 ++ []
theorem dksX0_takeLast_0 : cX0_takeLast.data.toList.drop 0 = dktX0_takeLast_0 := by decide +kernel
theorem dX0_takeLast_0 : decode cX0_takeLast 0 = .ok (.aload_n 0, 1) := dk_42 (dk_at dksX0_takeLast_0 0 rfl rfl)
theorem dX0_takeLast_1 : decode cX0_takeLast 1 = .ok (.getfield 12, 3) := dk_180 0 12 (dk_at dksX0_takeLast_0 1 rfl rfl)
theorem dX0_takeLast_4 : decode cX0_takeLast 4 = .ok (.invokevirtual 28, 3) := dk_182 0 28 (dk_at dksX0_takeLast_0 4 rfl rfl)
theorem dX0_takeLast_7 : decode cX0_takeLast 7 = .ok (.ifCond .eq 7, 3) := dk_153 0 7 (dk_at dksX0_takeLast_0 7 rfl rfl)
theorem dX0_takeLast_10 : decode cX0_takeLast 10 = .ok (.iconst 0, 1) := dk_3 (dk_at dksX0_takeLast_0 10 rfl rfl)
theorem dX0_takeLast_11 : decode cX0_takeLast 11 = .ok (.goto 10, 3) := dk_167 0 10 (dk_at dksX0_takeLast_0 11 rfl rfl)
theorem dX0_takeLast_14 : decode cX0_takeLast 14 = .ok (.aload_n 0, 1) := dk_42 (dk_at dksX0_takeLast_0 14 rfl rfl)
theorem dX0_takeLast_15 : decode cX0_takeLast 15 = .ok (.getfield 12, 3) := dk_180 0 12 (dk_at dksX0_takeLast_0 15 rfl rfl)
theorem dX0_takeLast_18 : decode cX0_takeLast 18 = .ok (.invokevirtual 35, 3) := dk_182 0 35 (dk_at dksX0_takeLast_0 18 rfl rfl)
theorem dX0_takeLast_21 : decode cX0_takeLast 21 = .ok (.ireturn, 1) := dk_172 (dk_at dksX0_takeLast_0 21 rfl rfl)
abbrev cX0_first : ByteArray := prog_1_method_6_code
def yX0_first : MethodName := ⟨RX0, "first", "()I"⟩
def dkwX0_first_0 : List UInt8 := [42, 180, 0, 12, 182, 0, 28, 153, 0, 7, 3, 167, 0, 10, 42, 180, 0, 12, 182, 0, 38, 172]
abbrev dktX0_first_0 : List UInt8 := dkwX0_first_0 ++ []
theorem dksX0_first_0 : cX0_first.data.toList.drop 0 = dktX0_first_0 := by decide +kernel
theorem dX0_first_0 : decode cX0_first 0 = .ok (.aload_n 0, 1) := dk_42 (dk_at dksX0_first_0 0 rfl rfl)
theorem dX0_first_1 : decode cX0_first 1 = .ok (.getfield 12, 3) := dk_180 0 12 (dk_at dksX0_first_0 1 rfl rfl)
theorem dX0_first_4 : decode cX0_first 4 = .ok (.invokevirtual 28, 3) := dk_182 0 28 (dk_at dksX0_first_0 4 rfl rfl)
theorem dX0_first_7 : decode cX0_first 7 = .ok (.ifCond .eq 7, 3) := dk_153 0 7 (dk_at dksX0_first_0 7 rfl rfl)
theorem dX0_first_10 : decode cX0_first 10 = .ok (.iconst 0, 1) := dk_3 (dk_at dksX0_first_0 10 rfl rfl)
theorem dX0_first_11 : decode cX0_first 11 = .ok (.goto 10, 3) := dk_167 0 10 (dk_at dksX0_first_0 11 rfl rfl)
theorem dX0_first_14 : decode cX0_first 14 = .ok (.aload_n 0, 1) := dk_42 (dk_at dksX0_first_0 14 rfl rfl)
theorem dX0_first_15 : decode cX0_first 15 = .ok (.getfield 12, 3) := dk_180 0 12 (dk_at dksX0_first_0 15 rfl rfl)
theorem dX0_first_18 : decode cX0_first 18 = .ok (.invokevirtual 38, 3) := dk_182 0 38 (dk_at dksX0_first_0 18 rfl rfl)
theorem dX0_first_21 : decode cX0_first 21 = .ok (.ireturn, 1) := dk_172 (dk_at dksX0_first_0 21 rfl rfl)
abbrev cX0_last : ByteArray := prog_1_method_7_code
def yX0_last : MethodName := ⟨RX0, "last", "()I"⟩
def dkwX0_last_0 : List UInt8 := [42, 180, 0, 12, 182, 0, 28, 153, 0, 7, 3, 167, 0, 10, 42, 180, 0, 12, 182, 0, 41, 172]
abbrev dktX0_last_0 : List UInt8 := dkwX0_last_0 ++ []
theorem dksX0_last_0 : cX0_last.data.toList.drop 0 = dktX0_last_0 := by decide +kernel
theorem dX0_last_0 : decode cX0_last 0 = .ok (.aload_n 0, 1) := dk_42 (dk_at dksX0_last_0 0 rfl rfl)
theorem dX0_last_1 : decode cX0_last 1 = .ok (.getfield 12, 3) := dk_180 0 12 (dk_at dksX0_last_0 1 rfl rfl)
theorem dX0_last_4 : decode cX0_last 4 = .ok (.invokevirtual 28, 3) := dk_182 0 28 (dk_at dksX0_last_0 4 rfl rfl)
theorem dX0_last_7 : decode cX0_last 7 = .ok (.ifCond .eq 7, 3) := dk_153 0 7 (dk_at dksX0_last_0 7 rfl rfl)
theorem dX0_last_10 : decode cX0_last 10 = .ok (.iconst 0, 1) := dk_3 (dk_at dksX0_last_0 10 rfl rfl)
theorem dX0_last_11 : decode cX0_last 11 = .ok (.goto 10, 3) := dk_167 0 10 (dk_at dksX0_last_0 11 rfl rfl)
theorem dX0_last_14 : decode cX0_last 14 = .ok (.aload_n 0, 1) := dk_42 (dk_at dksX0_last_0 14 rfl rfl)
theorem dX0_last_15 : decode cX0_last 15 = .ok (.getfield 12, 3) := dk_180 0 12 (dk_at dksX0_last_0 15 rfl rfl)
theorem dX0_last_18 : decode cX0_last 18 = .ok (.invokevirtual 41, 3) := dk_182 0 41 (dk_at dksX0_last_0 18 rfl rfl)
theorem dX0_last_21 : decode cX0_last 21 = .ok (.ireturn, 1) := dk_172 (dk_at dksX0_last_0 21 rfl rfl)
abbrev cX0_size : ByteArray := prog_1_method_8_code
def yX0_size : MethodName := ⟨RX0, "size", "()I"⟩
def dkwX0_size_0 : List UInt8 := [42, 180, 0, 12, 182, 0, 18, 172]
abbrev dktX0_size_0 : List UInt8 := dkwX0_size_0 ++ []
theorem dksX0_size_0 : cX0_size.data.toList.drop 0 = dktX0_size_0 := by decide +kernel
theorem dX0_size_0 : decode cX0_size 0 = .ok (.aload_n 0, 1) := dk_42 (dk_at dksX0_size_0 0 rfl rfl)
theorem dX0_size_1 : decode cX0_size 1 = .ok (.getfield 12, 3) := dk_180 0 12 (dk_at dksX0_size_0 1 rfl rfl)
theorem dX0_size_4 : decode cX0_size 4 = .ok (.invokevirtual 18, 3) := dk_182 0 18 (dk_at dksX0_size_0 4 rfl rfl)
theorem dX0_size_7 : decode cX0_size 7 = .ok (.ireturn, 1) := dk_172 (dk_at dksX0_size_0 7 rfl rfl)
abbrev cX0_trim : ByteArray := prog_1_method_9_code
def yX0_trim : MethodName := ⟨RX0, "trim", "()V"⟩
def dkwX0_trim_0 : List UInt8 := [42, 180, 0, 12, 182, 0, 44, 177]
abbrev dktX0_trim_0 : List UInt8 := dkwX0_trim_0 ++ []
theorem dksX0_trim_0 : cX0_trim.data.toList.drop 0 = dktX0_trim_0 := by decide +kernel
theorem dX0_trim_0 : decode cX0_trim 0 = .ok (.aload_n 0, 1) := dk_42 (dk_at dksX0_trim_0 0 rfl rfl)
theorem dX0_trim_1 : decode cX0_trim 1 = .ok (.getfield 12, 3) := dk_180 0 12 (dk_at dksX0_trim_0 1 rfl rfl)
theorem dX0_trim_4 : decode cX0_trim 4 = .ok (.invokevirtual 44, 3) := dk_182 0 44 (dk_at dksX0_trim_0 4 rfl rfl)
theorem dX0_trim_7 : decode cX0_trim 7 = .ok (.return_, 1) := dk_177 (dk_at dksX0_trim_0 7 rfl rfl)
abbrev cX0_clear : ByteArray := prog_1_method_10_code
def yX0_clear : MethodName := ⟨RX0, "clear", "()V"⟩
def dkwX0_clear_0 : List UInt8 := [42, 180, 0, 12, 182, 0, 47, 177]
abbrev dktX0_clear_0 : List UInt8 := dkwX0_clear_0 ++ []
theorem dksX0_clear_0 : cX0_clear.data.toList.drop 0 = dktX0_clear_0 := by decide +kernel
theorem dX0_clear_0 : decode cX0_clear 0 = .ok (.aload_n 0, 1) := dk_42 (dk_at dksX0_clear_0 0 rfl rfl)
theorem dX0_clear_1 : decode cX0_clear 1 = .ok (.getfield 12, 3) := dk_180 0 12 (dk_at dksX0_clear_0 1 rfl rfl)
theorem dX0_clear_4 : decode cX0_clear 4 = .ok (.invokevirtual 47, 3) := dk_182 0 47 (dk_at dksX0_clear_0 4 rfl rfl)
theorem dX0_clear_7 : decode cX0_clear 7 = .ok (.return_, 1) := dk_177 (dk_at dksX0_clear_0 7 rfl rfl)
theorem q5 : (Jvm.Cond.initialized "CircleLine") ∈ lw_all := lw_g (lw_at lw_m1 1 rfl) rfl
theorem q26 : (Jvm.Cond.instantiable "CircleLine" (1 : Nat)) ∈ lw_all := lw_g (lw_at lw_m1 22 rfl) rfl
theorem q28 : (Jvm.Cond.instanceMethod ({ cls := "CircleLine", name := "<init>", desc := "()V" } : Jvm.MethodName)) ∈ lw_all := lw_g (lw_at lw_m1 24 rfl) rfl
theorem q29 : (Jvm.Cond.code ({ cls := "CircleLine", name := "<init>", desc := "()V" } : Jvm.MethodName) prog_1_method_1_code (1 : Nat) (Option.none : Option Jvm.ClassFile.FieldType)) ∈ lw_all := lw_g (lw_at lw_m1 25 rfl) rfl
theorem q30 : (Jvm.Cond.methodLink "CircleLine" (1 : Nat) ({ cls := "java/lang/Object", name := "<init>", desc := "()V" } : Jvm.MethodName)) ∈ lw_all := lw_g (lw_at lw_m1 26 rfl) rfl
theorem q33 : (Jvm.Cond.classLink "CircleLine" (7 : Nat) "IntArrayFIFOQueue") ∈ lw_all := lw_g (lw_at lw_m1 29 rfl) rfl
theorem q35 : (Jvm.Cond.methodLink "CircleLine" (9 : Nat) ({ cls := "IntArrayFIFOQueue", name := "<init>", desc := "(I)V" } : Jvm.MethodName)) ∈ lw_all := lw_g (lw_at lw_m1 31 rfl) rfl
theorem q360 : (Jvm.Cond.fieldLink "CircleLine" (12 : Nat) "CircleLine" "line" "LIntArrayFIFOQueue;") ∈ lw_all := lw_g (lw_at lw_m2 116 rfl) rfl
theorem q361 : (Jvm.Cond.laysFinal "CircleLine" "CircleLine" "line" "LIntArrayFIFOQueue;") ∈ lw_all := lw_g (lw_at lw_m2 117 rfl) rfl
theorem q362 : (Jvm.Cond.soleField "CircleLine" "line") ∈ lw_all := lw_g (lw_at lw_m2 118 rfl) rfl
theorem q363 : (Jvm.Cond.superclass "CircleLine" "java/lang/Object") ∈ lw_all := lw_g (lw_at lw_m2 119 rfl) rfl
theorem q365 : (Jvm.Cond.instanceMethod ({ cls := "CircleLine", name := "back", desc := "(I)Z" } : Jvm.MethodName)) ∈ lw_all := lw_g (lw_at lw_m2 121 rfl) rfl
theorem q366 : (Jvm.Cond.selects "CircleLine" ({ cls := "CircleLine", name := "back", desc := "(I)Z" } : Jvm.MethodName) ({ cls := "CircleLine", name := "back", desc := "(I)Z" } : Jvm.MethodName)) ∈ lw_all := lw_g (lw_at lw_m2 122 rfl) rfl
theorem q367 : (Jvm.Cond.code ({ cls := "CircleLine", name := "back", desc := "(I)Z" } : Jvm.MethodName) prog_1_method_2_code (2 : Nat) (Option.some Jvm.ClassFile.FieldType.boolean)) ∈ lw_all := lw_g (lw_at lw_m2 123 rfl) rfl
theorem q368 : (Jvm.Cond.methodLink "CircleLine" (18 : Nat) ({ cls := "IntArrayFIFOQueue", name := "size", desc := "()I" } : Jvm.MethodName)) ∈ lw_all := lw_g (lw_at lw_m2 124 rfl) rfl
theorem q372 : (Jvm.Cond.methodLink "CircleLine" (22 : Nat) ({ cls := "IntArrayFIFOQueue", name := "enqueue", desc := "(I)V" } : Jvm.MethodName)) ∈ lw_all := lw_g (lw_at lw_m2 128 rfl) rfl
theorem q391 : (Jvm.Cond.instanceMethod ({ cls := "CircleLine", name := "front", desc := "(I)Z" } : Jvm.MethodName)) ∈ lw_all := lw_g (lw_at lw_m2 147 rfl) rfl
theorem q392 : (Jvm.Cond.selects "CircleLine" ({ cls := "CircleLine", name := "front", desc := "(I)Z" } : Jvm.MethodName) ({ cls := "CircleLine", name := "front", desc := "(I)Z" } : Jvm.MethodName)) ∈ lw_all := lw_g (lw_at lw_m2 148 rfl) rfl
theorem q393 : (Jvm.Cond.code ({ cls := "CircleLine", name := "front", desc := "(I)Z" } : Jvm.MethodName) prog_1_method_3_code (2 : Nat) (Option.some Jvm.ClassFile.FieldType.boolean)) ∈ lw_all := lw_g (lw_at lw_m2 149 rfl) rfl
theorem q394 : (Jvm.Cond.methodLink "CircleLine" (25 : Nat) ({ cls := "IntArrayFIFOQueue", name := "enqueueFirst", desc := "(I)V" } : Jvm.MethodName)) ∈ lw_all := lw_g (lw_at lw_m2 150 rfl) rfl
theorem q399 : (Jvm.Cond.instanceMethod ({ cls := "CircleLine", name := "takeFirst", desc := "()I" } : Jvm.MethodName)) ∈ lw_all := lw_g (lw_at lw_m2 155 rfl) rfl
theorem q400 : (Jvm.Cond.selects "CircleLine" ({ cls := "CircleLine", name := "takeFirst", desc := "()I" } : Jvm.MethodName) ({ cls := "CircleLine", name := "takeFirst", desc := "()I" } : Jvm.MethodName)) ∈ lw_all := lw_g (lw_at lw_m2 156 rfl) rfl
theorem q401 : (Jvm.Cond.code ({ cls := "CircleLine", name := "takeFirst", desc := "()I" } : Jvm.MethodName) prog_1_method_4_code (1 : Nat) (Option.some Jvm.ClassFile.FieldType.int)) ∈ lw_all := lw_g (lw_at lw_m2 157 rfl) rfl
theorem q415 : (Jvm.Cond.methodLink "CircleLine" (32 : Nat) ({ cls := "IntArrayFIFOQueue", name := "dequeueInt", desc := "()I" } : Jvm.MethodName)) ∈ lw_all := lw_g (lw_at lw_m2 171 rfl) rfl
theorem q446 : (Jvm.Cond.instanceMethod ({ cls := "CircleLine", name := "takeLast", desc := "()I" } : Jvm.MethodName)) ∈ lw_all := lw_g (lw_at lw_m2 202 rfl) rfl
theorem q447 : (Jvm.Cond.selects "CircleLine" ({ cls := "CircleLine", name := "takeLast", desc := "()I" } : Jvm.MethodName) ({ cls := "CircleLine", name := "takeLast", desc := "()I" } : Jvm.MethodName)) ∈ lw_all := lw_g (lw_at lw_m2 203 rfl) rfl
theorem q448 : (Jvm.Cond.code ({ cls := "CircleLine", name := "takeLast", desc := "()I" } : Jvm.MethodName) prog_1_method_5_code (1 : Nat) (Option.some Jvm.ClassFile.FieldType.int)) ∈ lw_all := lw_g (lw_at lw_m2 204 rfl) rfl
theorem q449 : (Jvm.Cond.methodLink "CircleLine" (35 : Nat) ({ cls := "IntArrayFIFOQueue", name := "dequeueLastInt", desc := "()I" } : Jvm.MethodName)) ∈ lw_all := lw_g (lw_at lw_m2 205 rfl) rfl
theorem q454 : (Jvm.Cond.instanceMethod ({ cls := "CircleLine", name := "first", desc := "()I" } : Jvm.MethodName)) ∈ lw_all := lw_g (lw_at lw_m2 210 rfl) rfl
theorem q455 : (Jvm.Cond.selects "CircleLine" ({ cls := "CircleLine", name := "first", desc := "()I" } : Jvm.MethodName) ({ cls := "CircleLine", name := "first", desc := "()I" } : Jvm.MethodName)) ∈ lw_all := lw_g (lw_at lw_m2 211 rfl) rfl
theorem q456 : (Jvm.Cond.code ({ cls := "CircleLine", name := "first", desc := "()I" } : Jvm.MethodName) prog_1_method_6_code (1 : Nat) (Option.some Jvm.ClassFile.FieldType.int)) ∈ lw_all := lw_g (lw_at lw_m2 212 rfl) rfl
theorem q457 : (Jvm.Cond.methodLink "CircleLine" (38 : Nat) ({ cls := "IntArrayFIFOQueue", name := "firstInt", desc := "()I" } : Jvm.MethodName)) ∈ lw_all := lw_g (lw_at lw_m2 213 rfl) rfl
theorem q462 : (Jvm.Cond.instanceMethod ({ cls := "CircleLine", name := "last", desc := "()I" } : Jvm.MethodName)) ∈ lw_all := lw_g (lw_at lw_m2 218 rfl) rfl
theorem q463 : (Jvm.Cond.selects "CircleLine" ({ cls := "CircleLine", name := "last", desc := "()I" } : Jvm.MethodName) ({ cls := "CircleLine", name := "last", desc := "()I" } : Jvm.MethodName)) ∈ lw_all := lw_g (lw_at lw_m2 219 rfl) rfl
theorem q464 : (Jvm.Cond.code ({ cls := "CircleLine", name := "last", desc := "()I" } : Jvm.MethodName) prog_1_method_7_code (1 : Nat) (Option.some Jvm.ClassFile.FieldType.int)) ∈ lw_all := lw_g (lw_at lw_m2 220 rfl) rfl
theorem q465 : (Jvm.Cond.methodLink "CircleLine" (41 : Nat) ({ cls := "IntArrayFIFOQueue", name := "lastInt", desc := "()I" } : Jvm.MethodName)) ∈ lw_all := lw_g (lw_at lw_m2 221 rfl) rfl
theorem q470 : (Jvm.Cond.instanceMethod ({ cls := "CircleLine", name := "size", desc := "()I" } : Jvm.MethodName)) ∈ lw_all := lw_g (lw_at lw_m2 226 rfl) rfl
theorem q471 : (Jvm.Cond.selects "CircleLine" ({ cls := "CircleLine", name := "size", desc := "()I" } : Jvm.MethodName) ({ cls := "CircleLine", name := "size", desc := "()I" } : Jvm.MethodName)) ∈ lw_all := lw_g (lw_at lw_m2 227 rfl) rfl
theorem q472 : (Jvm.Cond.code ({ cls := "CircleLine", name := "size", desc := "()I" } : Jvm.MethodName) prog_1_method_8_code (1 : Nat) (Option.some Jvm.ClassFile.FieldType.int)) ∈ lw_all := lw_g (lw_at lw_m2 228 rfl) rfl
theorem q474 : (Jvm.Cond.instanceMethod ({ cls := "CircleLine", name := "trim", desc := "()V" } : Jvm.MethodName)) ∈ lw_all := lw_g (lw_at lw_m2 230 rfl) rfl
theorem q475 : (Jvm.Cond.selects "CircleLine" ({ cls := "CircleLine", name := "trim", desc := "()V" } : Jvm.MethodName) ({ cls := "CircleLine", name := "trim", desc := "()V" } : Jvm.MethodName)) ∈ lw_all := lw_g (lw_at lw_m2 231 rfl) rfl
theorem q476 : (Jvm.Cond.code ({ cls := "CircleLine", name := "trim", desc := "()V" } : Jvm.MethodName) prog_1_method_9_code (1 : Nat) (Option.none : Option Jvm.ClassFile.FieldType)) ∈ lw_all := lw_g (lw_at lw_m2 232 rfl) rfl
theorem q477 : (Jvm.Cond.methodLink "CircleLine" (44 : Nat) ({ cls := "IntArrayFIFOQueue", name := "trim", desc := "()V" } : Jvm.MethodName)) ∈ lw_all := lw_g (lw_at lw_m2 233 rfl) rfl
theorem q482 : (Jvm.Cond.instanceMethod ({ cls := "CircleLine", name := "clear", desc := "()V" } : Jvm.MethodName)) ∈ lw_all := lw_g (lw_at lw_m2 238 rfl) rfl
theorem q483 : (Jvm.Cond.selects "CircleLine" ({ cls := "CircleLine", name := "clear", desc := "()V" } : Jvm.MethodName) ({ cls := "CircleLine", name := "clear", desc := "()V" } : Jvm.MethodName)) ∈ lw_all := lw_g (lw_at lw_m2 239 rfl) rfl
theorem q484 : (Jvm.Cond.code ({ cls := "CircleLine", name := "clear", desc := "()V" } : Jvm.MethodName) prog_1_method_10_code (1 : Nat) (Option.none : Option Jvm.ClassFile.FieldType)) ∈ lw_all := lw_g (lw_at lw_m3 0 rfl) rfl
theorem q485 : (Jvm.Cond.methodLink "CircleLine" (47 : Nat) ({ cls := "IntArrayFIFOQueue", name := "clear", desc := "()V" } : Jvm.MethodName)) ∈ lw_all := lw_g (lw_at lw_m3 1 rfl) rfl
theorem q549 : (Jvm.Cond.castable "CircleLine" "java/lang/Object") ∈ lw_tbl := lw_at lw_m3 65 rfl
theorem in_X0 : ∀ w ∈ wsX00, w ∈ lw_all := lw_in wsX00 [361] (by decide +kernel) (by decide +kernel)
/-! CircleLineModel -/
set_option maxRecDepth 100000
def RX2 : String := "CircleLineModel"
def TX2 : u_T := fun k => match k with
  | 0 => ("CircleLineModel", "row", "[I", true)
  | _ => ("CircleLineModel", "size", "I", false)
def tyX2 : Nat → FieldType := fun k => match k with
  | 0 => .array .int
  | _ => .int
abbrev wsX20 : List Cond := u_ws RX2 TX2 2
theorem nmX2 : ∀ a, a < 2 → ∀ b, b < 2 → a ≠ b → (TX2 a).2.1 ≠ (TX2 b).2.1 := by decide +kernel
theorem tyX2_ok : ∀ k, k < 2 → parseFieldDescriptor (TX2 k).2.2.1 = some (tyX2 k) := by decide +kernel
abbrev cX2_init : ByteArray := prog_3_method_1_code
def yX2_init : MethodName := ⟨RX2, "<init>", "()V"⟩
def dkwX2_init_0 : List UInt8 := [42, 183, 0, 1, 42, 17, 16, 0, 188, 10, 181, 0, 7, 177]
abbrev dktX2_init_0 : List UInt8 := dkwX2_init_0 ++ []
theorem dksX2_init_0 : cX2_init.data.toList.drop 0 = dktX2_init_0 := by decide +kernel
theorem dX2_init_0 : decode cX2_init 0 = .ok (.aload_n 0, 1) := dk_42 (dk_at dksX2_init_0 0 rfl rfl)
theorem dX2_init_1 : decode cX2_init 1 = .ok (.invokespecial 1, 3) := dk_183 0 1 (dk_at dksX2_init_0 1 rfl rfl)
theorem dX2_init_4 : decode cX2_init 4 = .ok (.aload_n 0, 1) := dk_42 (dk_at dksX2_init_0 4 rfl rfl)
theorem dX2_init_5 : decode cX2_init 5 = .ok (.sipush 4096, 3) := dk_17 16 0 (dk_at dksX2_init_0 5 rfl rfl)
theorem dX2_init_8 : decode cX2_init 8 = .ok (.newarray .int, 2) := dk_188_10 (dk_at dksX2_init_0 8 rfl rfl)
theorem dX2_init_10 : decode cX2_init 10 = .ok (.putfield 7, 3) := dk_181 0 7 (dk_at dksX2_init_0 10 rfl rfl)
theorem dX2_init_13 : decode cX2_init 13 = .ok (.return_, 1) := dk_177 (dk_at dksX2_init_0 13 rfl rfl)
abbrev cX2_back : ByteArray := prog_3_method_2_code
def yX2_back : MethodName := ⟨RX2, "back", "(I)Z"⟩
def dkwX2_back_1 : List UInt8 := [180, 0, 13, 4, 96, 181, 0, 13, 4, 172]
abbrev dktX2_back_1 : List UInt8 := dkwX2_back_1 ++ []
def dkwX2_back_0 : List UInt8 := [42, 180, 0, 13, 17, 16, 0, 160, 0, 5, 3, 172, 42, 180, 0, 7, 42, 180, 0, 13, 27, 79, 42, 42]
abbrev dktX2_back_0 : List UInt8 := dkwX2_back_0 ++ dktX2_back_1
theorem dksX2_back_0 : cX2_back.data.toList.drop 0 = dktX2_back_0 := by decide +kernel
theorem dksX2_back_1 : cX2_back.data.toList.drop 24 = dktX2_back_1 := dk_seg dksX2_back_0 24 rfl rfl
theorem dX2_back_0 : decode cX2_back 0 = .ok (.aload_n 0, 1) := dk_42 (dk_at dksX2_back_0 0 rfl rfl)
theorem dX2_back_1 : decode cX2_back 1 = .ok (.getfield 13, 3) := dk_180 0 13 (dk_at dksX2_back_0 1 rfl rfl)
theorem dX2_back_4 : decode cX2_back 4 = .ok (.sipush 4096, 3) := dk_17 16 0 (dk_at dksX2_back_0 4 rfl rfl)
theorem dX2_back_7 : decode cX2_back 7 = .ok (.if_icmp .ne 5, 3) := dk_160 0 5 (dk_at dksX2_back_0 7 rfl rfl)
theorem dX2_back_10 : decode cX2_back 10 = .ok (.iconst 0, 1) := dk_3 (dk_at dksX2_back_0 10 rfl rfl)
theorem dX2_back_11 : decode cX2_back 11 = .ok (.ireturn, 1) := dk_172 (dk_at dksX2_back_0 11 rfl rfl)
theorem dX2_back_12 : decode cX2_back 12 = .ok (.aload_n 0, 1) := dk_42 (dk_at dksX2_back_0 12 rfl rfl)
theorem dX2_back_13 : decode cX2_back 13 = .ok (.getfield 7, 3) := dk_180 0 7 (dk_at dksX2_back_0 13 rfl rfl)
theorem dX2_back_16 : decode cX2_back 16 = .ok (.aload_n 0, 1) := dk_42 (dk_at dksX2_back_0 16 rfl rfl)
theorem dX2_back_17 : decode cX2_back 17 = .ok (.getfield 13, 3) := dk_180 0 13 (dk_at dksX2_back_0 17 rfl rfl)
theorem dX2_back_20 : decode cX2_back 20 = .ok (.iload_n 1, 1) := dk_27 (dk_at dksX2_back_0 20 rfl rfl)
theorem dX2_back_21 : decode cX2_back 21 = .ok (.iastore, 1) := dk_79 (dk_at dksX2_back_0 21 rfl rfl)
theorem dX2_back_22 : decode cX2_back 22 = .ok (.aload_n 0, 1) := dk_42 (dk_at dksX2_back_0 22 rfl rfl)
theorem dX2_back_23 : decode cX2_back 23 = .ok (.aload_n 0, 1) := dk_42 (dk_at dksX2_back_0 23 rfl rfl)
theorem dX2_back_24 : decode cX2_back 24 = .ok (.getfield 13, 3) := dk_180 0 13 (dk_at dksX2_back_1 0 rfl rfl)
theorem dX2_back_27 : decode cX2_back 27 = .ok (.iconst 1, 1) := dk_4 (dk_at dksX2_back_1 3 rfl rfl)
theorem dX2_back_28 : decode cX2_back 28 = .ok (.iadd, 1) := dk_96 (dk_at dksX2_back_1 4 rfl rfl)
theorem dX2_back_29 : decode cX2_back 29 = .ok (.putfield 13, 3) := dk_181 0 13 (dk_at dksX2_back_1 5 rfl rfl)
theorem dX2_back_32 : decode cX2_back 32 = .ok (.iconst 1, 1) := dk_4 (dk_at dksX2_back_1 8 rfl rfl)
theorem dX2_back_33 : decode cX2_back 33 = .ok (.ireturn, 1) := dk_172 (dk_at dksX2_back_1 9 rfl rfl)
abbrev cX2_front : ByteArray := prog_3_method_3_code
def yX2_front : MethodName := ⟨RX2, "front", "(I)Z"⟩
def dkwX2_front_2 : List UInt8 := [27, 79, 42, 42, 180, 0, 13, 4, 96, 181, 0, 13, 4, 172]
abbrev dktX2_front_2 : List UInt8 := dkwX2_front_2 ++ []
def dkwX2_front_1 : List UInt8 := [180, 0, 7, 28, 42, 180, 0, 7, 28, 4, 100, 46, 79, 132, 2, 255, 167, 255, 235, 42, 180, 0, 7, 3]
abbrev dktX2_front_1 : List UInt8 := dkwX2_front_1 ++ dktX2_front_2
def dkwX2_front_0 : List UInt8 := [42, 180, 0, 13, 17, 16, 0, 160, 0, 5, 3, 172, 42, 180, 0, 13, 61, 28, 158, 0, 23, 42]
abbrev dktX2_front_0 : List UInt8 := dkwX2_front_0 ++ dktX2_front_1
theorem dksX2_front_0 : cX2_front.data.toList.drop 0 = dktX2_front_0 := by decide +kernel
theorem dksX2_front_1 : cX2_front.data.toList.drop 22 = dktX2_front_1 := dk_seg dksX2_front_0 22 rfl rfl
theorem dksX2_front_2 : cX2_front.data.toList.drop 46 = dktX2_front_2 := dk_seg dksX2_front_1 24 rfl rfl
theorem dX2_front_0 : decode cX2_front 0 = .ok (.aload_n 0, 1) := dk_42 (dk_at dksX2_front_0 0 rfl rfl)
theorem dX2_front_1 : decode cX2_front 1 = .ok (.getfield 13, 3) := dk_180 0 13 (dk_at dksX2_front_0 1 rfl rfl)
theorem dX2_front_4 : decode cX2_front 4 = .ok (.sipush 4096, 3) := dk_17 16 0 (dk_at dksX2_front_0 4 rfl rfl)
theorem dX2_front_7 : decode cX2_front 7 = .ok (.if_icmp .ne 5, 3) := dk_160 0 5 (dk_at dksX2_front_0 7 rfl rfl)
theorem dX2_front_10 : decode cX2_front 10 = .ok (.iconst 0, 1) := dk_3 (dk_at dksX2_front_0 10 rfl rfl)
theorem dX2_front_11 : decode cX2_front 11 = .ok (.ireturn, 1) := dk_172 (dk_at dksX2_front_0 11 rfl rfl)
theorem dX2_front_12 : decode cX2_front 12 = .ok (.aload_n 0, 1) := dk_42 (dk_at dksX2_front_0 12 rfl rfl)
theorem dX2_front_13 : decode cX2_front 13 = .ok (.getfield 13, 3) := dk_180 0 13 (dk_at dksX2_front_0 13 rfl rfl)
theorem dX2_front_16 : decode cX2_front 16 = .ok (.istore_n 2, 1) := dk_61 (dk_at dksX2_front_0 16 rfl rfl)
theorem dX2_front_17 : decode cX2_front 17 = .ok (.iload_n 2, 1) := dk_28 (dk_at dksX2_front_0 17 rfl rfl)
theorem dX2_front_18 : decode cX2_front 18 = .ok (.ifCond .le 23, 3) := dk_158 0 23 (dk_at dksX2_front_0 18 rfl rfl)
theorem dX2_front_21 : decode cX2_front 21 = .ok (.aload_n 0, 1) := dk_42 (dk_at dksX2_front_0 21 rfl rfl)
theorem dX2_front_22 : decode cX2_front 22 = .ok (.getfield 7, 3) := dk_180 0 7 (dk_at dksX2_front_1 0 rfl rfl)
theorem dX2_front_25 : decode cX2_front 25 = .ok (.iload_n 2, 1) := dk_28 (dk_at dksX2_front_1 3 rfl rfl)
theorem dX2_front_26 : decode cX2_front 26 = .ok (.aload_n 0, 1) := dk_42 (dk_at dksX2_front_1 4 rfl rfl)
theorem dX2_front_27 : decode cX2_front 27 = .ok (.getfield 7, 3) := dk_180 0 7 (dk_at dksX2_front_1 5 rfl rfl)
theorem dX2_front_30 : decode cX2_front 30 = .ok (.iload_n 2, 1) := dk_28 (dk_at dksX2_front_1 8 rfl rfl)
theorem dX2_front_31 : decode cX2_front 31 = .ok (.iconst 1, 1) := dk_4 (dk_at dksX2_front_1 9 rfl rfl)
theorem dX2_front_32 : decode cX2_front 32 = .ok (.isub, 1) := dk_100 (dk_at dksX2_front_1 10 rfl rfl)
theorem dX2_front_33 : decode cX2_front 33 = .ok (.iaload, 1) := dk_46 (dk_at dksX2_front_1 11 rfl rfl)
theorem dX2_front_34 : decode cX2_front 34 = .ok (.iastore, 1) := dk_79 (dk_at dksX2_front_1 12 rfl rfl)
theorem dX2_front_35 : decode cX2_front 35 = .ok (.iinc 2 (-1), 3) := dk_132 2 255 (dk_at dksX2_front_1 13 rfl rfl)
theorem dX2_front_38 : decode cX2_front 38 = .ok (.goto (-21), 3) := dk_167 255 235 (dk_at dksX2_front_1 16 rfl rfl)
theorem dX2_front_41 : decode cX2_front 41 = .ok (.aload_n 0, 1) := dk_42 (dk_at dksX2_front_1 19 rfl rfl)
theorem dX2_front_42 : decode cX2_front 42 = .ok (.getfield 7, 3) := dk_180 0 7 (dk_at dksX2_front_1 20 rfl rfl)
theorem dX2_front_45 : decode cX2_front 45 = .ok (.iconst 0, 1) := dk_3 (dk_at dksX2_front_1 23 rfl rfl)
theorem dX2_front_46 : decode cX2_front 46 = .ok (.iload_n 1, 1) := dk_27 (dk_at dksX2_front_2 0 rfl rfl)
theorem dX2_front_47 : decode cX2_front 47 = .ok (.iastore, 1) := dk_79 (dk_at dksX2_front_2 1 rfl rfl)
theorem dX2_front_48 : decode cX2_front 48 = .ok (.aload_n 0, 1) := dk_42 (dk_at dksX2_front_2 2 rfl rfl)
theorem dX2_front_49 : decode cX2_front 49 = .ok (.aload_n 0, 1) := dk_42 (dk_at dksX2_front_2 3 rfl rfl)
theorem dX2_front_50 : decode cX2_front 50 = .ok (.getfield 13, 3) := dk_180 0 13 (dk_at dksX2_front_2 4 rfl rfl)
theorem dX2_front_53 : decode cX2_front 53 = .ok (.iconst 1, 1) := dk_4 (dk_at dksX2_front_2 7 rfl rfl)
theorem dX2_front_54 : decode cX2_front 54 = .ok (.iadd, 1) := dk_96 (dk_at dksX2_front_2 8 rfl rfl)
theorem dX2_front_55 : decode cX2_front 55 = .ok (.putfield 13, 3) := dk_181 0 13 (dk_at dksX2_front_2 9 rfl rfl)
theorem dX2_front_58 : decode cX2_front 58 = .ok (.iconst 1, 1) := dk_4 (dk_at dksX2_front_2 12 rfl rfl)
theorem dX2_front_59 : decode cX2_front 59 = .ok (.ireturn, 1) := dk_172 (dk_at dksX2_front_2 13 rfl rfl)
abbrev cX2_takeFirst : ByteArray := prog_3_method_4_code
def yX2_takeFirst : MethodName := ⟨RX2, "takeFirst", "()I"⟩
def dkwX2_takeFirst_2 : List UInt8 := [96, 46, 79, 132, 2, 1, 167, 255, 231, 27, 172]
abbrev dktX2_takeFirst_2 : List UInt8 := dkwX2_takeFirst_2 ++ []
def dkwX2_takeFirst_1 : List UInt8 := [181, 0, 13, 3, 61, 28, 42, 180, 0, 13, 162, 0, 23, 42, 180, 0, 7, 28, 42, 180, 0, 7, 28, 4]
abbrev dktX2_takeFirst_1 : List UInt8 := dkwX2_takeFirst_1 ++ dktX2_takeFirst_2
def dkwX2_takeFirst_0 : List UInt8 := [42, 180, 0, 13, 154, 0, 5, 3, 172, 42, 180, 0, 7, 3, 46, 60, 42, 42, 180, 0, 13, 4, 100]
abbrev dktX2_takeFirst_0 : List UInt8 := dkwX2_takeFirst_0 ++ dktX2_takeFirst_1
theorem dksX2_takeFirst_0 : cX2_takeFirst.data.toList.drop 0 = dktX2_takeFirst_0 := by decide +kernel
theorem dksX2_takeFirst_1 : cX2_takeFirst.data.toList.drop 23 = dktX2_takeFirst_1 := dk_seg dksX2_takeFirst_0 23 rfl rfl
theorem dksX2_takeFirst_2 : cX2_takeFirst.data.toList.drop 47 = dktX2_takeFirst_2 := dk_seg dksX2_takeFirst_1 24 rfl rfl
theorem dX2_takeFirst_0 : decode cX2_takeFirst 0 = .ok (.aload_n 0, 1) := dk_42 (dk_at dksX2_takeFirst_0 0 rfl rfl)
theorem dX2_takeFirst_1 : decode cX2_takeFirst 1 = .ok (.getfield 13, 3) := dk_180 0 13 (dk_at dksX2_takeFirst_0 1 rfl rfl)
theorem dX2_takeFirst_4 : decode cX2_takeFirst 4 = .ok (.ifCond .ne 5, 3) := dk_154 0 5 (dk_at dksX2_takeFirst_0 4 rfl rfl)
theorem dX2_takeFirst_7 : decode cX2_takeFirst 7 = .ok (.iconst 0, 1) := dk_3 (dk_at dksX2_takeFirst_0 7 rfl rfl)
theorem dX2_takeFirst_8 : decode cX2_takeFirst 8 = .ok (.ireturn, 1) := dk_172 (dk_at dksX2_takeFirst_0 8 rfl rfl)
theorem dX2_takeFirst_9 : decode cX2_takeFirst 9 = .ok (.aload_n 0, 1) := dk_42 (dk_at dksX2_takeFirst_0 9 rfl rfl)
theorem dX2_takeFirst_10 : decode cX2_takeFirst 10 = .ok (.getfield 7, 3) := dk_180 0 7 (dk_at dksX2_takeFirst_0 10 rfl rfl)
theorem dX2_takeFirst_13 : decode cX2_takeFirst 13 = .ok (.iconst 0, 1) := dk_3 (dk_at dksX2_takeFirst_0 13 rfl rfl)
theorem dX2_takeFirst_14 : decode cX2_takeFirst 14 = .ok (.iaload, 1) := dk_46 (dk_at dksX2_takeFirst_0 14 rfl rfl)
theorem dX2_takeFirst_15 : decode cX2_takeFirst 15 = .ok (.istore_n 1, 1) := dk_60 (dk_at dksX2_takeFirst_0 15 rfl rfl)
theorem dX2_takeFirst_16 : decode cX2_takeFirst 16 = .ok (.aload_n 0, 1) := dk_42 (dk_at dksX2_takeFirst_0 16 rfl rfl)
theorem dX2_takeFirst_17 : decode cX2_takeFirst 17 = .ok (.aload_n 0, 1) := dk_42 (dk_at dksX2_takeFirst_0 17 rfl rfl)
theorem dX2_takeFirst_18 : decode cX2_takeFirst 18 = .ok (.getfield 13, 3) := dk_180 0 13 (dk_at dksX2_takeFirst_0 18 rfl rfl)
theorem dX2_takeFirst_21 : decode cX2_takeFirst 21 = .ok (.iconst 1, 1) := dk_4 (dk_at dksX2_takeFirst_0 21 rfl rfl)
theorem dX2_takeFirst_22 : decode cX2_takeFirst 22 = .ok (.isub, 1) := dk_100 (dk_at dksX2_takeFirst_0 22 rfl rfl)
theorem dX2_takeFirst_23 : decode cX2_takeFirst 23 = .ok (.putfield 13, 3) := dk_181 0 13 (dk_at dksX2_takeFirst_1 0 rfl rfl)
theorem dX2_takeFirst_26 : decode cX2_takeFirst 26 = .ok (.iconst 0, 1) := dk_3 (dk_at dksX2_takeFirst_1 3 rfl rfl)
theorem dX2_takeFirst_27 : decode cX2_takeFirst 27 = .ok (.istore_n 2, 1) := dk_61 (dk_at dksX2_takeFirst_1 4 rfl rfl)
theorem dX2_takeFirst_28 : decode cX2_takeFirst 28 = .ok (.iload_n 2, 1) := dk_28 (dk_at dksX2_takeFirst_1 5 rfl rfl)
theorem dX2_takeFirst_29 : decode cX2_takeFirst 29 = .ok (.aload_n 0, 1) := dk_42 (dk_at dksX2_takeFirst_1 6 rfl rfl)
theorem dX2_takeFirst_30 : decode cX2_takeFirst 30 = .ok (.getfield 13, 3) := dk_180 0 13 (dk_at dksX2_takeFirst_1 7 rfl rfl)
theorem dX2_takeFirst_33 : decode cX2_takeFirst 33 = .ok (.if_icmp .ge 23, 3) := dk_162 0 23 (dk_at dksX2_takeFirst_1 10 rfl rfl)
theorem dX2_takeFirst_36 : decode cX2_takeFirst 36 = .ok (.aload_n 0, 1) := dk_42 (dk_at dksX2_takeFirst_1 13 rfl rfl)
theorem dX2_takeFirst_37 : decode cX2_takeFirst 37 = .ok (.getfield 7, 3) := dk_180 0 7 (dk_at dksX2_takeFirst_1 14 rfl rfl)
theorem dX2_takeFirst_40 : decode cX2_takeFirst 40 = .ok (.iload_n 2, 1) := dk_28 (dk_at dksX2_takeFirst_1 17 rfl rfl)
theorem dX2_takeFirst_41 : decode cX2_takeFirst 41 = .ok (.aload_n 0, 1) := dk_42 (dk_at dksX2_takeFirst_1 18 rfl rfl)
theorem dX2_takeFirst_42 : decode cX2_takeFirst 42 = .ok (.getfield 7, 3) := dk_180 0 7 (dk_at dksX2_takeFirst_1 19 rfl rfl)
theorem dX2_takeFirst_45 : decode cX2_takeFirst 45 = .ok (.iload_n 2, 1) := dk_28 (dk_at dksX2_takeFirst_1 22 rfl rfl)
theorem dX2_takeFirst_46 : decode cX2_takeFirst 46 = .ok (.iconst 1, 1) := dk_4 (dk_at dksX2_takeFirst_1 23 rfl rfl)
theorem dX2_takeFirst_47 : decode cX2_takeFirst 47 = .ok (.iadd, 1) := dk_96 (dk_at dksX2_takeFirst_2 0 rfl rfl)
theorem dX2_takeFirst_48 : decode cX2_takeFirst 48 = .ok (.iaload, 1) := dk_46 (dk_at dksX2_takeFirst_2 1 rfl rfl)
theorem dX2_takeFirst_49 : decode cX2_takeFirst 49 = .ok (.iastore, 1) := dk_79 (dk_at dksX2_takeFirst_2 2 rfl rfl)
theorem dX2_takeFirst_50 : decode cX2_takeFirst 50 = .ok (.iinc 2 1, 3) := dk_132 2 1 (dk_at dksX2_takeFirst_2 3 rfl rfl)
theorem dX2_takeFirst_53 : decode cX2_takeFirst 53 = .ok (.goto (-25), 3) := dk_167 255 231 (dk_at dksX2_takeFirst_2 6 rfl rfl)
theorem dX2_takeFirst_56 : decode cX2_takeFirst 56 = .ok (.iload_n 1, 1) := dk_27 (dk_at dksX2_takeFirst_2 9 rfl rfl)
theorem dX2_takeFirst_57 : decode cX2_takeFirst 57 = .ok (.ireturn, 1) := dk_172 (dk_at dksX2_takeFirst_2 10 rfl rfl)
abbrev cX2_takeLast : ByteArray := prog_3_method_5_code
def yX2_takeLast : MethodName := ⟨RX2, "takeLast", "()I"⟩
def dkwX2_takeLast_1 : List UInt8 := [180, 0, 13, 46, 172]
abbrev dktX2_takeLast_1 : List UInt8 := dkwX2_takeLast_1 ++ []
def dkwX2_takeLast_0 : List UInt8 := [42, 180, 0, 13, 154, 0, 5, 3, 172, 42, 42, 180, 0, 13, 4, 100, 181, 0, 13, 42, 180, 0, 7, 42]
abbrev dktX2_takeLast_0 : List UInt8 := dkwX2_takeLast_0 ++ dktX2_takeLast_1
theorem dksX2_takeLast_0 : cX2_takeLast.data.toList.drop 0 = dktX2_takeLast_0 := by decide +kernel
theorem dksX2_takeLast_1 : cX2_takeLast.data.toList.drop 24 = dktX2_takeLast_1 := dk_seg dksX2_takeLast_0 24 rfl rfl
theorem dX2_takeLast_0 : decode cX2_takeLast 0 = .ok (.aload_n 0, 1) := dk_42 (dk_at dksX2_takeLast_0 0 rfl rfl)
theorem dX2_takeLast_1 : decode cX2_takeLast 1 = .ok (.getfield 13, 3) := dk_180 0 13 (dk_at dksX2_takeLast_0 1 rfl rfl)
theorem dX2_takeLast_4 : decode cX2_takeLast 4 = .ok (.ifCond .ne 5, 3) := dk_154 0 5 (dk_at dksX2_takeLast_0 4 rfl rfl)
theorem dX2_takeLast_7 : decode cX2_takeLast 7 = .ok (.iconst 0, 1) := dk_3 (dk_at dksX2_takeLast_0 7 rfl rfl)
theorem dX2_takeLast_8 : decode cX2_takeLast 8 = .ok (.ireturn, 1) := dk_172 (dk_at dksX2_takeLast_0 8 rfl rfl)
theorem dX2_takeLast_9 : decode cX2_takeLast 9 = .ok (.aload_n 0, 1) := dk_42 (dk_at dksX2_takeLast_0 9 rfl rfl)
theorem dX2_takeLast_10 : decode cX2_takeLast 10 = .ok (.aload_n 0, 1) := dk_42 (dk_at dksX2_takeLast_0 10 rfl rfl)
theorem dX2_takeLast_11 : decode cX2_takeLast 11 = .ok (.getfield 13, 3) := dk_180 0 13 (dk_at dksX2_takeLast_0 11 rfl rfl)
theorem dX2_takeLast_14 : decode cX2_takeLast 14 = .ok (.iconst 1, 1) := dk_4 (dk_at dksX2_takeLast_0 14 rfl rfl)
theorem dX2_takeLast_15 : decode cX2_takeLast 15 = .ok (.isub, 1) := dk_100 (dk_at dksX2_takeLast_0 15 rfl rfl)
theorem dX2_takeLast_16 : decode cX2_takeLast 16 = .ok (.putfield 13, 3) := dk_181 0 13 (dk_at dksX2_takeLast_0 16 rfl rfl)
theorem dX2_takeLast_19 : decode cX2_takeLast 19 = .ok (.aload_n 0, 1) := dk_42 (dk_at dksX2_takeLast_0 19 rfl rfl)
theorem dX2_takeLast_20 : decode cX2_takeLast 20 = .ok (.getfield 7, 3) := dk_180 0 7 (dk_at dksX2_takeLast_0 20 rfl rfl)
theorem dX2_takeLast_23 : decode cX2_takeLast 23 = .ok (.aload_n 0, 1) := dk_42 (dk_at dksX2_takeLast_0 23 rfl rfl)
theorem dX2_takeLast_24 : decode cX2_takeLast 24 = .ok (.getfield 13, 3) := dk_180 0 13 (dk_at dksX2_takeLast_1 0 rfl rfl)
theorem dX2_takeLast_27 : decode cX2_takeLast 27 = .ok (.iaload, 1) := dk_46 (dk_at dksX2_takeLast_1 3 rfl rfl)
theorem dX2_takeLast_28 : decode cX2_takeLast 28 = .ok (.ireturn, 1) := dk_172 (dk_at dksX2_takeLast_1 4 rfl rfl)
abbrev cX2_first : ByteArray := prog_3_method_6_code
def yX2_first : MethodName := ⟨RX2, "first", "()I"⟩
def dkwX2_first_0 : List UInt8 := [42, 180, 0, 13, 154, 0, 7, 3, 167, 0, 9, 42, 180, 0, 7, 3, 46, 172]
abbrev dktX2_first_0 : List UInt8 := dkwX2_first_0 ++ []
theorem dksX2_first_0 : cX2_first.data.toList.drop 0 = dktX2_first_0 := by decide +kernel
theorem dX2_first_0 : decode cX2_first 0 = .ok (.aload_n 0, 1) := dk_42 (dk_at dksX2_first_0 0 rfl rfl)
theorem dX2_first_1 : decode cX2_first 1 = .ok (.getfield 13, 3) := dk_180 0 13 (dk_at dksX2_first_0 1 rfl rfl)
theorem dX2_first_4 : decode cX2_first 4 = .ok (.ifCond .ne 7, 3) := dk_154 0 7 (dk_at dksX2_first_0 4 rfl rfl)
theorem dX2_first_7 : decode cX2_first 7 = .ok (.iconst 0, 1) := dk_3 (dk_at dksX2_first_0 7 rfl rfl)
theorem dX2_first_8 : decode cX2_first 8 = .ok (.goto 9, 3) := dk_167 0 9 (dk_at dksX2_first_0 8 rfl rfl)
theorem dX2_first_11 : decode cX2_first 11 = .ok (.aload_n 0, 1) := dk_42 (dk_at dksX2_first_0 11 rfl rfl)
theorem dX2_first_12 : decode cX2_first 12 = .ok (.getfield 7, 3) := dk_180 0 7 (dk_at dksX2_first_0 12 rfl rfl)
theorem dX2_first_15 : decode cX2_first 15 = .ok (.iconst 0, 1) := dk_3 (dk_at dksX2_first_0 15 rfl rfl)
theorem dX2_first_16 : decode cX2_first 16 = .ok (.iaload, 1) := dk_46 (dk_at dksX2_first_0 16 rfl rfl)
theorem dX2_first_17 : decode cX2_first 17 = .ok (.ireturn, 1) := dk_172 (dk_at dksX2_first_0 17 rfl rfl)
abbrev cX2_last : ByteArray := prog_3_method_7_code
def yX2_last : MethodName := ⟨RX2, "last", "()I"⟩
def dkwX2_last_0 : List UInt8 := [42, 180, 0, 13, 154, 0, 7, 3, 167, 0, 14, 42, 180, 0, 7, 42, 180, 0, 13, 4, 100, 46, 172]
abbrev dktX2_last_0 : List UInt8 := dkwX2_last_0 ++ []
theorem dksX2_last_0 : cX2_last.data.toList.drop 0 = dktX2_last_0 := by decide +kernel
theorem dX2_last_0 : decode cX2_last 0 = .ok (.aload_n 0, 1) := dk_42 (dk_at dksX2_last_0 0 rfl rfl)
theorem dX2_last_1 : decode cX2_last 1 = .ok (.getfield 13, 3) := dk_180 0 13 (dk_at dksX2_last_0 1 rfl rfl)
theorem dX2_last_4 : decode cX2_last 4 = .ok (.ifCond .ne 7, 3) := dk_154 0 7 (dk_at dksX2_last_0 4 rfl rfl)
theorem dX2_last_7 : decode cX2_last 7 = .ok (.iconst 0, 1) := dk_3 (dk_at dksX2_last_0 7 rfl rfl)
theorem dX2_last_8 : decode cX2_last 8 = .ok (.goto 14, 3) := dk_167 0 14 (dk_at dksX2_last_0 8 rfl rfl)
theorem dX2_last_11 : decode cX2_last 11 = .ok (.aload_n 0, 1) := dk_42 (dk_at dksX2_last_0 11 rfl rfl)
theorem dX2_last_12 : decode cX2_last 12 = .ok (.getfield 7, 3) := dk_180 0 7 (dk_at dksX2_last_0 12 rfl rfl)
theorem dX2_last_15 : decode cX2_last 15 = .ok (.aload_n 0, 1) := dk_42 (dk_at dksX2_last_0 15 rfl rfl)
theorem dX2_last_16 : decode cX2_last 16 = .ok (.getfield 13, 3) := dk_180 0 13 (dk_at dksX2_last_0 16 rfl rfl)
theorem dX2_last_19 : decode cX2_last 19 = .ok (.iconst 1, 1) := dk_4 (dk_at dksX2_last_0 19 rfl rfl)
theorem dX2_last_20 : decode cX2_last 20 = .ok (.isub, 1) := dk_100 (dk_at dksX2_last_0 20 rfl rfl)
theorem dX2_last_21 : decode cX2_last 21 = .ok (.iaload, 1) := dk_46 (dk_at dksX2_last_0 21 rfl rfl)
theorem dX2_last_22 : decode cX2_last 22 = .ok (.ireturn, 1) := dk_172 (dk_at dksX2_last_0 22 rfl rfl)
abbrev cX2_size : ByteArray := prog_3_method_8_code
def yX2_size : MethodName := ⟨RX2, "size", "()I"⟩
theorem dX2_size_0 : decode cX2_size 0 = .ok (.aload_n 0, 1) := by decide +kernel
theorem dX2_size_1 : decode cX2_size 1 = .ok (.getfield 13, 3) := by decide +kernel
theorem dX2_size_4 : decode cX2_size 4 = .ok (.ireturn, 1) := by decide +kernel
abbrev cX2_trim : ByteArray := prog_3_method_9_code
def yX2_trim : MethodName := ⟨RX2, "trim", "()V"⟩
theorem dX2_trim_0 : decode cX2_trim 0 = .ok (.return_, 1) := by decide +kernel
abbrev cX2_clear : ByteArray := prog_3_method_10_code
def yX2_clear : MethodName := ⟨RX2, "clear", "()V"⟩
def dkwX2_clear_0 : List UInt8 := [42, 3, 181, 0, 13, 177]
abbrev dktX2_clear_0 : List UInt8 := dkwX2_clear_0 ++ []
theorem dksX2_clear_0 : cX2_clear.data.toList.drop 0 = dktX2_clear_0 := by decide +kernel
theorem dX2_clear_0 : decode cX2_clear 0 = .ok (.aload_n 0, 1) := dk_42 (dk_at dksX2_clear_0 0 rfl rfl)
theorem dX2_clear_1 : decode cX2_clear 1 = .ok (.iconst 0, 1) := dk_3 (dk_at dksX2_clear_0 1 rfl rfl)
theorem dX2_clear_2 : decode cX2_clear 2 = .ok (.putfield 13, 3) := dk_181 0 13 (dk_at dksX2_clear_0 2 rfl rfl)
theorem dX2_clear_5 : decode cX2_clear 5 = .ok (.return_, 1) := dk_177 (dk_at dksX2_clear_0 5 rfl rfl)
theorem q23 : (Jvm.Cond.initialized "CircleLineModel") ∈ lw_all := lw_g (lw_at lw_m1 19 rfl) rfl
theorem q490 : (Jvm.Cond.instantiable "CircleLineModel" (2 : Nat)) ∈ lw_all := lw_g (lw_at lw_m3 6 rfl) rfl
theorem q492 : (Jvm.Cond.instanceMethod ({ cls := "CircleLineModel", name := "<init>", desc := "()V" } : Jvm.MethodName)) ∈ lw_all := lw_g (lw_at lw_m3 8 rfl) rfl
theorem q493 : (Jvm.Cond.code ({ cls := "CircleLineModel", name := "<init>", desc := "()V" } : Jvm.MethodName) prog_3_method_1_code (1 : Nat) (Option.none : Option Jvm.ClassFile.FieldType)) ∈ lw_all := lw_g (lw_at lw_m3 9 rfl) rfl
theorem q494 : (Jvm.Cond.methodLink "CircleLineModel" (1 : Nat) ({ cls := "java/lang/Object", name := "<init>", desc := "()V" } : Jvm.MethodName)) ∈ lw_all := lw_g (lw_at lw_m3 10 rfl) rfl
theorem q495 : (Jvm.Cond.fieldLink "CircleLineModel" (7 : Nat) "CircleLineModel" "row" "[I") ∈ lw_all := lw_g (lw_at lw_m3 11 rfl) rfl
theorem q496 : (Jvm.Cond.fieldLink "CircleLineModel" (13 : Nat) "CircleLineModel" "size" "I") ∈ lw_all := lw_g (lw_at lw_m3 12 rfl) rfl
theorem q497 : (Jvm.Cond.laysFinal "CircleLineModel" "CircleLineModel" "row" "[I") ∈ lw_all := lw_g (lw_at lw_m3 13 rfl) rfl
theorem q498 : (Jvm.Cond.soleField "CircleLineModel" "row") ∈ lw_all := lw_g (lw_at lw_m3 14 rfl) rfl
theorem q499 : (Jvm.Cond.lays "CircleLineModel" "CircleLineModel" "size" "I") ∈ lw_all := lw_g (lw_at lw_m3 15 rfl) rfl
theorem q500 : (Jvm.Cond.soleField "CircleLineModel" "size") ∈ lw_all := lw_g (lw_at lw_m3 16 rfl) rfl
theorem q501 : (Jvm.Cond.superclass "CircleLineModel" "java/lang/Object") ∈ lw_all := lw_g (lw_at lw_m3 17 rfl) rfl
theorem q503 : (Jvm.Cond.instanceMethod ({ cls := "CircleLineModel", name := "back", desc := "(I)Z" } : Jvm.MethodName)) ∈ lw_all := lw_g (lw_at lw_m3 19 rfl) rfl
theorem q504 : (Jvm.Cond.selects "CircleLineModel" ({ cls := "CircleLineModel", name := "back", desc := "(I)Z" } : Jvm.MethodName) ({ cls := "CircleLineModel", name := "back", desc := "(I)Z" } : Jvm.MethodName)) ∈ lw_all := lw_g (lw_at lw_m3 20 rfl) rfl
theorem q505 : (Jvm.Cond.code ({ cls := "CircleLineModel", name := "back", desc := "(I)Z" } : Jvm.MethodName) prog_3_method_2_code (2 : Nat) (Option.some Jvm.ClassFile.FieldType.boolean)) ∈ lw_all := lw_g (lw_at lw_m3 21 rfl) rfl
theorem q507 : (Jvm.Cond.instanceMethod ({ cls := "CircleLineModel", name := "front", desc := "(I)Z" } : Jvm.MethodName)) ∈ lw_all := lw_g (lw_at lw_m3 23 rfl) rfl
theorem q508 : (Jvm.Cond.selects "CircleLineModel" ({ cls := "CircleLineModel", name := "front", desc := "(I)Z" } : Jvm.MethodName) ({ cls := "CircleLineModel", name := "front", desc := "(I)Z" } : Jvm.MethodName)) ∈ lw_all := lw_g (lw_at lw_m3 24 rfl) rfl
theorem q509 : (Jvm.Cond.code ({ cls := "CircleLineModel", name := "front", desc := "(I)Z" } : Jvm.MethodName) prog_3_method_3_code (3 : Nat) (Option.some Jvm.ClassFile.FieldType.boolean)) ∈ lw_all := lw_g (lw_at lw_m3 25 rfl) rfl
theorem q511 : (Jvm.Cond.instanceMethod ({ cls := "CircleLineModel", name := "takeFirst", desc := "()I" } : Jvm.MethodName)) ∈ lw_all := lw_g (lw_at lw_m3 27 rfl) rfl
theorem q512 : (Jvm.Cond.selects "CircleLineModel" ({ cls := "CircleLineModel", name := "takeFirst", desc := "()I" } : Jvm.MethodName) ({ cls := "CircleLineModel", name := "takeFirst", desc := "()I" } : Jvm.MethodName)) ∈ lw_all := lw_g (lw_at lw_m3 28 rfl) rfl
theorem q513 : (Jvm.Cond.code ({ cls := "CircleLineModel", name := "takeFirst", desc := "()I" } : Jvm.MethodName) prog_3_method_4_code (3 : Nat) (Option.some Jvm.ClassFile.FieldType.int)) ∈ lw_all := lw_g (lw_at lw_m3 29 rfl) rfl
theorem q515 : (Jvm.Cond.instanceMethod ({ cls := "CircleLineModel", name := "takeLast", desc := "()I" } : Jvm.MethodName)) ∈ lw_all := lw_g (lw_at lw_m3 31 rfl) rfl
theorem q516 : (Jvm.Cond.selects "CircleLineModel" ({ cls := "CircleLineModel", name := "takeLast", desc := "()I" } : Jvm.MethodName) ({ cls := "CircleLineModel", name := "takeLast", desc := "()I" } : Jvm.MethodName)) ∈ lw_all := lw_g (lw_at lw_m3 32 rfl) rfl
theorem q517 : (Jvm.Cond.code ({ cls := "CircleLineModel", name := "takeLast", desc := "()I" } : Jvm.MethodName) prog_3_method_5_code (1 : Nat) (Option.some Jvm.ClassFile.FieldType.int)) ∈ lw_all := lw_g (lw_at lw_m3 33 rfl) rfl
theorem q519 : (Jvm.Cond.instanceMethod ({ cls := "CircleLineModel", name := "first", desc := "()I" } : Jvm.MethodName)) ∈ lw_all := lw_g (lw_at lw_m3 35 rfl) rfl
theorem q520 : (Jvm.Cond.selects "CircleLineModel" ({ cls := "CircleLineModel", name := "first", desc := "()I" } : Jvm.MethodName) ({ cls := "CircleLineModel", name := "first", desc := "()I" } : Jvm.MethodName)) ∈ lw_all := lw_g (lw_at lw_m3 36 rfl) rfl
theorem q521 : (Jvm.Cond.code ({ cls := "CircleLineModel", name := "first", desc := "()I" } : Jvm.MethodName) prog_3_method_6_code (1 : Nat) (Option.some Jvm.ClassFile.FieldType.int)) ∈ lw_all := lw_g (lw_at lw_m3 37 rfl) rfl
theorem q523 : (Jvm.Cond.instanceMethod ({ cls := "CircleLineModel", name := "last", desc := "()I" } : Jvm.MethodName)) ∈ lw_all := lw_g (lw_at lw_m3 39 rfl) rfl
theorem q524 : (Jvm.Cond.selects "CircleLineModel" ({ cls := "CircleLineModel", name := "last", desc := "()I" } : Jvm.MethodName) ({ cls := "CircleLineModel", name := "last", desc := "()I" } : Jvm.MethodName)) ∈ lw_all := lw_g (lw_at lw_m3 40 rfl) rfl
theorem q525 : (Jvm.Cond.code ({ cls := "CircleLineModel", name := "last", desc := "()I" } : Jvm.MethodName) prog_3_method_7_code (1 : Nat) (Option.some Jvm.ClassFile.FieldType.int)) ∈ lw_all := lw_g (lw_at lw_m3 41 rfl) rfl
theorem q527 : (Jvm.Cond.instanceMethod ({ cls := "CircleLineModel", name := "size", desc := "()I" } : Jvm.MethodName)) ∈ lw_all := lw_g (lw_at lw_m3 43 rfl) rfl
theorem q528 : (Jvm.Cond.selects "CircleLineModel" ({ cls := "CircleLineModel", name := "size", desc := "()I" } : Jvm.MethodName) ({ cls := "CircleLineModel", name := "size", desc := "()I" } : Jvm.MethodName)) ∈ lw_all := lw_g (lw_at lw_m3 44 rfl) rfl
theorem q529 : (Jvm.Cond.code ({ cls := "CircleLineModel", name := "size", desc := "()I" } : Jvm.MethodName) prog_3_method_8_code (1 : Nat) (Option.some Jvm.ClassFile.FieldType.int)) ∈ lw_all := lw_g (lw_at lw_m3 45 rfl) rfl
theorem q531 : (Jvm.Cond.instanceMethod ({ cls := "CircleLineModel", name := "trim", desc := "()V" } : Jvm.MethodName)) ∈ lw_all := lw_g (lw_at lw_m3 47 rfl) rfl
theorem q532 : (Jvm.Cond.selects "CircleLineModel" ({ cls := "CircleLineModel", name := "trim", desc := "()V" } : Jvm.MethodName) ({ cls := "CircleLineModel", name := "trim", desc := "()V" } : Jvm.MethodName)) ∈ lw_all := lw_g (lw_at lw_m3 48 rfl) rfl
theorem q533 : (Jvm.Cond.code ({ cls := "CircleLineModel", name := "trim", desc := "()V" } : Jvm.MethodName) prog_3_method_9_code (1 : Nat) (Option.none : Option Jvm.ClassFile.FieldType)) ∈ lw_all := lw_g (lw_at lw_m3 49 rfl) rfl
theorem q535 : (Jvm.Cond.instanceMethod ({ cls := "CircleLineModel", name := "clear", desc := "()V" } : Jvm.MethodName)) ∈ lw_all := lw_g (lw_at lw_m3 51 rfl) rfl
theorem q536 : (Jvm.Cond.selects "CircleLineModel" ({ cls := "CircleLineModel", name := "clear", desc := "()V" } : Jvm.MethodName) ({ cls := "CircleLineModel", name := "clear", desc := "()V" } : Jvm.MethodName)) ∈ lw_all := lw_g (lw_at lw_m3 52 rfl) rfl
theorem q537 : (Jvm.Cond.code ({ cls := "CircleLineModel", name := "clear", desc := "()V" } : Jvm.MethodName) prog_3_method_10_code (1 : Nat) (Option.none : Option Jvm.ClassFile.FieldType)) ∈ lw_all := lw_g (lw_at lw_m3 53 rfl) rfl
theorem q554 : (Jvm.Cond.castable "CircleLineModel" "java/lang/Object") ∈ lw_tbl := lw_at lw_m3 70 rfl
theorem in_X2 : ∀ w ∈ wsX20, w ∈ lw_all := lw_in wsX20 [497, 499] (by decide +kernel) (by decide +kernel)
/-! the law's own entry -/
set_option maxRecDepth 100000
abbrev cL_law : ByteArray := code
def dkwL_law_9 : List UInt8 := [172]
abbrev dktL_law_9 : List UInt8 := dkwL_law_9 ++ []
def dkwL_law_8 : List UInt8 := [182, 0, 46, 167, 0, 14, 43, 182, 0, 47, 44, 182, 0, 50, 167, 0, 3, 132, 3, 6, 167, 255, 54, 4]
abbrev dktL_law_8 : List UInt8 := dkwL_law_8 ++ dktL_law_9
def dkwL_law_7 : List UInt8 := [159, 0, 40, 3, 172, 43, 182, 0, 39, 44, 182, 0, 42, 159, 0, 27, 3, 172, 43, 182, 0, 43, 44]
abbrev dktL_law_7 : List UInt8 := dkwL_law_7 ++ dktL_law_8
def dkwL_law_6 : List UInt8 := [172, 43, 182, 0, 31, 44, 182, 0, 34, 159, 0, 53, 3, 172, 43, 182, 0, 35, 44, 182, 0, 38]
abbrev dktL_law_6 : List UInt8 := dkwL_law_6 ++ dktL_law_7
def dkwL_law_5 : List UInt8 := [182, 0, 22, 44, 182, 0, 26, 159, 0, 79, 3, 172, 43, 182, 0, 27, 44, 182, 0, 30, 159, 0, 66, 3]
abbrev dktL_law_5 : List UInt8 := dkwL_law_5 ++ dktL_law_6
def dkwL_law_4 : List UInt8 := [42, 29, 4, 96, 46, 182, 0, 18, 44, 42, 29, 4, 96, 46, 182, 0, 21, 159, 0, 92, 3, 172, 43]
abbrev dktL_law_4 : List UInt8 := dkwL_law_4 ++ dktL_law_5
def dkwL_law_3 : List UInt8 := [43, 42, 29, 4, 96, 46, 182, 0, 13, 44, 42, 29, 4, 96, 46, 182, 0, 17, 159, 0, 115, 3, 172, 43]
abbrev dktL_law_3 : List UInt8 := dkwL_law_3 ++ dktL_law_4
def dkwL_law_2 : List UInt8 := [170, 0, 0, 0, 0, 0, 184, 0, 0, 0, 0, 0, 0, 0, 8, 0, 0, 0, 51, 0, 0, 0, 74, 0, 0, 0, 97, 0, 0, 0, 110, 0, 0, 0, 123, 0, 0, 0, 136, 0, 0, 0, 149, 0, 0, 0, 162, 0, 0, 0, 173]
abbrev dktL_law_2 : List UInt8 := dkwL_law_2 ++ dktL_law_3
def dkwL_law_1 : List UInt8 := [163, 0, 199, 42, 29, 46, 16, 15, 126]
abbrev dktL_law_1 : List UInt8 := dkwL_law_1 ++ dktL_law_2
def dkwL_law_0 : List UInt8 := [187, 0, 7, 89, 183, 0, 9, 76, 187, 0, 10, 89, 183, 0, 12, 77, 3, 62, 29, 42, 190, 16, 6, 100]
abbrev dktL_law_0 : List UInt8 := dkwL_law_0 ++ dktL_law_1
theorem dksL_law_0 : cL_law.data.toList.drop 0 = dktL_law_0 := by decide +kernel
theorem dksL_law_1 : cL_law.data.toList.drop 24 = dktL_law_1 := dk_seg dksL_law_0 24 rfl rfl
theorem dksL_law_2 : cL_law.data.toList.drop 33 = dktL_law_2 := dk_seg dksL_law_1 9 rfl rfl
theorem dksL_law_3 : cL_law.data.toList.drop 84 = dktL_law_3 := dk_seg dksL_law_2 51 rfl rfl
theorem dksL_law_4 : cL_law.data.toList.drop 108 = dktL_law_4 := dk_seg dksL_law_3 24 rfl rfl
theorem dksL_law_5 : cL_law.data.toList.drop 131 = dktL_law_5 := dk_seg dksL_law_4 23 rfl rfl
theorem dksL_law_6 : cL_law.data.toList.drop 155 = dktL_law_6 := dk_seg dksL_law_5 24 rfl rfl
theorem dksL_law_7 : cL_law.data.toList.drop 177 = dktL_law_7 := dk_seg dksL_law_6 22 rfl rfl
theorem dksL_law_8 : cL_law.data.toList.drop 200 = dktL_law_8 := dk_seg dksL_law_7 23 rfl rfl
theorem dksL_law_9 : cL_law.data.toList.drop 224 = dktL_law_9 := dk_seg dksL_law_8 24 rfl rfl
theorem dL_law_0 : decode cL_law 0 = .ok (.new 7, 3) := dk_187 0 7 (dk_at dksL_law_0 0 rfl rfl)
theorem dL_law_3 : decode cL_law 3 = .ok (.dup, 1) := dk_89 (dk_at dksL_law_0 3 rfl rfl)
theorem dL_law_4 : decode cL_law 4 = .ok (.invokespecial 9, 3) := dk_183 0 9 (dk_at dksL_law_0 4 rfl rfl)
theorem dL_law_7 : decode cL_law 7 = .ok (.astore_n 1, 1) := dk_76 (dk_at dksL_law_0 7 rfl rfl)
theorem dL_law_8 : decode cL_law 8 = .ok (.new 10, 3) := dk_187 0 10 (dk_at dksL_law_0 8 rfl rfl)
theorem dL_law_11 : decode cL_law 11 = .ok (.dup, 1) := dk_89 (dk_at dksL_law_0 11 rfl rfl)
theorem dL_law_12 : decode cL_law 12 = .ok (.invokespecial 12, 3) := dk_183 0 12 (dk_at dksL_law_0 12 rfl rfl)
theorem dL_law_15 : decode cL_law 15 = .ok (.astore_n 2, 1) := dk_77 (dk_at dksL_law_0 15 rfl rfl)
theorem dL_law_16 : decode cL_law 16 = .ok (.iconst 0, 1) := dk_3 (dk_at dksL_law_0 16 rfl rfl)
theorem dL_law_17 : decode cL_law 17 = .ok (.istore_n 3, 1) := dk_62 (dk_at dksL_law_0 17 rfl rfl)
theorem dL_law_18 : decode cL_law 18 = .ok (.iload_n 3, 1) := dk_29 (dk_at dksL_law_0 18 rfl rfl)
theorem dL_law_19 : decode cL_law 19 = .ok (.aload_n 0, 1) := dk_42 (dk_at dksL_law_0 19 rfl rfl)
theorem dL_law_20 : decode cL_law 20 = .ok (.arraylength, 1) := dk_190 (dk_at dksL_law_0 20 rfl rfl)
theorem dL_law_21 : decode cL_law 21 = .ok (.bipush 6, 2) := dk_16 6 (dk_at dksL_law_0 21 rfl rfl)
theorem dL_law_23 : decode cL_law 23 = .ok (.isub, 1) := dk_100 (dk_at dksL_law_0 23 rfl rfl)
theorem dL_law_24 : decode cL_law 24 = .ok (.if_icmp .gt 199, 3) := dk_163 0 199 (dk_at dksL_law_1 0 rfl rfl)
theorem dL_law_27 : decode cL_law 27 = .ok (.aload_n 0, 1) := dk_42 (dk_at dksL_law_1 3 rfl rfl)
theorem dL_law_28 : decode cL_law 28 = .ok (.iload_n 3, 1) := dk_29 (dk_at dksL_law_1 4 rfl rfl)
theorem dL_law_29 : decode cL_law 29 = .ok (.iaload, 1) := dk_46 (dk_at dksL_law_1 5 rfl rfl)
theorem dL_law_30 : decode cL_law 30 = .ok (.bipush 15, 2) := dk_16 15 (dk_at dksL_law_1 6 rfl rfl)
theorem dL_law_32 : decode cL_law 32 = .ok (.iand, 1) := dk_126 (dk_at dksL_law_1 8 rfl rfl)
theorem dL_law_33 : decode cL_law 33 = .ok (.tableswitch 184 0 8 #[51, 74, 97, 110, 123, 136, 149, 162, 173], 51) := by decide +kernel
theorem dL_law_84 : decode cL_law 84 = .ok (.aload_n 1, 1) := dk_43 (dk_at dksL_law_3 0 rfl rfl)
theorem dL_law_85 : decode cL_law 85 = .ok (.aload_n 0, 1) := dk_42 (dk_at dksL_law_3 1 rfl rfl)
theorem dL_law_86 : decode cL_law 86 = .ok (.iload_n 3, 1) := dk_29 (dk_at dksL_law_3 2 rfl rfl)
theorem dL_law_87 : decode cL_law 87 = .ok (.iconst 1, 1) := dk_4 (dk_at dksL_law_3 3 rfl rfl)
theorem dL_law_88 : decode cL_law 88 = .ok (.iadd, 1) := dk_96 (dk_at dksL_law_3 4 rfl rfl)
theorem dL_law_89 : decode cL_law 89 = .ok (.iaload, 1) := dk_46 (dk_at dksL_law_3 5 rfl rfl)
theorem dL_law_90 : decode cL_law 90 = .ok (.invokevirtual 13, 3) := dk_182 0 13 (dk_at dksL_law_3 6 rfl rfl)
theorem dL_law_93 : decode cL_law 93 = .ok (.aload_n 2, 1) := dk_44 (dk_at dksL_law_3 9 rfl rfl)
theorem dL_law_94 : decode cL_law 94 = .ok (.aload_n 0, 1) := dk_42 (dk_at dksL_law_3 10 rfl rfl)
theorem dL_law_95 : decode cL_law 95 = .ok (.iload_n 3, 1) := dk_29 (dk_at dksL_law_3 11 rfl rfl)
theorem dL_law_96 : decode cL_law 96 = .ok (.iconst 1, 1) := dk_4 (dk_at dksL_law_3 12 rfl rfl)
theorem dL_law_97 : decode cL_law 97 = .ok (.iadd, 1) := dk_96 (dk_at dksL_law_3 13 rfl rfl)
theorem dL_law_98 : decode cL_law 98 = .ok (.iaload, 1) := dk_46 (dk_at dksL_law_3 14 rfl rfl)
theorem dL_law_99 : decode cL_law 99 = .ok (.invokevirtual 17, 3) := dk_182 0 17 (dk_at dksL_law_3 15 rfl rfl)
theorem dL_law_102 : decode cL_law 102 = .ok (.if_icmp .eq 115, 3) := dk_159 0 115 (dk_at dksL_law_3 18 rfl rfl)
theorem dL_law_105 : decode cL_law 105 = .ok (.iconst 0, 1) := dk_3 (dk_at dksL_law_3 21 rfl rfl)
theorem dL_law_106 : decode cL_law 106 = .ok (.ireturn, 1) := dk_172 (dk_at dksL_law_3 22 rfl rfl)
theorem dL_law_107 : decode cL_law 107 = .ok (.aload_n 1, 1) := dk_43 (dk_at dksL_law_3 23 rfl rfl)
theorem dL_law_108 : decode cL_law 108 = .ok (.aload_n 0, 1) := dk_42 (dk_at dksL_law_4 0 rfl rfl)
theorem dL_law_109 : decode cL_law 109 = .ok (.iload_n 3, 1) := dk_29 (dk_at dksL_law_4 1 rfl rfl)
theorem dL_law_110 : decode cL_law 110 = .ok (.iconst 1, 1) := dk_4 (dk_at dksL_law_4 2 rfl rfl)
theorem dL_law_111 : decode cL_law 111 = .ok (.iadd, 1) := dk_96 (dk_at dksL_law_4 3 rfl rfl)
theorem dL_law_112 : decode cL_law 112 = .ok (.iaload, 1) := dk_46 (dk_at dksL_law_4 4 rfl rfl)
theorem dL_law_113 : decode cL_law 113 = .ok (.invokevirtual 18, 3) := dk_182 0 18 (dk_at dksL_law_4 5 rfl rfl)
theorem dL_law_116 : decode cL_law 116 = .ok (.aload_n 2, 1) := dk_44 (dk_at dksL_law_4 8 rfl rfl)
theorem dL_law_117 : decode cL_law 117 = .ok (.aload_n 0, 1) := dk_42 (dk_at dksL_law_4 9 rfl rfl)
theorem dL_law_118 : decode cL_law 118 = .ok (.iload_n 3, 1) := dk_29 (dk_at dksL_law_4 10 rfl rfl)
theorem dL_law_119 : decode cL_law 119 = .ok (.iconst 1, 1) := dk_4 (dk_at dksL_law_4 11 rfl rfl)
theorem dL_law_120 : decode cL_law 120 = .ok (.iadd, 1) := dk_96 (dk_at dksL_law_4 12 rfl rfl)
theorem dL_law_121 : decode cL_law 121 = .ok (.iaload, 1) := dk_46 (dk_at dksL_law_4 13 rfl rfl)
theorem dL_law_122 : decode cL_law 122 = .ok (.invokevirtual 21, 3) := dk_182 0 21 (dk_at dksL_law_4 14 rfl rfl)
theorem dL_law_125 : decode cL_law 125 = .ok (.if_icmp .eq 92, 3) := dk_159 0 92 (dk_at dksL_law_4 17 rfl rfl)
theorem dL_law_128 : decode cL_law 128 = .ok (.iconst 0, 1) := dk_3 (dk_at dksL_law_4 20 rfl rfl)
theorem dL_law_129 : decode cL_law 129 = .ok (.ireturn, 1) := dk_172 (dk_at dksL_law_4 21 rfl rfl)
theorem dL_law_130 : decode cL_law 130 = .ok (.aload_n 1, 1) := dk_43 (dk_at dksL_law_4 22 rfl rfl)
theorem dL_law_131 : decode cL_law 131 = .ok (.invokevirtual 22, 3) := dk_182 0 22 (dk_at dksL_law_5 0 rfl rfl)
theorem dL_law_134 : decode cL_law 134 = .ok (.aload_n 2, 1) := dk_44 (dk_at dksL_law_5 3 rfl rfl)
theorem dL_law_135 : decode cL_law 135 = .ok (.invokevirtual 26, 3) := dk_182 0 26 (dk_at dksL_law_5 4 rfl rfl)
theorem dL_law_138 : decode cL_law 138 = .ok (.if_icmp .eq 79, 3) := dk_159 0 79 (dk_at dksL_law_5 7 rfl rfl)
theorem dL_law_141 : decode cL_law 141 = .ok (.iconst 0, 1) := dk_3 (dk_at dksL_law_5 10 rfl rfl)
theorem dL_law_142 : decode cL_law 142 = .ok (.ireturn, 1) := dk_172 (dk_at dksL_law_5 11 rfl rfl)
theorem dL_law_143 : decode cL_law 143 = .ok (.aload_n 1, 1) := dk_43 (dk_at dksL_law_5 12 rfl rfl)
theorem dL_law_144 : decode cL_law 144 = .ok (.invokevirtual 27, 3) := dk_182 0 27 (dk_at dksL_law_5 13 rfl rfl)
theorem dL_law_147 : decode cL_law 147 = .ok (.aload_n 2, 1) := dk_44 (dk_at dksL_law_5 16 rfl rfl)
theorem dL_law_148 : decode cL_law 148 = .ok (.invokevirtual 30, 3) := dk_182 0 30 (dk_at dksL_law_5 17 rfl rfl)
theorem dL_law_151 : decode cL_law 151 = .ok (.if_icmp .eq 66, 3) := dk_159 0 66 (dk_at dksL_law_5 20 rfl rfl)
theorem dL_law_154 : decode cL_law 154 = .ok (.iconst 0, 1) := dk_3 (dk_at dksL_law_5 23 rfl rfl)
theorem dL_law_155 : decode cL_law 155 = .ok (.ireturn, 1) := dk_172 (dk_at dksL_law_6 0 rfl rfl)
theorem dL_law_156 : decode cL_law 156 = .ok (.aload_n 1, 1) := dk_43 (dk_at dksL_law_6 1 rfl rfl)
theorem dL_law_157 : decode cL_law 157 = .ok (.invokevirtual 31, 3) := dk_182 0 31 (dk_at dksL_law_6 2 rfl rfl)
theorem dL_law_160 : decode cL_law 160 = .ok (.aload_n 2, 1) := dk_44 (dk_at dksL_law_6 5 rfl rfl)
theorem dL_law_161 : decode cL_law 161 = .ok (.invokevirtual 34, 3) := dk_182 0 34 (dk_at dksL_law_6 6 rfl rfl)
theorem dL_law_164 : decode cL_law 164 = .ok (.if_icmp .eq 53, 3) := dk_159 0 53 (dk_at dksL_law_6 9 rfl rfl)
theorem dL_law_167 : decode cL_law 167 = .ok (.iconst 0, 1) := dk_3 (dk_at dksL_law_6 12 rfl rfl)
theorem dL_law_168 : decode cL_law 168 = .ok (.ireturn, 1) := dk_172 (dk_at dksL_law_6 13 rfl rfl)
theorem dL_law_169 : decode cL_law 169 = .ok (.aload_n 1, 1) := dk_43 (dk_at dksL_law_6 14 rfl rfl)
theorem dL_law_170 : decode cL_law 170 = .ok (.invokevirtual 35, 3) := dk_182 0 35 (dk_at dksL_law_6 15 rfl rfl)
theorem dL_law_173 : decode cL_law 173 = .ok (.aload_n 2, 1) := dk_44 (dk_at dksL_law_6 18 rfl rfl)
theorem dL_law_174 : decode cL_law 174 = .ok (.invokevirtual 38, 3) := dk_182 0 38 (dk_at dksL_law_6 19 rfl rfl)
theorem dL_law_177 : decode cL_law 177 = .ok (.if_icmp .eq 40, 3) := dk_159 0 40 (dk_at dksL_law_7 0 rfl rfl)
theorem dL_law_180 : decode cL_law 180 = .ok (.iconst 0, 1) := dk_3 (dk_at dksL_law_7 3 rfl rfl)
theorem dL_law_181 : decode cL_law 181 = .ok (.ireturn, 1) := dk_172 (dk_at dksL_law_7 4 rfl rfl)
theorem dL_law_182 : decode cL_law 182 = .ok (.aload_n 1, 1) := dk_43 (dk_at dksL_law_7 5 rfl rfl)
theorem dL_law_183 : decode cL_law 183 = .ok (.invokevirtual 39, 3) := dk_182 0 39 (dk_at dksL_law_7 6 rfl rfl)
theorem dL_law_186 : decode cL_law 186 = .ok (.aload_n 2, 1) := dk_44 (dk_at dksL_law_7 9 rfl rfl)
theorem dL_law_187 : decode cL_law 187 = .ok (.invokevirtual 42, 3) := dk_182 0 42 (dk_at dksL_law_7 10 rfl rfl)
theorem dL_law_190 : decode cL_law 190 = .ok (.if_icmp .eq 27, 3) := dk_159 0 27 (dk_at dksL_law_7 13 rfl rfl)
theorem dL_law_193 : decode cL_law 193 = .ok (.iconst 0, 1) := dk_3 (dk_at dksL_law_7 16 rfl rfl)
theorem dL_law_194 : decode cL_law 194 = .ok (.ireturn, 1) := dk_172 (dk_at dksL_law_7 17 rfl rfl)
theorem dL_law_195 : decode cL_law 195 = .ok (.aload_n 1, 1) := dk_43 (dk_at dksL_law_7 18 rfl rfl)
theorem dL_law_196 : decode cL_law 196 = .ok (.invokevirtual 43, 3) := dk_182 0 43 (dk_at dksL_law_7 19 rfl rfl)
theorem dL_law_199 : decode cL_law 199 = .ok (.aload_n 2, 1) := dk_44 (dk_at dksL_law_7 22 rfl rfl)
theorem dL_law_200 : decode cL_law 200 = .ok (.invokevirtual 46, 3) := dk_182 0 46 (dk_at dksL_law_8 0 rfl rfl)
theorem dL_law_203 : decode cL_law 203 = .ok (.goto 14, 3) := dk_167 0 14 (dk_at dksL_law_8 3 rfl rfl)
theorem dL_law_206 : decode cL_law 206 = .ok (.aload_n 1, 1) := dk_43 (dk_at dksL_law_8 6 rfl rfl)
theorem dL_law_207 : decode cL_law 207 = .ok (.invokevirtual 47, 3) := dk_182 0 47 (dk_at dksL_law_8 7 rfl rfl)
theorem dL_law_210 : decode cL_law 210 = .ok (.aload_n 2, 1) := dk_44 (dk_at dksL_law_8 10 rfl rfl)
theorem dL_law_211 : decode cL_law 211 = .ok (.invokevirtual 50, 3) := dk_182 0 50 (dk_at dksL_law_8 11 rfl rfl)
theorem dL_law_214 : decode cL_law 214 = .ok (.goto 3, 3) := dk_167 0 3 (dk_at dksL_law_8 14 rfl rfl)
theorem dL_law_217 : decode cL_law 217 = .ok (.iinc 3 6, 3) := dk_132 3 6 (dk_at dksL_law_8 17 rfl rfl)
theorem dL_law_220 : decode cL_law 220 = .ok (.goto (-202), 3) := dk_167 255 54 (dk_at dksL_law_8 20 rfl rfl)
theorem dL_law_223 : decode cL_law 223 = .ok (.iconst 1, 1) := dk_4 (dk_at dksL_law_8 23 rfl rfl)
theorem dL_law_224 : decode cL_law 224 = .ok (.ireturn, 1) := dk_172 (dk_at dksL_law_9 0 rfl rfl)
theorem q4 : (Jvm.Cond.initialized "CircleLineLaw") ∈ lw_all := lw_g (lw_at lw_m1 0 rfl) rfl
set_option maxRecDepth 100000
theorem q25 : (Jvm.Cond.classLink "CircleLineLaw" (7 : Nat) "CircleLine") ∈ lw_all := lw_g (lw_at lw_m1 21 rfl) rfl
theorem q27 : (Jvm.Cond.methodLink "CircleLineLaw" (9 : Nat) ({ cls := "CircleLine", name := "<init>", desc := "()V" } : Jvm.MethodName)) ∈ lw_all := lw_g (lw_at lw_m1 23 rfl) rfl
theorem q364 : (Jvm.Cond.methodLink "CircleLineLaw" (13 : Nat) ({ cls := "CircleLine", name := "back", desc := "(I)Z" } : Jvm.MethodName)) ∈ lw_all := lw_g (lw_at lw_m2 120 rfl) rfl
theorem q390 : (Jvm.Cond.methodLink "CircleLineLaw" (18 : Nat) ({ cls := "CircleLine", name := "front", desc := "(I)Z" } : Jvm.MethodName)) ∈ lw_all := lw_g (lw_at lw_m2 146 rfl) rfl
theorem q398 : (Jvm.Cond.methodLink "CircleLineLaw" (22 : Nat) ({ cls := "CircleLine", name := "takeFirst", desc := "()I" } : Jvm.MethodName)) ∈ lw_all := lw_g (lw_at lw_m2 154 rfl) rfl
theorem q445 : (Jvm.Cond.methodLink "CircleLineLaw" (27 : Nat) ({ cls := "CircleLine", name := "takeLast", desc := "()I" } : Jvm.MethodName)) ∈ lw_all := lw_g (lw_at lw_m2 201 rfl) rfl
theorem q453 : (Jvm.Cond.methodLink "CircleLineLaw" (31 : Nat) ({ cls := "CircleLine", name := "first", desc := "()I" } : Jvm.MethodName)) ∈ lw_all := lw_g (lw_at lw_m2 209 rfl) rfl
theorem q461 : (Jvm.Cond.methodLink "CircleLineLaw" (35 : Nat) ({ cls := "CircleLine", name := "last", desc := "()I" } : Jvm.MethodName)) ∈ lw_all := lw_g (lw_at lw_m2 217 rfl) rfl
theorem q469 : (Jvm.Cond.methodLink "CircleLineLaw" (39 : Nat) ({ cls := "CircleLine", name := "size", desc := "()I" } : Jvm.MethodName)) ∈ lw_all := lw_g (lw_at lw_m2 225 rfl) rfl
theorem q473 : (Jvm.Cond.methodLink "CircleLineLaw" (43 : Nat) ({ cls := "CircleLine", name := "trim", desc := "()V" } : Jvm.MethodName)) ∈ lw_all := lw_g (lw_at lw_m2 229 rfl) rfl
theorem q481 : (Jvm.Cond.methodLink "CircleLineLaw" (47 : Nat) ({ cls := "CircleLine", name := "clear", desc := "()V" } : Jvm.MethodName)) ∈ lw_all := lw_g (lw_at lw_m2 237 rfl) rfl
theorem q489 : (Jvm.Cond.classLink "CircleLineLaw" (10 : Nat) "CircleLineModel") ∈ lw_all := lw_g (lw_at lw_m3 5 rfl) rfl
theorem q491 : (Jvm.Cond.methodLink "CircleLineLaw" (12 : Nat) ({ cls := "CircleLineModel", name := "<init>", desc := "()V" } : Jvm.MethodName)) ∈ lw_all := lw_g (lw_at lw_m3 7 rfl) rfl
theorem q502 : (Jvm.Cond.methodLink "CircleLineLaw" (17 : Nat) ({ cls := "CircleLineModel", name := "back", desc := "(I)Z" } : Jvm.MethodName)) ∈ lw_all := lw_g (lw_at lw_m3 18 rfl) rfl
theorem q506 : (Jvm.Cond.methodLink "CircleLineLaw" (21 : Nat) ({ cls := "CircleLineModel", name := "front", desc := "(I)Z" } : Jvm.MethodName)) ∈ lw_all := lw_g (lw_at lw_m3 22 rfl) rfl
theorem q510 : (Jvm.Cond.methodLink "CircleLineLaw" (26 : Nat) ({ cls := "CircleLineModel", name := "takeFirst", desc := "()I" } : Jvm.MethodName)) ∈ lw_all := lw_g (lw_at lw_m3 26 rfl) rfl
theorem q514 : (Jvm.Cond.methodLink "CircleLineLaw" (30 : Nat) ({ cls := "CircleLineModel", name := "takeLast", desc := "()I" } : Jvm.MethodName)) ∈ lw_all := lw_g (lw_at lw_m3 30 rfl) rfl
theorem q518 : (Jvm.Cond.methodLink "CircleLineLaw" (34 : Nat) ({ cls := "CircleLineModel", name := "first", desc := "()I" } : Jvm.MethodName)) ∈ lw_all := lw_g (lw_at lw_m3 34 rfl) rfl
theorem q522 : (Jvm.Cond.methodLink "CircleLineLaw" (38 : Nat) ({ cls := "CircleLineModel", name := "last", desc := "()I" } : Jvm.MethodName)) ∈ lw_all := lw_g (lw_at lw_m3 38 rfl) rfl
theorem q526 : (Jvm.Cond.methodLink "CircleLineLaw" (42 : Nat) ({ cls := "CircleLineModel", name := "size", desc := "()I" } : Jvm.MethodName)) ∈ lw_all := lw_g (lw_at lw_m3 42 rfl) rfl
theorem q530 : (Jvm.Cond.methodLink "CircleLineLaw" (46 : Nat) ({ cls := "CircleLineModel", name := "trim", desc := "()V" } : Jvm.MethodName)) ∈ lw_all := lw_g (lw_at lw_m3 46 rfl) rfl
theorem q534 : (Jvm.Cond.methodLink "CircleLineLaw" (50 : Nat) ({ cls := "CircleLineModel", name := "clear", desc := "()V" } : Jvm.MethodName)) ∈ lw_all := lw_g (lw_at lw_m3 50 rfl) rfl
theorem q18 : (Jvm.Cond.initialized "java/lang/System") ∈ lw_all := lw_g (lw_at lw_m1 14 rfl) rfl
set_option maxRecDepth 100000
theorem q157 : (Jvm.Cond.static ({ cls := "java/lang/System", name := "arraycopy", desc := "(Ljava/lang/Object;ILjava/lang/Object;II)V" } : Jvm.MethodName)) ∈ lw_all := lw_g (lw_at lw_m1 153 rfl) rfl
theorem q158 : (Jvm.Cond.native ({ cls := "java/lang/System", name := "arraycopy", desc := "(Ljava/lang/Object;ILjava/lang/Object;II)V" } : Jvm.MethodName)) ∈ lw_all := lw_g (lw_at lw_m1 154 rfl) rfl
theorem q111 : (Jvm.Cond.arrayClass Jvm.ClassFile.FieldType.byte) ∈ lw_all := lw_g (lw_at lw_m1 107 rfl) rfl
set_option maxRecDepth 100000
theorem q359 : (Jvm.Cond.arrayClass Jvm.ClassFile.FieldType.int) ∈ lw_all := lw_g (lw_at lw_m2 115 rfl) rfl
end
section
/-! the three classes of the worlds; rows of this claim's own: a number on the stack by another name, a loop that counts down, a call that lands in an interface's default method -/
set_option maxRecDepth 100000
abbrev vwCl : List vw_C := [(RX0, TX0, 1), (RX1, TX1, 4), (RX2, TX2, 2)]
section CLW
variable {p : Program} {l : Launch} {e : Env} {R : Room} {s : State} {m : MethodId} {args : Array Value} {below : List Frame} {meth : Method} {c : Code} {H : Heap} {locs : List Loc} {cells slots : Nat} {Q : State → Prop}
variable {pc : Nat} {ls : Array Slot} {rest : List Value}
theorem cl_ti {x y : Int32} (h : x = y) (k : W p l e R s m args below meth c H locs cells slots Q (F0 m pc ls (.int y :: rest))) : W p l e R s m args below meth c H locs cells slots Q (F0 m pc ls (.int x :: rest)) := by
  rw [h]; exact k
theorem cl_tl {x y : Int64} (h : x = y) (k : W p l e R s m args below meth c H locs cells slots Q (F0 m pc ls (.long y :: rest))) : W p l e R s m args below meth c H locs cells slots Q (F0 m pc ls (.long x :: rest)) := by
  rw [h]; exact k
/-- a loop with its head at pc, the stack empty there, that counts down -/
theorem cl_down (I : Nat → Heap → List Loc → Array Slot → Prop) (base : ∀ (H : Heap) (locs : List Loc) (ls : Array Slot), I 0 H locs ls → W p l e R s m args below meth c H locs cells slots Q (F0 m pc ls []))
    (step : ∀ (k : Nat) (H : Heap) (locs : List Loc) (ls : Array Slot), I (k + 1) H locs ls → (∀ (H1 : Heap) (locs1 : List Loc) (ls1 : Array Slot), I k H1 locs1 ls1 → W p l e R s m args below meth c H1 locs1 cells slots Q (F0 m pc ls1 [])) → W p l e R s m args below meth c H locs cells slots Q (F0 m pc ls [])) :
    ∀ (k : Nat) (H : Heap) (locs : List Loc) (ls : Array Slot), I k H locs ls → W p l e R s m args below meth c H locs cells slots Q (F0 m pc ls []) := by
  intro k
  induction k with
  | zero => exact base
  | succ k ih => exact fun H locs ls h => step k H locs ls h ih
/-- a call through a class that lands in a default method of an interface -/
theorem cl_runDef {x y : MethodName} {bytes cc : ByteArray} {maxL nL mc ms n index : Nat} {ret : Option FieldType} {ws : List Cond} {rm : Room} {Pc : Array Value → State → Prop} {Qc : Array Value → State → Outcome → State → Prop} {free : Addr → Prop} {Ts : List Cond} {own C owner : String} {b : Addr} {As rest : List Value} {g : JFrame}
    (S : CallFix p m c cc nL s args Ts own) (hM : Met l y ws rm Pc Qc mc ms free)
    (hbk : rm.cells = mc ∧ rm.slots = ms ∧ rm.frames + 1 ≤ R.frames ∧ 8 + (maxL + 11) + rm.locals ≤ R.locals ∧ (∀ w ∈ ws, ∀ (a' : Array Value) (U : State), s.WarmedH U.vm → w.before a' U = true) ∧ Cond.code y bytes maxL ret ∈ ws)
    (hlink : (Cond.methodLink own index x).before args s = true) (hsame : (Cond.sameMethod x.cls owner x.name x.desc).before args s = true) (hdecl : (Cond.declares ⟨owner, x.name, x.desc⟩).before args s = true)
    (howner : owner ≠ "java/lang/invoke/MethodHandle" ∧ owner ≠ "java/lang/invoke/VarHandle") (hsel : (Cond.landsInDefault C x y).before args s = true) (hinst : (Cond.instanceMethod y).before args s = true) (hini : (Cond.initialized y.cls).before args s = true)
    (hlen : ∀ sig, parseMethodDescriptor x.desc = some sig → n = sig.parameters.length) (hp : PreV s H C b Pc As)
    (hg : g.method = m) (hn : As.length = n) (hsize : g.locals.size = nL) (hstack : g.stack = As.reverse ++ .ref b :: rest) (hW : 2 * g.monitorRoom + (rest.map fun v => v.category).sum ≤ 8) (hdg : decode cc g.pc = .ok (.invokevirtual index, 3)) (hf : cells + mc ≤ R.cells ∧ slots + ms ≤ R.slots) :
    va_Run p l e R s m args below meth c H locs cells slots mc ms g rest (Qc (Value.ref b :: As).toArray) (free) := by
  obtain ⟨hrc, hrs, hfr, hlo, hws, hcw⟩ := hbk
  have hK : Back l R p e below s args y 3 8 (PreOf R mc ms Pc) (PostOf Qc mc ms free) := back_of (bytes := bytes) (maxL := maxL) (ret := ret) hM hp.1 hrc hrs hfr hlo hws hcw (fun a' U hW => word_at hW (Or.inl (by first | rfl | simp [Cond.onTables, Cond.keeps, Cond.steady])) hini)
  obtain ⟨hx, hb, hml, ho, -⟩ := S
  obtain ⟨-, ⟨cellB, hcB, hoB, hclB⟩, hPc⟩ := hp
  intro T hT X
  obtain ⟨v, vm₁, ⟨U', l2, c2, s2⟩, hW₁, X', ⟨g', mk, t, L, e1, e2, hq, h1, hL, h2, h3⟩, st⟩ := X.virtualBackUpD hx ho hlink hsame hdecl howner hsel hinst hK (b := b) hclB ⟨cellB, by rw [hT]; exact hcB, rfl, hoB⟩ hg (hsize.trans hml.symm) (Steps.refl _) (argsL := As) (rest := rest) (fun sig h => hn.trans (hlen sig h)) hstack hW (by rw [hb]; exact hdg)
    (fun vm₁ hW₁ => ⟨hf.1, hf.2, hPc (T.setVm vm₁) hT hW₁⟩)
  dsimp only [Pt.U, Pt.locs, Pt.cells, Pt.slots] at X' e1 e2 h1 h2 h3 st
  subst h1; subst h2; subst h3
  exact ⟨v, (T.setVm vm₁).calling g' mk (Value.ref b :: As).toArray, t, U', L, hT, X', hL, e1, e2, hq, fun target h => st.trans h⟩
end CLW
/-- what isEmpty needs of the tables beside the words that ride: its call of size through the interface -/
def cl_E (U : State) : Prop := va_Fw RX1 ⟨"OwnPriorityQueue", "size", "()I"⟩ yX1_size U
theorem cl_E.moved {u U : State} (hvm : u.vm.Alike U.vm) (h : cl_E u) : cl_E U := va_Fw.moved ⟨by decide, by decide⟩ hvm h
theorem cl_E.warm {u U : State} (hW : u.WarmedH U.vm) (h : cl_E u) : cl_E U := cl_E.moved hW.alike h
theorem cl_E.calls {U : State} {g} {mk} {a} (h : cl_E U) : cl_E (U.calling g mk a) := cl_E.moved (u := U) (U := U.calling g mk a) (Vm.Alike.refl U.vm) h
theorem cl_Lvm {A A' : Array Value} {U U' : State} (vm₁ : Vm) {C : String} {x y : MethodName} : (Cond.landsInDefault C x y).before A (U.setVm vm₁) = (Cond.landsInDefault C x y).before A' (U'.setVm vm₁) := rfl
theorem cl_Lmove {A A' : Array Value} {u U : State} (hvm : u.vm.Alike U.vm) {C : String} {x y : MethodName} (h : (Cond.landsInDefault C x y).before A u = true) : (Cond.landsInDefault C x y).before A' U = true := by
  have h1 : (Cond.landsInDefault C x y).before A (u.setVm U.vm) = true := (Cond.landsInDefault_setVm hvm (State.methodFound?_setVm hvm _ _ _)).trans h
  have h2 : U.setVm U.vm = U := rfl
  rw [cl_Lvm (A := A) (A' := A') (U := u) (U' := U) U.vm, h2] at h1
  exact h1
abbrev cl_xE : MethodName := ⟨"IntArrayFIFOQueue", "isEmpty", "()Z"⟩
/-- what a method of CircleLine that asks isEmpty needs -/
def cl_W (U : State) : Prop := cl_E U ∧ (Cond.methodLink RX0 28 cl_xE).before #[] U = true ∧ (Cond.sameMethod "IntArrayFIFOQueue" "OwnPriorityQueue" "isEmpty" "()Z").before #[] U = true ∧ (Cond.declares yX3_isEmpty).before #[] U = true ∧ (Cond.landsInDefault RX1 cl_xE yX3_isEmpty).before #[] U = true
theorem cl_W.warm {u U : State} (hW : u.WarmedH U.vm) (h : cl_W u) : cl_W U := by
  obtain ⟨h1, h2, h3, h4, h5⟩ := h
  exact ⟨h1.warm hW, word_at hW (Or.inl rfl) h2, word_at hW (Or.inl rfl) h3, va_Nw.warmD hW h4, cl_Lmove hW.alike h5⟩
theorem cl_W.calls {U : State} {g} {mk} {a} (h : cl_W U) : cl_W (U.calling g mk a) := by
  obtain ⟨h1, h2, h3, h4, h5⟩ := h
  exact ⟨h1.calls, va_tabs (u := U) (A := #[]) rfl rfl h2, va_tabs (u := U) (A := #[]) rfl rfl h3, va_tabs (u := U) (A := #[]) rfl rfl h4, cl_Lmove (u := U) (U := U.calling g mk a) (Vm.Alike.refl U.vm) h5⟩
theorem cl_W.of {A : Array Value} {U : State} (h1 : cl_E U) (h2 : (Cond.methodLink RX0 28 cl_xE).before A U = true) (h3 : (Cond.sameMethod "IntArrayFIFOQueue" "OwnPriorityQueue" "isEmpty" "()Z").before A U = true) (h4 : (Cond.declares yX3_isEmpty).before A U = true) (h5 : (Cond.landsInDefault RX1 cl_xE yX3_isEmpty).before A U = true) : cl_W U :=
  ⟨h1, va_tabs rfl rfl h2, va_tabs rfl rfl h3, va_tabs rfl rfl h4, cl_Lmove (Vm.Alike.refl U.vm) h5⟩
section CLD
variable {p : Program} {l : Launch} {e : Env} {R : Room} {s : State} {m : MethodId} {args : Array Value} {below : List Frame} {meth : Method} {c : Code} {H : Heap} {locs : List Loc} {cells slots : Nat}
/-- the call of isEmpty on the queue, out of CircleLine -/
theorem cl_runD {bytes cc : ByteArray} {maxL nL mc ms : Nat} {ret : Option FieldType} {ws : List Cond} {rm : Room} {Pc : Array Value → State → Prop} {Qc : Array Value → State → Outcome → State → Prop} {free : Addr → Prop} {Ts : List Cond} {b : Addr} {As rest : List Value} {g : JFrame}
    (S : CallFix p m c cc nL s args Ts RX0) (hM : Met l yX3_isEmpty ws rm Pc Qc mc ms free)
    (hbk : rm.cells = mc ∧ rm.slots = ms ∧ rm.frames + 1 ≤ R.frames ∧ 8 + (maxL + 11) + rm.locals ≤ R.locals ∧ (∀ w ∈ ws, ∀ (a' : Array Value) (U : State), s.WarmedH U.vm → w.before a' U = true) ∧ Cond.code yX3_isEmpty bytes maxL ret ∈ ws)
    (hE : cl_W s) (hinst : (Cond.instanceMethod yX3_isEmpty).before args s = true) (hini : (Cond.initialized yX3_isEmpty.cls).before args s = true) (hp : PreV s H RX1 b Pc As)
    (hg : g.method = m) (hn : As.length = 0) (hsize : g.locals.size = nL) (hstack : g.stack = As.reverse ++ .ref b :: rest) (hW : 2 * g.monitorRoom + (rest.map fun v => v.category).sum ≤ 8) (hdg : decode cc g.pc = .ok (.invokevirtual 28, 3)) (hf : cells + mc ≤ R.cells ∧ slots + ms ≤ R.slots) :
    va_Run p l e R s m args below meth c H locs cells slots mc ms g rest (Qc (Value.ref b :: As).toArray) (free) := by
  obtain ⟨-, h2, h3, h4, h5⟩ := hE
  refine cl_runDef (x := cl_xE) (owner := "OwnPriorityQueue") (C := RX1) (n := 0) S hM hbk (va_tabs rfl rfl h2) (va_tabs rfl rfl h3) (va_tabs rfl rfl h4) ⟨by decide, by decide⟩ (cl_Lmove (Vm.Alike.refl s.vm) h5) hinst hini (fun sig h => ?_) hp hg hn hsize hstack hW hdg hf
  have hd : (parseMethodDescriptor cl_xE.desc).map (fun d => d.parameters.length) = some 0 := by decide +kernel
  rw [h] at hd
  exact (Option.some.inj hd).symm
end CLD
/-- the words of the call of size through the interface -/
theorem cl_wsF : GoodIn lw_all (va_wsF RX3 1 RX1 ⟨"OwnPriorityQueue", "size", "()I"⟩ yX1_size (ws_ yX1_size cX1_size 2 (some .int))) := by
  refine lw_app ?_ (lw_meth q371)
  intro w hw
  simp only [List.mem_cons, List.not_mem_nil, or_false] at hw
  rcases hw with e | e | e | e
  · rw [e]; exact q408
  · rw [e]; exact q412
  · rw [e]; exact q369
  · rw [e]; exact q6
/-- worlds behind a method: unchanged; a queue; a CircleLine with its queue; a model -/
abbrev cl_BW (dC : Nat → ClassId) (dI : Nat → Nat → Nat) (tys : List (ClassId × FieldType)) (ws : va_W) (A : Nat → Prop) (_ : Unit) (t : State) : Prop := va_P (dC, dI) vwCl ws t.heap ∧ va_K (dC, dI) vwCl tys t ∧ va_D A ws
abbrev cl_Q : Type := Nat × ClassId × Nat × Nat × Nat × (Nat → Int32)
abbrev cl_BQ (dC : Nat → ClassId) (dI : Nat → Nat → Nat) (h0 : Nat) (A : Nat → Prop) (u : cl_Q) (t : State) : Prop := match u with
  | (ar, d, L, st, en, f) => va_P (dC, dI) vwCl [(h0, .inr (1, [.ref ar, .int (nI L), .int (nI st), .int (nI en)])), (ar, .inl (d, L, .inl f))] t.heap ∧ va_K (dC, dI) vwCl [(d, .int)] t ∧ va_D A [(h0, .inr (1, [.ref ar, .int (nI L), .int (nI st), .int (nI en)])), (ar, .inl (d, L, .inl f))]
abbrev cl_BL (dC : Nat → ClassId) (dI : Nat → Nat → Nat) (h0 q : Nat) (A : Nat → Prop) (u : cl_Q) (t : State) : Prop := match u with
  | (ar, d, L, st, en, f) => va_P (dC, dI) vwCl [(h0, .inr (0, [.ref q])), (q, .inr (1, [.ref ar, .int (nI L), .int (nI st), .int (nI en)])), (ar, .inl (d, L, .inl f))] t.heap ∧ va_K (dC, dI) vwCl [(d, .int)] t ∧ va_D A [(h0, .inr (0, [.ref q])), (q, .inr (1, [.ref ar, .int (nI L), .int (nI st), .int (nI en)])), (ar, .inl (d, L, .inl f))]
abbrev cl_BL0 (dC : Nat → ClassId) (dI : Nat → Nat → Nat) (h0 : Nat) (A : Nat → Prop) (u : Nat × cl_Q) (t : State) : Prop := match u with
  | (q, ar, d, L, st, en, f) => va_P (dC, dI) vwCl [(h0, .inr (0, [.ref q])), (q, .inr (1, [.ref ar, .int (nI L), .int (nI st), .int (nI en)])), (ar, .inl (d, L, .inl f))] t.heap ∧ va_K (dC, dI) vwCl [(d, .int)] t ∧ va_D A [(h0, .inr (0, [.ref q])), (q, .inr (1, [.ref ar, .int (nI L), .int (nI st), .int (nI en)])), (ar, .inl (d, L, .inl f))]
abbrev cl_BM (dC : Nat → ClassId) (dI : Nat → Nat → Nat) (h0 ro : Nat) (d : ClassId) (A : Nat → Prop) (u : Nat × (Nat → Int32)) (t : State) : Prop := match u with
  | (n, g) => va_P (dC, dI) vwCl [(h0, .inr (2, [.ref ro, .int (nI n)])), (ro, .inl (d, 4096, .inl g))] t.heap ∧ va_K (dC, dI) vwCl [(d, .int)] t ∧ va_D A [(h0, .inr (2, [.ref ro, .int (nI n)])), (ro, .inl (d, 4096, .inl g))]
abbrev cl_BM0 (dC : Nat → ClassId) (dI : Nat → Nat → Nat) (h0 : Nat) (A : Nat → Prop) (u : Nat × ClassId × Nat × (Nat → Int32)) (t : State) : Prop := match u with
  | (ro, d, n, g) => va_P (dC, dI) vwCl [(h0, .inr (2, [.ref ro, .int (nI n)])), (ro, .inl (d, 4096, .inl g))] t.heap ∧ va_K (dC, dI) vwCl [(d, .int)] t ∧ va_D A [(h0, .inr (2, [.ref ro, .int (nI n)])), (ro, .inl (d, 4096, .inl g))]
end
section
/-! the plain law of the ring: a queue's cells (array f of L places, start st, end en) hold the row xs of n numbers -/
/-- place k of a ring of L places, counted on from its start -/
def cl_ix (L k : Nat) : Nat := if k < L then k else k - L
def cl_R (f : Nat → Int32) (L st en n : Nat) (xs : Nat → Int32) : Prop := st < L ∧ n < L ∧ L ≤ 300 ∧ en = cl_ix L (st + n) ∧ ∀ i, i < n → f (cl_ix L (st + i)) = xs i
/-- a ring that is full -/
def cl_F (f : Nat → Int32) (L st : Nat) (xs : Nat → Int32) : Prop := st < L ∧ ∀ i, i < L → f (cl_ix L (st + i)) = xs i
def cl_cons (x : Int32) (xs : Nat → Int32) : Nat → Int32 := fun i => if i = 0 then x else xs (i - 1)
theorem cl_ixlo {L k : Nat} (h : k < L) : cl_ix L k = k := if_pos h
theorem cl_ixhi {L k : Nat} (h : L ≤ k) : cl_ix L k = k - L := if_neg (Nat.not_lt.mpr h)
theorem cl_ixlt {L a b : Nat} (ha : a < L) (hb : b ≤ L) : cl_ix L (a + b) < L := by
  unfold cl_ix; split <;> omega
theorem cl_ixinj {L st i j : Nat} (hs : st < L) (hi : i < L) (hj : j < L) (h : cl_ix L (st + i) = cl_ix L (st + j)) : i = j := by
  unfold cl_ix at h; split at h <;> split at h <;> omega
theorem cl_R.congr {f : Nat → Int32} {L st en n : Nat} {xs ys : Nat → Int32} (h : cl_R f L st en n xs) (e : ∀ i, i < n → xs i = ys i) : cl_R f L st en n ys :=
  ⟨h.1, h.2.1, h.2.2.1, h.2.2.2.1, fun i hi => (h.2.2.2.2 i hi).trans (e i hi)⟩
theorem cl_R.en_lt {f : Nat → Int32} {L st en n : Nat} {xs : Nat → Int32} (h : cl_R f L st en n xs) : en < L := by
  rw [h.2.2.2.1]; exact cl_ixlt h.1 (Nat.le_of_lt h.2.1)
theorem cl_R.lo {f : Nat → Int32} {L st en n : Nat} {xs : Nat → Int32} (h : cl_R f L st en n xs) (q : st + n < L) : en = st + n := by
  rw [h.2.2.2.1]; exact cl_ixlo q
theorem cl_R.hi {f : Nat → Int32} {L st en n : Nat} {xs : Nat → Int32} (h : cl_R f L st en n xs) (q : L ≤ st + n) : en = st + n - L := by
  rw [h.2.2.2.1]; exact cl_ixhi q
theorem cl_sz1 {f : Nat → Int32} {L st en n : Nat} {xs : Nat → Int32} (h : cl_R f L st en n xs) (c : ¬ nI en - nI st < 0) : nI en - nI st = nI n := by
  have h1 := h.1; have h2 := h.2.1; have h3 := h.2.2.1
  rcases Nat.lt_or_ge (st + n) L with q | q
  · have e := h.lo q
    rw [pk_sub (by omega)]
    congr 1; omega
  · have e := h.hi q
    exact absurd (pk_sneg (a := en) (b := st) (by omega) (by omega)) c
theorem cl_sz2 {f : Nat → Int32} {L st en n : Nat} {xs : Nat → Int32} (h : cl_R f L st en n xs) (c : nI en - nI st < 0) : nI L + (nI en - nI st) = nI n := by
  have h1 := h.1; have h2 := h.2.1; have h3 := h.2.2.1
  rcases Nat.lt_or_ge (st + n) L with q | q
  · have e := h.lo q
    rw [pk_sub (by omega)] at c
    exact absurd c (nI_pos (by omega))
  · have e := h.hi q
    have e2 : nI L + (nI en - nI st) = (nI L + nI en) - nI st := by grind
    rw [e2, nI_add, pk_sub (by omega)]
    congr 1; omega
theorem cl_ne {f : Nat → Int32} {L st en n : Nat} {xs : Nat → Int32} (h : cl_R f L st en n xs) (hn : 0 < n) : st ≠ en := by
  have h1 := h.1; have h2 := h.2.1
  rcases Nat.lt_or_ge (st + n) L with q | q
  · have e := h.lo q; omega
  · have e := h.hi q; omega
theorem cl_neI {f : Nat → Int32} {L st en n : Nat} {xs : Nat → Int32} (h : cl_R f L st en n xs) (hn : 0 < n) : ¬ nI st = nI en := by
  have h1 := h.1; have h3 := h.2.2.1; have h4 := h.en_lt
  intro c
  exact cl_ne h hn ((nI_eq (by omega) (by omega)).mp c)
theorem cl_first {f : Nat → Int32} {L st en n : Nat} {xs : Nat → Int32} (h : cl_R f L st en n xs) (hn : 0 < n) : f st = xs 0 := by
  have e := h.2.2.2.2 0 hn
  rw [Nat.add_zero, cl_ixlo h.1] at e
  exact e
theorem cl_last {f : Nat → Int32} {L st en n e1 : Nat} {xs : Nat → Int32} (h : cl_R f L st en n xs) (hn : 0 < n) (he : e1 = if en = 0 then L - 1 else en - 1) : e1 = cl_ix L (st + (n - 1)) ∧ e1 < L ∧ f e1 = xs (n - 1) := by
  have h1 := h.1; have h2 := h.2.1
  have e2 : e1 = cl_ix L (st + (n - 1)) := by
    rcases Nat.lt_or_ge (st + n) L with q | q
    · have e := h.lo q
      rw [cl_ixlo (by omega), he, if_neg (by omega)]; omega
    · have e := h.hi q
      rcases Nat.lt_or_ge (st + (n - 1)) L with q2 | q2
      · rw [cl_ixlo q2, he, if_pos (by omega)]; omega
      · rw [cl_ixhi q2, he, if_neg (by omega)]; omega
  refine ⟨e2, ?_, ?_⟩
  · rw [e2]; exact cl_ixlt h1 (by omega)
  · rw [e2]; exact h.2.2.2.2 (n - 1) (by omega)
theorem cl_deqL {f : Nat → Int32} {L st en n e1 : Nat} {xs : Nat → Int32} (h : cl_R f L st en n xs) (hn : 0 < n) (he : e1 = if en = 0 then L - 1 else en - 1) : cl_R f L st e1 (n - 1) xs := by
  have h2 := h.2.1
  exact ⟨h.1, by omega, h.2.2.1, (cl_last h hn he).1, fun i hi => h.2.2.2.2 i (by omega)⟩
theorem cl_deq {f : Nat → Int32} {L st en n s1 : Nat} {xs : Nat → Int32} (h : cl_R f L st en n xs) (hn : 0 < n) (hs : s1 = cl_ix L (st + 1)) : cl_R f L s1 en (n - 1) (fun i => xs (i + 1)) := by
  have h1 := h.1; have h2 := h.2.1; have h3 := h.2.2.2.1
  have key : ∀ k, k < n → cl_ix L (s1 + k) = cl_ix L (st + (k + 1)) := by
    intro k hk
    rw [hs]; unfold cl_ix
    split <;> split <;> split <;> omega
  refine ⟨by rw [hs]; exact cl_ixlt h1 (by omega), by omega, h.2.2.1, ?_, fun i hi => ?_⟩
  · rw [h3, key (n - 1) (by omega)]; congr 2; omega
  · rw [key i (by omega)]; exact h.2.2.2.2 (i + 1) (by omega)
theorem cl_enq0 {f : Nat → Int32} {L st en n : Nat} {xs : Nat → Int32} {x : Int32} (h : cl_R f L st en n xs) : ∀ i, i < n + 1 → upd f en x (cl_ix L (st + i)) = upd xs n x i := by
  have h1 := h.1; have h2 := h.2.1; have h3 := h.2.2.2.1
  intro i hi
  rcases Nat.lt_or_ge i n with q | q
  · rw [pk_un (by intro c; rw [h3] at c; have := cl_ixinj h1 (by omega) h2 c; omega), pk_un (by omega)]
    exact h.2.2.2.2 i q
  · have e : i = n := by omega
    rw [e, ← h3, pk_us, pk_us]
theorem cl_enqe {f : Nat → Int32} {L st en n e1 : Nat} {xs : Nat → Int32} (h : cl_R f L st en n xs) (he : e1 = cl_ix L (en + 1)) : e1 = cl_ix L (st + (n + 1)) ∧ (e1 = st ↔ n + 1 = L) := by
  have h1 := h.1; have h2 := h.2.1; have h3 := h.2.2.2.1
  rw [he, h3]; unfold cl_ix
  constructor
  · split <;> split <;> split <;> omega
  · split <;> split <;> omega
theorem cl_enq {f : Nat → Int32} {L st en n e1 : Nat} {xs : Nat → Int32} {x : Int32} (h : cl_R f L st en n xs) (he : e1 = cl_ix L (en + 1)) (hne : ¬ e1 = st) : cl_R (upd f en x) L st e1 (n + 1) (upd xs n x) := by
  have h2 := h.2.1
  have k := cl_enqe h he
  exact ⟨h.1, by rcases Nat.lt_or_ge (n + 1) L with q | q; exact q; exact absurd (k.2.mpr (by omega)) hne, h.2.2.1, k.1, cl_enq0 h⟩
theorem cl_enqF {f : Nat → Int32} {L st en n e1 : Nat} {xs : Nat → Int32} {x : Int32} (h : cl_R f L st en n xs) (he : e1 = cl_ix L (en + 1)) (heq : e1 = st) : cl_F (upd f en x) L st (upd xs n x) ∧ n + 1 = L := by
  have k := (cl_enqe h he).2.mp heq
  exact ⟨⟨h.1, fun i hi => cl_enq0 h i (by omega)⟩, k⟩
theorem cl_enfk {L st s1 : Nat} (h1 : st < L) (hs : s1 = if st = 0 then L - 1 else st - 1) : s1 < L ∧ cl_ix L (s1 + 0) = s1 ∧ ∀ i, i < L → cl_ix L (s1 + (i + 1)) = cl_ix L (st + i) := by
  refine ⟨by rw [hs]; split <;> omega, ?_, fun i hi => ?_⟩
  · rw [Nat.add_zero]; exact cl_ixlo (by rw [hs]; split <;> omega)
  · rw [hs]; unfold cl_ix; split <;> split <;> split <;> omega
theorem cl_enf0 {f : Nat → Int32} {L st en n s1 : Nat} {xs : Nat → Int32} {x : Int32} (h : cl_R f L st en n xs) (hs : s1 = if st = 0 then L - 1 else st - 1) : ∀ i, i < n + 1 → upd f s1 x (cl_ix L (s1 + i)) = cl_cons x xs i := by
  have h1 := h.1; have h2 := h.2.1
  obtain ⟨k1, k2, k3⟩ := cl_enfk h1 hs
  intro i hi
  cases i with
  | zero => rw [k2, pk_us]; rfl
  | succ j =>
    have e : cl_cons x xs (j + 1) = xs j := rfl
    rw [e, pk_un, k3 j (by omega)]
    · exact h.2.2.2.2 j (by omega)
    · intro c
      have c2 : cl_ix L (s1 + (j + 1)) = cl_ix L (s1 + 0) := by rw [k2]; exact c
      have := cl_ixinj k1 (by omega) (by omega) c2
      omega
theorem cl_enfe {f : Nat → Int32} {L st en n s1 : Nat} {xs : Nat → Int32} (h : cl_R f L st en n xs) (hs : s1 = if st = 0 then L - 1 else st - 1) : en = cl_ix L (s1 + (n + 1)) ∧ (en = s1 ↔ n + 1 = L) := by
  have h1 := h.1; have h2 := h.2.1; have h3 := h.2.2.2.1
  obtain ⟨k1, k2, k3⟩ := cl_enfk h1 hs
  refine ⟨by rw [k3 n h2]; exact h3, ?_⟩
  rw [h3, hs]; unfold cl_ix
  split <;> split <;> omega
theorem cl_enf {f : Nat → Int32} {L st en n s1 : Nat} {xs : Nat → Int32} {x : Int32} (h : cl_R f L st en n xs) (hs : s1 = if st = 0 then L - 1 else st - 1) (hne : ¬ en = s1) : cl_R (upd f s1 x) L s1 en (n + 1) (cl_cons x xs) := by
  have h2 := h.2.1
  have k := cl_enfe h hs
  exact ⟨(cl_enfk h.1 hs).1, by rcases Nat.lt_or_ge (n + 1) L with q | q; exact q; exact absurd (k.2.mpr (by omega)) hne, h.2.2.1, k.1, cl_enf0 h hs⟩
theorem cl_enfF {f : Nat → Int32} {L st en n s1 : Nat} {xs : Nat → Int32} {x : Int32} (h : cl_R f L st en n xs) (hs : s1 = if st = 0 then L - 1 else st - 1) (heq : en = s1) : cl_F (upd f s1 x) L s1 (cl_cons x xs) ∧ n + 1 = L := by
  have k := (cl_enfe h hs).2.mp heq
  exact ⟨⟨(cl_enfk h.1 hs).1, fun i hi => cl_enf0 h hs i (by omega)⟩, k⟩
/-- what resize asks of start, end and the count k -/
def cl_Z (L st en k : Nat) : Prop := st < L ∧ en < L ∧ L ≤ 300 ∧ k ≤ L ∧ (st < en → k = en - st) ∧ (en ≤ st → k = 0 ∨ k = L - st + en)
theorem cl_Z_R {f : Nat → Int32} {L st en n : Nat} {xs : Nat → Int32} (h : cl_R f L st en n xs) : cl_Z L st en n := by
  have h1 := h.1; have h2 := h.2.1; have h3 := h.2.2.1; have h4 := h.en_lt
  rcases Nat.lt_or_ge (st + n) L with q | q
  · have e := h.lo q
    exact ⟨h1, h4, h3, by omega, by omega, by omega⟩
  · have e := h.hi q
    exact ⟨h1, h4, h3, by omega, by omega, by omega⟩
theorem cl_Z_F {f : Nat → Int32} {L st en : Nat} {xs : Nat → Int32} (h : cl_F f L st xs) (he : en = st) (hL : L ≤ 300) : cl_Z L st en L := by
  have h1 := h.1
  exact ⟨h1, by omega, hL, by omega, by omega, by omega⟩
/-- the copies of resize and trim -/
theorem cl_cp1 {f g : Nat → Int32} {L st en k : Nat} (h : st + k ≤ L) (he : k = en - st) : ∀ i, i < k → va_cpy f g st 0 (en - st) i = f (cl_ix L (st + i)) := by
  intro i hi
  rw [pk_cpy_in (by omega) (by omega), cl_ixlo (by omega)]
  congr 1
theorem cl_cp2 {f g : Nat → Int32} {L st en k : Nat} (h : st < L) (he : k = L - st + en) (hk : k ≤ L) : ∀ i, i < k → va_cpy f (va_cpy f g st 0 (L - st)) 0 (L - st) en i = f (cl_ix L (st + i)) := by
  intro i hi
  rcases Nat.lt_or_ge i (L - st) with q | q
  · rw [pk_cpy_out (by omega), pk_cpy_in (by omega) (by omega), cl_ixlo (by omega)]
    congr 1
  · rw [pk_cpy_in (by omega) (by omega), cl_ixhi (by omega)]
    congr 1; omega
/-- a row laid out from place 0 on -/
theorem cl_flat {f f' : Nat → Int32} {L st n L' : Nat} {xs : Nat → Int32} (hx : ∀ i, i < n → f (cl_ix L (st + i)) = xs i) (hf : ∀ i, i < n → f' i = f (cl_ix L (st + i))) (hn : n < L') (hL : L' ≤ 300) : cl_R f' L' 0 n n xs := by
  refine ⟨by omega, hn, hL, ?_, fun i hi => ?_⟩
  · rw [Nat.zero_add]; exact (cl_ixlo hn).symm
  · rw [Nat.zero_add, cl_ixlo (by omega), hf i hi]; exact hx i hi
theorem cl_R0 {f : Nat → Int32} {L : Nat} {xs : Nat → Int32} (h0 : 0 < L) (hL : L ≤ 300) : cl_R f L 0 0 0 xs := ⟨h0, h0, hL, (cl_ixlo (by omega)).symm, fun i hi => absurd hi (Nat.not_lt_zero i)⟩
theorem cl_ltN {a b : Nat} (ha : a < 2 ^ 31) (hb : b < 2 ^ 31) (h : nI a < nI b) : a < b := (nI_ltI ha hb).mp h
theorem cl_nltN {a b : Nat} (ha : a < 2 ^ 31) (hb : b < 2 ^ 31) (h : ¬ nI a < nI b) : b ≤ a := Nat.not_lt.mp fun q => h ((nI_ltI ha hb).mpr q)
theorem cl_leN {a b : Nat} (ha : a < 2 ^ 31) (hb : b < 2 ^ 31) (h : nI a ≤ nI b) : a ≤ b := (nI_leI ha hb).mp h
theorem cl_nleN {a b : Nat} (ha : a < 2 ^ 31) (hb : b < 2 ^ 31) (h : ¬ nI a ≤ nI b) : b < a := Nat.not_le.mp fun q => h ((nI_leI ha hb).mpr q)
theorem cl_eqN {a b : Nat} (ha : a < 2 ^ 31) (hb : b < 2 ^ 31) (h : nI a = nI b) : a = b := (nI_eq ha hb).mp h
theorem cl_neN {a b : Nat} (h : ¬ nI a = nI b) : ¬ a = b := fun q => h (by rw [q])
theorem cl_z {a : Nat} (ha : a < 2 ^ 31) (h : nI a = 0) : a = 0 := (nI_eq ha (by omega)).mp (h.trans nI_0.symm)
theorem cl_nz {a : Nat} (h : ¬ nI a = 0) : 0 < a := by
  rcases Nat.eq_zero_or_pos a with q | q
  · exact absurd (by rw [q]; exact nI_0) h
  · exact q
end
section
/-! IntArrayFIFOQueue: size, firstInt, lastInt, clear, the constructor, and isEmpty through the interface -/
set_option maxRecDepth 100000
set_option maxHeartbeats 4000000 in
set_option maxRecDepth 100000 in
/-- size(): how many numbers the ring holds -/
theorem metX1_size (l : Launch) (dC : Nat → ClassId) (dI : Nat → Nat → Nat) (sz : Nat) (h0 ar : Nat) (d : ClassId) (L st en n : Nat) (f xs : Nat → Int32) (hq : cl_R f L st en n xs) : Met l yX1_size (ws_ yX1_size cX1_size 2 (some .int)) ({ frames := 0, cells := 0, slots := 0, locals := 0 } : Jvm.Room) (va_Pc [.ref h0] (fun U => U.heap.size = sz ∧ va_P (dC, dI) vwCl [(h0, .inr (1, [.ref ar, .int (nI L), .int (nI st), .int (nI en)])), (ar, .inl (d, L, .inl f))] U.heap ∧ va_K (dC, dI) vwCl [(d, .int)] U ∧ va_D (fun _ => True) [(h0, .inr (1, [.ref ar, .int (nI L), .int (nI st), .int (nI en)])), (ar, .inl (d, L, .inl f))])) (va_Qi (S := Unit) (fun (r : Int32) (_ : Unit) => r = nI n) (cl_BW dC dI [(d, .int)] [(h0, .inr (1, [.ref ar, .int (nI L), .int (nI st), .int (nI en)])), (ar, .inl (d, L, .inl f))] (va_A [(h0, .inr (1, [.ref ar, .int (nI L), .int (nI st), .int (nI en)])), (ar, .inl (d, L, .inl f))] sz)) (va_A [(h0, .inr (1, [.ref ar, .int (nI L), .int (nI st), .int (nI en)])), (ar, .inl (d, L, .inl f))] sz)) 0 0 (va_A [(h0, .inr (1, [.ref ar, .int (nI L), .int (nI st), .int (nI en)])), (ar, .inl (d, L, .inl f))] sz) := by
  refine Met.ofW (cc := cX1_size) (maxL := 2) (ret := (some .int)) (by decide) rfl ?_
  intro p e s m args below meth c s₁ B hml hv
  obtain ⟨rfl, hsz, hP, hK, hD0⟩ := hv
  have hx := B.exec
  have hb := B.bytes
  have hr := B.returns
  have hts := atoms_spec (ws := ws_ yX1_size cX1_size 2 (some .int)) B.pre
  have hts : ∀ w ∈ lw_all, w.before _ s = true := fun w h => hts w (List.mem_cons_of_mem _ h)
  have hown : s.vm.findClass RX1 = some m.cls := findClass_of_methodNamed B.named
  have hlocks := B.notSynchronized
  subst hsz
  have hD := hD0.self (sz := s.heap.size)
  generalize hAe : va_A [(h0, .inr (1, [.ref ar, .int (nI L), .int (nI st), .int (nI en)])), (ar, .inl (d, L, .inl f))] s.heap.size = A at hD ⊢
  have hA : ∀ q : Nat, s.heap.size ≤ q → A q := fun q h => by rw [← hAe]; exact Or.inr h
  have hS : va_S A s.heap s.heap [] := va_S.rf
  have hP : va_P (dC, dI) vwCl [(h0, .inr (1, [.ref ar, .int (nI L), .int (nI st), .int (nI en)])), (ar, .inl (d, L, .inl f))] s.heap := hP
  have hl := lv_entry ([.ref h0]) (n := 2) (Nat.le_of_ble_eq_true rfl)
  rw [lg_entry_eq]
  generalize (lg_sl ([.ref h0]) ++ List.replicate (2 - (lg_sl ([.ref h0])).length) Slot.unset).toArray = ls at hl ⊢
  have hl : lv_has ls 2 [(0, .ref h0)] := hl
  refine lv_aload_n hx hb dX1_size_0 rfl (lv_at hl 0 rfl) ?_
  refine va_get (D := (dC, dI)) (ci := 1) (v := .int (nI en)) (C := RX1) (T := TX1) (N := 4) hx hb hts in_X1 hown hK hP 0 rfl rfl 3 (by decide) (hts _ q349) (fun _ h9 => h9) rfl dX1_size_1 ?_
  refine lv_aload_n hx hb dX1_size_4 rfl (lv_at hl 0 rfl) ?_
  refine va_get (D := (dC, dI)) (ci := 1) (v := .int (nI st)) (C := RX1) (T := TX1) (N := 4) hx hb hts in_X1 hown hK hP 0 rfl rfl 2 (by decide) (hts _ q348) (fun _ h9 => h9) rfl dX1_size_5 ?_
  refine lv_isub hx hb dX1_size_8 ?_
  refine lv_istore_n (lv' := [(1, .int ((nI en) - (nI st))), (0, .ref h0)]) hx hb dX1_size_9 rfl hl (by decide) rfl (fun ls hl => ?_)
  refine lv_iload_n hx hb dX1_size_10 rfl (lv_at hl 0 rfl) ?_
  refine lv_if_lt (tgt := 18) hx hb dX1_size_11 (by decide) (fun c_11 => ?_) (fun c_11 => ?_)
  · refine lv_aload_n hx hb dX1_size_18 rfl (lv_at hl 1 rfl) ?_
    refine va_get (D := (dC, dI)) (ci := 1) (v := .int (nI L)) (C := RX1) (T := TX1) (N := 4) hx hb hts in_X1 hown hK hP 0 rfl rfl 1 (by decide) (hts _ q347) (fun _ h9 => h9) rfl dX1_size_19 ?_
    refine lv_iload_n hx hb dX1_size_22 rfl (lv_at hl 0 rfl) ?_
    refine lv_iadd hx hb dX1_size_23 ?_
    refine cl_ti (y := nI n) (cl_sz2 hq c_11) ?_
    have hP9 := hP.sub (ws' := [(h0, .inr (1, [.ref ar, .int (nI L), .int (nI st), .int (nI en)])), (ar, .inl (d, L, .inl f))]) [0, 1] rfl
    have hD9 := hD.sub (ws' := [(h0, .inr (1, [.ref ar, .int (nI L), .int (nI st), .int (nI en)])), (ar, .inl (d, L, .inl f))]) [0, 1] (by decide) rfl
    have hK9 := hK.sub (tys' := [(d, .int)]) [0] rfl
    exact W.iret (v := nI n) hx hb hr (fun t ht hW => ⟨⟨nI n, (()), rfl, rfl, by rw [ht]; exact hP9, va_K.moved hW.alike hK9, hD9⟩, hS.F ht⟩) hS.2.2 dX1_size_24
  · refine lv_iload_n hx hb dX1_size_14 rfl (lv_at hl 0 rfl) ?_
    refine lv_goto (tgt := 24) hx hb dX1_size_15 (by decide) ?_
    refine cl_ti (y := nI n) (cl_sz1 hq c_11) ?_
    have hP9 := hP.sub (ws' := [(h0, .inr (1, [.ref ar, .int (nI L), .int (nI st), .int (nI en)])), (ar, .inl (d, L, .inl f))]) [0, 1] rfl
    have hD9 := hD.sub (ws' := [(h0, .inr (1, [.ref ar, .int (nI L), .int (nI st), .int (nI en)])), (ar, .inl (d, L, .inl f))]) [0, 1] (by decide) rfl
    have hK9 := hK.sub (tys' := [(d, .int)]) [0] rfl
    exact W.iret (v := nI n) hx hb hr (fun t ht hW => ⟨⟨nI n, (()), rfl, rfl, by rw [ht]; exact hP9, va_K.moved hW.alike hK9, hD9⟩, hS.F ht⟩) hS.2.2 dX1_size_24
set_option maxHeartbeats 4000000 in
set_option maxRecDepth 100000 in
/-- firstInt(): the first number -/
theorem metX1_firstInt (l : Launch) (dC : Nat → ClassId) (dI : Nat → Nat → Nat) (sz : Nat) (h0 ar : Nat) (d : ClassId) (L st en n : Nat) (f xs : Nat → Int32) (hq : cl_R f L st en n xs) (hn : 0 < n) : Met l yX1_firstInt (ws_ yX1_firstInt cX1_firstInt 1 (some .int)) ({ frames := 0, cells := 0, slots := 0, locals := 0 } : Jvm.Room) (va_Pc [.ref h0] (fun U => U.heap.size = sz ∧ va_P (dC, dI) vwCl [(h0, .inr (1, [.ref ar, .int (nI L), .int (nI st), .int (nI en)])), (ar, .inl (d, L, .inl f))] U.heap ∧ va_K (dC, dI) vwCl [(d, .int)] U ∧ va_D (fun _ => True) [(h0, .inr (1, [.ref ar, .int (nI L), .int (nI st), .int (nI en)])), (ar, .inl (d, L, .inl f))])) (va_Qi (S := Unit) (fun (r : Int32) (_ : Unit) => r = xs 0) (cl_BW dC dI [(d, .int)] [(h0, .inr (1, [.ref ar, .int (nI L), .int (nI st), .int (nI en)])), (ar, .inl (d, L, .inl f))] (va_A [(h0, .inr (1, [.ref ar, .int (nI L), .int (nI st), .int (nI en)])), (ar, .inl (d, L, .inl f))] sz)) (va_A [(h0, .inr (1, [.ref ar, .int (nI L), .int (nI st), .int (nI en)])), (ar, .inl (d, L, .inl f))] sz)) 0 0 (va_A [(h0, .inr (1, [.ref ar, .int (nI L), .int (nI st), .int (nI en)])), (ar, .inl (d, L, .inl f))] sz) := by
  refine Met.ofW (cc := cX1_firstInt) (maxL := 1) (ret := (some .int)) (by decide) rfl ?_
  intro p e s m args below meth c s₁ B hml hv
  obtain ⟨rfl, hsz, hP, hK, hD0⟩ := hv
  have hx := B.exec
  have hb := B.bytes
  have hr := B.returns
  have hts := atoms_spec (ws := ws_ yX1_firstInt cX1_firstInt 1 (some .int)) B.pre
  have hts : ∀ w ∈ lw_all, w.before _ s = true := fun w h => hts w (List.mem_cons_of_mem _ h)
  have hown : s.vm.findClass RX1 = some m.cls := findClass_of_methodNamed B.named
  have hlocks := B.notSynchronized
  subst hsz
  have hD := hD0.self (sz := s.heap.size)
  generalize hAe : va_A [(h0, .inr (1, [.ref ar, .int (nI L), .int (nI st), .int (nI en)])), (ar, .inl (d, L, .inl f))] s.heap.size = A at hD ⊢
  have hA : ∀ q : Nat, s.heap.size ≤ q → A q := fun q h => by rw [← hAe]; exact Or.inr h
  have hS : va_S A s.heap s.heap [] := va_S.rf
  have hP : va_P (dC, dI) vwCl [(h0, .inr (1, [.ref ar, .int (nI L), .int (nI st), .int (nI en)])), (ar, .inl (d, L, .inl f))] s.heap := hP
  have hl := lv_entry ([.ref h0]) (n := 1) (Nat.le_of_ble_eq_true rfl)
  rw [lg_entry_eq]
  generalize (lg_sl ([.ref h0]) ++ List.replicate (1 - (lg_sl ([.ref h0])).length) Slot.unset).toArray = ls at hl ⊢
  have hl : lv_has ls 1 [(0, .ref h0)] := hl
  have h1 := hq.1
  have h2 := hq.2.1
  have h3 := hq.2.2.1
  have h4 := hq.en_lt
  refine lv_aload_n hx hb dX1_firstInt_0 rfl (lv_at hl 0 rfl) ?_
  refine va_get (D := (dC, dI)) (ci := 1) (v := .int (nI st)) (C := RX1) (T := TX1) (N := 4) hx hb hts in_X1 hown hK hP 0 rfl rfl 2 (by decide) (hts _ q348) (fun _ h9 => h9) rfl dX1_firstInt_1 ?_
  refine lv_aload_n hx hb dX1_firstInt_4 rfl (lv_at hl 0 rfl) ?_
  refine va_get (D := (dC, dI)) (ci := 1) (v := .int (nI en)) (C := RX1) (T := TX1) (N := 4) hx hb hts in_X1 hown hK hP 0 rfl rfl 3 (by decide) (hts _ q349) (fun _ h9 => h9) rfl dX1_firstInt_5 ?_
  refine lv_icmp_ne (tgt := 19) hx hb dX1_firstInt_8 (by decide) (fun c_8 => ?_) (fun c_8 => ?_)
  · refine lv_aload_n hx hb dX1_firstInt_19 rfl (lv_at hl 0 rfl) ?_
    refine va_get (D := (dC, dI)) (ci := 1) (v := .ref ar) (C := RX1) (T := TX1) (N := 4) hx hb hts in_X1 hown hK hP 0 rfl rfl 0 (by decide) (hts _ q346) (fun _ h9 => h9) rfl dX1_firstInt_20 ?_
    refine lv_aload_n hx hb dX1_firstInt_23 rfl (lv_at hl 0 rfl) ?_
    refine va_get (D := (dC, dI)) (ci := 1) (v := .int (nI st)) (C := RX1) (T := TX1) (N := 4) hx hb hts in_X1 hown hK hP 0 rfl rfl 2 (by decide) (hts _ q348) (fun _ h9 => h9) rfl dX1_firstInt_24 ?_
    refine va_iald hx hb hK hP 1 0 rfl rfl (vp_in_nI h1 (by omega)) dX1_firstInt_27 ?_
    refine cl_ti (y := xs 0) (by rw [nI_clamp (by omega)]; exact cl_first hq hn) ?_
    have hP9 := hP.sub (ws' := [(h0, .inr (1, [.ref ar, .int (nI L), .int (nI st), .int (nI en)])), (ar, .inl (d, L, .inl f))]) [0, 1] rfl
    have hD9 := hD.sub (ws' := [(h0, .inr (1, [.ref ar, .int (nI L), .int (nI st), .int (nI en)])), (ar, .inl (d, L, .inl f))]) [0, 1] (by decide) rfl
    have hK9 := hK.sub (tys' := [(d, .int)]) [0] rfl
    exact W.iret (v := xs 0) hx hb hr (fun t ht hW => ⟨⟨xs 0, (()), rfl, rfl, by rw [ht]; exact hP9, va_K.moved hW.alike hK9, hD9⟩, hS.F ht⟩) hS.2.2 dX1_firstInt_28
  · exact absurd c_8 (cl_neI hq hn)
set_option maxHeartbeats 4000000 in
set_option maxRecDepth 100000 in
/-- lastInt(): the last number -/
theorem metX1_lastInt (l : Launch) (dC : Nat → ClassId) (dI : Nat → Nat → Nat) (sz : Nat) (h0 ar : Nat) (d : ClassId) (L st en n : Nat) (f xs : Nat → Int32) (hq : cl_R f L st en n xs) (hn : 0 < n) : Met l yX1_lastInt (ws_ yX1_lastInt cX1_lastInt 1 (some .int)) ({ frames := 0, cells := 0, slots := 0, locals := 0 } : Jvm.Room) (va_Pc [.ref h0] (fun U => U.heap.size = sz ∧ va_P (dC, dI) vwCl [(h0, .inr (1, [.ref ar, .int (nI L), .int (nI st), .int (nI en)])), (ar, .inl (d, L, .inl f))] U.heap ∧ va_K (dC, dI) vwCl [(d, .int)] U ∧ va_D (fun _ => True) [(h0, .inr (1, [.ref ar, .int (nI L), .int (nI st), .int (nI en)])), (ar, .inl (d, L, .inl f))])) (va_Qi (S := Unit) (fun (r : Int32) (_ : Unit) => r = xs (n - 1)) (cl_BW dC dI [(d, .int)] [(h0, .inr (1, [.ref ar, .int (nI L), .int (nI st), .int (nI en)])), (ar, .inl (d, L, .inl f))] (va_A [(h0, .inr (1, [.ref ar, .int (nI L), .int (nI st), .int (nI en)])), (ar, .inl (d, L, .inl f))] sz)) (va_A [(h0, .inr (1, [.ref ar, .int (nI L), .int (nI st), .int (nI en)])), (ar, .inl (d, L, .inl f))] sz)) 0 0 (va_A [(h0, .inr (1, [.ref ar, .int (nI L), .int (nI st), .int (nI en)])), (ar, .inl (d, L, .inl f))] sz) := by
  refine Met.ofW (cc := cX1_lastInt) (maxL := 1) (ret := (some .int)) (by decide) rfl ?_
  intro p e s m args below meth c s₁ B hml hv
  obtain ⟨rfl, hsz, hP, hK, hD0⟩ := hv
  have hx := B.exec
  have hb := B.bytes
  have hr := B.returns
  have hts := atoms_spec (ws := ws_ yX1_lastInt cX1_lastInt 1 (some .int)) B.pre
  have hts : ∀ w ∈ lw_all, w.before _ s = true := fun w h => hts w (List.mem_cons_of_mem _ h)
  have hown : s.vm.findClass RX1 = some m.cls := findClass_of_methodNamed B.named
  have hlocks := B.notSynchronized
  subst hsz
  have hD := hD0.self (sz := s.heap.size)
  generalize hAe : va_A [(h0, .inr (1, [.ref ar, .int (nI L), .int (nI st), .int (nI en)])), (ar, .inl (d, L, .inl f))] s.heap.size = A at hD ⊢
  have hA : ∀ q : Nat, s.heap.size ≤ q → A q := fun q h => by rw [← hAe]; exact Or.inr h
  have hS : va_S A s.heap s.heap [] := va_S.rf
  have hP : va_P (dC, dI) vwCl [(h0, .inr (1, [.ref ar, .int (nI L), .int (nI st), .int (nI en)])), (ar, .inl (d, L, .inl f))] s.heap := hP
  have hl := lv_entry ([.ref h0]) (n := 1) (Nat.le_of_ble_eq_true rfl)
  rw [lg_entry_eq]
  generalize (lg_sl ([.ref h0]) ++ List.replicate (1 - (lg_sl ([.ref h0])).length) Slot.unset).toArray = ls at hl ⊢
  have hl : lv_has ls 1 [(0, .ref h0)] := hl
  have h1 := hq.1
  have h2 := hq.2.1
  have h3 := hq.2.2.1
  have h4 := hq.en_lt
  refine lv_aload_n hx hb dX1_lastInt_0 rfl (lv_at hl 0 rfl) ?_
  refine va_get (D := (dC, dI)) (ci := 1) (v := .int (nI st)) (C := RX1) (T := TX1) (N := 4) hx hb hts in_X1 hown hK hP 0 rfl rfl 2 (by decide) (hts _ q348) (fun _ h9 => h9) rfl dX1_lastInt_1 ?_
  refine lv_aload_n hx hb dX1_lastInt_4 rfl (lv_at hl 0 rfl) ?_
  refine va_get (D := (dC, dI)) (ci := 1) (v := .int (nI en)) (C := RX1) (T := TX1) (N := 4) hx hb hts in_X1 hown hK hP 0 rfl rfl 3 (by decide) (hts _ q349) (fun _ h9 => h9) rfl dX1_lastInt_5 ?_
  refine lv_icmp_ne (tgt := 19) hx hb dX1_lastInt_8 (by decide) (fun c_8 => ?_) (fun c_8 => ?_)
  · refine lv_aload_n hx hb dX1_lastInt_19 rfl (lv_at hl 0 rfl) ?_
    refine va_get (D := (dC, dI)) (ci := 1) (v := .ref ar) (C := RX1) (T := TX1) (N := 4) hx hb hts in_X1 hown hK hP 0 rfl rfl 0 (by decide) (hts _ q346) (fun _ h9 => h9) rfl dX1_lastInt_20 ?_
    refine lv_aload_n hx hb dX1_lastInt_23 rfl (lv_at hl 0 rfl) ?_
    refine va_get (D := (dC, dI)) (ci := 1) (v := .int (nI en)) (C := RX1) (T := TX1) (N := 4) hx hb hts in_X1 hown hK hP 0 rfl rfl 3 (by decide) (hts _ q349) (fun _ h9 => h9) rfl dX1_lastInt_24 ?_
    refine lv_if_ne (tgt := 37) hx hb dX1_lastInt_27 (by decide) (fun c_27 => ?_) (fun c_27 => ?_)
    · have he := cl_nz c_27
      have hl2 := cl_last hq hn (e1 := en - 1) (by rw [if_neg (by omega)])
      refine lv_aload_n hx hb dX1_lastInt_37 rfl (lv_at hl 0 rfl) ?_
      refine va_get (D := (dC, dI)) (ci := 1) (v := .int (nI en)) (C := RX1) (T := TX1) (N := 4) hx hb hts in_X1 hown hK hP 0 rfl rfl 3 (by decide) (hts _ q349) (fun _ h9 => h9) rfl dX1_lastInt_38 ?_
      refine lv_iconst (v := nI 1) hx hb dX1_lastInt_41 (by decide) ?_
      refine lv_isub hx hb dX1_lastInt_42 ?_
      refine cl_ti (y := nI (en - 1)) (pk_sub (a := en) (b := 1) (by omega)) ?_
      refine va_iald hx hb hK hP 1 0 rfl rfl (vp_in_nI hl2.2.1 (by omega)) dX1_lastInt_43 ?_
      refine cl_ti (y := xs (n - 1)) (by rw [nI_clamp (by omega)]; exact hl2.2.2) ?_
      have hP9 := hP.sub (ws' := [(h0, .inr (1, [.ref ar, .int (nI L), .int (nI st), .int (nI en)])), (ar, .inl (d, L, .inl f))]) [0, 1] rfl
      have hD9 := hD.sub (ws' := [(h0, .inr (1, [.ref ar, .int (nI L), .int (nI st), .int (nI en)])), (ar, .inl (d, L, .inl f))]) [0, 1] (by decide) rfl
      have hK9 := hK.sub (tys' := [(d, .int)]) [0] rfl
      exact W.iret (v := xs (n - 1)) hx hb hr (fun t ht hW => ⟨⟨xs (n - 1), (()), rfl, rfl, by rw [ht]; exact hP9, va_K.moved hW.alike hK9, hD9⟩, hS.F ht⟩) hS.2.2 dX1_lastInt_44
    · have he := cl_z (by omega) c_27
      have hl2 := cl_last hq hn (e1 := L - 1) (by rw [if_pos he])
      refine lv_aload_n hx hb dX1_lastInt_30 rfl (lv_at hl 0 rfl) ?_
      refine va_get (D := (dC, dI)) (ci := 1) (v := .int (nI L)) (C := RX1) (T := TX1) (N := 4) hx hb hts in_X1 hown hK hP 0 rfl rfl 1 (by decide) (hts _ q347) (fun _ h9 => h9) rfl dX1_lastInt_31 ?_
      refine lv_goto (tgt := 41) hx hb dX1_lastInt_34 (by decide) ?_
      refine lv_iconst (v := nI 1) hx hb dX1_lastInt_41 (by decide) ?_
      refine lv_isub hx hb dX1_lastInt_42 ?_
      refine cl_ti (y := nI (L - 1)) (pk_sub (a := L) (b := 1) (by omega)) ?_
      refine va_iald hx hb hK hP 1 0 rfl rfl (vp_in_nI hl2.2.1 (by omega)) dX1_lastInt_43 ?_
      refine cl_ti (y := xs (n - 1)) (by rw [nI_clamp (by omega)]; exact hl2.2.2) ?_
      have hP9 := hP.sub (ws' := [(h0, .inr (1, [.ref ar, .int (nI L), .int (nI st), .int (nI en)])), (ar, .inl (d, L, .inl f))]) [0, 1] rfl
      have hD9 := hD.sub (ws' := [(h0, .inr (1, [.ref ar, .int (nI L), .int (nI st), .int (nI en)])), (ar, .inl (d, L, .inl f))]) [0, 1] (by decide) rfl
      have hK9 := hK.sub (tys' := [(d, .int)]) [0] rfl
      exact W.iret (v := xs (n - 1)) hx hb hr (fun t ht hW => ⟨⟨xs (n - 1), (()), rfl, rfl, by rw [ht]; exact hP9, va_K.moved hW.alike hK9, hD9⟩, hS.F ht⟩) hS.2.2 dX1_lastInt_44
  · exact absurd c_8 (cl_neI hq hn)
set_option maxHeartbeats 4000000 in
set_option maxRecDepth 100000 in
/-- clear() -/
theorem metX1_clear (l : Launch) (dC : Nat → ClassId) (dI : Nat → Nat → Nat) (sz : Nat) (h0 ar : Nat) (d : ClassId) (L st en n : Nat) (f xs : Nat → Int32) (hq : cl_R f L st en n xs) : Met l yX1_clear (ws_ yX1_clear cX1_clear 1 none) ({ frames := 0, cells := 0, slots := 0, locals := 0 } : Jvm.Room) (va_Pc [.ref h0] (fun U => U.heap.size = sz ∧ va_P (dC, dI) vwCl [(h0, .inr (1, [.ref ar, .int (nI L), .int (nI st), .int (nI en)])), (ar, .inl (d, L, .inl f))] U.heap ∧ va_K (dC, dI) vwCl [(d, .int)] U ∧ va_D (fun _ => True) [(h0, .inr (1, [.ref ar, .int (nI L), .int (nI st), .int (nI en)])), (ar, .inl (d, L, .inl f))])) (va_Qv (S := cl_Q) (fun (u : cl_Q) => cl_R u.2.2.2.2.2 u.2.2.1 u.2.2.2.1 u.2.2.2.2.1 0 xs) (cl_BQ dC dI h0 (va_A [(h0, .inr (1, [.ref ar, .int (nI L), .int (nI st), .int (nI en)])), (ar, .inl (d, L, .inl f))] sz)) (va_A [(h0, .inr (1, [.ref ar, .int (nI L), .int (nI st), .int (nI en)])), (ar, .inl (d, L, .inl f))] sz)) 0 0 (va_A [(h0, .inr (1, [.ref ar, .int (nI L), .int (nI st), .int (nI en)])), (ar, .inl (d, L, .inl f))] sz) := by
  refine Met.ofW (cc := cX1_clear) (maxL := 1) (ret := none) (by decide) rfl ?_
  intro p e s m args below meth c s₁ B hml hv
  obtain ⟨rfl, hsz, hP, hK, hD0⟩ := hv
  have hx := B.exec
  have hb := B.bytes
  have hr := B.returns
  have hts := atoms_spec (ws := ws_ yX1_clear cX1_clear 1 none) B.pre
  have hts : ∀ w ∈ lw_all, w.before _ s = true := fun w h => hts w (List.mem_cons_of_mem _ h)
  have hown : s.vm.findClass RX1 = some m.cls := findClass_of_methodNamed B.named
  have hlocks := B.notSynchronized
  subst hsz
  have hD := hD0.self (sz := s.heap.size)
  generalize hAe : va_A [(h0, .inr (1, [.ref ar, .int (nI L), .int (nI st), .int (nI en)])), (ar, .inl (d, L, .inl f))] s.heap.size = A at hD ⊢
  have hA : ∀ q : Nat, s.heap.size ≤ q → A q := fun q h => by rw [← hAe]; exact Or.inr h
  have hS : va_S A s.heap s.heap [] := va_S.rf
  have hP : va_P (dC, dI) vwCl [(h0, .inr (1, [.ref ar, .int (nI L), .int (nI st), .int (nI en)])), (ar, .inl (d, L, .inl f))] s.heap := hP
  have hl := lv_entry ([.ref h0]) (n := 1) (Nat.le_of_ble_eq_true rfl)
  rw [lg_entry_eq]
  generalize (lg_sl ([.ref h0]) ++ List.replicate (1 - (lg_sl ([.ref h0])).length) Slot.unset).toArray = ls at hl ⊢
  have hl : lv_has ls 1 [(0, .ref h0)] := hl
  have h1 := hq.1
  have h2 := hq.2.1
  have h3 := hq.2.2.1
  have h4 := hq.en_lt
  refine lv_aload_n hx hb dX1_clear_0 rfl (lv_at hl 0 rfl) ?_
  refine lv_aload_n hx hb dX1_clear_1 rfl (lv_at hl 0 rfl) ?_
  refine lv_iconst (v := nI 0) hx hb dX1_clear_2 (by decide) ?_
  refine lv_dup_x1 hx hb dX1_clear_3 rfl rfl ?_
  refine va_put (D := (dC, dI)) (ci := 1) (v := .int (nI 0)) (ty := .int) (C := RX1) (T := TX1) (N := 4) hx hb hts in_X1 tyX1 tyX1_ok nmX1 hown hK hP hD hS 0 rfl rfl 3 (by decide) (hts _ q349) (fun _ h9 => h9) rfl (by decide +kernel) rfl rfl (Nat.le_of_ble_eq_true rfl) dX1_clear_4 (fun H locs hP hD hS => ?_)
  have hP : va_P (dC, dI) vwCl [(h0, .inr (1, [.ref ar, .int (nI L), .int (nI st), .int (nI 0)])), (ar, .inl (d, L, .inl f))] H := hP
  have hD : va_D A [(h0, .inr (1, [.ref ar, .int (nI L), .int (nI st), .int (nI 0)])), (ar, .inl (d, L, .inl f))] := hD
  refine va_put (D := (dC, dI)) (ci := 1) (v := .int (nI 0)) (ty := .int) (C := RX1) (T := TX1) (N := 4) hx hb hts in_X1 tyX1 tyX1_ok nmX1 hown hK hP hD hS 0 rfl rfl 2 (by decide) (hts _ q348) (fun _ h9 => h9) rfl (by decide +kernel) rfl rfl (Nat.le_of_ble_eq_true rfl) dX1_clear_7 (fun H locs hP hD hS => ?_)
  have hP : va_P (dC, dI) vwCl [(h0, .inr (1, [.ref ar, .int (nI L), .int (nI 0), .int (nI 0)])), (ar, .inl (d, L, .inl f))] H := hP
  have hD : va_D A [(h0, .inr (1, [.ref ar, .int (nI L), .int (nI 0), .int (nI 0)])), (ar, .inl (d, L, .inl f))] := hD
  have hP9 := hP.sub (ws' := [(h0, .inr (1, [.ref ar, .int (nI L), .int (nI 0), .int (nI 0)])), (ar, .inl (d, L, .inl f))]) [0, 1] rfl
  have hD9 := hD.sub (ws' := [(h0, .inr (1, [.ref ar, .int (nI L), .int (nI 0), .int (nI 0)])), (ar, .inl (d, L, .inl f))]) [0, 1] (by decide) rfl
  have hK9 := hK.sub (tys' := [(d, .int)]) [0] rfl
  exact W.vret hx hb hr (fun t ht hW => ⟨⟨(ar, d, L, 0, 0, f), rfl, cl_R0 (show 0 < L by omega) h3, by rw [ht]; exact hP9, va_K.moved hW.alike hK9, hD9⟩, hS.F ht⟩) hS.2.2 dX1_clear_10
set_option maxHeartbeats 4000000 in
set_option maxRecDepth 100000 in
/-- IntArrayFIFOQueue(2): an empty ring of 3 places -/
theorem metX1_init (l : Launch) (dC : Nat → ClassId) (dI : Nat → Nat → Nat) (sz : Nat) (h0 : Nat) : Met l yX1_init (ws_ yX1_init cX1_init 2 none) ({ frames := 1, cells := 1, slots := 3, locals := 20 } : Jvm.Room) (va_Pc [.ref h0, .int (nI 2)] (fun U => U.heap.size = sz ∧ va_P (dC, dI) vwCl [(h0, .inr (1, [.null, .int (nI 0), .int (nI 0), .int (nI 0)]))] U.heap ∧ va_K (dC, dI) vwCl [] U ∧ va_D (fun _ => True) [(h0, .inr (1, [.null, .int (nI 0), .int (nI 0), .int (nI 0)]))])) (va_Qv (S := cl_Q) (fun (u : cl_Q) => ∀ xs : Nat → Int32, cl_R u.2.2.2.2.2 u.2.2.1 u.2.2.2.1 u.2.2.2.2.1 0 xs) (cl_BQ dC dI h0 (va_A [(h0, .inr (1, [.null, .int (nI 0), .int (nI 0), .int (nI 0)]))] sz)) (va_A [(h0, .inr (1, [.null, .int (nI 0), .int (nI 0), .int (nI 0)]))] sz)) 1 3 (va_A [(h0, .inr (1, [.null, .int (nI 0), .int (nI 0), .int (nI 0)]))] sz) := by
  refine Met.ofW (cc := cX1_init) (maxL := 2) (ret := none) (by decide) rfl ?_
  intro p e s m args below meth c s₁ B hml hv
  obtain ⟨rfl, hsz, hP, hK, hD0⟩ := hv
  have hx := B.exec
  have hb := B.bytes
  have hr := B.returns
  have hts := atoms_spec (ws := ws_ yX1_init cX1_init 2 none) B.pre
  have hts : ∀ w ∈ lw_all, w.before _ s = true := fun w h => hts w (List.mem_cons_of_mem _ h)
  have hown : s.vm.findClass RX1 = some m.cls := findClass_of_methodNamed B.named
  have hlocks := B.notSynchronized
  have hin : meth.name = "<init>" := (name_of_methodNamed B.named B.method).1
  subst hsz
  have hD := hD0.self (sz := s.heap.size)
  generalize hAe : va_A [(h0, .inr (1, [.null, .int (nI 0), .int (nI 0), .int (nI 0)]))] s.heap.size = A at hD ⊢
  have hA : ∀ q : Nat, s.heap.size ≤ q → A q := fun q h => by rw [← hAe]; exact Or.inr h
  have hS : va_S A s.heap s.heap [] := va_S.rf
  have hP : va_P (dC, dI) vwCl [(h0, .inr (1, [.null, .int (nI 0), .int (nI 0), .int (nI 0)]))] s.heap := hP
  have hl := lv_entry ([.ref h0, .int (nI 2)]) (n := 2) (Nat.le_of_ble_eq_true rfl)
  rw [lg_entry_eq]
  generalize (lg_sl ([.ref h0, .int (nI 2)]) ++ List.replicate (2 - (lg_sl ([.ref h0, .int (nI 2)])).length) Slot.unset).toArray = ls at hl ⊢
  have hl : lv_has ls 2 [(0, .ref h0), (1, .int (nI 2))] := hl
  refine lv_aload_n hx hb dX1_init_0 rfl (lv_at hl 0 rfl) ?_
  refine W.objInit hx hb hown (hts _ q38) (hts _ q31) (hts _ q32) rfl (by rw [hml]; exact hl.1) rfl dX1_init_1 (Nat.le_of_ble_eq_true rfl) (Nat.le_of_ble_eq_true rfl) ?_
  refine W.eq (g2 := F0 m 4 ls []) rfl ?_
  refine lv_iload_n hx hb dX1_init_4 rfl (lv_at hl 1 rfl) ?_
  refine lv_ldc hx hb hown (hts _ q39) dX1_init_5 ?_
  refine lv_icmp_le (tgt := 47) hx hb dX1_init_7 (by decide) (fun c_7 => ?_) (fun c_7 => ?_)
  · refine lv_iload_n hx hb dX1_init_47 rfl (lv_at hl 1 rfl) ?_
    refine lv_if_ge (tgt := 83) hx hb dX1_init_48 (by decide) (fun c_48 => ?_) (fun c_48 => ?_)
    · refine lv_aload_n hx hb dX1_init_83 rfl (lv_at hl 0 rfl) ?_
      refine lv_iconst (v := nI 1) hx hb dX1_init_84 (by decide) ?_
      refine lv_iload_n hx hb dX1_init_85 rfl (lv_at hl 1 rfl) ?_
      refine lv_iconst (v := nI 1) hx hb dX1_init_86 (by decide) ?_
      refine lv_iadd hx hb dX1_init_87 ?_
      refine cl_ti (y := nI 3) (nI_add 2 1) ?_
      refine va_mmax hx hb (hml.trans hl.1.symm) hown (hts _ q345) (hts _ q136) (hts _ q16) (hts _ q137) (Nat.le_of_ble_eq_true rfl) (Nat.le_of_ble_eq_true rfl) (Nat.le_of_ble_eq_true rfl) (Nat.le_of_ble_eq_true rfl) dX1_init_88 ?_
      refine cl_ti (y := nI 3) (by decide +kernel) ?_
      refine va_newa (atype := .int) (ty := .int) (n := nI 3) (N' := 3) (a0 := (3, .inl (fun _ => 0))) hx hb (hts _ q359) rfl hK hP hD hS hA (fun _ => rfl) (by decide) (by decide) (by decide) (show 0 + 1 ≤ 1 by omega) (show 0 + 3 ≤ 3 by omega) dX1_init_91 (fun ar d H hK hP hD hS => ?_)
      have hP : va_P (dC, dI) vwCl [(h0, .inr (1, [.null, .int (nI 0), .int (nI 0), .int (nI 0)])), (ar, .inl (d, 3, .inl (fun _ => 0)))] H := hP
      have hD : va_D A [(h0, .inr (1, [.null, .int (nI 0), .int (nI 0), .int (nI 0)])), (ar, .inl (d, 3, .inl (fun _ => 0)))] := hD
      have hK : va_K (dC, dI) vwCl [(d, .int)] s := hK
      refine va_put (D := (dC, dI)) (ci := 1) (v := .ref ar) (ty := .array .int) (C := RX1) (T := TX1) (N := 4) hx hb hts in_X1 tyX1 tyX1_ok nmX1 hown hK hP hD hS 0 rfl rfl 0 (by decide) (hts _ q346) (fun _ h9 => h9) rfl (by decide +kernel) rfl rfl (Nat.le_of_ble_eq_true rfl) dX1_init_93 (fun H locs hP hD hS => ?_)
      have hP : va_P (dC, dI) vwCl [(h0, .inr (1, [.ref ar, .int (nI 0), .int (nI 0), .int (nI 0)])), (ar, .inl (d, 3, .inl (fun _ => 0)))] H := hP
      have hD : va_D A [(h0, .inr (1, [.ref ar, .int (nI 0), .int (nI 0), .int (nI 0)])), (ar, .inl (d, 3, .inl (fun _ => 0)))] := hD
      refine lv_aload_n hx hb dX1_init_96 rfl (lv_at hl 0 rfl) ?_
      refine lv_aload_n hx hb dX1_init_97 rfl (lv_at hl 0 rfl) ?_
      refine va_get (D := (dC, dI)) (ci := 1) (v := .ref ar) (C := RX1) (T := TX1) (N := 4) hx hb hts in_X1 hown hK hP 0 rfl rfl 0 (by decide) (hts _ q346) (fun _ h9 => h9) rfl dX1_init_98 ?_
      refine va_alen (v := nI 3) hx hb hK hP 1 0 rfl rfl rfl dX1_init_101 ?_
      refine va_put (D := (dC, dI)) (ci := 1) (v := .int (nI 3)) (ty := .int) (C := RX1) (T := TX1) (N := 4) hx hb hts in_X1 tyX1 tyX1_ok nmX1 hown hK hP hD hS 0 rfl rfl 1 (by decide) (hts _ q347) (fun _ h9 => h9) rfl (by decide +kernel) rfl rfl (Nat.le_of_ble_eq_true rfl) dX1_init_102 (fun H locs hP hD hS => ?_)
      have hP : va_P (dC, dI) vwCl [(h0, .inr (1, [.ref ar, .int (nI 3), .int (nI 0), .int (nI 0)])), (ar, .inl (d, 3, .inl (fun _ => 0)))] H := hP
      have hD : va_D A [(h0, .inr (1, [.ref ar, .int (nI 3), .int (nI 0), .int (nI 0)])), (ar, .inl (d, 3, .inl (fun _ => 0)))] := hD
      have hP9 := hP.sub (ws' := [(h0, .inr (1, [.ref ar, .int (nI 3), .int (nI 0), .int (nI 0)])), (ar, .inl (d, 3, .inl (fun _ => 0)))]) [0, 1] rfl
      have hD9 := hD.sub (ws' := [(h0, .inr (1, [.ref ar, .int (nI 3), .int (nI 0), .int (nI 0)])), (ar, .inl (d, 3, .inl (fun _ => 0)))]) [0, 1] (by decide) rfl
      have hK9 := hK.sub (tys' := [(d, .int)]) [0] rfl
      refine W.widen (k := 1) (n := 3) (by omega) (by omega) ?_
      exact W.vret hx hb hr (fun t ht hW => ⟨⟨(ar, d, 3, 0, 0, fun _ => 0), rfl, fun _ => cl_R0 (show 0 < 3 by decide) (show 3 ≤ 300 by decide), by rw [ht]; exact hP9, va_K.moved hW.alike hK9, hD9⟩, hS.F ht⟩) hS.2.2 dX1_init_105
    · exact absurd (by decide +kernel) c_48
  · exact absurd (by decide +kernel) c_7
set_option maxHeartbeats 4000000 in
set_option maxRecDepth 100000 in
/-- isEmpty() -/
theorem metX3_isEmpty (l : Launch) (dC : Nat → ClassId) (dI : Nat → Nat → Nat) (sz : Nat) (h0 ar : Nat) (d : ClassId) (L st en n : Nat) (f xs : Nat → Int32) (hq : cl_R f L st en n xs) : Met l yX3_isEmpty (ws_ yX3_isEmpty cX3_isEmpty 1 (some .boolean)) ({ frames := 1, cells := 0, slots := 0, locals := 30 } : Jvm.Room) (va_Pc [.ref h0] (fun U => U.heap.size = sz ∧ va_P (dC, dI) vwCl [(h0, .inr (1, [.ref ar, .int (nI L), .int (nI st), .int (nI en)])), (ar, .inl (d, L, .inl f))] U.heap ∧ va_K (dC, dI) vwCl [(d, .int)] U ∧ va_D (fun _ => True) [(h0, .inr (1, [.ref ar, .int (nI L), .int (nI st), .int (nI en)])), (ar, .inl (d, L, .inl f))] ∧ cl_E U)) (va_Qi (S := Unit) (fun (r : Int32) (_ : Unit) => (n = 0 → r = nI 1) ∧ (0 < n → r = nI 0)) (cl_BW dC dI [(d, .int)] [(h0, .inr (1, [.ref ar, .int (nI L), .int (nI st), .int (nI en)])), (ar, .inl (d, L, .inl f))] (va_A [(h0, .inr (1, [.ref ar, .int (nI L), .int (nI st), .int (nI en)])), (ar, .inl (d, L, .inl f))] sz)) (va_A [(h0, .inr (1, [.ref ar, .int (nI L), .int (nI st), .int (nI en)])), (ar, .inl (d, L, .inl f))] sz)) 0 0 (va_A [(h0, .inr (1, [.ref ar, .int (nI L), .int (nI st), .int (nI en)])), (ar, .inl (d, L, .inl f))] sz) := by
  refine Met.ofW (cc := cX3_isEmpty) (maxL := 1) (ret := (some .boolean)) (by decide) rfl ?_
  intro p e s m args below meth c s₁ B hml hv
  obtain ⟨rfl, hsz, hP, hK, hD0, hE⟩ := hv
  have hx := B.exec
  have hb := B.bytes
  have hr := B.returns
  have hts := atoms_spec (ws := ws_ yX3_isEmpty cX3_isEmpty 1 (some .boolean)) B.pre
  have hts : ∀ w ∈ lw_all, w.before _ s = true := fun w h => hts w (List.mem_cons_of_mem _ h)
  have hown : s.vm.findClass RX3 = some m.cls := findClass_of_methodNamed B.named
  have hlocks := B.notSynchronized
  subst hsz
  have hD := hD0.self (sz := s.heap.size)
  generalize hAe : va_A [(h0, .inr (1, [.ref ar, .int (nI L), .int (nI st), .int (nI en)])), (ar, .inl (d, L, .inl f))] s.heap.size = A at hD ⊢
  have hA : ∀ q : Nat, s.heap.size ≤ q → A q := fun q h => by rw [← hAe]; exact Or.inr h
  have hS : va_S A s.heap s.heap [] := va_S.rf
  have hP : va_P (dC, dI) vwCl [(h0, .inr (1, [.ref ar, .int (nI L), .int (nI st), .int (nI en)])), (ar, .inl (d, L, .inl f))] s.heap := hP
  have hl := lv_entry ([.ref h0]) (n := 1) (Nat.le_of_ble_eq_true rfl)
  rw [lg_entry_eq]
  generalize (lg_sl ([.ref h0]) ++ List.replicate (1 - (lg_sl ([.ref h0])).length) Slot.unset).toArray = ls at hl ⊢
  have hl : lv_has ls 1 [(0, .ref h0)] := hl
  have h1 := hq.1
  have h2 := hq.2.1
  have h3 := hq.2.2.1
  have h4 := hq.en_lt
  refine lv_aload_n hx hb dX3_isEmpty_0 rfl (lv_at hl 0 rfl) ?_
  have hPc := hP.sub (ws' := [(h0, .inr (1, [.ref ar, .int (nI L), .int (nI st), .int (nI en)])), (ar, .inl (d, L, .inl f))]) [0, 1] rfl
  have hDc := hD.sub (ws' := [(h0, .inr (1, [.ref ar, .int (nI L), .int (nI st), .int (nI en)])), (ar, .inl (d, L, .inl f))]) [0, 1] (by decide) rfl
  have hKc := hK.sub (tys' := [(d, .int)]) [0] rfl
  have hFc := va_free (wc := [(h0, .inr (1, [.ref ar, .int (nI L), .int (nI st), .int (nI en)])), (ar, .inl (d, L, .inl f))]) hD hS hA [0, 1] rfl
  refine va_callFi (va_runF (x := (⟨"OwnPriorityQueue", "size", "()I"⟩ : MethodName)) (hK.1 1 _ rfl).2 (As := []) (rest := []) ⟨hx, hb, hml, hown, hts⟩ (metX1_size l dC dI s.heap.size h0 ar d L st en n f xs hq) (va_cwF (x := (⟨"OwnPriorityQueue", "size", "()I"⟩ : MethodName)) 0 hts (cl_wsF) rfl rfl rfl hE (by decide +kernel) ⟨Nat.le_of_ble_eq_true rfl, Nat.le_of_ble_eq_true rfl⟩) ⟨fun a U g mk q => by obtain ⟨q0, q1, qP, qK, qD⟩ := q; exact ⟨q0, q1, qP, va_K.moved (u := U) (U := U.calling g mk a) (Vm.Alike.refl U.vm) qK, qD⟩, va_recv hKc hPc (ci := 1) (q0 := 0) rfl rfl, fun U hU hW => ⟨rfl, by rw [hU], by rw [hU]; exact hPc, va_K.moved hW.alike hKc, hDc.weaken (fun _ _ _ _ => trivial)⟩⟩ rfl rfl hl.1 rfl (lv_room (Nat.le_of_ble_eq_true rfl)) dX3_isEmpty_1 ⟨Nat.zero_le _, Nat.zero_le _⟩) hS (fun q _ h => hFc q h) hFc (fun r u t H1 locs ht hvm hw hB hz1 hk1 hS => ?_)
  obtain ⟨hP1, hK1, hD1⟩ := hB
  rw [ht] at hP1
  have hK1 := va_K.moved hvm.symm hK1
  obtain ⟨hP, hD⟩ := va_join (wr := []) (w1 := [(h0, .inr (1, [.ref ar, .int (nI L), .int (nI st), .int (nI en)])), (ar, .inl (d, L, .inl f))]) hP hD [0, 1] [] rfl rfl (by decide) (by decide) hk1 hFc hP1 hD1
  have hK := (hK.sub (tys' := []) [] rfl).app hK1
  clear hPc hDc hKc hFc hz1 hk1 hP1 hD1 hK1 ht hvm
  generalize H1 = H at hP hS ⊢
  have hP : va_P (dC, dI) vwCl [(h0, .inr (1, [.ref ar, .int (nI L), .int (nI st), .int (nI en)])), (ar, .inl (d, L, .inl f))] H := hP
  have hD : va_D A [(h0, .inr (1, [.ref ar, .int (nI L), .int (nI st), .int (nI en)])), (ar, .inl (d, L, .inl f))] := hD
  have hK : va_K (dC, dI) vwCl [(d, .int)] s := hK
  have hw : r = nI n := hw
  subst hw
  refine W.widen (k := 0) (n := 0) (by omega) (by omega) ?_
  refine lv_if_ne (tgt := 13) hx hb dX3_isEmpty_6 (by decide) (fun c_6 => ?_) (fun c_6 => ?_)
  · have hn := cl_nz c_6
    refine lv_iconst (v := nI 0) hx hb dX3_isEmpty_13 (by decide) ?_
    have hP9 := hP.sub (ws' := [(h0, .inr (1, [.ref ar, .int (nI L), .int (nI st), .int (nI en)])), (ar, .inl (d, L, .inl f))]) [0, 1] rfl
    have hD9 := hD.sub (ws' := [(h0, .inr (1, [.ref ar, .int (nI L), .int (nI st), .int (nI en)])), (ar, .inl (d, L, .inl f))]) [0, 1] (by decide) rfl
    have hK9 := hK.sub (tys' := [(d, .int)]) [0] rfl
    exact W.zret (v := nI 0) hx hb hr rfl (fun t ht hW => ⟨⟨nI 0, (()), rfl, ⟨fun q => absurd q (by omega), fun _ => rfl⟩, by rw [ht]; exact hP9, va_K.moved hW.alike hK9, hD9⟩, hS.F ht⟩) hS.2.2 dX3_isEmpty_14
  · have hn := cl_z (by omega) c_6
    refine lv_iconst (v := nI 1) hx hb dX3_isEmpty_9 (by decide) ?_
    refine lv_goto (tgt := 14) hx hb dX3_isEmpty_10 (by decide) ?_
    have hP9 := hP.sub (ws' := [(h0, .inr (1, [.ref ar, .int (nI L), .int (nI st), .int (nI en)])), (ar, .inl (d, L, .inl f))]) [0, 1] rfl
    have hD9 := hD.sub (ws' := [(h0, .inr (1, [.ref ar, .int (nI L), .int (nI st), .int (nI en)])), (ar, .inl (d, L, .inl f))]) [0, 1] (by decide) rfl
    have hK9 := hK.sub (tys' := [(d, .int)]) [0] rfl
    exact W.zret (v := nI 1) hx hb hr rfl (fun t ht hW => ⟨⟨nI 1, (()), rfl, ⟨fun _ => rfl, fun q => absurd q (by omega)⟩, by rw [ht]; exact hP9, va_K.moved hW.alike hK9, hD9⟩, hS.F ht⟩) hS.2.2 dX3_isEmpty_14
end
section
/-! IntArrayFIFOQueue: resize, expand, reduce, trim -/
set_option maxRecDepth 100000
set_option maxHeartbeats 4000000 in
set_option maxRecDepth 100000 in
/-- resize(k, nl): a new array of nl places holds the k numbers from its place 0 on -/
theorem metX1_resize (l : Launch) (dC : Nat → ClassId) (dI : Nat → Nat → Nat) (sz : Nat) (h0 ar : Nat) (d : ClassId) (L st en k nl : Nat) (f : Nat → Int32) (hz : cl_Z L st en k) (hk : k ≤ nl) (hnl : nl ≤ 300) : Met l yX1_resize (ws_ yX1_resize cX1_resize 4 none) ({ frames := 1, cells := 1, slots := 300, locals := 20 } : Jvm.Room) (va_Pc [.ref h0, .int (nI k), .int (nI nl)] (fun U => U.heap.size = sz ∧ va_P (dC, dI) vwCl [(h0, .inr (1, [.ref ar, .int (nI L), .int (nI st), .int (nI en)])), (ar, .inl (d, L, .inl f))] U.heap ∧ va_K (dC, dI) vwCl [(d, .int)] U ∧ va_D (fun _ => True) [(h0, .inr (1, [.ref ar, .int (nI L), .int (nI st), .int (nI en)])), (ar, .inl (d, L, .inl f))])) (va_Qv (S := cl_Q) (fun (u : cl_Q) => u.2.2.1 = nl ∧ u.2.2.2.1 = 0 ∧ u.2.2.2.2.1 = k ∧ ∀ i, i < k → u.2.2.2.2.2 i = f (cl_ix L (st + i))) (cl_BQ dC dI h0 (va_A [(h0, .inr (1, [.ref ar, .int (nI L), .int (nI st), .int (nI en)])), (ar, .inl (d, L, .inl f))] sz)) (va_A [(h0, .inr (1, [.ref ar, .int (nI L), .int (nI st), .int (nI en)])), (ar, .inl (d, L, .inl f))] sz)) 1 300 (va_A [(h0, .inr (1, [.ref ar, .int (nI L), .int (nI st), .int (nI en)])), (ar, .inl (d, L, .inl f))] sz) := by
  refine Met.ofW (cc := cX1_resize) (maxL := 4) (ret := none) (by decide) rfl ?_
  intro p e s m args below meth c s₁ B hml hv
  obtain ⟨rfl, hsz, hP, hK, hD0⟩ := hv
  have hx := B.exec
  have hb := B.bytes
  have hr := B.returns
  have hts := atoms_spec (ws := ws_ yX1_resize cX1_resize 4 none) B.pre
  have hts : ∀ w ∈ lw_all, w.before _ s = true := fun w h => hts w (List.mem_cons_of_mem _ h)
  have hown : s.vm.findClass RX1 = some m.cls := findClass_of_methodNamed B.named
  have hlocks := B.notSynchronized
  subst hsz
  have hD := hD0.self (sz := s.heap.size)
  generalize hAe : va_A [(h0, .inr (1, [.ref ar, .int (nI L), .int (nI st), .int (nI en)])), (ar, .inl (d, L, .inl f))] s.heap.size = A at hD ⊢
  have hA : ∀ q : Nat, s.heap.size ≤ q → A q := fun q h => by rw [← hAe]; exact Or.inr h
  have hS : va_S A s.heap s.heap [] := va_S.rf
  have hP : va_P (dC, dI) vwCl [(h0, .inr (1, [.ref ar, .int (nI L), .int (nI st), .int (nI en)])), (ar, .inl (d, L, .inl f))] s.heap := hP
  have hl := lv_entry ([.ref h0, .int (nI k), .int (nI nl)]) (n := 4) (Nat.le_of_ble_eq_true rfl)
  rw [lg_entry_eq]
  generalize (lg_sl ([.ref h0, .int (nI k), .int (nI nl)]) ++ List.replicate (4 - (lg_sl ([.ref h0, .int (nI k), .int (nI nl)])).length) Slot.unset).toArray = ls at hl ⊢
  have hl : lv_has ls 4 [(0, .ref h0), (1, .int (nI k)), (2, .int (nI nl))] := hl
  obtain ⟨z1, z2, z3, z4, z5, z6⟩ := hz
  refine lv_iload_n hx hb dX1_resize_0 rfl (lv_at hl 2 rfl) ?_
  refine va_newa (atype := .int) (ty := .int) (n := nI nl) (N' := nl) (a0 := (nl, .inl (fun _ => 0))) hx hb (hts _ q359) rfl hK hP hD hS hA (fun _ => rfl) (nI_pos (by omega)) (nI_clamp (by omega)) (show nl * 4 ≤ 536870912 by omega) (show 0 + 1 ≤ 1 by omega) (show 0 + nl ≤ 300 by omega) dX1_resize_1 (fun a2 d2 H hK hP hD hS => ?_)
  have hP : va_P (dC, dI) vwCl [(h0, .inr (1, [.ref ar, .int (nI L), .int (nI st), .int (nI en)])), (ar, .inl (d, L, .inl f)), (a2, .inl (d2, nl, .inl (fun _ => 0)))] H := hP
  have hD : va_D A [(h0, .inr (1, [.ref ar, .int (nI L), .int (nI st), .int (nI en)])), (ar, .inl (d, L, .inl f)), (a2, .inl (d2, nl, .inl (fun _ => 0)))] := hD
  have hK : va_K (dC, dI) vwCl [(d, .int), (d2, .int)] s := hK
  refine W.widen (k := 1) (n := 300) (by omega) (by omega) ?_
  refine lv_astore_n (lv' := [(3, .ref a2), (0, .ref h0), (1, .int (nI k)), (2, .int (nI nl))]) hx hb dX1_resize_3 rfl hl (by decide) rfl (fun ls hl => ?_)
  refine lv_aload_n hx hb dX1_resize_4 rfl (lv_at hl 1 rfl) ?_
  refine va_get (D := (dC, dI)) (ci := 1) (v := .int (nI st)) (C := RX1) (T := TX1) (N := 4) hx hb hts in_X1 hown hK hP 0 rfl rfl 2 (by decide) (hts _ q348) (fun _ h9 => h9) rfl dX1_resize_5 ?_
  refine lv_aload_n hx hb dX1_resize_8 rfl (lv_at hl 1 rfl) ?_
  refine va_get (D := (dC, dI)) (ci := 1) (v := .int (nI en)) (C := RX1) (T := TX1) (N := 4) hx hb hts in_X1 hown hK hP 0 rfl rfl 3 (by decide) (hts _ q349) (fun _ h9 => h9) rfl dX1_resize_9 ?_
  refine lv_icmp_lt (tgt := 66) hx hb dX1_resize_12 (by decide) (fun c_12 => ?_) (fun c_12 => ?_)
  · have hlt := cl_ltN (by omega) (by omega) c_12
    have hkk := z5 hlt
    refine lv_aload_n hx hb dX1_resize_66 rfl (lv_at hl 1 rfl) ?_
    refine va_get (D := (dC, dI)) (ci := 1) (v := .ref ar) (C := RX1) (T := TX1) (N := 4) hx hb hts in_X1 hown hK hP 0 rfl rfl 0 (by decide) (hts _ q346) (fun _ h9 => h9) rfl dX1_resize_67 ?_
    refine lv_aload_n hx hb dX1_resize_70 rfl (lv_at hl 1 rfl) ?_
    refine va_get (D := (dC, dI)) (ci := 1) (v := .int (nI st)) (C := RX1) (T := TX1) (N := 4) hx hb hts in_X1 hown hK hP 0 rfl rfl 2 (by decide) (hts _ q348) (fun _ h9 => h9) rfl dX1_resize_71 ?_
    refine lv_aload_n hx hb dX1_resize_74 rfl (lv_at hl 0 rfl) ?_
    refine lv_iconst (v := nI 0) hx hb dX1_resize_75 (by decide) ?_
    refine lv_aload_n hx hb dX1_resize_76 rfl (lv_at hl 1 rfl) ?_
    refine va_get (D := (dC, dI)) (ci := 1) (v := .int (nI en)) (C := RX1) (T := TX1) (N := 4) hx hb hts in_X1 hown hK hP 0 rfl rfl 3 (by decide) (hts _ q349) (fun _ h9 => h9) rfl dX1_resize_77 ?_
    refine lv_aload_n hx hb dX1_resize_80 rfl (lv_at hl 1 rfl) ?_
    refine va_get (D := (dC, dI)) (ci := 1) (v := .int (nI st)) (C := RX1) (T := TX1) (N := 4) hx hb hts in_X1 hown hK hP 0 rfl rfl 2 (by decide) (hts _ q348) (fun _ h9 => h9) rfl dX1_resize_81 ?_
    refine lv_isub hx hb dX1_resize_84 ?_
    refine cl_ti (y := nI (en - st)) (pk_sub (by omega)) ?_
    refine va_copyi hx hb (hml.trans hl.1.symm) hown (hts _ q389) (hts _ q158) (hts _ q157) (hts _ q18) hK hP hD hS 1 2 0 1 rfl rfl rfl rfl rfl (nI_pos (by omega)) (nI_pos (by omega)) (nI_pos (by omega)) (by rw [nI_clamp (by omega), nI_clamp (by omega)]; omega) (by rw [nI_clamp (by omega), nI_clamp (by omega)]; omega) (fun _ _ => rfl) (Nat.le_of_ble_eq_true rfl) (by decide +kernel) dX1_resize_85 (fun H locs hP hD hS => ?_)
    have hP : va_P (dC, dI) vwCl [(h0, .inr (1, [.ref ar, .int (nI L), .int (nI st), .int (nI en)])), (ar, .inl (d, L, .inl f)), (a2, .inl (d2, nl, .inl (va_cpy f (fun _ => 0) (nI st).toNatClampNeg (nI 0).toNatClampNeg (nI (en - st)).toNatClampNeg)))] H := hP
    have hD : va_D A [(h0, .inr (1, [.ref ar, .int (nI L), .int (nI st), .int (nI en)])), (ar, .inl (d, L, .inl f)), (a2, .inl (d2, nl, .inl (va_cpy f (fun _ => 0) (nI st).toNatClampNeg (nI 0).toNatClampNeg (nI (en - st)).toNatClampNeg)))] := hD
    have hfe : va_cpy f (fun _ => 0) (nI st).toNatClampNeg (nI 0).toNatClampNeg (nI (en - st)).toNatClampNeg = va_cpy f (fun _ => 0) st 0 (en - st) := by rw [nI_clamp (n := st) (by omega), nI_clamp (n := 0) (by omega), nI_clamp (n := en - st) (by omega)]
    rw [hfe] at hP hD
    clear hfe
    refine lv_aload_n hx hb dX1_resize_88 rfl (lv_at hl 1 rfl) ?_
    refine lv_iconst (v := nI 0) hx hb dX1_resize_89 (by decide) ?_
    refine va_put (D := (dC, dI)) (ci := 1) (v := .int (nI 0)) (ty := .int) (C := RX1) (T := TX1) (N := 4) hx hb hts in_X1 tyX1 tyX1_ok nmX1 hown hK hP hD hS 0 rfl rfl 2 (by decide) (hts _ q348) (fun _ h9 => h9) rfl (by decide +kernel) rfl rfl (Nat.le_of_ble_eq_true rfl) dX1_resize_90 (fun H locs hP hD hS => ?_)
    have hP : va_P (dC, dI) vwCl [(h0, .inr (1, [.ref ar, .int (nI L), .int (nI 0), .int (nI en)])), (ar, .inl (d, L, .inl f)), (a2, .inl (d2, nl, .inl (va_cpy f (fun _ => 0) st 0 (en - st))))] H := hP
    have hD : va_D A [(h0, .inr (1, [.ref ar, .int (nI L), .int (nI 0), .int (nI en)])), (ar, .inl (d, L, .inl f)), (a2, .inl (d2, nl, .inl (va_cpy f (fun _ => 0) st 0 (en - st))))] := hD
    refine lv_aload_n hx hb dX1_resize_93 rfl (lv_at hl 1 rfl) ?_
    refine lv_iload_n hx hb dX1_resize_94 rfl (lv_at hl 2 rfl) ?_
    refine va_put (D := (dC, dI)) (ci := 1) (v := .int (nI k)) (ty := .int) (C := RX1) (T := TX1) (N := 4) hx hb hts in_X1 tyX1 tyX1_ok nmX1 hown hK hP hD hS 0 rfl rfl 3 (by decide) (hts _ q349) (fun _ h9 => h9) rfl (by decide +kernel) rfl rfl (Nat.le_of_ble_eq_true rfl) dX1_resize_95 (fun H locs hP hD hS => ?_)
    have hP : va_P (dC, dI) vwCl [(h0, .inr (1, [.ref ar, .int (nI L), .int (nI 0), .int (nI k)])), (ar, .inl (d, L, .inl f)), (a2, .inl (d2, nl, .inl (va_cpy f (fun _ => 0) st 0 (en - st))))] H := hP
    have hD : va_D A [(h0, .inr (1, [.ref ar, .int (nI L), .int (nI 0), .int (nI k)])), (ar, .inl (d, L, .inl f)), (a2, .inl (d2, nl, .inl (va_cpy f (fun _ => 0) st 0 (en - st))))] := hD
    refine lv_aload_n hx hb dX1_resize_98 rfl (lv_at hl 1 rfl) ?_
    refine lv_aload_n hx hb dX1_resize_99 rfl (lv_at hl 0 rfl) ?_
    refine va_put (D := (dC, dI)) (ci := 1) (v := .ref a2) (ty := .array .int) (C := RX1) (T := TX1) (N := 4) hx hb hts in_X1 tyX1 tyX1_ok nmX1 hown hK hP hD hS 0 rfl rfl 0 (by decide) (hts _ q346) (fun _ h9 => h9) rfl (by decide +kernel) rfl rfl (Nat.le_of_ble_eq_true rfl) dX1_resize_100 (fun H locs hP hD hS => ?_)
    have hP : va_P (dC, dI) vwCl [(h0, .inr (1, [.ref a2, .int (nI L), .int (nI 0), .int (nI k)])), (ar, .inl (d, L, .inl f)), (a2, .inl (d2, nl, .inl (va_cpy f (fun _ => 0) st 0 (en - st))))] H := hP
    have hD : va_D A [(h0, .inr (1, [.ref a2, .int (nI L), .int (nI 0), .int (nI k)])), (ar, .inl (d, L, .inl f)), (a2, .inl (d2, nl, .inl (va_cpy f (fun _ => 0) st 0 (en - st))))] := hD
    refine lv_aload_n hx hb dX1_resize_103 rfl (lv_at hl 1 rfl) ?_
    refine lv_iload_n hx hb dX1_resize_104 rfl (lv_at hl 3 rfl) ?_
    refine va_put (D := (dC, dI)) (ci := 1) (v := .int (nI nl)) (ty := .int) (C := RX1) (T := TX1) (N := 4) hx hb hts in_X1 tyX1 tyX1_ok nmX1 hown hK hP hD hS 0 rfl rfl 1 (by decide) (hts _ q347) (fun _ h9 => h9) rfl (by decide +kernel) rfl rfl (Nat.le_of_ble_eq_true rfl) dX1_resize_105 (fun H locs hP hD hS => ?_)
    have hP : va_P (dC, dI) vwCl [(h0, .inr (1, [.ref a2, .int (nI nl), .int (nI 0), .int (nI k)])), (ar, .inl (d, L, .inl f)), (a2, .inl (d2, nl, .inl (va_cpy f (fun _ => 0) st 0 (en - st))))] H := hP
    have hD : va_D A [(h0, .inr (1, [.ref a2, .int (nI nl), .int (nI 0), .int (nI k)])), (ar, .inl (d, L, .inl f)), (a2, .inl (d2, nl, .inl (va_cpy f (fun _ => 0) st 0 (en - st))))] := hD
    have hP9 := hP.sub (ws' := [(h0, .inr (1, [.ref a2, .int (nI nl), .int (nI 0), .int (nI k)])), (a2, .inl (d2, nl, .inl (va_cpy f (fun _ => 0) st 0 (en - st))))]) [0, 2] rfl
    have hD9 := hD.sub (ws' := [(h0, .inr (1, [.ref a2, .int (nI nl), .int (nI 0), .int (nI k)])), (a2, .inl (d2, nl, .inl (va_cpy f (fun _ => 0) st 0 (en - st))))]) [0, 2] (by decide) rfl
    have hK9 := hK.sub (tys' := [(d2, .int)]) [1] rfl
    exact W.vret hx hb hr (fun t ht hW => ⟨⟨(a2, d2, nl, 0, k, va_cpy f (fun _ => 0) st 0 (en - st)), rfl, ⟨rfl, rfl, rfl, cl_cp1 (L := L) (k := k) (by omega) hkk⟩, by rw [ht]; exact hP9, va_K.moved hW.alike hK9, hD9⟩, hS.F ht⟩) hS.2.2 dX1_resize_108
  · have hge := cl_nltN (by omega) (by omega) c_12
    refine lv_iload_n hx hb dX1_resize_15 rfl (lv_at hl 2 rfl) ?_
    refine lv_if_eq (tgt := 88) hx hb dX1_resize_16 (by decide) (fun c_16 => ?_) (fun c_16 => ?_)
    · have hk0 := cl_z (by omega) c_16
      refine lv_aload_n hx hb dX1_resize_88 rfl (lv_at hl 1 rfl) ?_
      refine lv_iconst (v := nI 0) hx hb dX1_resize_89 (by decide) ?_
      refine va_put (D := (dC, dI)) (ci := 1) (v := .int (nI 0)) (ty := .int) (C := RX1) (T := TX1) (N := 4) hx hb hts in_X1 tyX1 tyX1_ok nmX1 hown hK hP hD hS 0 rfl rfl 2 (by decide) (hts _ q348) (fun _ h9 => h9) rfl (by decide +kernel) rfl rfl (Nat.le_of_ble_eq_true rfl) dX1_resize_90 (fun H locs hP hD hS => ?_)
      have hP : va_P (dC, dI) vwCl [(h0, .inr (1, [.ref ar, .int (nI L), .int (nI 0), .int (nI en)])), (ar, .inl (d, L, .inl f)), (a2, .inl (d2, nl, .inl (fun _ => 0)))] H := hP
      have hD : va_D A [(h0, .inr (1, [.ref ar, .int (nI L), .int (nI 0), .int (nI en)])), (ar, .inl (d, L, .inl f)), (a2, .inl (d2, nl, .inl (fun _ => 0)))] := hD
      refine lv_aload_n hx hb dX1_resize_93 rfl (lv_at hl 1 rfl) ?_
      refine lv_iload_n hx hb dX1_resize_94 rfl (lv_at hl 2 rfl) ?_
      refine va_put (D := (dC, dI)) (ci := 1) (v := .int (nI k)) (ty := .int) (C := RX1) (T := TX1) (N := 4) hx hb hts in_X1 tyX1 tyX1_ok nmX1 hown hK hP hD hS 0 rfl rfl 3 (by decide) (hts _ q349) (fun _ h9 => h9) rfl (by decide +kernel) rfl rfl (Nat.le_of_ble_eq_true rfl) dX1_resize_95 (fun H locs hP hD hS => ?_)
      have hP : va_P (dC, dI) vwCl [(h0, .inr (1, [.ref ar, .int (nI L), .int (nI 0), .int (nI k)])), (ar, .inl (d, L, .inl f)), (a2, .inl (d2, nl, .inl (fun _ => 0)))] H := hP
      have hD : va_D A [(h0, .inr (1, [.ref ar, .int (nI L), .int (nI 0), .int (nI k)])), (ar, .inl (d, L, .inl f)), (a2, .inl (d2, nl, .inl (fun _ => 0)))] := hD
      refine lv_aload_n hx hb dX1_resize_98 rfl (lv_at hl 1 rfl) ?_
      refine lv_aload_n hx hb dX1_resize_99 rfl (lv_at hl 0 rfl) ?_
      refine va_put (D := (dC, dI)) (ci := 1) (v := .ref a2) (ty := .array .int) (C := RX1) (T := TX1) (N := 4) hx hb hts in_X1 tyX1 tyX1_ok nmX1 hown hK hP hD hS 0 rfl rfl 0 (by decide) (hts _ q346) (fun _ h9 => h9) rfl (by decide +kernel) rfl rfl (Nat.le_of_ble_eq_true rfl) dX1_resize_100 (fun H locs hP hD hS => ?_)
      have hP : va_P (dC, dI) vwCl [(h0, .inr (1, [.ref a2, .int (nI L), .int (nI 0), .int (nI k)])), (ar, .inl (d, L, .inl f)), (a2, .inl (d2, nl, .inl (fun _ => 0)))] H := hP
      have hD : va_D A [(h0, .inr (1, [.ref a2, .int (nI L), .int (nI 0), .int (nI k)])), (ar, .inl (d, L, .inl f)), (a2, .inl (d2, nl, .inl (fun _ => 0)))] := hD
      refine lv_aload_n hx hb dX1_resize_103 rfl (lv_at hl 1 rfl) ?_
      refine lv_iload_n hx hb dX1_resize_104 rfl (lv_at hl 3 rfl) ?_
      refine va_put (D := (dC, dI)) (ci := 1) (v := .int (nI nl)) (ty := .int) (C := RX1) (T := TX1) (N := 4) hx hb hts in_X1 tyX1 tyX1_ok nmX1 hown hK hP hD hS 0 rfl rfl 1 (by decide) (hts _ q347) (fun _ h9 => h9) rfl (by decide +kernel) rfl rfl (Nat.le_of_ble_eq_true rfl) dX1_resize_105 (fun H locs hP hD hS => ?_)
      have hP : va_P (dC, dI) vwCl [(h0, .inr (1, [.ref a2, .int (nI nl), .int (nI 0), .int (nI k)])), (ar, .inl (d, L, .inl f)), (a2, .inl (d2, nl, .inl (fun _ => 0)))] H := hP
      have hD : va_D A [(h0, .inr (1, [.ref a2, .int (nI nl), .int (nI 0), .int (nI k)])), (ar, .inl (d, L, .inl f)), (a2, .inl (d2, nl, .inl (fun _ => 0)))] := hD
      have hP9 := hP.sub (ws' := [(h0, .inr (1, [.ref a2, .int (nI nl), .int (nI 0), .int (nI k)])), (a2, .inl (d2, nl, .inl (fun _ => 0)))]) [0, 2] rfl
      have hD9 := hD.sub (ws' := [(h0, .inr (1, [.ref a2, .int (nI nl), .int (nI 0), .int (nI k)])), (a2, .inl (d2, nl, .inl (fun _ => 0)))]) [0, 2] (by decide) rfl
      have hK9 := hK.sub (tys' := [(d2, .int)]) [1] rfl
      exact W.vret hx hb hr (fun t ht hW => ⟨⟨(a2, d2, nl, 0, k, fun _ => 0), rfl, ⟨rfl, rfl, rfl, fun i hi => absurd hi (by omega)⟩, by rw [ht]; exact hP9, va_K.moved hW.alike hK9, hD9⟩, hS.F ht⟩) hS.2.2 dX1_resize_108
    · have hk0 := cl_nz c_16
      have hkk : k = L - st + en := by rcases z6 hge with q | q <;> omega
      refine lv_aload_n hx hb dX1_resize_19 rfl (lv_at hl 1 rfl) ?_
      refine va_get (D := (dC, dI)) (ci := 1) (v := .ref ar) (C := RX1) (T := TX1) (N := 4) hx hb hts in_X1 hown hK hP 0 rfl rfl 0 (by decide) (hts _ q346) (fun _ h9 => h9) rfl dX1_resize_20 ?_
      refine lv_aload_n hx hb dX1_resize_23 rfl (lv_at hl 1 rfl) ?_
      refine va_get (D := (dC, dI)) (ci := 1) (v := .int (nI st)) (C := RX1) (T := TX1) (N := 4) hx hb hts in_X1 hown hK hP 0 rfl rfl 2 (by decide) (hts _ q348) (fun _ h9 => h9) rfl dX1_resize_24 ?_
      refine lv_aload_n hx hb dX1_resize_27 rfl (lv_at hl 0 rfl) ?_
      refine lv_iconst (v := nI 0) hx hb dX1_resize_28 (by decide) ?_
      refine lv_aload_n hx hb dX1_resize_29 rfl (lv_at hl 1 rfl) ?_
      refine va_get (D := (dC, dI)) (ci := 1) (v := .int (nI L)) (C := RX1) (T := TX1) (N := 4) hx hb hts in_X1 hown hK hP 0 rfl rfl 1 (by decide) (hts _ q347) (fun _ h9 => h9) rfl dX1_resize_30 ?_
      refine lv_aload_n hx hb dX1_resize_33 rfl (lv_at hl 1 rfl) ?_
      refine va_get (D := (dC, dI)) (ci := 1) (v := .int (nI st)) (C := RX1) (T := TX1) (N := 4) hx hb hts in_X1 hown hK hP 0 rfl rfl 2 (by decide) (hts _ q348) (fun _ h9 => h9) rfl dX1_resize_34 ?_
      refine lv_isub hx hb dX1_resize_37 ?_
      refine cl_ti (y := nI (L - st)) (pk_sub (by omega)) ?_
      refine va_copyi hx hb (hml.trans hl.1.symm) hown (hts _ q389) (hts _ q158) (hts _ q157) (hts _ q18) hK hP hD hS 1 2 0 1 rfl rfl rfl rfl rfl (nI_pos (by omega)) (nI_pos (by omega)) (nI_pos (by omega)) (by rw [nI_clamp (by omega), nI_clamp (by omega)]; omega) (by rw [nI_clamp (by omega), nI_clamp (by omega)]; omega) (fun _ _ => rfl) (Nat.le_of_ble_eq_true rfl) (by decide +kernel) dX1_resize_38 (fun H locs hP hD hS => ?_)
      have hP : va_P (dC, dI) vwCl [(h0, .inr (1, [.ref ar, .int (nI L), .int (nI st), .int (nI en)])), (ar, .inl (d, L, .inl f)), (a2, .inl (d2, nl, .inl (va_cpy f (fun _ => 0) (nI st).toNatClampNeg (nI 0).toNatClampNeg (nI (L - st)).toNatClampNeg)))] H := hP
      have hD : va_D A [(h0, .inr (1, [.ref ar, .int (nI L), .int (nI st), .int (nI en)])), (ar, .inl (d, L, .inl f)), (a2, .inl (d2, nl, .inl (va_cpy f (fun _ => 0) (nI st).toNatClampNeg (nI 0).toNatClampNeg (nI (L - st)).toNatClampNeg)))] := hD
      have hfe : va_cpy f (fun _ => 0) (nI st).toNatClampNeg (nI 0).toNatClampNeg (nI (L - st)).toNatClampNeg = va_cpy f (fun _ => 0) st 0 (L - st) := by rw [nI_clamp (n := st) (by omega), nI_clamp (n := 0) (by omega), nI_clamp (n := L - st) (by omega)]
      rw [hfe] at hP hD
      clear hfe
      refine lv_aload_n hx hb dX1_resize_41 rfl (lv_at hl 1 rfl) ?_
      refine va_get (D := (dC, dI)) (ci := 1) (v := .ref ar) (C := RX1) (T := TX1) (N := 4) hx hb hts in_X1 hown hK hP 0 rfl rfl 0 (by decide) (hts _ q346) (fun _ h9 => h9) rfl dX1_resize_42 ?_
      refine lv_iconst (v := nI 0) hx hb dX1_resize_45 (by decide) ?_
      refine lv_aload_n hx hb dX1_resize_46 rfl (lv_at hl 0 rfl) ?_
      refine lv_aload_n hx hb dX1_resize_47 rfl (lv_at hl 1 rfl) ?_
      refine va_get (D := (dC, dI)) (ci := 1) (v := .int (nI L)) (C := RX1) (T := TX1) (N := 4) hx hb hts in_X1 hown hK hP 0 rfl rfl 1 (by decide) (hts _ q347) (fun _ h9 => h9) rfl dX1_resize_48 ?_
      refine lv_aload_n hx hb dX1_resize_51 rfl (lv_at hl 1 rfl) ?_
      refine va_get (D := (dC, dI)) (ci := 1) (v := .int (nI st)) (C := RX1) (T := TX1) (N := 4) hx hb hts in_X1 hown hK hP 0 rfl rfl 2 (by decide) (hts _ q348) (fun _ h9 => h9) rfl dX1_resize_52 ?_
      refine lv_isub hx hb dX1_resize_55 ?_
      refine cl_ti (y := nI (L - st)) (pk_sub (by omega)) ?_
      refine lv_aload_n hx hb dX1_resize_56 rfl (lv_at hl 1 rfl) ?_
      refine va_get (D := (dC, dI)) (ci := 1) (v := .int (nI en)) (C := RX1) (T := TX1) (N := 4) hx hb hts in_X1 hown hK hP 0 rfl rfl 3 (by decide) (hts _ q349) (fun _ h9 => h9) rfl dX1_resize_57 ?_
      refine va_copyi hx hb (hml.trans hl.1.symm) hown (hts _ q389) (hts _ q158) (hts _ q157) (hts _ q18) hK hP hD hS 1 2 0 1 rfl rfl rfl rfl rfl (nI_pos (by omega)) (nI_pos (by omega)) (nI_pos (by omega)) (by rw [nI_clamp (by omega), nI_clamp (by omega)]; omega) (by rw [nI_clamp (by omega), nI_clamp (by omega)]; omega) (fun _ _ => rfl) (Nat.le_of_ble_eq_true rfl) (by decide +kernel) dX1_resize_60 (fun H locs hP hD hS => ?_)
      have hP : va_P (dC, dI) vwCl [(h0, .inr (1, [.ref ar, .int (nI L), .int (nI st), .int (nI en)])), (ar, .inl (d, L, .inl f)), (a2, .inl (d2, nl, .inl (va_cpy f (va_cpy f (fun _ => 0) st 0 (L - st)) (nI 0).toNatClampNeg (nI (L - st)).toNatClampNeg (nI en).toNatClampNeg)))] H := hP
      have hD : va_D A [(h0, .inr (1, [.ref ar, .int (nI L), .int (nI st), .int (nI en)])), (ar, .inl (d, L, .inl f)), (a2, .inl (d2, nl, .inl (va_cpy f (va_cpy f (fun _ => 0) st 0 (L - st)) (nI 0).toNatClampNeg (nI (L - st)).toNatClampNeg (nI en).toNatClampNeg)))] := hD
      have hfe : va_cpy f (va_cpy f (fun _ => 0) st 0 (L - st)) (nI 0).toNatClampNeg (nI (L - st)).toNatClampNeg (nI en).toNatClampNeg = va_cpy f (va_cpy f (fun _ => 0) st 0 (L - st)) 0 (L - st) en := by rw [nI_clamp (n := 0) (by omega), nI_clamp (n := L - st) (by omega), nI_clamp (n := en) (by omega)]
      rw [hfe] at hP hD
      clear hfe
      refine lv_goto (tgt := 88) hx hb dX1_resize_63 (by decide) ?_
      refine lv_aload_n hx hb dX1_resize_88 rfl (lv_at hl 1 rfl) ?_
      refine lv_iconst (v := nI 0) hx hb dX1_resize_89 (by decide) ?_
      refine va_put (D := (dC, dI)) (ci := 1) (v := .int (nI 0)) (ty := .int) (C := RX1) (T := TX1) (N := 4) hx hb hts in_X1 tyX1 tyX1_ok nmX1 hown hK hP hD hS 0 rfl rfl 2 (by decide) (hts _ q348) (fun _ h9 => h9) rfl (by decide +kernel) rfl rfl (Nat.le_of_ble_eq_true rfl) dX1_resize_90 (fun H locs hP hD hS => ?_)
      have hP : va_P (dC, dI) vwCl [(h0, .inr (1, [.ref ar, .int (nI L), .int (nI 0), .int (nI en)])), (ar, .inl (d, L, .inl f)), (a2, .inl (d2, nl, .inl (va_cpy f (va_cpy f (fun _ => 0) st 0 (L - st)) 0 (L - st) en)))] H := hP
      have hD : va_D A [(h0, .inr (1, [.ref ar, .int (nI L), .int (nI 0), .int (nI en)])), (ar, .inl (d, L, .inl f)), (a2, .inl (d2, nl, .inl (va_cpy f (va_cpy f (fun _ => 0) st 0 (L - st)) 0 (L - st) en)))] := hD
      refine lv_aload_n hx hb dX1_resize_93 rfl (lv_at hl 1 rfl) ?_
      refine lv_iload_n hx hb dX1_resize_94 rfl (lv_at hl 2 rfl) ?_
      refine va_put (D := (dC, dI)) (ci := 1) (v := .int (nI k)) (ty := .int) (C := RX1) (T := TX1) (N := 4) hx hb hts in_X1 tyX1 tyX1_ok nmX1 hown hK hP hD hS 0 rfl rfl 3 (by decide) (hts _ q349) (fun _ h9 => h9) rfl (by decide +kernel) rfl rfl (Nat.le_of_ble_eq_true rfl) dX1_resize_95 (fun H locs hP hD hS => ?_)
      have hP : va_P (dC, dI) vwCl [(h0, .inr (1, [.ref ar, .int (nI L), .int (nI 0), .int (nI k)])), (ar, .inl (d, L, .inl f)), (a2, .inl (d2, nl, .inl (va_cpy f (va_cpy f (fun _ => 0) st 0 (L - st)) 0 (L - st) en)))] H := hP
      have hD : va_D A [(h0, .inr (1, [.ref ar, .int (nI L), .int (nI 0), .int (nI k)])), (ar, .inl (d, L, .inl f)), (a2, .inl (d2, nl, .inl (va_cpy f (va_cpy f (fun _ => 0) st 0 (L - st)) 0 (L - st) en)))] := hD
      refine lv_aload_n hx hb dX1_resize_98 rfl (lv_at hl 1 rfl) ?_
      refine lv_aload_n hx hb dX1_resize_99 rfl (lv_at hl 0 rfl) ?_
      refine va_put (D := (dC, dI)) (ci := 1) (v := .ref a2) (ty := .array .int) (C := RX1) (T := TX1) (N := 4) hx hb hts in_X1 tyX1 tyX1_ok nmX1 hown hK hP hD hS 0 rfl rfl 0 (by decide) (hts _ q346) (fun _ h9 => h9) rfl (by decide +kernel) rfl rfl (Nat.le_of_ble_eq_true rfl) dX1_resize_100 (fun H locs hP hD hS => ?_)
      have hP : va_P (dC, dI) vwCl [(h0, .inr (1, [.ref a2, .int (nI L), .int (nI 0), .int (nI k)])), (ar, .inl (d, L, .inl f)), (a2, .inl (d2, nl, .inl (va_cpy f (va_cpy f (fun _ => 0) st 0 (L - st)) 0 (L - st) en)))] H := hP
      have hD : va_D A [(h0, .inr (1, [.ref a2, .int (nI L), .int (nI 0), .int (nI k)])), (ar, .inl (d, L, .inl f)), (a2, .inl (d2, nl, .inl (va_cpy f (va_cpy f (fun _ => 0) st 0 (L - st)) 0 (L - st) en)))] := hD
      refine lv_aload_n hx hb dX1_resize_103 rfl (lv_at hl 1 rfl) ?_
      refine lv_iload_n hx hb dX1_resize_104 rfl (lv_at hl 3 rfl) ?_
      refine va_put (D := (dC, dI)) (ci := 1) (v := .int (nI nl)) (ty := .int) (C := RX1) (T := TX1) (N := 4) hx hb hts in_X1 tyX1 tyX1_ok nmX1 hown hK hP hD hS 0 rfl rfl 1 (by decide) (hts _ q347) (fun _ h9 => h9) rfl (by decide +kernel) rfl rfl (Nat.le_of_ble_eq_true rfl) dX1_resize_105 (fun H locs hP hD hS => ?_)
      have hP : va_P (dC, dI) vwCl [(h0, .inr (1, [.ref a2, .int (nI nl), .int (nI 0), .int (nI k)])), (ar, .inl (d, L, .inl f)), (a2, .inl (d2, nl, .inl (va_cpy f (va_cpy f (fun _ => 0) st 0 (L - st)) 0 (L - st) en)))] H := hP
      have hD : va_D A [(h0, .inr (1, [.ref a2, .int (nI nl), .int (nI 0), .int (nI k)])), (ar, .inl (d, L, .inl f)), (a2, .inl (d2, nl, .inl (va_cpy f (va_cpy f (fun _ => 0) st 0 (L - st)) 0 (L - st) en)))] := hD
      have hP9 := hP.sub (ws' := [(h0, .inr (1, [.ref a2, .int (nI nl), .int (nI 0), .int (nI k)])), (a2, .inl (d2, nl, .inl (va_cpy f (va_cpy f (fun _ => 0) st 0 (L - st)) 0 (L - st) en)))]) [0, 2] rfl
      have hD9 := hD.sub (ws' := [(h0, .inr (1, [.ref a2, .int (nI nl), .int (nI 0), .int (nI k)])), (a2, .inl (d2, nl, .inl (va_cpy f (va_cpy f (fun _ => 0) st 0 (L - st)) 0 (L - st) en)))]) [0, 2] (by decide) rfl
      have hK9 := hK.sub (tys' := [(d2, .int)]) [1] rfl
      exact W.vret hx hb hr (fun t ht hW => ⟨⟨(a2, d2, nl, 0, k, va_cpy f (va_cpy f (fun _ => 0) st 0 (L - st)) 0 (L - st) en), rfl, ⟨rfl, rfl, rfl, cl_cp2 z1 hkk z4⟩, by rw [ht]; exact hP9, va_K.moved hW.alike hK9, hD9⟩, hS.F ht⟩) hS.2.2 dX1_resize_108
set_option maxHeartbeats 4000000 in
set_option maxRecDepth 100000 in
/-- expand(): a full ring gets twice as many places -/
theorem metX1_expand (l : Launch) (dC : Nat → ClassId) (dI : Nat → Nat → Nat) (sz : Nat) (h0 ar : Nat) (d : ClassId) (L st en : Nat) (f xs : Nat → Int32) (hF : cl_F f L st xs) (he : en = st) (hL : 2 * L ≤ 300) : Met l yX1_expand (ws_ yX1_expand cX1_expand 1 none) ({ frames := 2, cells := 1, slots := 300, locals := 50 } : Jvm.Room) (va_Pc [.ref h0] (fun U => U.heap.size = sz ∧ va_P (dC, dI) vwCl [(h0, .inr (1, [.ref ar, .int (nI L), .int (nI st), .int (nI en)])), (ar, .inl (d, L, .inl f))] U.heap ∧ va_K (dC, dI) vwCl [(d, .int)] U ∧ va_D (fun _ => True) [(h0, .inr (1, [.ref ar, .int (nI L), .int (nI st), .int (nI en)])), (ar, .inl (d, L, .inl f))])) (va_Qv (S := cl_Q) (fun (u : cl_Q) => cl_R u.2.2.2.2.2 u.2.2.1 u.2.2.2.1 u.2.2.2.2.1 L xs) (cl_BQ dC dI h0 (va_A [(h0, .inr (1, [.ref ar, .int (nI L), .int (nI st), .int (nI en)])), (ar, .inl (d, L, .inl f))] sz)) (va_A [(h0, .inr (1, [.ref ar, .int (nI L), .int (nI st), .int (nI en)])), (ar, .inl (d, L, .inl f))] sz)) 1 300 (va_A [(h0, .inr (1, [.ref ar, .int (nI L), .int (nI st), .int (nI en)])), (ar, .inl (d, L, .inl f))] sz) := by
  refine Met.ofW (cc := cX1_expand) (maxL := 1) (ret := none) (by decide) rfl ?_
  intro p e s m args below meth c s₁ B hml hv
  obtain ⟨rfl, hsz, hP, hK, hD0⟩ := hv
  have hx := B.exec
  have hb := B.bytes
  have hr := B.returns
  have hts := atoms_spec (ws := ws_ yX1_expand cX1_expand 1 none) B.pre
  have hts : ∀ w ∈ lw_all, w.before _ s = true := fun w h => hts w (List.mem_cons_of_mem _ h)
  have hown : s.vm.findClass RX1 = some m.cls := findClass_of_methodNamed B.named
  have hlocks := B.notSynchronized
  subst hsz
  have hD := hD0.self (sz := s.heap.size)
  generalize hAe : va_A [(h0, .inr (1, [.ref ar, .int (nI L), .int (nI st), .int (nI en)])), (ar, .inl (d, L, .inl f))] s.heap.size = A at hD ⊢
  have hA : ∀ q : Nat, s.heap.size ≤ q → A q := fun q h => by rw [← hAe]; exact Or.inr h
  have hS : va_S A s.heap s.heap [] := va_S.rf
  have hP : va_P (dC, dI) vwCl [(h0, .inr (1, [.ref ar, .int (nI L), .int (nI st), .int (nI en)])), (ar, .inl (d, L, .inl f))] s.heap := hP
  have hl := lv_entry ([.ref h0]) (n := 1) (Nat.le_of_ble_eq_true rfl)
  rw [lg_entry_eq]
  generalize (lg_sl ([.ref h0]) ++ List.replicate (1 - (lg_sl ([.ref h0])).length) Slot.unset).toArray = ls at hl ⊢
  have hl : lv_has ls 1 [(0, .ref h0)] := hl
  have h1 := hF.1
  have hz := cl_Z_F hF he (by omega)
  refine lv_aload_n hx hb dX1_expand_0 rfl (lv_at hl 0 rfl) ?_
  refine lv_aload_n hx hb dX1_expand_1 rfl (lv_at hl 0 rfl) ?_
  refine va_get (D := (dC, dI)) (ci := 1) (v := .int (nI L)) (C := RX1) (T := TX1) (N := 4) hx hb hts in_X1 hown hK hP 0 rfl rfl 1 (by decide) (hts _ q347) (fun _ h9 => h9) rfl dX1_expand_2 ?_
  refine lv_ldc2 hx hb hown (hts _ q380) dX1_expand_5 ?_
  refine lv_ldc2 hx hb hown (hts _ q381) dX1_expand_8 ?_
  refine lv_aload_n hx hb dX1_expand_11 rfl (lv_at hl 0 rfl) ?_
  refine va_get (D := (dC, dI)) (ci := 1) (v := .int (nI L)) (C := RX1) (T := TX1) (N := 4) hx hb hts in_X1 hown hK hP 0 rfl rfl 1 (by decide) (hts _ q347) (fun _ h9 => h9) rfl dX1_expand_12 ?_
  refine lv_i2l (v := lN L) hx hb dX1_expand_15 (nI_l (by omega)) ?_
  refine lv_lmul hx hb dX1_expand_16 ?_
  refine cl_tl (y := lN (2 * L)) (lN_mul 2 L) ?_
  refine va_mmin_long hx hb (hml.trans hl.1.symm) hown (hts _ q382) (hts _ q383) (hts _ q16) (hts _ q384) (Nat.le_of_ble_eq_true rfl) (Nat.le_of_ble_eq_true rfl) (Nat.le_of_ble_eq_true rfl) (Nat.le_of_ble_eq_true rfl) dX1_expand_17 ?_
  refine cl_tl (y := lN (2 * L)) (if_pos ((lN_lt (a := 2 * L) (b := 2147483639) (by omega) (by omega)).mpr (by omega))) ?_
  refine lv_l2i (v := nI (2 * L)) hx hb dX1_expand_20 (lN_i _) ?_
  have hPc := hP.sub (ws' := [(h0, .inr (1, [.ref ar, .int (nI L), .int (nI st), .int (nI en)])), (ar, .inl (d, L, .inl f))]) [0, 1] rfl
  have hDc := hD.sub (ws' := [(h0, .inr (1, [.ref ar, .int (nI L), .int (nI st), .int (nI en)])), (ar, .inl (d, L, .inl f))]) [0, 1] (by decide) rfl
  have hKc := hK.sub (tys' := [(d, .int)]) [0] rfl
  have hFc := va_free (wc := [(h0, .inr (1, [.ref ar, .int (nI L), .int (nI st), .int (nI en)])), (ar, .inl (d, L, .inl f))]) hD hS hA [0, 1] rfl
  refine va_callv (va_runV (As := [.int (nI L), .int (nI (2 * L))]) (rest := []) ⟨hx, hb, hml, hown, hts⟩ (metX1_resize l dC dI s.heap.size h0 ar d L st en L (2 * L) f hz (by omega) hL) (cwV 2 hts (lw_V q385 q387 qs2 q6 q388) rfl rfl rfl (by decide +kernel) ⟨Nat.le_of_ble_eq_true rfl, Nat.le_of_ble_eq_true rfl⟩) ⟨fun a U g mk q => by obtain ⟨q0, q1, qP, qK, qD⟩ := q; exact ⟨q0, q1, qP, va_K.moved (u := U) (U := U.calling g mk a) (Vm.Alike.refl U.vm) qK, qD⟩, va_recv hKc hPc (ci := 1) (q0 := 0) rfl rfl, fun U hU hW => ⟨rfl, by rw [hU], by rw [hU]; exact hPc, va_K.moved hW.alike hKc, hDc.weaken (fun _ _ _ _ => trivial)⟩⟩ rfl rfl hl.1 rfl (lv_room (Nat.le_of_ble_eq_true rfl)) dX1_expand_21 ⟨(show 0 + 1 ≤ 1 by omega), (show 0 + 300 ≤ 300 by omega)⟩) hS (fun q _ h => hFc q h) hFc (fun u t H1 locs ht hvm hw hB hz1 hk1 hS => ?_)
  obtain ⟨a2, d2, L2, s2, e2, f2⟩ := u
  obtain ⟨hP1, hK1, hD1⟩ := hB
  rw [ht] at hP1
  have hK1 := va_K.moved hvm.symm hK1
  obtain ⟨hP, hD⟩ := va_join (wr := []) (w1 := [(h0, .inr (1, [.ref a2, .int (nI L2), .int (nI s2), .int (nI e2)])), (a2, .inl (d2, L2, .inl f2))]) hP hD [0, 1] [] rfl rfl (by decide) (by decide) hk1 hFc hP1 hD1
  have hK := (hK.sub (tys' := []) [] rfl).app hK1
  clear hPc hDc hKc hFc hz1 hk1 hP1 hD1 hK1 ht hvm
  generalize H1 = H at hP hS ⊢
  have hP : va_P (dC, dI) vwCl [(h0, .inr (1, [.ref a2, .int (nI L2), .int (nI s2), .int (nI e2)])), (a2, .inl (d2, L2, .inl f2))] H := hP
  have hD : va_D A [(h0, .inr (1, [.ref a2, .int (nI L2), .int (nI s2), .int (nI e2)])), (a2, .inl (d2, L2, .inl f2))] := hD
  have hK : va_K (dC, dI) vwCl [(d2, .int)] s := hK
  obtain ⟨w1, w2, w3, w4⟩ := hw
  have v1 : L2 = 2 * L := w1
  have v2 : s2 = 0 := w2
  have v3 : L = e2 := Eq.symm w3
  have v4 : ∀ i, i < L → f2 i = f (cl_ix L (st + i)) := w4
  subst v1
  subst v2
  subst v3
  refine W.widen (k := 1) (n := 300) (by omega) (by omega) ?_
  have hP9 := hP.sub (ws' := [(h0, .inr (1, [.ref a2, .int (nI (2 * L)), .int (nI 0), .int (nI L)])), (a2, .inl (d2, (2 * L), .inl f2))]) [0, 1] rfl
  have hD9 := hD.sub (ws' := [(h0, .inr (1, [.ref a2, .int (nI (2 * L)), .int (nI 0), .int (nI L)])), (a2, .inl (d2, (2 * L), .inl f2))]) [0, 1] (by decide) rfl
  have hK9 := hK.sub (tys' := [(d2, .int)]) [0] rfl
  exact W.vret hx hb hr (fun t ht hW => ⟨⟨(a2, d2, 2 * L, 0, L, f2), rfl, cl_flat hF.2 v4 (show L < 2 * L by omega) hL, by rw [ht]; exact hP9, va_K.moved hW.alike hK9, hD9⟩, hS.F ht⟩) hS.2.2 dX1_expand_24
set_option maxHeartbeats 4000000 in
set_option maxRecDepth 100000 in
/-- reduce(): the same row, perhaps in a ring of half the places -/
theorem metX1_reduce (l : Launch) (dC : Nat → ClassId) (dI : Nat → Nat → Nat) (sz : Nat) (h0 ar : Nat) (d : ClassId) (L st en n : Nat) (f xs : Nat → Int32) (hq : cl_R f L st en n xs) : Met l yX1_reduce (ws_ yX1_reduce cX1_reduce 2 none) ({ frames := 2, cells := 1, slots := 300, locals := 50 } : Jvm.Room) (va_Pc [.ref h0] (fun U => U.heap.size = sz ∧ va_P (dC, dI) vwCl [(h0, .inr (1, [.ref ar, .int (nI L), .int (nI st), .int (nI en)])), (ar, .inl (d, L, .inl f))] U.heap ∧ va_K (dC, dI) vwCl [(d, .int)] U ∧ va_D (fun _ => True) [(h0, .inr (1, [.ref ar, .int (nI L), .int (nI st), .int (nI en)])), (ar, .inl (d, L, .inl f))])) (va_Qv (S := cl_Q) (fun (u : cl_Q) => cl_R u.2.2.2.2.2 u.2.2.1 u.2.2.2.1 u.2.2.2.2.1 n xs) (cl_BQ dC dI h0 (va_A [(h0, .inr (1, [.ref ar, .int (nI L), .int (nI st), .int (nI en)])), (ar, .inl (d, L, .inl f))] sz)) (va_A [(h0, .inr (1, [.ref ar, .int (nI L), .int (nI st), .int (nI en)])), (ar, .inl (d, L, .inl f))] sz)) 1 300 (va_A [(h0, .inr (1, [.ref ar, .int (nI L), .int (nI st), .int (nI en)])), (ar, .inl (d, L, .inl f))] sz) := by
  refine Met.ofW (cc := cX1_reduce) (maxL := 2) (ret := none) (by decide) rfl ?_
  intro p e s m args below meth c s₁ B hml hv
  obtain ⟨rfl, hsz, hP, hK, hD0⟩ := hv
  have hx := B.exec
  have hb := B.bytes
  have hr := B.returns
  have hts := atoms_spec (ws := ws_ yX1_reduce cX1_reduce 2 none) B.pre
  have hts : ∀ w ∈ lw_all, w.before _ s = true := fun w h => hts w (List.mem_cons_of_mem _ h)
  have hown : s.vm.findClass RX1 = some m.cls := findClass_of_methodNamed B.named
  have hlocks := B.notSynchronized
  subst hsz
  have hD := hD0.self (sz := s.heap.size)
  generalize hAe : va_A [(h0, .inr (1, [.ref ar, .int (nI L), .int (nI st), .int (nI en)])), (ar, .inl (d, L, .inl f))] s.heap.size = A at hD ⊢
  have hA : ∀ q : Nat, s.heap.size ≤ q → A q := fun q h => by rw [← hAe]; exact Or.inr h
  have hS : va_S A s.heap s.heap [] := va_S.rf
  have hP : va_P (dC, dI) vwCl [(h0, .inr (1, [.ref ar, .int (nI L), .int (nI st), .int (nI en)])), (ar, .inl (d, L, .inl f))] s.heap := hP
  have hl := lv_entry ([.ref h0]) (n := 2) (Nat.le_of_ble_eq_true rfl)
  rw [lg_entry_eq]
  generalize (lg_sl ([.ref h0]) ++ List.replicate (2 - (lg_sl ([.ref h0])).length) Slot.unset).toArray = ls at hl ⊢
  have hl : lv_has ls 2 [(0, .ref h0)] := hl
  have h1 := hq.1
  have h2 := hq.2.1
  have h3 := hq.2.2.1
  have h4 := hq.en_lt
  refine lv_aload_n hx hb dX1_reduce_0 rfl (lv_at hl 0 rfl) ?_
  have hPc := hP.sub (ws' := [(h0, .inr (1, [.ref ar, .int (nI L), .int (nI st), .int (nI en)])), (ar, .inl (d, L, .inl f))]) [0, 1] rfl
  have hDc := hD.sub (ws' := [(h0, .inr (1, [.ref ar, .int (nI L), .int (nI st), .int (nI en)])), (ar, .inl (d, L, .inl f))]) [0, 1] (by decide) rfl
  have hKc := hK.sub (tys' := [(d, .int)]) [0] rfl
  have hFc := va_free (wc := [(h0, .inr (1, [.ref ar, .int (nI L), .int (nI st), .int (nI en)])), (ar, .inl (d, L, .inl f))]) hD hS hA [0, 1] rfl
  refine va_calli (va_runV (As := []) (rest := []) ⟨hx, hb, hml, hown, hts⟩ (metX1_size l dC dI s.heap.size h0 ar d L st en n f xs hq) (cwV 0 hts (lw_V q444 q369 q370 q6 q371) rfl rfl rfl (by decide +kernel) ⟨Nat.le_of_ble_eq_true rfl, Nat.le_of_ble_eq_true rfl⟩) ⟨fun a U g mk q => by obtain ⟨q0, q1, qP, qK, qD⟩ := q; exact ⟨q0, q1, qP, va_K.moved (u := U) (U := U.calling g mk a) (Vm.Alike.refl U.vm) qK, qD⟩, va_recv hKc hPc (ci := 1) (q0 := 0) rfl rfl, fun U hU hW => ⟨rfl, by rw [hU], by rw [hU]; exact hPc, va_K.moved hW.alike hKc, hDc.weaken (fun _ _ _ _ => trivial)⟩⟩ rfl rfl hl.1 rfl (lv_room (Nat.le_of_ble_eq_true rfl)) dX1_reduce_1 ⟨Nat.zero_le _, Nat.zero_le _⟩) hS (fun q _ h => hFc q h) hFc (fun r u t H1 locs ht hvm hw hB hz1 hk1 hS => ?_)
  obtain ⟨hP1, hK1, hD1⟩ := hB
  rw [ht] at hP1
  have hK1 := va_K.moved hvm.symm hK1
  obtain ⟨hP, hD⟩ := va_join (wr := []) (w1 := [(h0, .inr (1, [.ref ar, .int (nI L), .int (nI st), .int (nI en)])), (ar, .inl (d, L, .inl f))]) hP hD [0, 1] [] rfl rfl (by decide) (by decide) hk1 hFc hP1 hD1
  have hK := (hK.sub (tys' := []) [] rfl).app hK1
  clear hPc hDc hKc hFc hz1 hk1 hP1 hD1 hK1 ht hvm
  generalize H1 = H at hP hS ⊢
  have hP : va_P (dC, dI) vwCl [(h0, .inr (1, [.ref ar, .int (nI L), .int (nI st), .int (nI en)])), (ar, .inl (d, L, .inl f))] H := hP
  have hD : va_D A [(h0, .inr (1, [.ref ar, .int (nI L), .int (nI st), .int (nI en)])), (ar, .inl (d, L, .inl f))] := hD
  have hK : va_K (dC, dI) vwCl [(d, .int)] s := hK
  have hw : r = nI n := hw
  subst hw
  refine W.widen (k := 0) (n := 0) (by omega) (by omega) ?_
  refine lv_istore_n (lv' := [(1, .int (nI n)), (0, .ref h0)]) hx hb dX1_reduce_4 rfl hl (by decide) rfl (fun ls hl => ?_)
  refine lv_aload_n hx hb dX1_reduce_5 rfl (lv_at hl 1 rfl) ?_
  refine va_get (D := (dC, dI)) (ci := 1) (v := .int (nI L)) (C := RX1) (T := TX1) (N := 4) hx hb hts in_X1 hown hK hP 0 rfl rfl 1 (by decide) (hts _ q347) (fun _ h9 => h9) rfl dX1_reduce_6 ?_
  refine lv_iconst (v := nI 4) hx hb dX1_reduce_9 (by decide) ?_
  refine lv_icmp_le (tgt := 34) hx hb dX1_reduce_10 (by decide) (fun c_10 => ?_) (fun c_10 => ?_)
  · have hP9 := hP.sub (ws' := [(h0, .inr (1, [.ref ar, .int (nI L), .int (nI st), .int (nI en)])), (ar, .inl (d, L, .inl f))]) [0, 1] rfl
    have hD9 := hD.sub (ws' := [(h0, .inr (1, [.ref ar, .int (nI L), .int (nI st), .int (nI en)])), (ar, .inl (d, L, .inl f))]) [0, 1] (by decide) rfl
    have hK9 := hK.sub (tys' := [(d, .int)]) [0] rfl
    refine W.widen (k := 1) (n := 300) (by omega) (by omega) ?_
    exact W.vret hx hb hr (fun t ht hW => ⟨⟨(ar, d, L, st, en, f), rfl, hq, by rw [ht]; exact hP9, va_K.moved hW.alike hK9, hD9⟩, hS.F ht⟩) hS.2.2 dX1_reduce_34
  · have hL4 := cl_nleN (by omega) (by omega) c_10
    refine lv_iload_n hx hb dX1_reduce_13 rfl (lv_at hl 0 rfl) ?_
    refine lv_aload_n hx hb dX1_reduce_14 rfl (lv_at hl 1 rfl) ?_
    refine va_get (D := (dC, dI)) (ci := 1) (v := .int (nI L)) (C := RX1) (T := TX1) (N := 4) hx hb hts in_X1 hown hK hP 0 rfl rfl 1 (by decide) (hts _ q347) (fun _ h9 => h9) rfl dX1_reduce_15 ?_
    refine lv_iconst (v := nI 4) hx hb dX1_reduce_18 (by decide) ?_
    refine lv_idiv hx hb dX1_reduce_19 (by decide) ?_
    refine cl_ti (y := nI (L / 4)) (pk_div (a := L) (d := 4) (by omega) (by omega) (by omega)) ?_
    refine lv_icmp_gt (tgt := 34) hx hb dX1_reduce_20 (by decide) (fun c_20 => ?_) (fun c_20 => ?_)
    · have hP9 := hP.sub (ws' := [(h0, .inr (1, [.ref ar, .int (nI L), .int (nI st), .int (nI en)])), (ar, .inl (d, L, .inl f))]) [0, 1] rfl
      have hD9 := hD.sub (ws' := [(h0, .inr (1, [.ref ar, .int (nI L), .int (nI st), .int (nI en)])), (ar, .inl (d, L, .inl f))]) [0, 1] (by decide) rfl
      have hK9 := hK.sub (tys' := [(d, .int)]) [0] rfl
      refine W.widen (k := 1) (n := 300) (by omega) (by omega) ?_
      exact W.vret hx hb hr (fun t ht hW => ⟨⟨(ar, d, L, st, en, f), rfl, hq, by rw [ht]; exact hP9, va_K.moved hW.alike hK9, hD9⟩, hS.F ht⟩) hS.2.2 dX1_reduce_34
    · have hn4 := cl_nltN (by omega) (by omega) c_20
      refine lv_aload_n hx hb dX1_reduce_23 rfl (lv_at hl 1 rfl) ?_
      refine lv_iload_n hx hb dX1_reduce_24 rfl (lv_at hl 0 rfl) ?_
      refine lv_aload_n hx hb dX1_reduce_25 rfl (lv_at hl 1 rfl) ?_
      refine va_get (D := (dC, dI)) (ci := 1) (v := .int (nI L)) (C := RX1) (T := TX1) (N := 4) hx hb hts in_X1 hown hK hP 0 rfl rfl 1 (by decide) (hts _ q347) (fun _ h9 => h9) rfl dX1_reduce_26 ?_
      refine lv_iconst (v := nI 2) hx hb dX1_reduce_29 (by decide) ?_
      refine lv_idiv hx hb dX1_reduce_30 (by decide) ?_
      refine cl_ti (y := nI (L / 2)) (pk_div (a := L) (d := 2) (by omega) (by omega) (by omega)) ?_
      have hPc := hP.sub (ws' := [(h0, .inr (1, [.ref ar, .int (nI L), .int (nI st), .int (nI en)])), (ar, .inl (d, L, .inl f))]) [0, 1] rfl
      have hDc := hD.sub (ws' := [(h0, .inr (1, [.ref ar, .int (nI L), .int (nI st), .int (nI en)])), (ar, .inl (d, L, .inl f))]) [0, 1] (by decide) rfl
      have hKc := hK.sub (tys' := [(d, .int)]) [0] rfl
      have hFc := va_free (wc := [(h0, .inr (1, [.ref ar, .int (nI L), .int (nI st), .int (nI en)])), (ar, .inl (d, L, .inl f))]) hD hS hA [0, 1] rfl
      refine va_callv (va_runV (As := [.int (nI n), .int (nI (L / 2))]) (rest := []) ⟨hx, hb, hml, hown, hts⟩ (metX1_resize l dC dI H.size h0 ar d L st en n (L / 2) f (cl_Z_R hq) (by omega) (by omega)) (cwV 2 hts (lw_V q385 q387 qs2 q6 q388) rfl rfl rfl (by decide +kernel) ⟨Nat.le_of_ble_eq_true rfl, Nat.le_of_ble_eq_true rfl⟩) ⟨fun a U g mk q => by obtain ⟨q0, q1, qP, qK, qD⟩ := q; exact ⟨q0, q1, qP, va_K.moved (u := U) (U := U.calling g mk a) (Vm.Alike.refl U.vm) qK, qD⟩, va_recv hKc hPc (ci := 1) (q0 := 0) rfl rfl, fun U hU hW => ⟨rfl, by rw [hU], by rw [hU]; exact hPc, va_K.moved hW.alike hKc, hDc.weaken (fun _ _ _ _ => trivial)⟩⟩ rfl rfl hl.1 rfl (lv_room (Nat.le_of_ble_eq_true rfl)) dX1_reduce_31 ⟨(show 0 + 1 ≤ 1 by omega), (show 0 + 300 ≤ 300 by omega)⟩) hS (fun q _ h => hFc q h) hFc (fun u t H1 locs ht hvm hw hB hz1 hk1 hS => ?_)
      obtain ⟨a2, d2, L2, s2, e2, f2⟩ := u
      obtain ⟨hP1, hK1, hD1⟩ := hB
      rw [ht] at hP1
      have hK1 := va_K.moved hvm.symm hK1
      obtain ⟨hP, hD⟩ := va_join (wr := []) (w1 := [(h0, .inr (1, [.ref a2, .int (nI L2), .int (nI s2), .int (nI e2)])), (a2, .inl (d2, L2, .inl f2))]) hP hD [0, 1] [] rfl rfl (by decide) (by decide) hk1 hFc hP1 hD1
      have hK := (hK.sub (tys' := []) [] rfl).app hK1
      clear hPc hDc hKc hFc hz1 hk1 hP1 hD1 hK1 ht hvm
      generalize H1 = H at hP hS ⊢
      have hP : va_P (dC, dI) vwCl [(h0, .inr (1, [.ref a2, .int (nI L2), .int (nI s2), .int (nI e2)])), (a2, .inl (d2, L2, .inl f2))] H := hP
      have hD : va_D A [(h0, .inr (1, [.ref a2, .int (nI L2), .int (nI s2), .int (nI e2)])), (a2, .inl (d2, L2, .inl f2))] := hD
      have hK : va_K (dC, dI) vwCl [(d2, .int)] s := hK
      obtain ⟨w1, w2, w3, w4⟩ := hw
      have v1 : L2 = L / 2 := w1
      have v2 : s2 = 0 := w2
      have v3 : n = e2 := Eq.symm w3
      have v4 : ∀ i, i < n → f2 i = f (cl_ix L (st + i)) := w4
      subst v1
      subst v2
      subst v3
      refine W.widen (k := 1) (n := 300) (by omega) (by omega) ?_
      have hP9 := hP.sub (ws' := [(h0, .inr (1, [.ref a2, .int (nI (L / 2)), .int (nI 0), .int (nI n)])), (a2, .inl (d2, (L / 2), .inl f2))]) [0, 1] rfl
      have hD9 := hD.sub (ws' := [(h0, .inr (1, [.ref a2, .int (nI (L / 2)), .int (nI 0), .int (nI n)])), (a2, .inl (d2, (L / 2), .inl f2))]) [0, 1] (by decide) rfl
      have hK9 := hK.sub (tys' := [(d2, .int)]) [0] rfl
      exact W.vret hx hb hr (fun t ht hW => ⟨⟨(a2, d2, L / 2, 0, n, f2), rfl, cl_flat hq.2.2.2.2 v4 (show n < L / 2 by omega) (show L / 2 ≤ 300 by omega), by rw [ht]; exact hP9, va_K.moved hW.alike hK9, hD9⟩, hS.F ht⟩) hS.2.2 dX1_reduce_34
set_option maxHeartbeats 4000000 in
set_option maxRecDepth 100000 in
/-- trim(): the same row in a ring of one place more than it needs -/
theorem metX1_trim (l : Launch) (dC : Nat → ClassId) (dI : Nat → Nat → Nat) (sz : Nat) (h0 ar : Nat) (d : ClassId) (L st en n : Nat) (f xs : Nat → Int32) (hq : cl_R f L st en n xs) : Met l yX1_trim (ws_ yX1_trim cX1_trim 3 none) ({ frames := 1, cells := 1, slots := 300, locals := 30 } : Jvm.Room) (va_Pc [.ref h0] (fun U => U.heap.size = sz ∧ va_P (dC, dI) vwCl [(h0, .inr (1, [.ref ar, .int (nI L), .int (nI st), .int (nI en)])), (ar, .inl (d, L, .inl f))] U.heap ∧ va_K (dC, dI) vwCl [(d, .int)] U ∧ va_D (fun _ => True) [(h0, .inr (1, [.ref ar, .int (nI L), .int (nI st), .int (nI en)])), (ar, .inl (d, L, .inl f))])) (va_Qv (S := cl_Q) (fun (u : cl_Q) => cl_R u.2.2.2.2.2 u.2.2.1 u.2.2.2.1 u.2.2.2.2.1 n xs) (cl_BQ dC dI h0 (va_A [(h0, .inr (1, [.ref ar, .int (nI L), .int (nI st), .int (nI en)])), (ar, .inl (d, L, .inl f))] sz)) (va_A [(h0, .inr (1, [.ref ar, .int (nI L), .int (nI st), .int (nI en)])), (ar, .inl (d, L, .inl f))] sz)) 1 300 (va_A [(h0, .inr (1, [.ref ar, .int (nI L), .int (nI st), .int (nI en)])), (ar, .inl (d, L, .inl f))] sz) := by
  refine Met.ofW (cc := cX1_trim) (maxL := 3) (ret := none) (by decide) rfl ?_
  intro p e s m args below meth c s₁ B hml hv
  obtain ⟨rfl, hsz, hP, hK, hD0⟩ := hv
  have hx := B.exec
  have hb := B.bytes
  have hr := B.returns
  have hts := atoms_spec (ws := ws_ yX1_trim cX1_trim 3 none) B.pre
  have hts : ∀ w ∈ lw_all, w.before _ s = true := fun w h => hts w (List.mem_cons_of_mem _ h)
  have hown : s.vm.findClass RX1 = some m.cls := findClass_of_methodNamed B.named
  have hlocks := B.notSynchronized
  subst hsz
  have hD := hD0.self (sz := s.heap.size)
  generalize hAe : va_A [(h0, .inr (1, [.ref ar, .int (nI L), .int (nI st), .int (nI en)])), (ar, .inl (d, L, .inl f))] s.heap.size = A at hD ⊢
  have hA : ∀ q : Nat, s.heap.size ≤ q → A q := fun q h => by rw [← hAe]; exact Or.inr h
  have hS : va_S A s.heap s.heap [] := va_S.rf
  have hP : va_P (dC, dI) vwCl [(h0, .inr (1, [.ref ar, .int (nI L), .int (nI st), .int (nI en)])), (ar, .inl (d, L, .inl f))] s.heap := hP
  have hl := lv_entry ([.ref h0]) (n := 3) (Nat.le_of_ble_eq_true rfl)
  rw [lg_entry_eq]
  generalize (lg_sl ([.ref h0]) ++ List.replicate (3 - (lg_sl ([.ref h0])).length) Slot.unset).toArray = ls at hl ⊢
  have hl : lv_has ls 3 [(0, .ref h0)] := hl
  have h1 := hq.1
  have h2 := hq.2.1
  have h3 := hq.2.2.1
  have h4 := hq.en_lt
  obtain ⟨z1, z2, z3, z4, z5, z6⟩ := cl_Z_R hq
  refine lv_aload_n hx hb dX1_trim_0 rfl (lv_at hl 0 rfl) ?_
  have hPc := hP.sub (ws' := [(h0, .inr (1, [.ref ar, .int (nI L), .int (nI st), .int (nI en)])), (ar, .inl (d, L, .inl f))]) [0, 1] rfl
  have hDc := hD.sub (ws' := [(h0, .inr (1, [.ref ar, .int (nI L), .int (nI st), .int (nI en)])), (ar, .inl (d, L, .inl f))]) [0, 1] (by decide) rfl
  have hKc := hK.sub (tys' := [(d, .int)]) [0] rfl
  have hFc := va_free (wc := [(h0, .inr (1, [.ref ar, .int (nI L), .int (nI st), .int (nI en)])), (ar, .inl (d, L, .inl f))]) hD hS hA [0, 1] rfl
  refine va_calli (va_runV (As := []) (rest := []) ⟨hx, hb, hml, hown, hts⟩ (metX1_size l dC dI s.heap.size h0 ar d L st en n f xs hq) (cwV 0 hts (lw_V q444 q369 q370 q6 q371) rfl rfl rfl (by decide +kernel) ⟨Nat.le_of_ble_eq_true rfl, Nat.le_of_ble_eq_true rfl⟩) ⟨fun a U g mk q => by obtain ⟨q0, q1, qP, qK, qD⟩ := q; exact ⟨q0, q1, qP, va_K.moved (u := U) (U := U.calling g mk a) (Vm.Alike.refl U.vm) qK, qD⟩, va_recv hKc hPc (ci := 1) (q0 := 0) rfl rfl, fun U hU hW => ⟨rfl, by rw [hU], by rw [hU]; exact hPc, va_K.moved hW.alike hKc, hDc.weaken (fun _ _ _ _ => trivial)⟩⟩ rfl rfl hl.1 rfl (lv_room (Nat.le_of_ble_eq_true rfl)) dX1_trim_1 ⟨Nat.zero_le _, Nat.zero_le _⟩) hS (fun q _ h => hFc q h) hFc (fun r u t H1 locs ht hvm hw hB hz1 hk1 hS => ?_)
  obtain ⟨hP1, hK1, hD1⟩ := hB
  rw [ht] at hP1
  have hK1 := va_K.moved hvm.symm hK1
  obtain ⟨hP, hD⟩ := va_join (wr := []) (w1 := [(h0, .inr (1, [.ref ar, .int (nI L), .int (nI st), .int (nI en)])), (ar, .inl (d, L, .inl f))]) hP hD [0, 1] [] rfl rfl (by decide) (by decide) hk1 hFc hP1 hD1
  have hK := (hK.sub (tys' := []) [] rfl).app hK1
  clear hPc hDc hKc hFc hz1 hk1 hP1 hD1 hK1 ht hvm
  generalize H1 = H at hP hS ⊢
  have hP : va_P (dC, dI) vwCl [(h0, .inr (1, [.ref ar, .int (nI L), .int (nI st), .int (nI en)])), (ar, .inl (d, L, .inl f))] H := hP
  have hD : va_D A [(h0, .inr (1, [.ref ar, .int (nI L), .int (nI st), .int (nI en)])), (ar, .inl (d, L, .inl f))] := hD
  have hK : va_K (dC, dI) vwCl [(d, .int)] s := hK
  have hw : r = nI n := hw
  subst hw
  refine W.widen (k := 0) (n := 0) (by omega) (by omega) ?_
  refine lv_istore_n (lv' := [(1, .int (nI n)), (0, .ref h0)]) hx hb dX1_trim_4 rfl hl (by decide) rfl (fun ls hl => ?_)
  refine lv_iload_n hx hb dX1_trim_5 rfl (lv_at hl 0 rfl) ?_
  refine lv_iconst (v := nI 1) hx hb dX1_trim_6 (by decide) ?_
  refine lv_iadd hx hb dX1_trim_7 ?_
  refine cl_ti (y := nI (n + 1)) (nI_1 n) ?_
  refine va_newa (atype := .int) (ty := .int) (n := nI (n + 1)) (N' := (n + 1)) (a0 := ((n + 1), .inl (fun _ => 0))) hx hb (hts _ q359) rfl hK hP hD hS hA (fun _ => rfl) (nI_pos (by omega)) (nI_clamp (by omega)) (show (n + 1) * 4 ≤ 536870912 by omega) (show 0 + 1 ≤ 1 by omega) (show 0 + (n + 1) ≤ 300 by omega) dX1_trim_8 (fun a2 d2 H hK hP hD hS => ?_)
  have hP : va_P (dC, dI) vwCl [(h0, .inr (1, [.ref ar, .int (nI L), .int (nI st), .int (nI en)])), (ar, .inl (d, L, .inl f)), (a2, .inl (d2, (n + 1), .inl (fun _ => 0)))] H := hP
  have hD : va_D A [(h0, .inr (1, [.ref ar, .int (nI L), .int (nI st), .int (nI en)])), (ar, .inl (d, L, .inl f)), (a2, .inl (d2, (n + 1), .inl (fun _ => 0)))] := hD
  have hK : va_K (dC, dI) vwCl [(d, .int), (d2, .int)] s := hK
  refine W.widen (k := 1) (n := 300) (by omega) (by omega) ?_
  refine lv_astore_n (lv' := [(2, .ref a2), (1, .int (nI n)), (0, .ref h0)]) hx hb dX1_trim_10 rfl hl (by decide) rfl (fun ls hl => ?_)
  refine lv_aload_n hx hb dX1_trim_11 rfl (lv_at hl 2 rfl) ?_
  refine va_get (D := (dC, dI)) (ci := 1) (v := .int (nI st)) (C := RX1) (T := TX1) (N := 4) hx hb hts in_X1 hown hK hP 0 rfl rfl 2 (by decide) (hts _ q348) (fun _ h9 => h9) rfl dX1_trim_12 ?_
  refine lv_aload_n hx hb dX1_trim_15 rfl (lv_at hl 2 rfl) ?_
  refine va_get (D := (dC, dI)) (ci := 1) (v := .int (nI en)) (C := RX1) (T := TX1) (N := 4) hx hb hts in_X1 hown hK hP 0 rfl rfl 3 (by decide) (hts _ q349) (fun _ h9 => h9) rfl dX1_trim_16 ?_
  refine lv_icmp_gt (tgt := 47) hx hb dX1_trim_19 (by decide) (fun c_19 => ?_) (fun c_19 => ?_)
  · have hgt := cl_ltN (by omega) (by omega) c_19
    have hnn : n ≠ 0 := by intro q; have := hq.lo (by omega); omega
    have hkk : n = L - st + en := by rcases z6 (by omega) with q | q <;> omega
    refine lv_aload_n hx hb dX1_trim_47 rfl (lv_at hl 2 rfl) ?_
    refine va_get (D := (dC, dI)) (ci := 1) (v := .ref ar) (C := RX1) (T := TX1) (N := 4) hx hb hts in_X1 hown hK hP 0 rfl rfl 0 (by decide) (hts _ q346) (fun _ h9 => h9) rfl dX1_trim_48 ?_
    refine lv_aload_n hx hb dX1_trim_51 rfl (lv_at hl 2 rfl) ?_
    refine va_get (D := (dC, dI)) (ci := 1) (v := .int (nI st)) (C := RX1) (T := TX1) (N := 4) hx hb hts in_X1 hown hK hP 0 rfl rfl 2 (by decide) (hts _ q348) (fun _ h9 => h9) rfl dX1_trim_52 ?_
    refine lv_aload_n hx hb dX1_trim_55 rfl (lv_at hl 0 rfl) ?_
    refine lv_iconst (v := nI 0) hx hb dX1_trim_56 (by decide) ?_
    refine lv_aload_n hx hb dX1_trim_57 rfl (lv_at hl 2 rfl) ?_
    refine va_get (D := (dC, dI)) (ci := 1) (v := .int (nI L)) (C := RX1) (T := TX1) (N := 4) hx hb hts in_X1 hown hK hP 0 rfl rfl 1 (by decide) (hts _ q347) (fun _ h9 => h9) rfl dX1_trim_58 ?_
    refine lv_aload_n hx hb dX1_trim_61 rfl (lv_at hl 2 rfl) ?_
    refine va_get (D := (dC, dI)) (ci := 1) (v := .int (nI st)) (C := RX1) (T := TX1) (N := 4) hx hb hts in_X1 hown hK hP 0 rfl rfl 2 (by decide) (hts _ q348) (fun _ h9 => h9) rfl dX1_trim_62 ?_
    refine lv_isub hx hb dX1_trim_65 ?_
    refine cl_ti (y := nI (L - st)) (pk_sub (by omega)) ?_
    refine va_copyi hx hb (hml.trans hl.1.symm) hown (hts _ q389) (hts _ q158) (hts _ q157) (hts _ q18) hK hP hD hS 1 2 0 1 rfl rfl rfl rfl rfl (nI_pos (by omega)) (nI_pos (by omega)) (nI_pos (by omega)) (by rw [nI_clamp (by omega), nI_clamp (by omega)]; omega) (by rw [nI_clamp (by omega), nI_clamp (by omega)]; omega) (fun _ _ => rfl) (Nat.le_of_ble_eq_true rfl) (by decide +kernel) dX1_trim_66 (fun H locs hP hD hS => ?_)
    have hP : va_P (dC, dI) vwCl [(h0, .inr (1, [.ref ar, .int (nI L), .int (nI st), .int (nI en)])), (ar, .inl (d, L, .inl f)), (a2, .inl (d2, (n + 1), .inl (va_cpy f (fun _ => 0) (nI st).toNatClampNeg (nI 0).toNatClampNeg (nI (L - st)).toNatClampNeg)))] H := hP
    have hD : va_D A [(h0, .inr (1, [.ref ar, .int (nI L), .int (nI st), .int (nI en)])), (ar, .inl (d, L, .inl f)), (a2, .inl (d2, (n + 1), .inl (va_cpy f (fun _ => 0) (nI st).toNatClampNeg (nI 0).toNatClampNeg (nI (L - st)).toNatClampNeg)))] := hD
    have hfe : va_cpy f (fun _ => 0) (nI st).toNatClampNeg (nI 0).toNatClampNeg (nI (L - st)).toNatClampNeg = va_cpy f (fun _ => 0) st 0 (L - st) := by rw [nI_clamp (n := st) (by omega), nI_clamp (n := 0) (by omega), nI_clamp (n := L - st) (by omega)]
    rw [hfe] at hP hD
    clear hfe
    refine lv_aload_n hx hb dX1_trim_69 rfl (lv_at hl 2 rfl) ?_
    refine va_get (D := (dC, dI)) (ci := 1) (v := .ref ar) (C := RX1) (T := TX1) (N := 4) hx hb hts in_X1 hown hK hP 0 rfl rfl 0 (by decide) (hts _ q346) (fun _ h9 => h9) rfl dX1_trim_70 ?_
    refine lv_iconst (v := nI 0) hx hb dX1_trim_73 (by decide) ?_
    refine lv_aload_n hx hb dX1_trim_74 rfl (lv_at hl 0 rfl) ?_
    refine lv_aload_n hx hb dX1_trim_75 rfl (lv_at hl 2 rfl) ?_
    refine va_get (D := (dC, dI)) (ci := 1) (v := .int (nI L)) (C := RX1) (T := TX1) (N := 4) hx hb hts in_X1 hown hK hP 0 rfl rfl 1 (by decide) (hts _ q347) (fun _ h9 => h9) rfl dX1_trim_76 ?_
    refine lv_aload_n hx hb dX1_trim_79 rfl (lv_at hl 2 rfl) ?_
    refine va_get (D := (dC, dI)) (ci := 1) (v := .int (nI st)) (C := RX1) (T := TX1) (N := 4) hx hb hts in_X1 hown hK hP 0 rfl rfl 2 (by decide) (hts _ q348) (fun _ h9 => h9) rfl dX1_trim_80 ?_
    refine lv_isub hx hb dX1_trim_83 ?_
    refine cl_ti (y := nI (L - st)) (pk_sub (by omega)) ?_
    refine lv_aload_n hx hb dX1_trim_84 rfl (lv_at hl 2 rfl) ?_
    refine va_get (D := (dC, dI)) (ci := 1) (v := .int (nI en)) (C := RX1) (T := TX1) (N := 4) hx hb hts in_X1 hown hK hP 0 rfl rfl 3 (by decide) (hts _ q349) (fun _ h9 => h9) rfl dX1_trim_85 ?_
    refine va_copyi hx hb (hml.trans hl.1.symm) hown (hts _ q389) (hts _ q158) (hts _ q157) (hts _ q18) hK hP hD hS 1 2 0 1 rfl rfl rfl rfl rfl (nI_pos (by omega)) (nI_pos (by omega)) (nI_pos (by omega)) (by rw [nI_clamp (by omega), nI_clamp (by omega)]; omega) (by rw [nI_clamp (by omega), nI_clamp (by omega)]; omega) (fun _ _ => rfl) (Nat.le_of_ble_eq_true rfl) (by decide +kernel) dX1_trim_88 (fun H locs hP hD hS => ?_)
    have hP : va_P (dC, dI) vwCl [(h0, .inr (1, [.ref ar, .int (nI L), .int (nI st), .int (nI en)])), (ar, .inl (d, L, .inl f)), (a2, .inl (d2, (n + 1), .inl (va_cpy f (va_cpy f (fun _ => 0) st 0 (L - st)) (nI 0).toNatClampNeg (nI (L - st)).toNatClampNeg (nI en).toNatClampNeg)))] H := hP
    have hD : va_D A [(h0, .inr (1, [.ref ar, .int (nI L), .int (nI st), .int (nI en)])), (ar, .inl (d, L, .inl f)), (a2, .inl (d2, (n + 1), .inl (va_cpy f (va_cpy f (fun _ => 0) st 0 (L - st)) (nI 0).toNatClampNeg (nI (L - st)).toNatClampNeg (nI en).toNatClampNeg)))] := hD
    have hfe : va_cpy f (va_cpy f (fun _ => 0) st 0 (L - st)) (nI 0).toNatClampNeg (nI (L - st)).toNatClampNeg (nI en).toNatClampNeg = va_cpy f (va_cpy f (fun _ => 0) st 0 (L - st)) 0 (L - st) en := by rw [nI_clamp (n := 0) (by omega), nI_clamp (n := L - st) (by omega), nI_clamp (n := en) (by omega)]
    rw [hfe] at hP hD
    clear hfe
    refine lv_aload_n hx hb dX1_trim_91 rfl (lv_at hl 2 rfl) ?_
    refine lv_iconst (v := nI 0) hx hb dX1_trim_92 (by decide) ?_
    refine va_put (D := (dC, dI)) (ci := 1) (v := .int (nI 0)) (ty := .int) (C := RX1) (T := TX1) (N := 4) hx hb hts in_X1 tyX1 tyX1_ok nmX1 hown hK hP hD hS 0 rfl rfl 2 (by decide) (hts _ q348) (fun _ h9 => h9) rfl (by decide +kernel) rfl rfl (Nat.le_of_ble_eq_true rfl) dX1_trim_93 (fun H locs hP hD hS => ?_)
    have hP : va_P (dC, dI) vwCl [(h0, .inr (1, [.ref ar, .int (nI L), .int (nI 0), .int (nI en)])), (ar, .inl (d, L, .inl f)), (a2, .inl (d2, (n + 1), .inl (va_cpy f (va_cpy f (fun _ => 0) st 0 (L - st)) 0 (L - st) en)))] H := hP
    have hD : va_D A [(h0, .inr (1, [.ref ar, .int (nI L), .int (nI 0), .int (nI en)])), (ar, .inl (d, L, .inl f)), (a2, .inl (d2, (n + 1), .inl (va_cpy f (va_cpy f (fun _ => 0) st 0 (L - st)) 0 (L - st) en)))] := hD
    refine lv_aload_n hx hb dX1_trim_96 rfl (lv_at hl 2 rfl) ?_
    refine lv_aload_n hx hb dX1_trim_97 rfl (lv_at hl 2 rfl) ?_
    refine lv_iload_n hx hb dX1_trim_98 rfl (lv_at hl 1 rfl) ?_
    refine lv_dup_x1 hx hb dX1_trim_99 rfl rfl ?_
    refine va_put (D := (dC, dI)) (ci := 1) (v := .int (nI n)) (ty := .int) (C := RX1) (T := TX1) (N := 4) hx hb hts in_X1 tyX1 tyX1_ok nmX1 hown hK hP hD hS 0 rfl rfl 3 (by decide) (hts _ q349) (fun _ h9 => h9) rfl (by decide +kernel) rfl rfl (Nat.le_of_ble_eq_true rfl) dX1_trim_100 (fun H locs hP hD hS => ?_)
    have hP : va_P (dC, dI) vwCl [(h0, .inr (1, [.ref ar, .int (nI L), .int (nI 0), .int (nI n)])), (ar, .inl (d, L, .inl f)), (a2, .inl (d2, (n + 1), .inl (va_cpy f (va_cpy f (fun _ => 0) st 0 (L - st)) 0 (L - st) en)))] H := hP
    have hD : va_D A [(h0, .inr (1, [.ref ar, .int (nI L), .int (nI 0), .int (nI n)])), (ar, .inl (d, L, .inl f)), (a2, .inl (d2, (n + 1), .inl (va_cpy f (va_cpy f (fun _ => 0) st 0 (L - st)) 0 (L - st) en)))] := hD
    refine lv_iconst (v := nI 1) hx hb dX1_trim_103 (by decide) ?_
    refine lv_iadd hx hb dX1_trim_104 ?_
    refine cl_ti (y := nI (n + 1)) (nI_1 n) ?_
    refine va_put (D := (dC, dI)) (ci := 1) (v := .int (nI (n + 1))) (ty := .int) (C := RX1) (T := TX1) (N := 4) hx hb hts in_X1 tyX1 tyX1_ok nmX1 hown hK hP hD hS 0 rfl rfl 1 (by decide) (hts _ q347) (fun _ h9 => h9) rfl (by decide +kernel) rfl rfl (Nat.le_of_ble_eq_true rfl) dX1_trim_105 (fun H locs hP hD hS => ?_)
    have hP : va_P (dC, dI) vwCl [(h0, .inr (1, [.ref ar, .int (nI (n + 1)), .int (nI 0), .int (nI n)])), (ar, .inl (d, L, .inl f)), (a2, .inl (d2, (n + 1), .inl (va_cpy f (va_cpy f (fun _ => 0) st 0 (L - st)) 0 (L - st) en)))] H := hP
    have hD : va_D A [(h0, .inr (1, [.ref ar, .int (nI (n + 1)), .int (nI 0), .int (nI n)])), (ar, .inl (d, L, .inl f)), (a2, .inl (d2, (n + 1), .inl (va_cpy f (va_cpy f (fun _ => 0) st 0 (L - st)) 0 (L - st) en)))] := hD
    refine lv_aload_n hx hb dX1_trim_108 rfl (lv_at hl 2 rfl) ?_
    refine lv_aload_n hx hb dX1_trim_109 rfl (lv_at hl 0 rfl) ?_
    refine va_put (D := (dC, dI)) (ci := 1) (v := .ref a2) (ty := .array .int) (C := RX1) (T := TX1) (N := 4) hx hb hts in_X1 tyX1 tyX1_ok nmX1 hown hK hP hD hS 0 rfl rfl 0 (by decide) (hts _ q346) (fun _ h9 => h9) rfl (by decide +kernel) rfl rfl (Nat.le_of_ble_eq_true rfl) dX1_trim_110 (fun H locs hP hD hS => ?_)
    have hP : va_P (dC, dI) vwCl [(h0, .inr (1, [.ref a2, .int (nI (n + 1)), .int (nI 0), .int (nI n)])), (ar, .inl (d, L, .inl f)), (a2, .inl (d2, (n + 1), .inl (va_cpy f (va_cpy f (fun _ => 0) st 0 (L - st)) 0 (L - st) en)))] H := hP
    have hD : va_D A [(h0, .inr (1, [.ref a2, .int (nI (n + 1)), .int (nI 0), .int (nI n)])), (ar, .inl (d, L, .inl f)), (a2, .inl (d2, (n + 1), .inl (va_cpy f (va_cpy f (fun _ => 0) st 0 (L - st)) 0 (L - st) en)))] := hD
    have hP9 := hP.sub (ws' := [(h0, .inr (1, [.ref a2, .int (nI (n + 1)), .int (nI 0), .int (nI n)])), (a2, .inl (d2, (n + 1), .inl (va_cpy f (va_cpy f (fun _ => 0) st 0 (L - st)) 0 (L - st) en)))]) [0, 2] rfl
    have hD9 := hD.sub (ws' := [(h0, .inr (1, [.ref a2, .int (nI (n + 1)), .int (nI 0), .int (nI n)])), (a2, .inl (d2, (n + 1), .inl (va_cpy f (va_cpy f (fun _ => 0) st 0 (L - st)) 0 (L - st) en)))]) [0, 2] (by decide) rfl
    have hK9 := hK.sub (tys' := [(d2, .int)]) [1] rfl
    exact W.vret hx hb hr (fun t ht hW => ⟨⟨(a2, d2, n + 1, 0, n, va_cpy f (va_cpy f (fun _ => 0) st 0 (L - st)) 0 (L - st) en), rfl, cl_flat hq.2.2.2.2 (cl_cp2 z1 hkk z4) (show n < n + 1 by omega) (show n + 1 ≤ 300 by omega), by rw [ht]; exact hP9, va_K.moved hW.alike hK9, hD9⟩, hS.F ht⟩) hS.2.2 dX1_trim_113
  · have hle := cl_nltN (by omega) (by omega) c_19
    have hkk : n = en - st := by rcases Nat.lt_or_ge st en with q | q; exact z5 q; (rcases z6 q with q2 | q2 <;> omega)
    refine lv_aload_n hx hb dX1_trim_22 rfl (lv_at hl 2 rfl) ?_
    refine va_get (D := (dC, dI)) (ci := 1) (v := .ref ar) (C := RX1) (T := TX1) (N := 4) hx hb hts in_X1 hown hK hP 0 rfl rfl 0 (by decide) (hts _ q346) (fun _ h9 => h9) rfl dX1_trim_23 ?_
    refine lv_aload_n hx hb dX1_trim_26 rfl (lv_at hl 2 rfl) ?_
    refine va_get (D := (dC, dI)) (ci := 1) (v := .int (nI st)) (C := RX1) (T := TX1) (N := 4) hx hb hts in_X1 hown hK hP 0 rfl rfl 2 (by decide) (hts _ q348) (fun _ h9 => h9) rfl dX1_trim_27 ?_
    refine lv_aload_n hx hb dX1_trim_30 rfl (lv_at hl 0 rfl) ?_
    refine lv_iconst (v := nI 0) hx hb dX1_trim_31 (by decide) ?_
    refine lv_aload_n hx hb dX1_trim_32 rfl (lv_at hl 2 rfl) ?_
    refine va_get (D := (dC, dI)) (ci := 1) (v := .int (nI en)) (C := RX1) (T := TX1) (N := 4) hx hb hts in_X1 hown hK hP 0 rfl rfl 3 (by decide) (hts _ q349) (fun _ h9 => h9) rfl dX1_trim_33 ?_
    refine lv_aload_n hx hb dX1_trim_36 rfl (lv_at hl 2 rfl) ?_
    refine va_get (D := (dC, dI)) (ci := 1) (v := .int (nI st)) (C := RX1) (T := TX1) (N := 4) hx hb hts in_X1 hown hK hP 0 rfl rfl 2 (by decide) (hts _ q348) (fun _ h9 => h9) rfl dX1_trim_37 ?_
    refine lv_isub hx hb dX1_trim_40 ?_
    refine cl_ti (y := nI (en - st)) (pk_sub (by omega)) ?_
    refine va_copyi hx hb (hml.trans hl.1.symm) hown (hts _ q389) (hts _ q158) (hts _ q157) (hts _ q18) hK hP hD hS 1 2 0 1 rfl rfl rfl rfl rfl (nI_pos (by omega)) (nI_pos (by omega)) (nI_pos (by omega)) (by rw [nI_clamp (by omega), nI_clamp (by omega)]; omega) (by rw [nI_clamp (by omega), nI_clamp (by omega)]; omega) (fun _ _ => rfl) (Nat.le_of_ble_eq_true rfl) (by decide +kernel) dX1_trim_41 (fun H locs hP hD hS => ?_)
    have hP : va_P (dC, dI) vwCl [(h0, .inr (1, [.ref ar, .int (nI L), .int (nI st), .int (nI en)])), (ar, .inl (d, L, .inl f)), (a2, .inl (d2, (n + 1), .inl (va_cpy f (fun _ => 0) (nI st).toNatClampNeg (nI 0).toNatClampNeg (nI (en - st)).toNatClampNeg)))] H := hP
    have hD : va_D A [(h0, .inr (1, [.ref ar, .int (nI L), .int (nI st), .int (nI en)])), (ar, .inl (d, L, .inl f)), (a2, .inl (d2, (n + 1), .inl (va_cpy f (fun _ => 0) (nI st).toNatClampNeg (nI 0).toNatClampNeg (nI (en - st)).toNatClampNeg)))] := hD
    have hfe : va_cpy f (fun _ => 0) (nI st).toNatClampNeg (nI 0).toNatClampNeg (nI (en - st)).toNatClampNeg = va_cpy f (fun _ => 0) st 0 (en - st) := by rw [nI_clamp (n := st) (by omega), nI_clamp (n := 0) (by omega), nI_clamp (n := en - st) (by omega)]
    rw [hfe] at hP hD
    clear hfe
    refine lv_goto (tgt := 91) hx hb dX1_trim_44 (by decide) ?_
    refine lv_aload_n hx hb dX1_trim_91 rfl (lv_at hl 2 rfl) ?_
    refine lv_iconst (v := nI 0) hx hb dX1_trim_92 (by decide) ?_
    refine va_put (D := (dC, dI)) (ci := 1) (v := .int (nI 0)) (ty := .int) (C := RX1) (T := TX1) (N := 4) hx hb hts in_X1 tyX1 tyX1_ok nmX1 hown hK hP hD hS 0 rfl rfl 2 (by decide) (hts _ q348) (fun _ h9 => h9) rfl (by decide +kernel) rfl rfl (Nat.le_of_ble_eq_true rfl) dX1_trim_93 (fun H locs hP hD hS => ?_)
    have hP : va_P (dC, dI) vwCl [(h0, .inr (1, [.ref ar, .int (nI L), .int (nI 0), .int (nI en)])), (ar, .inl (d, L, .inl f)), (a2, .inl (d2, (n + 1), .inl (va_cpy f (fun _ => 0) st 0 (en - st))))] H := hP
    have hD : va_D A [(h0, .inr (1, [.ref ar, .int (nI L), .int (nI 0), .int (nI en)])), (ar, .inl (d, L, .inl f)), (a2, .inl (d2, (n + 1), .inl (va_cpy f (fun _ => 0) st 0 (en - st))))] := hD
    refine lv_aload_n hx hb dX1_trim_96 rfl (lv_at hl 2 rfl) ?_
    refine lv_aload_n hx hb dX1_trim_97 rfl (lv_at hl 2 rfl) ?_
    refine lv_iload_n hx hb dX1_trim_98 rfl (lv_at hl 1 rfl) ?_
    refine lv_dup_x1 hx hb dX1_trim_99 rfl rfl ?_
    refine va_put (D := (dC, dI)) (ci := 1) (v := .int (nI n)) (ty := .int) (C := RX1) (T := TX1) (N := 4) hx hb hts in_X1 tyX1 tyX1_ok nmX1 hown hK hP hD hS 0 rfl rfl 3 (by decide) (hts _ q349) (fun _ h9 => h9) rfl (by decide +kernel) rfl rfl (Nat.le_of_ble_eq_true rfl) dX1_trim_100 (fun H locs hP hD hS => ?_)
    have hP : va_P (dC, dI) vwCl [(h0, .inr (1, [.ref ar, .int (nI L), .int (nI 0), .int (nI n)])), (ar, .inl (d, L, .inl f)), (a2, .inl (d2, (n + 1), .inl (va_cpy f (fun _ => 0) st 0 (en - st))))] H := hP
    have hD : va_D A [(h0, .inr (1, [.ref ar, .int (nI L), .int (nI 0), .int (nI n)])), (ar, .inl (d, L, .inl f)), (a2, .inl (d2, (n + 1), .inl (va_cpy f (fun _ => 0) st 0 (en - st))))] := hD
    refine lv_iconst (v := nI 1) hx hb dX1_trim_103 (by decide) ?_
    refine lv_iadd hx hb dX1_trim_104 ?_
    refine cl_ti (y := nI (n + 1)) (nI_1 n) ?_
    refine va_put (D := (dC, dI)) (ci := 1) (v := .int (nI (n + 1))) (ty := .int) (C := RX1) (T := TX1) (N := 4) hx hb hts in_X1 tyX1 tyX1_ok nmX1 hown hK hP hD hS 0 rfl rfl 1 (by decide) (hts _ q347) (fun _ h9 => h9) rfl (by decide +kernel) rfl rfl (Nat.le_of_ble_eq_true rfl) dX1_trim_105 (fun H locs hP hD hS => ?_)
    have hP : va_P (dC, dI) vwCl [(h0, .inr (1, [.ref ar, .int (nI (n + 1)), .int (nI 0), .int (nI n)])), (ar, .inl (d, L, .inl f)), (a2, .inl (d2, (n + 1), .inl (va_cpy f (fun _ => 0) st 0 (en - st))))] H := hP
    have hD : va_D A [(h0, .inr (1, [.ref ar, .int (nI (n + 1)), .int (nI 0), .int (nI n)])), (ar, .inl (d, L, .inl f)), (a2, .inl (d2, (n + 1), .inl (va_cpy f (fun _ => 0) st 0 (en - st))))] := hD
    refine lv_aload_n hx hb dX1_trim_108 rfl (lv_at hl 2 rfl) ?_
    refine lv_aload_n hx hb dX1_trim_109 rfl (lv_at hl 0 rfl) ?_
    refine va_put (D := (dC, dI)) (ci := 1) (v := .ref a2) (ty := .array .int) (C := RX1) (T := TX1) (N := 4) hx hb hts in_X1 tyX1 tyX1_ok nmX1 hown hK hP hD hS 0 rfl rfl 0 (by decide) (hts _ q346) (fun _ h9 => h9) rfl (by decide +kernel) rfl rfl (Nat.le_of_ble_eq_true rfl) dX1_trim_110 (fun H locs hP hD hS => ?_)
    have hP : va_P (dC, dI) vwCl [(h0, .inr (1, [.ref a2, .int (nI (n + 1)), .int (nI 0), .int (nI n)])), (ar, .inl (d, L, .inl f)), (a2, .inl (d2, (n + 1), .inl (va_cpy f (fun _ => 0) st 0 (en - st))))] H := hP
    have hD : va_D A [(h0, .inr (1, [.ref a2, .int (nI (n + 1)), .int (nI 0), .int (nI n)])), (ar, .inl (d, L, .inl f)), (a2, .inl (d2, (n + 1), .inl (va_cpy f (fun _ => 0) st 0 (en - st))))] := hD
    have hP9 := hP.sub (ws' := [(h0, .inr (1, [.ref a2, .int (nI (n + 1)), .int (nI 0), .int (nI n)])), (a2, .inl (d2, (n + 1), .inl (va_cpy f (fun _ => 0) st 0 (en - st))))]) [0, 2] rfl
    have hD9 := hD.sub (ws' := [(h0, .inr (1, [.ref a2, .int (nI (n + 1)), .int (nI 0), .int (nI n)])), (a2, .inl (d2, (n + 1), .inl (va_cpy f (fun _ => 0) st 0 (en - st))))]) [0, 2] (by decide) rfl
    have hK9 := hK.sub (tys' := [(d2, .int)]) [1] rfl
    exact W.vret hx hb hr (fun t ht hW => ⟨⟨(a2, d2, n + 1, 0, n, va_cpy f (fun _ => 0) st 0 (en - st)), rfl, cl_flat hq.2.2.2.2 (cl_cp1 (L := L) (k := n) (by omega) hkk) (show n < n + 1 by omega) (show n + 1 ≤ 300 by omega), by rw [ht]; exact hP9, va_K.moved hW.alike hK9, hD9⟩, hS.F ht⟩) hS.2.2 dX1_trim_113
end
section
/-! IntArrayFIFOQueue: enqueue, enqueueFirst, dequeueInt, dequeueLastInt -/
set_option maxRecDepth 100000
set_option maxHeartbeats 4000000 in
set_option maxRecDepth 100000 in
/-- enqueue(x): x behind the row -/
theorem metX1_enqueue (l : Launch) (dC : Nat → ClassId) (dI : Nat → Nat → Nat) (sz : Nat) (h0 ar : Nat) (d : ClassId) (L st en n : Nat) (f xs : Nat → Int32) (x : Int32) (hq : cl_R f L st en n xs) (hn : n ≤ 100) : Met l yX1_enqueue (ws_ yX1_enqueue cX1_enqueue 2 none) ({ frames := 3, cells := 1, slots := 300, locals := 80 } : Jvm.Room) (va_Pc [.ref h0, .int x] (fun U => U.heap.size = sz ∧ va_P (dC, dI) vwCl [(h0, .inr (1, [.ref ar, .int (nI L), .int (nI st), .int (nI en)])), (ar, .inl (d, L, .inl f))] U.heap ∧ va_K (dC, dI) vwCl [(d, .int)] U ∧ va_D (fun _ => True) [(h0, .inr (1, [.ref ar, .int (nI L), .int (nI st), .int (nI en)])), (ar, .inl (d, L, .inl f))])) (va_Qv (S := cl_Q) (fun (u : cl_Q) => cl_R u.2.2.2.2.2 u.2.2.1 u.2.2.2.1 u.2.2.2.2.1 (n + 1) (upd xs n x)) (cl_BQ dC dI h0 (va_A [(h0, .inr (1, [.ref ar, .int (nI L), .int (nI st), .int (nI en)])), (ar, .inl (d, L, .inl f))] sz)) (va_A [(h0, .inr (1, [.ref ar, .int (nI L), .int (nI st), .int (nI en)])), (ar, .inl (d, L, .inl f))] sz)) 1 300 (va_A [(h0, .inr (1, [.ref ar, .int (nI L), .int (nI st), .int (nI en)])), (ar, .inl (d, L, .inl f))] sz) := by
  refine Met.ofW (cc := cX1_enqueue) (maxL := 2) (ret := none) (by decide) rfl ?_
  intro p e s m args below meth c s₁ B hml hv
  obtain ⟨rfl, hsz, hP, hK, hD0⟩ := hv
  have hx := B.exec
  have hb := B.bytes
  have hr := B.returns
  have hts := atoms_spec (ws := ws_ yX1_enqueue cX1_enqueue 2 none) B.pre
  have hts : ∀ w ∈ lw_all, w.before _ s = true := fun w h => hts w (List.mem_cons_of_mem _ h)
  have hown : s.vm.findClass RX1 = some m.cls := findClass_of_methodNamed B.named
  have hlocks := B.notSynchronized
  subst hsz
  have hD := hD0.self (sz := s.heap.size)
  generalize hAe : va_A [(h0, .inr (1, [.ref ar, .int (nI L), .int (nI st), .int (nI en)])), (ar, .inl (d, L, .inl f))] s.heap.size = A at hD ⊢
  have hA : ∀ q : Nat, s.heap.size ≤ q → A q := fun q h => by rw [← hAe]; exact Or.inr h
  have hS : va_S A s.heap s.heap [] := va_S.rf
  have hP : va_P (dC, dI) vwCl [(h0, .inr (1, [.ref ar, .int (nI L), .int (nI st), .int (nI en)])), (ar, .inl (d, L, .inl f))] s.heap := hP
  have hl := lv_entry ([.ref h0, .int x]) (n := 2) (Nat.le_of_ble_eq_true rfl)
  rw [lg_entry_eq]
  generalize (lg_sl ([.ref h0, .int x]) ++ List.replicate (2 - (lg_sl ([.ref h0, .int x])).length) Slot.unset).toArray = ls at hl ⊢
  have hl : lv_has ls 2 [(0, .ref h0), (1, .int x)] := hl
  have h1 := hq.1
  have h2 := hq.2.1
  have h3 := hq.2.2.1
  have h4 := hq.en_lt
  refine lv_aload_n hx hb dX1_enqueue_0 rfl (lv_at hl 0 rfl) ?_
  refine va_get (D := (dC, dI)) (ci := 1) (v := .ref ar) (C := RX1) (T := TX1) (N := 4) hx hb hts in_X1 hown hK hP 0 rfl rfl 0 (by decide) (hts _ q346) (fun _ h9 => h9) rfl dX1_enqueue_1 ?_
  refine lv_aload_n hx hb dX1_enqueue_4 rfl (lv_at hl 0 rfl) ?_
  refine lv_dup hx hb dX1_enqueue_5 rfl ?_
  refine va_get (D := (dC, dI)) (ci := 1) (v := .int (nI en)) (C := RX1) (T := TX1) (N := 4) hx hb hts in_X1 hown hK hP 0 rfl rfl 3 (by decide) (hts _ q349) (fun _ h9 => h9) rfl dX1_enqueue_6 ?_
  refine lv_dup_x1 hx hb dX1_enqueue_9 rfl rfl ?_
  refine lv_iconst (v := nI 1) hx hb dX1_enqueue_10 (by decide) ?_
  refine lv_iadd hx hb dX1_enqueue_11 ?_
  refine cl_ti (y := nI (en + 1)) (nI_1 en) ?_
  refine va_put (D := (dC, dI)) (ci := 1) (v := .int (nI (en + 1))) (ty := .int) (C := RX1) (T := TX1) (N := 4) hx hb hts in_X1 tyX1 tyX1_ok nmX1 hown hK hP hD hS 0 rfl rfl 3 (by decide) (hts _ q349) (fun _ h9 => h9) rfl (by decide +kernel) rfl rfl (Nat.le_of_ble_eq_true rfl) dX1_enqueue_12 (fun H locs hP hD hS => ?_)
  have hP : va_P (dC, dI) vwCl [(h0, .inr (1, [.ref ar, .int (nI L), .int (nI st), .int (nI (en + 1))])), (ar, .inl (d, L, .inl f))] H := hP
  have hD : va_D A [(h0, .inr (1, [.ref ar, .int (nI L), .int (nI st), .int (nI (en + 1))])), (ar, .inl (d, L, .inl f))] := hD
  refine lv_iload_n hx hb dX1_enqueue_15 rfl (lv_at hl 1 rfl) ?_
  refine va_iast hx hb hK hP hD hS 1 0 rfl rfl (vp_in_nI h4 (by omega)) dX1_enqueue_16 (fun H locs hP hD hS => ?_)
  have hP : va_P (dC, dI) vwCl [(h0, .inr (1, [.ref ar, .int (nI L), .int (nI st), .int (nI (en + 1))])), (ar, .inl (d, L, .inl (upd f (nI en).toNatClampNeg x)))] H := hP
  have hD : va_D A [(h0, .inr (1, [.ref ar, .int (nI L), .int (nI st), .int (nI (en + 1))])), (ar, .inl (d, L, .inl (upd f (nI en).toNatClampNeg x)))] := hD
  have hfe : upd f (nI en).toNatClampNeg x = upd f en x := by rw [nI_clamp (by omega)]
  rw [hfe] at hP hD
  refine lv_aload_n hx hb dX1_enqueue_17 rfl (lv_at hl 0 rfl) ?_
  refine va_get (D := (dC, dI)) (ci := 1) (v := .int (nI (en + 1))) (C := RX1) (T := TX1) (N := 4) hx hb hts in_X1 hown hK hP 0 rfl rfl 3 (by decide) (hts _ q349) (fun _ h9 => h9) rfl dX1_enqueue_18 ?_
  refine lv_aload_n hx hb dX1_enqueue_21 rfl (lv_at hl 0 rfl) ?_
  refine va_get (D := (dC, dI)) (ci := 1) (v := .int (nI L)) (C := RX1) (T := TX1) (N := 4) hx hb hts in_X1 hown hK hP 0 rfl rfl 1 (by decide) (hts _ q347) (fun _ h9 => h9) rfl dX1_enqueue_22 ?_
  refine lv_icmp_ne (tgt := 33) hx hb dX1_enqueue_25 (by decide) (fun c_25 => ?_) (fun c_25 => ?_)
  · have hne := cl_neN c_25
    have he1 : en + 1 = cl_ix L (en + 1) := (cl_ixlo (by omega)).symm
    refine lv_aload_n hx hb dX1_enqueue_33 rfl (lv_at hl 0 rfl) ?_
    refine va_get (D := (dC, dI)) (ci := 1) (v := .int (nI (en + 1))) (C := RX1) (T := TX1) (N := 4) hx hb hts in_X1 hown hK hP 0 rfl rfl 3 (by decide) (hts _ q349) (fun _ h9 => h9) rfl dX1_enqueue_34 ?_
    refine lv_aload_n hx hb dX1_enqueue_37 rfl (lv_at hl 0 rfl) ?_
    refine va_get (D := (dC, dI)) (ci := 1) (v := .int (nI st)) (C := RX1) (T := TX1) (N := 4) hx hb hts in_X1 hown hK hP 0 rfl rfl 2 (by decide) (hts _ q348) (fun _ h9 => h9) rfl dX1_enqueue_38 ?_
    refine lv_icmp_ne (tgt := 48) hx hb dX1_enqueue_41 (by decide) (fun c_41 => ?_) (fun c_41 => ?_)
    · have hP9 := hP.sub (ws' := [(h0, .inr (1, [.ref ar, .int (nI L), .int (nI st), .int (nI (en + 1))])), (ar, .inl (d, L, .inl (upd f en x)))]) [0, 1] rfl
      have hD9 := hD.sub (ws' := [(h0, .inr (1, [.ref ar, .int (nI L), .int (nI st), .int (nI (en + 1))])), (ar, .inl (d, L, .inl (upd f en x)))]) [0, 1] (by decide) rfl
      have hK9 := hK.sub (tys' := [(d, .int)]) [0] rfl
      refine W.widen (k := 1) (n := 300) (by omega) (by omega) ?_
      exact W.vret hx hb hr (fun t ht hW => ⟨⟨(ar, d, L, st, en + 1, upd f en x), rfl, cl_enq hq he1 (cl_neN c_41), by rw [ht]; exact hP9, va_K.moved hW.alike hK9, hD9⟩, hS.F ht⟩) hS.2.2 dX1_enqueue_48
    · have hes := cl_eqN (by omega) (by omega) c_41
      obtain ⟨hF, hfull⟩ := cl_enqF (x := x) hq he1 hes
      refine lv_aload_n hx hb dX1_enqueue_44 rfl (lv_at hl 0 rfl) ?_
      have hPc := hP.sub (ws' := [(h0, .inr (1, [.ref ar, .int (nI L), .int (nI st), .int (nI (en + 1))])), (ar, .inl (d, L, .inl (upd f en x)))]) [0, 1] rfl
      have hDc := hD.sub (ws' := [(h0, .inr (1, [.ref ar, .int (nI L), .int (nI st), .int (nI (en + 1))])), (ar, .inl (d, L, .inl (upd f en x)))]) [0, 1] (by decide) rfl
      have hKc := hK.sub (tys' := [(d, .int)]) [0] rfl
      have hFc := va_free (wc := [(h0, .inr (1, [.ref ar, .int (nI L), .int (nI st), .int (nI (en + 1))])), (ar, .inl (d, L, .inl (upd f en x)))]) hD hS hA [0, 1] rfl
      refine va_callv (va_runV (As := []) (rest := []) ⟨hx, hb, hml, hown, hts⟩ (metX1_expand l dC dI H.size h0 ar d L st (en + 1) (upd f en x) (upd xs n x) hF hes (by omega)) (cwV 0 hts (lw_V q376 q378 qs1 q6 q379) rfl rfl rfl (by decide +kernel) ⟨Nat.le_of_ble_eq_true rfl, Nat.le_of_ble_eq_true rfl⟩) ⟨fun a U g mk q => by obtain ⟨q0, q1, qP, qK, qD⟩ := q; exact ⟨q0, q1, qP, va_K.moved (u := U) (U := U.calling g mk a) (Vm.Alike.refl U.vm) qK, qD⟩, va_recv hKc hPc (ci := 1) (q0 := 0) rfl rfl, fun U hU hW => ⟨rfl, by rw [hU], by rw [hU]; exact hPc, va_K.moved hW.alike hKc, hDc.weaken (fun _ _ _ _ => trivial)⟩⟩ rfl rfl hl.1 rfl (lv_room (Nat.le_of_ble_eq_true rfl)) dX1_enqueue_45 ⟨(show 0 + 1 ≤ 1 by omega), (show 0 + 300 ≤ 300 by omega)⟩) hS (fun q _ h => hFc q h) hFc (fun u t H1 locs ht hvm hw hB hz1 hk1 hS => ?_)
      obtain ⟨a2, d2, L2, s2, e2, f2⟩ := u
      obtain ⟨hP1, hK1, hD1⟩ := hB
      rw [ht] at hP1
      have hK1 := va_K.moved hvm.symm hK1
      obtain ⟨hP, hD⟩ := va_join (wr := []) (w1 := [(h0, .inr (1, [.ref a2, .int (nI L2), .int (nI s2), .int (nI e2)])), (a2, .inl (d2, L2, .inl f2))]) hP hD [0, 1] [] rfl rfl (by decide) (by decide) hk1 hFc hP1 hD1
      have hK := (hK.sub (tys' := []) [] rfl).app hK1
      clear hPc hDc hKc hFc hz1 hk1 hP1 hD1 hK1 ht hvm
      generalize H1 = H at hP hS ⊢
      have hP : va_P (dC, dI) vwCl [(h0, .inr (1, [.ref a2, .int (nI L2), .int (nI s2), .int (nI e2)])), (a2, .inl (d2, L2, .inl f2))] H := hP
      have hD : va_D A [(h0, .inr (1, [.ref a2, .int (nI L2), .int (nI s2), .int (nI e2)])), (a2, .inl (d2, L2, .inl f2))] := hD
      have hK : va_K (dC, dI) vwCl [(d2, .int)] s := hK
      refine W.widen (k := 1) (n := 300) (by omega) (by omega) ?_
      have hw : cl_R f2 L2 s2 e2 L (upd xs n x) := hw
      rw [← hfull] at hw
      have hP9 := hP.sub (ws' := [(h0, .inr (1, [.ref a2, .int (nI L2), .int (nI s2), .int (nI e2)])), (a2, .inl (d2, L2, .inl f2))]) [0, 1] rfl
      have hD9 := hD.sub (ws' := [(h0, .inr (1, [.ref a2, .int (nI L2), .int (nI s2), .int (nI e2)])), (a2, .inl (d2, L2, .inl f2))]) [0, 1] (by decide) rfl
      have hK9 := hK.sub (tys' := [(d2, .int)]) [0] rfl
      exact W.vret hx hb hr (fun t ht hW => ⟨⟨(a2, d2, L2, s2, e2, f2), rfl, hw, by rw [ht]; exact hP9, va_K.moved hW.alike hK9, hD9⟩, hS.F ht⟩) hS.2.2 dX1_enqueue_48
  · have heq := cl_eqN (by omega) (by omega) c_25
    refine lv_aload_n hx hb dX1_enqueue_28 rfl (lv_at hl 0 rfl) ?_
    refine lv_iconst (v := nI 0) hx hb dX1_enqueue_29 (by decide) ?_
    refine va_put (D := (dC, dI)) (ci := 1) (v := .int (nI 0)) (ty := .int) (C := RX1) (T := TX1) (N := 4) hx hb hts in_X1 tyX1 tyX1_ok nmX1 hown hK hP hD hS 0 rfl rfl 3 (by decide) (hts _ q349) (fun _ h9 => h9) rfl (by decide +kernel) rfl rfl (Nat.le_of_ble_eq_true rfl) dX1_enqueue_30 (fun H locs hP hD hS => ?_)
    have hP : va_P (dC, dI) vwCl [(h0, .inr (1, [.ref ar, .int (nI L), .int (nI st), .int (nI 0)])), (ar, .inl (d, L, .inl (upd f en x)))] H := hP
    have hD : va_D A [(h0, .inr (1, [.ref ar, .int (nI L), .int (nI st), .int (nI 0)])), (ar, .inl (d, L, .inl (upd f en x)))] := hD
    have he1 : 0 = cl_ix L (en + 1) := by rw [cl_ixhi (by omega)]; omega
    refine lv_aload_n hx hb dX1_enqueue_33 rfl (lv_at hl 0 rfl) ?_
    refine va_get (D := (dC, dI)) (ci := 1) (v := .int (nI 0)) (C := RX1) (T := TX1) (N := 4) hx hb hts in_X1 hown hK hP 0 rfl rfl 3 (by decide) (hts _ q349) (fun _ h9 => h9) rfl dX1_enqueue_34 ?_
    refine lv_aload_n hx hb dX1_enqueue_37 rfl (lv_at hl 0 rfl) ?_
    refine va_get (D := (dC, dI)) (ci := 1) (v := .int (nI st)) (C := RX1) (T := TX1) (N := 4) hx hb hts in_X1 hown hK hP 0 rfl rfl 2 (by decide) (hts _ q348) (fun _ h9 => h9) rfl dX1_enqueue_38 ?_
    refine lv_icmp_ne (tgt := 48) hx hb dX1_enqueue_41 (by decide) (fun c_41 => ?_) (fun c_41 => ?_)
    · have hP9 := hP.sub (ws' := [(h0, .inr (1, [.ref ar, .int (nI L), .int (nI st), .int (nI 0)])), (ar, .inl (d, L, .inl (upd f en x)))]) [0, 1] rfl
      have hD9 := hD.sub (ws' := [(h0, .inr (1, [.ref ar, .int (nI L), .int (nI st), .int (nI 0)])), (ar, .inl (d, L, .inl (upd f en x)))]) [0, 1] (by decide) rfl
      have hK9 := hK.sub (tys' := [(d, .int)]) [0] rfl
      refine W.widen (k := 1) (n := 300) (by omega) (by omega) ?_
      exact W.vret hx hb hr (fun t ht hW => ⟨⟨(ar, d, L, st, 0, upd f en x), rfl, cl_enq hq he1 (cl_neN c_41), by rw [ht]; exact hP9, va_K.moved hW.alike hK9, hD9⟩, hS.F ht⟩) hS.2.2 dX1_enqueue_48
    · have hes := cl_eqN (by omega) (by omega) c_41
      obtain ⟨hF, hfull⟩ := cl_enqF (x := x) hq he1 hes
      refine lv_aload_n hx hb dX1_enqueue_44 rfl (lv_at hl 0 rfl) ?_
      have hPc := hP.sub (ws' := [(h0, .inr (1, [.ref ar, .int (nI L), .int (nI st), .int (nI 0)])), (ar, .inl (d, L, .inl (upd f en x)))]) [0, 1] rfl
      have hDc := hD.sub (ws' := [(h0, .inr (1, [.ref ar, .int (nI L), .int (nI st), .int (nI 0)])), (ar, .inl (d, L, .inl (upd f en x)))]) [0, 1] (by decide) rfl
      have hKc := hK.sub (tys' := [(d, .int)]) [0] rfl
      have hFc := va_free (wc := [(h0, .inr (1, [.ref ar, .int (nI L), .int (nI st), .int (nI 0)])), (ar, .inl (d, L, .inl (upd f en x)))]) hD hS hA [0, 1] rfl
      refine va_callv (va_runV (As := []) (rest := []) ⟨hx, hb, hml, hown, hts⟩ (metX1_expand l dC dI H.size h0 ar d L st (0) (upd f en x) (upd xs n x) hF hes (by omega)) (cwV 0 hts (lw_V q376 q378 qs1 q6 q379) rfl rfl rfl (by decide +kernel) ⟨Nat.le_of_ble_eq_true rfl, Nat.le_of_ble_eq_true rfl⟩) ⟨fun a U g mk q => by obtain ⟨q0, q1, qP, qK, qD⟩ := q; exact ⟨q0, q1, qP, va_K.moved (u := U) (U := U.calling g mk a) (Vm.Alike.refl U.vm) qK, qD⟩, va_recv hKc hPc (ci := 1) (q0 := 0) rfl rfl, fun U hU hW => ⟨rfl, by rw [hU], by rw [hU]; exact hPc, va_K.moved hW.alike hKc, hDc.weaken (fun _ _ _ _ => trivial)⟩⟩ rfl rfl hl.1 rfl (lv_room (Nat.le_of_ble_eq_true rfl)) dX1_enqueue_45 ⟨(show 0 + 1 ≤ 1 by omega), (show 0 + 300 ≤ 300 by omega)⟩) hS (fun q _ h => hFc q h) hFc (fun u t H1 locs ht hvm hw hB hz1 hk1 hS => ?_)
      obtain ⟨a2, d2, L2, s2, e2, f2⟩ := u
      obtain ⟨hP1, hK1, hD1⟩ := hB
      rw [ht] at hP1
      have hK1 := va_K.moved hvm.symm hK1
      obtain ⟨hP, hD⟩ := va_join (wr := []) (w1 := [(h0, .inr (1, [.ref a2, .int (nI L2), .int (nI s2), .int (nI e2)])), (a2, .inl (d2, L2, .inl f2))]) hP hD [0, 1] [] rfl rfl (by decide) (by decide) hk1 hFc hP1 hD1
      have hK := (hK.sub (tys' := []) [] rfl).app hK1
      clear hPc hDc hKc hFc hz1 hk1 hP1 hD1 hK1 ht hvm
      generalize H1 = H at hP hS ⊢
      have hP : va_P (dC, dI) vwCl [(h0, .inr (1, [.ref a2, .int (nI L2), .int (nI s2), .int (nI e2)])), (a2, .inl (d2, L2, .inl f2))] H := hP
      have hD : va_D A [(h0, .inr (1, [.ref a2, .int (nI L2), .int (nI s2), .int (nI e2)])), (a2, .inl (d2, L2, .inl f2))] := hD
      have hK : va_K (dC, dI) vwCl [(d2, .int)] s := hK
      refine W.widen (k := 1) (n := 300) (by omega) (by omega) ?_
      have hw : cl_R f2 L2 s2 e2 L (upd xs n x) := hw
      rw [← hfull] at hw
      have hP9 := hP.sub (ws' := [(h0, .inr (1, [.ref a2, .int (nI L2), .int (nI s2), .int (nI e2)])), (a2, .inl (d2, L2, .inl f2))]) [0, 1] rfl
      have hD9 := hD.sub (ws' := [(h0, .inr (1, [.ref a2, .int (nI L2), .int (nI s2), .int (nI e2)])), (a2, .inl (d2, L2, .inl f2))]) [0, 1] (by decide) rfl
      have hK9 := hK.sub (tys' := [(d2, .int)]) [0] rfl
      exact W.vret hx hb hr (fun t ht hW => ⟨⟨(a2, d2, L2, s2, e2, f2), rfl, hw, by rw [ht]; exact hP9, va_K.moved hW.alike hK9, hD9⟩, hS.F ht⟩) hS.2.2 dX1_enqueue_48
set_option maxHeartbeats 4000000 in
set_option maxRecDepth 100000 in
/-- enqueueFirst(x): x ahead of the row -/
theorem metX1_enqueueFirst (l : Launch) (dC : Nat → ClassId) (dI : Nat → Nat → Nat) (sz : Nat) (h0 ar : Nat) (d : ClassId) (L st en n : Nat) (f xs : Nat → Int32) (x : Int32) (hq : cl_R f L st en n xs) (hn : n ≤ 100) : Met l yX1_enqueueFirst (ws_ yX1_enqueueFirst cX1_enqueueFirst 2 none) ({ frames := 3, cells := 1, slots := 300, locals := 80 } : Jvm.Room) (va_Pc [.ref h0, .int x] (fun U => U.heap.size = sz ∧ va_P (dC, dI) vwCl [(h0, .inr (1, [.ref ar, .int (nI L), .int (nI st), .int (nI en)])), (ar, .inl (d, L, .inl f))] U.heap ∧ va_K (dC, dI) vwCl [(d, .int)] U ∧ va_D (fun _ => True) [(h0, .inr (1, [.ref ar, .int (nI L), .int (nI st), .int (nI en)])), (ar, .inl (d, L, .inl f))])) (va_Qv (S := cl_Q) (fun (u : cl_Q) => cl_R u.2.2.2.2.2 u.2.2.1 u.2.2.2.1 u.2.2.2.2.1 (n + 1) (cl_cons x xs)) (cl_BQ dC dI h0 (va_A [(h0, .inr (1, [.ref ar, .int (nI L), .int (nI st), .int (nI en)])), (ar, .inl (d, L, .inl f))] sz)) (va_A [(h0, .inr (1, [.ref ar, .int (nI L), .int (nI st), .int (nI en)])), (ar, .inl (d, L, .inl f))] sz)) 1 300 (va_A [(h0, .inr (1, [.ref ar, .int (nI L), .int (nI st), .int (nI en)])), (ar, .inl (d, L, .inl f))] sz) := by
  refine Met.ofW (cc := cX1_enqueueFirst) (maxL := 2) (ret := none) (by decide) rfl ?_
  intro p e s m args below meth c s₁ B hml hv
  obtain ⟨rfl, hsz, hP, hK, hD0⟩ := hv
  have hx := B.exec
  have hb := B.bytes
  have hr := B.returns
  have hts := atoms_spec (ws := ws_ yX1_enqueueFirst cX1_enqueueFirst 2 none) B.pre
  have hts : ∀ w ∈ lw_all, w.before _ s = true := fun w h => hts w (List.mem_cons_of_mem _ h)
  have hown : s.vm.findClass RX1 = some m.cls := findClass_of_methodNamed B.named
  have hlocks := B.notSynchronized
  subst hsz
  have hD := hD0.self (sz := s.heap.size)
  generalize hAe : va_A [(h0, .inr (1, [.ref ar, .int (nI L), .int (nI st), .int (nI en)])), (ar, .inl (d, L, .inl f))] s.heap.size = A at hD ⊢
  have hA : ∀ q : Nat, s.heap.size ≤ q → A q := fun q h => by rw [← hAe]; exact Or.inr h
  have hS : va_S A s.heap s.heap [] := va_S.rf
  have hP : va_P (dC, dI) vwCl [(h0, .inr (1, [.ref ar, .int (nI L), .int (nI st), .int (nI en)])), (ar, .inl (d, L, .inl f))] s.heap := hP
  have hl := lv_entry ([.ref h0, .int x]) (n := 2) (Nat.le_of_ble_eq_true rfl)
  rw [lg_entry_eq]
  generalize (lg_sl ([.ref h0, .int x]) ++ List.replicate (2 - (lg_sl ([.ref h0, .int x])).length) Slot.unset).toArray = ls at hl ⊢
  have hl : lv_has ls 2 [(0, .ref h0), (1, .int x)] := hl
  have h1 := hq.1
  have h2 := hq.2.1
  have h3 := hq.2.2.1
  have h4 := hq.en_lt
  refine lv_aload_n hx hb dX1_enqueueFirst_0 rfl (lv_at hl 0 rfl) ?_
  refine va_get (D := (dC, dI)) (ci := 1) (v := .int (nI st)) (C := RX1) (T := TX1) (N := 4) hx hb hts in_X1 hown hK hP 0 rfl rfl 2 (by decide) (hts _ q348) (fun _ h9 => h9) rfl dX1_enqueueFirst_1 ?_
  refine lv_if_ne (tgt := 15) hx hb dX1_enqueueFirst_4 (by decide) (fun c_4 => ?_) (fun c_4 => ?_)
  · have hs := cl_nz c_4
    have hs1 : st - 1 = if st = 0 then L - 1 else st - 1 := by rw [if_neg (by omega)]
    have hk1 := (cl_enfk h1 hs1).1
    refine lv_aload_n hx hb dX1_enqueueFirst_15 rfl (lv_at hl 0 rfl) ?_
    refine va_get (D := (dC, dI)) (ci := 1) (v := .ref ar) (C := RX1) (T := TX1) (N := 4) hx hb hts in_X1 hown hK hP 0 rfl rfl 0 (by decide) (hts _ q346) (fun _ h9 => h9) rfl dX1_enqueueFirst_16 ?_
    refine lv_aload_n hx hb dX1_enqueueFirst_19 rfl (lv_at hl 0 rfl) ?_
    refine lv_dup hx hb dX1_enqueueFirst_20 rfl ?_
    refine va_get (D := (dC, dI)) (ci := 1) (v := .int (nI st)) (C := RX1) (T := TX1) (N := 4) hx hb hts in_X1 hown hK hP 0 rfl rfl 2 (by decide) (hts _ q348) (fun _ h9 => h9) rfl dX1_enqueueFirst_21 ?_
    refine lv_iconst (v := nI 1) hx hb dX1_enqueueFirst_24 (by decide) ?_
    refine lv_isub hx hb dX1_enqueueFirst_25 ?_
    refine cl_ti (y := nI (st - 1)) (pk_sub (a := st) (b := 1) (by omega)) ?_
    refine lv_dup_x1 hx hb dX1_enqueueFirst_26 rfl rfl ?_
    refine va_put (D := (dC, dI)) (ci := 1) (v := .int (nI (st - 1))) (ty := .int) (C := RX1) (T := TX1) (N := 4) hx hb hts in_X1 tyX1 tyX1_ok nmX1 hown hK hP hD hS 0 rfl rfl 2 (by decide) (hts _ q348) (fun _ h9 => h9) rfl (by decide +kernel) rfl rfl (Nat.le_of_ble_eq_true rfl) dX1_enqueueFirst_27 (fun H locs hP hD hS => ?_)
    have hP : va_P (dC, dI) vwCl [(h0, .inr (1, [.ref ar, .int (nI L), .int (nI (st - 1)), .int (nI en)])), (ar, .inl (d, L, .inl f))] H := hP
    have hD : va_D A [(h0, .inr (1, [.ref ar, .int (nI L), .int (nI (st - 1)), .int (nI en)])), (ar, .inl (d, L, .inl f))] := hD
    refine lv_iload_n hx hb dX1_enqueueFirst_30 rfl (lv_at hl 1 rfl) ?_
    refine va_iast hx hb hK hP hD hS 1 0 rfl rfl (vp_in_nI hk1 (by omega)) dX1_enqueueFirst_31 (fun H locs hP hD hS => ?_)
    have hP : va_P (dC, dI) vwCl [(h0, .inr (1, [.ref ar, .int (nI L), .int (nI (st - 1)), .int (nI en)])), (ar, .inl (d, L, .inl (upd f (nI (st - 1)).toNatClampNeg x)))] H := hP
    have hD : va_D A [(h0, .inr (1, [.ref ar, .int (nI L), .int (nI (st - 1)), .int (nI en)])), (ar, .inl (d, L, .inl (upd f (nI (st - 1)).toNatClampNeg x)))] := hD
    have hfe : upd f (nI (st - 1)).toNatClampNeg x = upd f (st - 1) x := by rw [nI_clamp (by omega)]
    rw [hfe] at hP hD
    refine lv_aload_n hx hb dX1_enqueueFirst_32 rfl (lv_at hl 0 rfl) ?_
    refine va_get (D := (dC, dI)) (ci := 1) (v := .int (nI en)) (C := RX1) (T := TX1) (N := 4) hx hb hts in_X1 hown hK hP 0 rfl rfl 3 (by decide) (hts _ q349) (fun _ h9 => h9) rfl dX1_enqueueFirst_33 ?_
    refine lv_aload_n hx hb dX1_enqueueFirst_36 rfl (lv_at hl 0 rfl) ?_
    refine va_get (D := (dC, dI)) (ci := 1) (v := .int (nI (st - 1))) (C := RX1) (T := TX1) (N := 4) hx hb hts in_X1 hown hK hP 0 rfl rfl 2 (by decide) (hts _ q348) (fun _ h9 => h9) rfl dX1_enqueueFirst_37 ?_
    refine lv_icmp_ne (tgt := 47) hx hb dX1_enqueueFirst_40 (by decide) (fun c_40 => ?_) (fun c_40 => ?_)
    · have hP9 := hP.sub (ws' := [(h0, .inr (1, [.ref ar, .int (nI L), .int (nI (st - 1)), .int (nI en)])), (ar, .inl (d, L, .inl (upd f (st - 1) x)))]) [0, 1] rfl
      have hD9 := hD.sub (ws' := [(h0, .inr (1, [.ref ar, .int (nI L), .int (nI (st - 1)), .int (nI en)])), (ar, .inl (d, L, .inl (upd f (st - 1) x)))]) [0, 1] (by decide) rfl
      have hK9 := hK.sub (tys' := [(d, .int)]) [0] rfl
      refine W.widen (k := 1) (n := 300) (by omega) (by omega) ?_
      exact W.vret hx hb hr (fun t ht hW => ⟨⟨(ar, d, L, st - 1, en, upd f (st - 1) x), rfl, cl_enf hq hs1 (cl_neN c_40), by rw [ht]; exact hP9, va_K.moved hW.alike hK9, hD9⟩, hS.F ht⟩) hS.2.2 dX1_enqueueFirst_47
    · have hes := cl_eqN (by omega) (by omega) c_40
      obtain ⟨hF, hfull⟩ := cl_enfF (x := x) hq hs1 hes
      refine lv_aload_n hx hb dX1_enqueueFirst_43 rfl (lv_at hl 0 rfl) ?_
      have hPc := hP.sub (ws' := [(h0, .inr (1, [.ref ar, .int (nI L), .int (nI (st - 1)), .int (nI en)])), (ar, .inl (d, L, .inl (upd f (st - 1) x)))]) [0, 1] rfl
      have hDc := hD.sub (ws' := [(h0, .inr (1, [.ref ar, .int (nI L), .int (nI (st - 1)), .int (nI en)])), (ar, .inl (d, L, .inl (upd f (st - 1) x)))]) [0, 1] (by decide) rfl
      have hKc := hK.sub (tys' := [(d, .int)]) [0] rfl
      have hFc := va_free (wc := [(h0, .inr (1, [.ref ar, .int (nI L), .int (nI (st - 1)), .int (nI en)])), (ar, .inl (d, L, .inl (upd f (st - 1) x)))]) hD hS hA [0, 1] rfl
      refine va_callv (va_runV (As := []) (rest := []) ⟨hx, hb, hml, hown, hts⟩ (metX1_expand l dC dI H.size h0 ar d L (st - 1) en (upd f (st - 1) x) (cl_cons x xs) hF hes (by omega)) (cwV 0 hts (lw_V q376 q378 qs1 q6 q379) rfl rfl rfl (by decide +kernel) ⟨Nat.le_of_ble_eq_true rfl, Nat.le_of_ble_eq_true rfl⟩) ⟨fun a U g mk q => by obtain ⟨q0, q1, qP, qK, qD⟩ := q; exact ⟨q0, q1, qP, va_K.moved (u := U) (U := U.calling g mk a) (Vm.Alike.refl U.vm) qK, qD⟩, va_recv hKc hPc (ci := 1) (q0 := 0) rfl rfl, fun U hU hW => ⟨rfl, by rw [hU], by rw [hU]; exact hPc, va_K.moved hW.alike hKc, hDc.weaken (fun _ _ _ _ => trivial)⟩⟩ rfl rfl hl.1 rfl (lv_room (Nat.le_of_ble_eq_true rfl)) dX1_enqueueFirst_44 ⟨(show 0 + 1 ≤ 1 by omega), (show 0 + 300 ≤ 300 by omega)⟩) hS (fun q _ h => hFc q h) hFc (fun u t H1 locs ht hvm hw hB hz1 hk1 hS => ?_)
      obtain ⟨a2, d2, L2, s2, e2, f2⟩ := u
      obtain ⟨hP1, hK1, hD1⟩ := hB
      rw [ht] at hP1
      have hK1 := va_K.moved hvm.symm hK1
      obtain ⟨hP, hD⟩ := va_join (wr := []) (w1 := [(h0, .inr (1, [.ref a2, .int (nI L2), .int (nI s2), .int (nI e2)])), (a2, .inl (d2, L2, .inl f2))]) hP hD [0, 1] [] rfl rfl (by decide) (by decide) hk1 hFc hP1 hD1
      have hK := (hK.sub (tys' := []) [] rfl).app hK1
      clear hPc hDc hKc hFc hz1 hk1 hP1 hD1 hK1 ht hvm
      generalize H1 = H at hP hS ⊢
      have hP : va_P (dC, dI) vwCl [(h0, .inr (1, [.ref a2, .int (nI L2), .int (nI s2), .int (nI e2)])), (a2, .inl (d2, L2, .inl f2))] H := hP
      have hD : va_D A [(h0, .inr (1, [.ref a2, .int (nI L2), .int (nI s2), .int (nI e2)])), (a2, .inl (d2, L2, .inl f2))] := hD
      have hK : va_K (dC, dI) vwCl [(d2, .int)] s := hK
      refine W.widen (k := 1) (n := 300) (by omega) (by omega) ?_
      have hw : cl_R f2 L2 s2 e2 L (cl_cons x xs) := hw
      rw [← hfull] at hw
      have hP9 := hP.sub (ws' := [(h0, .inr (1, [.ref a2, .int (nI L2), .int (nI s2), .int (nI e2)])), (a2, .inl (d2, L2, .inl f2))]) [0, 1] rfl
      have hD9 := hD.sub (ws' := [(h0, .inr (1, [.ref a2, .int (nI L2), .int (nI s2), .int (nI e2)])), (a2, .inl (d2, L2, .inl f2))]) [0, 1] (by decide) rfl
      have hK9 := hK.sub (tys' := [(d2, .int)]) [0] rfl
      exact W.vret hx hb hr (fun t ht hW => ⟨⟨(a2, d2, L2, s2, e2, f2), rfl, hw, by rw [ht]; exact hP9, va_K.moved hW.alike hK9, hD9⟩, hS.F ht⟩) hS.2.2 dX1_enqueueFirst_47
  · have hs := cl_z (by omega) c_4
    refine lv_aload_n hx hb dX1_enqueueFirst_7 rfl (lv_at hl 0 rfl) ?_
    refine lv_aload_n hx hb dX1_enqueueFirst_8 rfl (lv_at hl 0 rfl) ?_
    refine va_get (D := (dC, dI)) (ci := 1) (v := .int (nI L)) (C := RX1) (T := TX1) (N := 4) hx hb hts in_X1 hown hK hP 0 rfl rfl 1 (by decide) (hts _ q347) (fun _ h9 => h9) rfl dX1_enqueueFirst_9 ?_
    refine va_put (D := (dC, dI)) (ci := 1) (v := .int (nI L)) (ty := .int) (C := RX1) (T := TX1) (N := 4) hx hb hts in_X1 tyX1 tyX1_ok nmX1 hown hK hP hD hS 0 rfl rfl 2 (by decide) (hts _ q348) (fun _ h9 => h9) rfl (by decide +kernel) rfl rfl (Nat.le_of_ble_eq_true rfl) dX1_enqueueFirst_12 (fun H locs hP hD hS => ?_)
    have hP : va_P (dC, dI) vwCl [(h0, .inr (1, [.ref ar, .int (nI L), .int (nI L), .int (nI en)])), (ar, .inl (d, L, .inl f))] H := hP
    have hD : va_D A [(h0, .inr (1, [.ref ar, .int (nI L), .int (nI L), .int (nI en)])), (ar, .inl (d, L, .inl f))] := hD
    have hs1 : L - 1 = if st = 0 then L - 1 else st - 1 := by rw [if_pos hs]
    have hk1 := (cl_enfk h1 hs1).1
    refine lv_aload_n hx hb dX1_enqueueFirst_15 rfl (lv_at hl 0 rfl) ?_
    refine va_get (D := (dC, dI)) (ci := 1) (v := .ref ar) (C := RX1) (T := TX1) (N := 4) hx hb hts in_X1 hown hK hP 0 rfl rfl 0 (by decide) (hts _ q346) (fun _ h9 => h9) rfl dX1_enqueueFirst_16 ?_
    refine lv_aload_n hx hb dX1_enqueueFirst_19 rfl (lv_at hl 0 rfl) ?_
    refine lv_dup hx hb dX1_enqueueFirst_20 rfl ?_
    refine va_get (D := (dC, dI)) (ci := 1) (v := .int (nI L)) (C := RX1) (T := TX1) (N := 4) hx hb hts in_X1 hown hK hP 0 rfl rfl 2 (by decide) (hts _ q348) (fun _ h9 => h9) rfl dX1_enqueueFirst_21 ?_
    refine lv_iconst (v := nI 1) hx hb dX1_enqueueFirst_24 (by decide) ?_
    refine lv_isub hx hb dX1_enqueueFirst_25 ?_
    refine cl_ti (y := nI (L - 1)) (pk_sub (a := L) (b := 1) (by omega)) ?_
    refine lv_dup_x1 hx hb dX1_enqueueFirst_26 rfl rfl ?_
    refine va_put (D := (dC, dI)) (ci := 1) (v := .int (nI (L - 1))) (ty := .int) (C := RX1) (T := TX1) (N := 4) hx hb hts in_X1 tyX1 tyX1_ok nmX1 hown hK hP hD hS 0 rfl rfl 2 (by decide) (hts _ q348) (fun _ h9 => h9) rfl (by decide +kernel) rfl rfl (Nat.le_of_ble_eq_true rfl) dX1_enqueueFirst_27 (fun H locs hP hD hS => ?_)
    have hP : va_P (dC, dI) vwCl [(h0, .inr (1, [.ref ar, .int (nI L), .int (nI (L - 1)), .int (nI en)])), (ar, .inl (d, L, .inl f))] H := hP
    have hD : va_D A [(h0, .inr (1, [.ref ar, .int (nI L), .int (nI (L - 1)), .int (nI en)])), (ar, .inl (d, L, .inl f))] := hD
    refine lv_iload_n hx hb dX1_enqueueFirst_30 rfl (lv_at hl 1 rfl) ?_
    refine va_iast hx hb hK hP hD hS 1 0 rfl rfl (vp_in_nI hk1 (by omega)) dX1_enqueueFirst_31 (fun H locs hP hD hS => ?_)
    have hP : va_P (dC, dI) vwCl [(h0, .inr (1, [.ref ar, .int (nI L), .int (nI (L - 1)), .int (nI en)])), (ar, .inl (d, L, .inl (upd f (nI (L - 1)).toNatClampNeg x)))] H := hP
    have hD : va_D A [(h0, .inr (1, [.ref ar, .int (nI L), .int (nI (L - 1)), .int (nI en)])), (ar, .inl (d, L, .inl (upd f (nI (L - 1)).toNatClampNeg x)))] := hD
    have hfe : upd f (nI (L - 1)).toNatClampNeg x = upd f (L - 1) x := by rw [nI_clamp (by omega)]
    rw [hfe] at hP hD
    refine lv_aload_n hx hb dX1_enqueueFirst_32 rfl (lv_at hl 0 rfl) ?_
    refine va_get (D := (dC, dI)) (ci := 1) (v := .int (nI en)) (C := RX1) (T := TX1) (N := 4) hx hb hts in_X1 hown hK hP 0 rfl rfl 3 (by decide) (hts _ q349) (fun _ h9 => h9) rfl dX1_enqueueFirst_33 ?_
    refine lv_aload_n hx hb dX1_enqueueFirst_36 rfl (lv_at hl 0 rfl) ?_
    refine va_get (D := (dC, dI)) (ci := 1) (v := .int (nI (L - 1))) (C := RX1) (T := TX1) (N := 4) hx hb hts in_X1 hown hK hP 0 rfl rfl 2 (by decide) (hts _ q348) (fun _ h9 => h9) rfl dX1_enqueueFirst_37 ?_
    refine lv_icmp_ne (tgt := 47) hx hb dX1_enqueueFirst_40 (by decide) (fun c_40 => ?_) (fun c_40 => ?_)
    · have hP9 := hP.sub (ws' := [(h0, .inr (1, [.ref ar, .int (nI L), .int (nI (L - 1)), .int (nI en)])), (ar, .inl (d, L, .inl (upd f (L - 1) x)))]) [0, 1] rfl
      have hD9 := hD.sub (ws' := [(h0, .inr (1, [.ref ar, .int (nI L), .int (nI (L - 1)), .int (nI en)])), (ar, .inl (d, L, .inl (upd f (L - 1) x)))]) [0, 1] (by decide) rfl
      have hK9 := hK.sub (tys' := [(d, .int)]) [0] rfl
      refine W.widen (k := 1) (n := 300) (by omega) (by omega) ?_
      exact W.vret hx hb hr (fun t ht hW => ⟨⟨(ar, d, L, L - 1, en, upd f (L - 1) x), rfl, cl_enf hq hs1 (cl_neN c_40), by rw [ht]; exact hP9, va_K.moved hW.alike hK9, hD9⟩, hS.F ht⟩) hS.2.2 dX1_enqueueFirst_47
    · have hes := cl_eqN (by omega) (by omega) c_40
      obtain ⟨hF, hfull⟩ := cl_enfF (x := x) hq hs1 hes
      refine lv_aload_n hx hb dX1_enqueueFirst_43 rfl (lv_at hl 0 rfl) ?_
      have hPc := hP.sub (ws' := [(h0, .inr (1, [.ref ar, .int (nI L), .int (nI (L - 1)), .int (nI en)])), (ar, .inl (d, L, .inl (upd f (L - 1) x)))]) [0, 1] rfl
      have hDc := hD.sub (ws' := [(h0, .inr (1, [.ref ar, .int (nI L), .int (nI (L - 1)), .int (nI en)])), (ar, .inl (d, L, .inl (upd f (L - 1) x)))]) [0, 1] (by decide) rfl
      have hKc := hK.sub (tys' := [(d, .int)]) [0] rfl
      have hFc := va_free (wc := [(h0, .inr (1, [.ref ar, .int (nI L), .int (nI (L - 1)), .int (nI en)])), (ar, .inl (d, L, .inl (upd f (L - 1) x)))]) hD hS hA [0, 1] rfl
      refine va_callv (va_runV (As := []) (rest := []) ⟨hx, hb, hml, hown, hts⟩ (metX1_expand l dC dI H.size h0 ar d L (L - 1) en (upd f (L - 1) x) (cl_cons x xs) hF hes (by omega)) (cwV 0 hts (lw_V q376 q378 qs1 q6 q379) rfl rfl rfl (by decide +kernel) ⟨Nat.le_of_ble_eq_true rfl, Nat.le_of_ble_eq_true rfl⟩) ⟨fun a U g mk q => by obtain ⟨q0, q1, qP, qK, qD⟩ := q; exact ⟨q0, q1, qP, va_K.moved (u := U) (U := U.calling g mk a) (Vm.Alike.refl U.vm) qK, qD⟩, va_recv hKc hPc (ci := 1) (q0 := 0) rfl rfl, fun U hU hW => ⟨rfl, by rw [hU], by rw [hU]; exact hPc, va_K.moved hW.alike hKc, hDc.weaken (fun _ _ _ _ => trivial)⟩⟩ rfl rfl hl.1 rfl (lv_room (Nat.le_of_ble_eq_true rfl)) dX1_enqueueFirst_44 ⟨(show 0 + 1 ≤ 1 by omega), (show 0 + 300 ≤ 300 by omega)⟩) hS (fun q _ h => hFc q h) hFc (fun u t H1 locs ht hvm hw hB hz1 hk1 hS => ?_)
      obtain ⟨a2, d2, L2, s2, e2, f2⟩ := u
      obtain ⟨hP1, hK1, hD1⟩ := hB
      rw [ht] at hP1
      have hK1 := va_K.moved hvm.symm hK1
      obtain ⟨hP, hD⟩ := va_join (wr := []) (w1 := [(h0, .inr (1, [.ref a2, .int (nI L2), .int (nI s2), .int (nI e2)])), (a2, .inl (d2, L2, .inl f2))]) hP hD [0, 1] [] rfl rfl (by decide) (by decide) hk1 hFc hP1 hD1
      have hK := (hK.sub (tys' := []) [] rfl).app hK1
      clear hPc hDc hKc hFc hz1 hk1 hP1 hD1 hK1 ht hvm
      generalize H1 = H at hP hS ⊢
      have hP : va_P (dC, dI) vwCl [(h0, .inr (1, [.ref a2, .int (nI L2), .int (nI s2), .int (nI e2)])), (a2, .inl (d2, L2, .inl f2))] H := hP
      have hD : va_D A [(h0, .inr (1, [.ref a2, .int (nI L2), .int (nI s2), .int (nI e2)])), (a2, .inl (d2, L2, .inl f2))] := hD
      have hK : va_K (dC, dI) vwCl [(d2, .int)] s := hK
      refine W.widen (k := 1) (n := 300) (by omega) (by omega) ?_
      have hw : cl_R f2 L2 s2 e2 L (cl_cons x xs) := hw
      rw [← hfull] at hw
      have hP9 := hP.sub (ws' := [(h0, .inr (1, [.ref a2, .int (nI L2), .int (nI s2), .int (nI e2)])), (a2, .inl (d2, L2, .inl f2))]) [0, 1] rfl
      have hD9 := hD.sub (ws' := [(h0, .inr (1, [.ref a2, .int (nI L2), .int (nI s2), .int (nI e2)])), (a2, .inl (d2, L2, .inl f2))]) [0, 1] (by decide) rfl
      have hK9 := hK.sub (tys' := [(d2, .int)]) [0] rfl
      exact W.vret hx hb hr (fun t ht hW => ⟨⟨(a2, d2, L2, s2, e2, f2), rfl, hw, by rw [ht]; exact hP9, va_K.moved hW.alike hK9, hD9⟩, hS.F ht⟩) hS.2.2 dX1_enqueueFirst_47
set_option maxHeartbeats 4000000 in
set_option maxRecDepth 100000 in
/-- dequeueInt(): takes the first -/
theorem metX1_dequeueInt (l : Launch) (dC : Nat → ClassId) (dI : Nat → Nat → Nat) (sz : Nat) (h0 ar : Nat) (d : ClassId) (L st en n : Nat) (f xs : Nat → Int32) (hq : cl_R f L st en n xs) (hn : 0 < n) : Met l yX1_dequeueInt (ws_ yX1_dequeueInt cX1_dequeueInt 2 (some .int)) ({ frames := 3, cells := 1, slots := 300, locals := 80 } : Jvm.Room) (va_Pc [.ref h0] (fun U => U.heap.size = sz ∧ va_P (dC, dI) vwCl [(h0, .inr (1, [.ref ar, .int (nI L), .int (nI st), .int (nI en)])), (ar, .inl (d, L, .inl f))] U.heap ∧ va_K (dC, dI) vwCl [(d, .int)] U ∧ va_D (fun _ => True) [(h0, .inr (1, [.ref ar, .int (nI L), .int (nI st), .int (nI en)])), (ar, .inl (d, L, .inl f))])) (va_Qi (S := cl_Q) (fun (r : Int32) (u : cl_Q) => r = xs 0 ∧ cl_R u.2.2.2.2.2 u.2.2.1 u.2.2.2.1 u.2.2.2.2.1 (n - 1) (fun i => xs (i + 1))) (cl_BQ dC dI h0 (va_A [(h0, .inr (1, [.ref ar, .int (nI L), .int (nI st), .int (nI en)])), (ar, .inl (d, L, .inl f))] sz)) (va_A [(h0, .inr (1, [.ref ar, .int (nI L), .int (nI st), .int (nI en)])), (ar, .inl (d, L, .inl f))] sz)) 1 300 (va_A [(h0, .inr (1, [.ref ar, .int (nI L), .int (nI st), .int (nI en)])), (ar, .inl (d, L, .inl f))] sz) := by
  refine Met.ofW (cc := cX1_dequeueInt) (maxL := 2) (ret := (some .int)) (by decide) rfl ?_
  intro p e s m args below meth c s₁ B hml hv
  obtain ⟨rfl, hsz, hP, hK, hD0⟩ := hv
  have hx := B.exec
  have hb := B.bytes
  have hr := B.returns
  have hts := atoms_spec (ws := ws_ yX1_dequeueInt cX1_dequeueInt 2 (some .int)) B.pre
  have hts : ∀ w ∈ lw_all, w.before _ s = true := fun w h => hts w (List.mem_cons_of_mem _ h)
  have hown : s.vm.findClass RX1 = some m.cls := findClass_of_methodNamed B.named
  have hlocks := B.notSynchronized
  subst hsz
  have hD := hD0.self (sz := s.heap.size)
  generalize hAe : va_A [(h0, .inr (1, [.ref ar, .int (nI L), .int (nI st), .int (nI en)])), (ar, .inl (d, L, .inl f))] s.heap.size = A at hD ⊢
  have hA : ∀ q : Nat, s.heap.size ≤ q → A q := fun q h => by rw [← hAe]; exact Or.inr h
  have hS : va_S A s.heap s.heap [] := va_S.rf
  have hP : va_P (dC, dI) vwCl [(h0, .inr (1, [.ref ar, .int (nI L), .int (nI st), .int (nI en)])), (ar, .inl (d, L, .inl f))] s.heap := hP
  have hl := lv_entry ([.ref h0]) (n := 2) (Nat.le_of_ble_eq_true rfl)
  rw [lg_entry_eq]
  generalize (lg_sl ([.ref h0]) ++ List.replicate (2 - (lg_sl ([.ref h0])).length) Slot.unset).toArray = ls at hl ⊢
  have hl : lv_has ls 2 [(0, .ref h0)] := hl
  have h1 := hq.1
  have h2 := hq.2.1
  have h3 := hq.2.2.1
  have h4 := hq.en_lt
  refine lv_aload_n hx hb dX1_dequeueInt_0 rfl (lv_at hl 0 rfl) ?_
  refine va_get (D := (dC, dI)) (ci := 1) (v := .int (nI st)) (C := RX1) (T := TX1) (N := 4) hx hb hts in_X1 hown hK hP 0 rfl rfl 2 (by decide) (hts _ q348) (fun _ h9 => h9) rfl dX1_dequeueInt_1 ?_
  refine lv_aload_n hx hb dX1_dequeueInt_4 rfl (lv_at hl 0 rfl) ?_
  refine va_get (D := (dC, dI)) (ci := 1) (v := .int (nI en)) (C := RX1) (T := TX1) (N := 4) hx hb hts in_X1 hown hK hP 0 rfl rfl 3 (by decide) (hts _ q349) (fun _ h9 => h9) rfl dX1_dequeueInt_5 ?_
  refine lv_icmp_ne (tgt := 19) hx hb dX1_dequeueInt_8 (by decide) (fun c_8 => ?_) (fun c_8 => ?_)
  · refine lv_aload_n hx hb dX1_dequeueInt_19 rfl (lv_at hl 0 rfl) ?_
    refine va_get (D := (dC, dI)) (ci := 1) (v := .ref ar) (C := RX1) (T := TX1) (N := 4) hx hb hts in_X1 hown hK hP 0 rfl rfl 0 (by decide) (hts _ q346) (fun _ h9 => h9) rfl dX1_dequeueInt_20 ?_
    refine lv_aload_n hx hb dX1_dequeueInt_23 rfl (lv_at hl 0 rfl) ?_
    refine va_get (D := (dC, dI)) (ci := 1) (v := .int (nI st)) (C := RX1) (T := TX1) (N := 4) hx hb hts in_X1 hown hK hP 0 rfl rfl 2 (by decide) (hts _ q348) (fun _ h9 => h9) rfl dX1_dequeueInt_24 ?_
    refine va_iald hx hb hK hP 1 0 rfl rfl (vp_in_nI h1 (by omega)) dX1_dequeueInt_27 ?_
    refine cl_ti (y := xs 0) (by rw [nI_clamp (by omega)]; exact cl_first hq hn) ?_
    refine lv_istore_n (lv' := [(1, .int (xs 0)), (0, .ref h0)]) hx hb dX1_dequeueInt_28 rfl hl (by decide) rfl (fun ls hl => ?_)
    refine lv_aload_n hx hb dX1_dequeueInt_29 rfl (lv_at hl 1 rfl) ?_
    refine lv_dup hx hb dX1_dequeueInt_30 rfl ?_
    refine va_get (D := (dC, dI)) (ci := 1) (v := .int (nI st)) (C := RX1) (T := TX1) (N := 4) hx hb hts in_X1 hown hK hP 0 rfl rfl 2 (by decide) (hts _ q348) (fun _ h9 => h9) rfl dX1_dequeueInt_31 ?_
    refine lv_iconst (v := nI 1) hx hb dX1_dequeueInt_34 (by decide) ?_
    refine lv_iadd hx hb dX1_dequeueInt_35 ?_
    refine cl_ti (y := nI (st + 1)) (nI_1 st) ?_
    refine lv_dup_x1 hx hb dX1_dequeueInt_36 rfl rfl ?_
    refine va_put (D := (dC, dI)) (ci := 1) (v := .int (nI (st + 1))) (ty := .int) (C := RX1) (T := TX1) (N := 4) hx hb hts in_X1 tyX1 tyX1_ok nmX1 hown hK hP hD hS 0 rfl rfl 2 (by decide) (hts _ q348) (fun _ h9 => h9) rfl (by decide +kernel) rfl rfl (Nat.le_of_ble_eq_true rfl) dX1_dequeueInt_37 (fun H locs hP hD hS => ?_)
    have hP : va_P (dC, dI) vwCl [(h0, .inr (1, [.ref ar, .int (nI L), .int (nI (st + 1)), .int (nI en)])), (ar, .inl (d, L, .inl f))] H := hP
    have hD : va_D A [(h0, .inr (1, [.ref ar, .int (nI L), .int (nI (st + 1)), .int (nI en)])), (ar, .inl (d, L, .inl f))] := hD
    refine lv_aload_n hx hb dX1_dequeueInt_40 rfl (lv_at hl 1 rfl) ?_
    refine va_get (D := (dC, dI)) (ci := 1) (v := .int (nI L)) (C := RX1) (T := TX1) (N := 4) hx hb hts in_X1 hown hK hP 0 rfl rfl 1 (by decide) (hts _ q347) (fun _ h9 => h9) rfl dX1_dequeueInt_41 ?_
    refine lv_icmp_ne (tgt := 52) hx hb dX1_dequeueInt_44 (by decide) (fun c_44 => ?_) (fun c_44 => ?_)
    · have hne := cl_neN c_44
      have hs1 : st + 1 = cl_ix L (st + 1) := (cl_ixlo (by omega)).symm
      refine lv_aload_n hx hb dX1_dequeueInt_52 rfl (lv_at hl 1 rfl) ?_
      have hPc := hP.sub (ws' := [(h0, .inr (1, [.ref ar, .int (nI L), .int (nI (st + 1)), .int (nI en)])), (ar, .inl (d, L, .inl f))]) [0, 1] rfl
      have hDc := hD.sub (ws' := [(h0, .inr (1, [.ref ar, .int (nI L), .int (nI (st + 1)), .int (nI en)])), (ar, .inl (d, L, .inl f))]) [0, 1] (by decide) rfl
      have hKc := hK.sub (tys' := [(d, .int)]) [0] rfl
      have hFc := va_free (wc := [(h0, .inr (1, [.ref ar, .int (nI L), .int (nI (st + 1)), .int (nI en)])), (ar, .inl (d, L, .inl f))]) hD hS hA [0, 1] rfl
      refine va_callv (va_runV (As := []) (rest := []) ⟨hx, hb, hml, hown, hts⟩ (metX1_reduce l dC dI H.size h0 ar d L (st + 1) en (n - 1) f (fun i => xs (i + 1)) (cl_deq hq hn hs1)) (cwV 0 hts (lw_V q440 q442 qs3 q6 q443) rfl rfl rfl (by decide +kernel) ⟨Nat.le_of_ble_eq_true rfl, Nat.le_of_ble_eq_true rfl⟩) ⟨fun a U g mk q => by obtain ⟨q0, q1, qP, qK, qD⟩ := q; exact ⟨q0, q1, qP, va_K.moved (u := U) (U := U.calling g mk a) (Vm.Alike.refl U.vm) qK, qD⟩, va_recv hKc hPc (ci := 1) (q0 := 0) rfl rfl, fun U hU hW => ⟨rfl, by rw [hU], by rw [hU]; exact hPc, va_K.moved hW.alike hKc, hDc.weaken (fun _ _ _ _ => trivial)⟩⟩ rfl rfl hl.1 rfl (lv_room (Nat.le_of_ble_eq_true rfl)) dX1_dequeueInt_53 ⟨(show 0 + 1 ≤ 1 by omega), (show 0 + 300 ≤ 300 by omega)⟩) hS (fun q _ h => hFc q h) hFc (fun u t H1 locs ht hvm hw hB hz1 hk1 hS => ?_)
      obtain ⟨a2, d2, L2, s2, e2, f2⟩ := u
      obtain ⟨hP1, hK1, hD1⟩ := hB
      rw [ht] at hP1
      have hK1 := va_K.moved hvm.symm hK1
      obtain ⟨hP, hD⟩ := va_join (wr := []) (w1 := [(h0, .inr (1, [.ref a2, .int (nI L2), .int (nI s2), .int (nI e2)])), (a2, .inl (d2, L2, .inl f2))]) hP hD [0, 1] [] rfl rfl (by decide) (by decide) hk1 hFc hP1 hD1
      have hK := (hK.sub (tys' := []) [] rfl).app hK1
      clear hPc hDc hKc hFc hz1 hk1 hP1 hD1 hK1 ht hvm
      generalize H1 = H at hP hS ⊢
      have hP : va_P (dC, dI) vwCl [(h0, .inr (1, [.ref a2, .int (nI L2), .int (nI s2), .int (nI e2)])), (a2, .inl (d2, L2, .inl f2))] H := hP
      have hD : va_D A [(h0, .inr (1, [.ref a2, .int (nI L2), .int (nI s2), .int (nI e2)])), (a2, .inl (d2, L2, .inl f2))] := hD
      have hK : va_K (dC, dI) vwCl [(d2, .int)] s := hK
      refine W.widen (k := 1) (n := 300) (by omega) (by omega) ?_
      refine lv_iload_n hx hb dX1_dequeueInt_56 rfl (lv_at hl 0 rfl) ?_
      have hP9 := hP.sub (ws' := [(h0, .inr (1, [.ref a2, .int (nI L2), .int (nI s2), .int (nI e2)])), (a2, .inl (d2, L2, .inl f2))]) [0, 1] rfl
      have hD9 := hD.sub (ws' := [(h0, .inr (1, [.ref a2, .int (nI L2), .int (nI s2), .int (nI e2)])), (a2, .inl (d2, L2, .inl f2))]) [0, 1] (by decide) rfl
      have hK9 := hK.sub (tys' := [(d2, .int)]) [0] rfl
      exact W.iret (v := xs 0) hx hb hr (fun t ht hW => ⟨⟨xs 0, (a2, d2, L2, s2, e2, f2), rfl, ⟨rfl, hw⟩, by rw [ht]; exact hP9, va_K.moved hW.alike hK9, hD9⟩, hS.F ht⟩) hS.2.2 dX1_dequeueInt_57
    · have heq := cl_eqN (by omega) (by omega) c_44
      refine lv_aload_n hx hb dX1_dequeueInt_47 rfl (lv_at hl 1 rfl) ?_
      refine lv_iconst (v := nI 0) hx hb dX1_dequeueInt_48 (by decide) ?_
      refine va_put (D := (dC, dI)) (ci := 1) (v := .int (nI 0)) (ty := .int) (C := RX1) (T := TX1) (N := 4) hx hb hts in_X1 tyX1 tyX1_ok nmX1 hown hK hP hD hS 0 rfl rfl 2 (by decide) (hts _ q348) (fun _ h9 => h9) rfl (by decide +kernel) rfl rfl (Nat.le_of_ble_eq_true rfl) dX1_dequeueInt_49 (fun H locs hP hD hS => ?_)
      have hP : va_P (dC, dI) vwCl [(h0, .inr (1, [.ref ar, .int (nI L), .int (nI 0), .int (nI en)])), (ar, .inl (d, L, .inl f))] H := hP
      have hD : va_D A [(h0, .inr (1, [.ref ar, .int (nI L), .int (nI 0), .int (nI en)])), (ar, .inl (d, L, .inl f))] := hD
      have hs1 : 0 = cl_ix L (st + 1) := by rw [cl_ixhi (by omega)]; omega
      refine lv_aload_n hx hb dX1_dequeueInt_52 rfl (lv_at hl 1 rfl) ?_
      have hPc := hP.sub (ws' := [(h0, .inr (1, [.ref ar, .int (nI L), .int (nI 0), .int (nI en)])), (ar, .inl (d, L, .inl f))]) [0, 1] rfl
      have hDc := hD.sub (ws' := [(h0, .inr (1, [.ref ar, .int (nI L), .int (nI 0), .int (nI en)])), (ar, .inl (d, L, .inl f))]) [0, 1] (by decide) rfl
      have hKc := hK.sub (tys' := [(d, .int)]) [0] rfl
      have hFc := va_free (wc := [(h0, .inr (1, [.ref ar, .int (nI L), .int (nI 0), .int (nI en)])), (ar, .inl (d, L, .inl f))]) hD hS hA [0, 1] rfl
      refine va_callv (va_runV (As := []) (rest := []) ⟨hx, hb, hml, hown, hts⟩ (metX1_reduce l dC dI H.size h0 ar d L (0) en (n - 1) f (fun i => xs (i + 1)) (cl_deq hq hn hs1)) (cwV 0 hts (lw_V q440 q442 qs3 q6 q443) rfl rfl rfl (by decide +kernel) ⟨Nat.le_of_ble_eq_true rfl, Nat.le_of_ble_eq_true rfl⟩) ⟨fun a U g mk q => by obtain ⟨q0, q1, qP, qK, qD⟩ := q; exact ⟨q0, q1, qP, va_K.moved (u := U) (U := U.calling g mk a) (Vm.Alike.refl U.vm) qK, qD⟩, va_recv hKc hPc (ci := 1) (q0 := 0) rfl rfl, fun U hU hW => ⟨rfl, by rw [hU], by rw [hU]; exact hPc, va_K.moved hW.alike hKc, hDc.weaken (fun _ _ _ _ => trivial)⟩⟩ rfl rfl hl.1 rfl (lv_room (Nat.le_of_ble_eq_true rfl)) dX1_dequeueInt_53 ⟨(show 0 + 1 ≤ 1 by omega), (show 0 + 300 ≤ 300 by omega)⟩) hS (fun q _ h => hFc q h) hFc (fun u t H1 locs ht hvm hw hB hz1 hk1 hS => ?_)
      obtain ⟨a2, d2, L2, s2, e2, f2⟩ := u
      obtain ⟨hP1, hK1, hD1⟩ := hB
      rw [ht] at hP1
      have hK1 := va_K.moved hvm.symm hK1
      obtain ⟨hP, hD⟩ := va_join (wr := []) (w1 := [(h0, .inr (1, [.ref a2, .int (nI L2), .int (nI s2), .int (nI e2)])), (a2, .inl (d2, L2, .inl f2))]) hP hD [0, 1] [] rfl rfl (by decide) (by decide) hk1 hFc hP1 hD1
      have hK := (hK.sub (tys' := []) [] rfl).app hK1
      clear hPc hDc hKc hFc hz1 hk1 hP1 hD1 hK1 ht hvm
      generalize H1 = H at hP hS ⊢
      have hP : va_P (dC, dI) vwCl [(h0, .inr (1, [.ref a2, .int (nI L2), .int (nI s2), .int (nI e2)])), (a2, .inl (d2, L2, .inl f2))] H := hP
      have hD : va_D A [(h0, .inr (1, [.ref a2, .int (nI L2), .int (nI s2), .int (nI e2)])), (a2, .inl (d2, L2, .inl f2))] := hD
      have hK : va_K (dC, dI) vwCl [(d2, .int)] s := hK
      refine W.widen (k := 1) (n := 300) (by omega) (by omega) ?_
      refine lv_iload_n hx hb dX1_dequeueInt_56 rfl (lv_at hl 0 rfl) ?_
      have hP9 := hP.sub (ws' := [(h0, .inr (1, [.ref a2, .int (nI L2), .int (nI s2), .int (nI e2)])), (a2, .inl (d2, L2, .inl f2))]) [0, 1] rfl
      have hD9 := hD.sub (ws' := [(h0, .inr (1, [.ref a2, .int (nI L2), .int (nI s2), .int (nI e2)])), (a2, .inl (d2, L2, .inl f2))]) [0, 1] (by decide) rfl
      have hK9 := hK.sub (tys' := [(d2, .int)]) [0] rfl
      exact W.iret (v := xs 0) hx hb hr (fun t ht hW => ⟨⟨xs 0, (a2, d2, L2, s2, e2, f2), rfl, ⟨rfl, hw⟩, by rw [ht]; exact hP9, va_K.moved hW.alike hK9, hD9⟩, hS.F ht⟩) hS.2.2 dX1_dequeueInt_57
  · exact absurd c_8 (cl_neI hq hn)
set_option maxHeartbeats 4000000 in
set_option maxRecDepth 100000 in
/-- dequeueLastInt(): takes the last -/
theorem metX1_dequeueLastInt (l : Launch) (dC : Nat → ClassId) (dI : Nat → Nat → Nat) (sz : Nat) (h0 ar : Nat) (d : ClassId) (L st en n : Nat) (f xs : Nat → Int32) (hq : cl_R f L st en n xs) (hn : 0 < n) : Met l yX1_dequeueLastInt (ws_ yX1_dequeueLastInt cX1_dequeueLastInt 2 (some .int)) ({ frames := 3, cells := 1, slots := 300, locals := 80 } : Jvm.Room) (va_Pc [.ref h0] (fun U => U.heap.size = sz ∧ va_P (dC, dI) vwCl [(h0, .inr (1, [.ref ar, .int (nI L), .int (nI st), .int (nI en)])), (ar, .inl (d, L, .inl f))] U.heap ∧ va_K (dC, dI) vwCl [(d, .int)] U ∧ va_D (fun _ => True) [(h0, .inr (1, [.ref ar, .int (nI L), .int (nI st), .int (nI en)])), (ar, .inl (d, L, .inl f))])) (va_Qi (S := cl_Q) (fun (r : Int32) (u : cl_Q) => r = xs (n - 1) ∧ cl_R u.2.2.2.2.2 u.2.2.1 u.2.2.2.1 u.2.2.2.2.1 (n - 1) xs) (cl_BQ dC dI h0 (va_A [(h0, .inr (1, [.ref ar, .int (nI L), .int (nI st), .int (nI en)])), (ar, .inl (d, L, .inl f))] sz)) (va_A [(h0, .inr (1, [.ref ar, .int (nI L), .int (nI st), .int (nI en)])), (ar, .inl (d, L, .inl f))] sz)) 1 300 (va_A [(h0, .inr (1, [.ref ar, .int (nI L), .int (nI st), .int (nI en)])), (ar, .inl (d, L, .inl f))] sz) := by
  refine Met.ofW (cc := cX1_dequeueLastInt) (maxL := 2) (ret := (some .int)) (by decide) rfl ?_
  intro p e s m args below meth c s₁ B hml hv
  obtain ⟨rfl, hsz, hP, hK, hD0⟩ := hv
  have hx := B.exec
  have hb := B.bytes
  have hr := B.returns
  have hts := atoms_spec (ws := ws_ yX1_dequeueLastInt cX1_dequeueLastInt 2 (some .int)) B.pre
  have hts : ∀ w ∈ lw_all, w.before _ s = true := fun w h => hts w (List.mem_cons_of_mem _ h)
  have hown : s.vm.findClass RX1 = some m.cls := findClass_of_methodNamed B.named
  have hlocks := B.notSynchronized
  subst hsz
  have hD := hD0.self (sz := s.heap.size)
  generalize hAe : va_A [(h0, .inr (1, [.ref ar, .int (nI L), .int (nI st), .int (nI en)])), (ar, .inl (d, L, .inl f))] s.heap.size = A at hD ⊢
  have hA : ∀ q : Nat, s.heap.size ≤ q → A q := fun q h => by rw [← hAe]; exact Or.inr h
  have hS : va_S A s.heap s.heap [] := va_S.rf
  have hP : va_P (dC, dI) vwCl [(h0, .inr (1, [.ref ar, .int (nI L), .int (nI st), .int (nI en)])), (ar, .inl (d, L, .inl f))] s.heap := hP
  have hl := lv_entry ([.ref h0]) (n := 2) (Nat.le_of_ble_eq_true rfl)
  rw [lg_entry_eq]
  generalize (lg_sl ([.ref h0]) ++ List.replicate (2 - (lg_sl ([.ref h0])).length) Slot.unset).toArray = ls at hl ⊢
  have hl : lv_has ls 2 [(0, .ref h0)] := hl
  have h1 := hq.1
  have h2 := hq.2.1
  have h3 := hq.2.2.1
  have h4 := hq.en_lt
  refine lv_aload_n hx hb dX1_dequeueLastInt_0 rfl (lv_at hl 0 rfl) ?_
  refine va_get (D := (dC, dI)) (ci := 1) (v := .int (nI st)) (C := RX1) (T := TX1) (N := 4) hx hb hts in_X1 hown hK hP 0 rfl rfl 2 (by decide) (hts _ q348) (fun _ h9 => h9) rfl dX1_dequeueLastInt_1 ?_
  refine lv_aload_n hx hb dX1_dequeueLastInt_4 rfl (lv_at hl 0 rfl) ?_
  refine va_get (D := (dC, dI)) (ci := 1) (v := .int (nI en)) (C := RX1) (T := TX1) (N := 4) hx hb hts in_X1 hown hK hP 0 rfl rfl 3 (by decide) (hts _ q349) (fun _ h9 => h9) rfl dX1_dequeueLastInt_5 ?_
  refine lv_icmp_ne (tgt := 19) hx hb dX1_dequeueLastInt_8 (by decide) (fun c_8 => ?_) (fun c_8 => ?_)
  · refine lv_aload_n hx hb dX1_dequeueLastInt_19 rfl (lv_at hl 0 rfl) ?_
    refine va_get (D := (dC, dI)) (ci := 1) (v := .int (nI en)) (C := RX1) (T := TX1) (N := 4) hx hb hts in_X1 hown hK hP 0 rfl rfl 3 (by decide) (hts _ q349) (fun _ h9 => h9) rfl dX1_dequeueLastInt_20 ?_
    refine lv_if_ne (tgt := 34) hx hb dX1_dequeueLastInt_23 (by decide) (fun c_23 => ?_) (fun c_23 => ?_)
    · have hs := cl_nz c_23
      have he1 : en - 1 = if en = 0 then L - 1 else en - 1 := by rw [if_neg (by omega)]
      have hl2 := cl_last hq hn he1
      refine lv_aload_n hx hb dX1_dequeueLastInt_34 rfl (lv_at hl 0 rfl) ?_
      refine va_get (D := (dC, dI)) (ci := 1) (v := .ref ar) (C := RX1) (T := TX1) (N := 4) hx hb hts in_X1 hown hK hP 0 rfl rfl 0 (by decide) (hts _ q346) (fun _ h9 => h9) rfl dX1_dequeueLastInt_35 ?_
      refine lv_aload_n hx hb dX1_dequeueLastInt_38 rfl (lv_at hl 0 rfl) ?_
      refine lv_dup hx hb dX1_dequeueLastInt_39 rfl ?_
      refine va_get (D := (dC, dI)) (ci := 1) (v := .int (nI en)) (C := RX1) (T := TX1) (N := 4) hx hb hts in_X1 hown hK hP 0 rfl rfl 3 (by decide) (hts _ q349) (fun _ h9 => h9) rfl dX1_dequeueLastInt_40 ?_
      refine lv_iconst (v := nI 1) hx hb dX1_dequeueLastInt_43 (by decide) ?_
      refine lv_isub hx hb dX1_dequeueLastInt_44 ?_
      refine cl_ti (y := nI (en - 1)) (pk_sub (a := en) (b := 1) (by omega)) ?_
      refine lv_dup_x1 hx hb dX1_dequeueLastInt_45 rfl rfl ?_
      refine va_put (D := (dC, dI)) (ci := 1) (v := .int (nI (en - 1))) (ty := .int) (C := RX1) (T := TX1) (N := 4) hx hb hts in_X1 tyX1 tyX1_ok nmX1 hown hK hP hD hS 0 rfl rfl 3 (by decide) (hts _ q349) (fun _ h9 => h9) rfl (by decide +kernel) rfl rfl (Nat.le_of_ble_eq_true rfl) dX1_dequeueLastInt_46 (fun H locs hP hD hS => ?_)
      have hP : va_P (dC, dI) vwCl [(h0, .inr (1, [.ref ar, .int (nI L), .int (nI st), .int (nI (en - 1))])), (ar, .inl (d, L, .inl f))] H := hP
      have hD : va_D A [(h0, .inr (1, [.ref ar, .int (nI L), .int (nI st), .int (nI (en - 1))])), (ar, .inl (d, L, .inl f))] := hD
      refine va_iald hx hb hK hP 1 0 rfl rfl (vp_in_nI hl2.2.1 (by omega)) dX1_dequeueLastInt_49 ?_
      refine cl_ti (y := xs (n - 1)) (by rw [nI_clamp (by omega)]; exact hl2.2.2) ?_
      refine lv_istore_n (lv' := [(1, .int (xs (n - 1))), (0, .ref h0)]) hx hb dX1_dequeueLastInt_50 rfl hl (by decide) rfl (fun ls hl => ?_)
      refine lv_aload_n hx hb dX1_dequeueLastInt_51 rfl (lv_at hl 1 rfl) ?_
      have hPc := hP.sub (ws' := [(h0, .inr (1, [.ref ar, .int (nI L), .int (nI st), .int (nI (en - 1))])), (ar, .inl (d, L, .inl f))]) [0, 1] rfl
      have hDc := hD.sub (ws' := [(h0, .inr (1, [.ref ar, .int (nI L), .int (nI st), .int (nI (en - 1))])), (ar, .inl (d, L, .inl f))]) [0, 1] (by decide) rfl
      have hKc := hK.sub (tys' := [(d, .int)]) [0] rfl
      have hFc := va_free (wc := [(h0, .inr (1, [.ref ar, .int (nI L), .int (nI st), .int (nI (en - 1))])), (ar, .inl (d, L, .inl f))]) hD hS hA [0, 1] rfl
      refine va_callv (va_runV (As := []) (rest := []) ⟨hx, hb, hml, hown, hts⟩ (metX1_reduce l dC dI H.size h0 ar d L st (en - 1) (n - 1) f xs (cl_deqL hq hn he1)) (cwV 0 hts (lw_V q440 q442 qs3 q6 q443) rfl rfl rfl (by decide +kernel) ⟨Nat.le_of_ble_eq_true rfl, Nat.le_of_ble_eq_true rfl⟩) ⟨fun a U g mk q => by obtain ⟨q0, q1, qP, qK, qD⟩ := q; exact ⟨q0, q1, qP, va_K.moved (u := U) (U := U.calling g mk a) (Vm.Alike.refl U.vm) qK, qD⟩, va_recv hKc hPc (ci := 1) (q0 := 0) rfl rfl, fun U hU hW => ⟨rfl, by rw [hU], by rw [hU]; exact hPc, va_K.moved hW.alike hKc, hDc.weaken (fun _ _ _ _ => trivial)⟩⟩ rfl rfl hl.1 rfl (lv_room (Nat.le_of_ble_eq_true rfl)) dX1_dequeueLastInt_52 ⟨(show 0 + 1 ≤ 1 by omega), (show 0 + 300 ≤ 300 by omega)⟩) hS (fun q _ h => hFc q h) hFc (fun u t H1 locs ht hvm hw hB hz1 hk1 hS => ?_)
      obtain ⟨a2, d2, L2, s2, e2, f2⟩ := u
      obtain ⟨hP1, hK1, hD1⟩ := hB
      rw [ht] at hP1
      have hK1 := va_K.moved hvm.symm hK1
      obtain ⟨hP, hD⟩ := va_join (wr := []) (w1 := [(h0, .inr (1, [.ref a2, .int (nI L2), .int (nI s2), .int (nI e2)])), (a2, .inl (d2, L2, .inl f2))]) hP hD [0, 1] [] rfl rfl (by decide) (by decide) hk1 hFc hP1 hD1
      have hK := (hK.sub (tys' := []) [] rfl).app hK1
      clear hPc hDc hKc hFc hz1 hk1 hP1 hD1 hK1 ht hvm
      generalize H1 = H at hP hS ⊢
      have hP : va_P (dC, dI) vwCl [(h0, .inr (1, [.ref a2, .int (nI L2), .int (nI s2), .int (nI e2)])), (a2, .inl (d2, L2, .inl f2))] H := hP
      have hD : va_D A [(h0, .inr (1, [.ref a2, .int (nI L2), .int (nI s2), .int (nI e2)])), (a2, .inl (d2, L2, .inl f2))] := hD
      have hK : va_K (dC, dI) vwCl [(d2, .int)] s := hK
      refine W.widen (k := 1) (n := 300) (by omega) (by omega) ?_
      refine lv_iload_n hx hb dX1_dequeueLastInt_55 rfl (lv_at hl 0 rfl) ?_
      have hP9 := hP.sub (ws' := [(h0, .inr (1, [.ref a2, .int (nI L2), .int (nI s2), .int (nI e2)])), (a2, .inl (d2, L2, .inl f2))]) [0, 1] rfl
      have hD9 := hD.sub (ws' := [(h0, .inr (1, [.ref a2, .int (nI L2), .int (nI s2), .int (nI e2)])), (a2, .inl (d2, L2, .inl f2))]) [0, 1] (by decide) rfl
      have hK9 := hK.sub (tys' := [(d2, .int)]) [0] rfl
      exact W.iret (v := xs (n - 1)) hx hb hr (fun t ht hW => ⟨⟨xs (n - 1), (a2, d2, L2, s2, e2, f2), rfl, ⟨rfl, hw⟩, by rw [ht]; exact hP9, va_K.moved hW.alike hK9, hD9⟩, hS.F ht⟩) hS.2.2 dX1_dequeueLastInt_56
    · have hs := cl_z (by omega) c_23
      refine lv_aload_n hx hb dX1_dequeueLastInt_26 rfl (lv_at hl 0 rfl) ?_
      refine lv_aload_n hx hb dX1_dequeueLastInt_27 rfl (lv_at hl 0 rfl) ?_
      refine va_get (D := (dC, dI)) (ci := 1) (v := .int (nI L)) (C := RX1) (T := TX1) (N := 4) hx hb hts in_X1 hown hK hP 0 rfl rfl 1 (by decide) (hts _ q347) (fun _ h9 => h9) rfl dX1_dequeueLastInt_28 ?_
      refine va_put (D := (dC, dI)) (ci := 1) (v := .int (nI L)) (ty := .int) (C := RX1) (T := TX1) (N := 4) hx hb hts in_X1 tyX1 tyX1_ok nmX1 hown hK hP hD hS 0 rfl rfl 3 (by decide) (hts _ q349) (fun _ h9 => h9) rfl (by decide +kernel) rfl rfl (Nat.le_of_ble_eq_true rfl) dX1_dequeueLastInt_31 (fun H locs hP hD hS => ?_)
      have hP : va_P (dC, dI) vwCl [(h0, .inr (1, [.ref ar, .int (nI L), .int (nI st), .int (nI L)])), (ar, .inl (d, L, .inl f))] H := hP
      have hD : va_D A [(h0, .inr (1, [.ref ar, .int (nI L), .int (nI st), .int (nI L)])), (ar, .inl (d, L, .inl f))] := hD
      have he1 : L - 1 = if en = 0 then L - 1 else en - 1 := by rw [if_pos hs]
      have hl2 := cl_last hq hn he1
      refine lv_aload_n hx hb dX1_dequeueLastInt_34 rfl (lv_at hl 0 rfl) ?_
      refine va_get (D := (dC, dI)) (ci := 1) (v := .ref ar) (C := RX1) (T := TX1) (N := 4) hx hb hts in_X1 hown hK hP 0 rfl rfl 0 (by decide) (hts _ q346) (fun _ h9 => h9) rfl dX1_dequeueLastInt_35 ?_
      refine lv_aload_n hx hb dX1_dequeueLastInt_38 rfl (lv_at hl 0 rfl) ?_
      refine lv_dup hx hb dX1_dequeueLastInt_39 rfl ?_
      refine va_get (D := (dC, dI)) (ci := 1) (v := .int (nI L)) (C := RX1) (T := TX1) (N := 4) hx hb hts in_X1 hown hK hP 0 rfl rfl 3 (by decide) (hts _ q349) (fun _ h9 => h9) rfl dX1_dequeueLastInt_40 ?_
      refine lv_iconst (v := nI 1) hx hb dX1_dequeueLastInt_43 (by decide) ?_
      refine lv_isub hx hb dX1_dequeueLastInt_44 ?_
      refine cl_ti (y := nI (L - 1)) (pk_sub (a := L) (b := 1) (by omega)) ?_
      refine lv_dup_x1 hx hb dX1_dequeueLastInt_45 rfl rfl ?_
      refine va_put (D := (dC, dI)) (ci := 1) (v := .int (nI (L - 1))) (ty := .int) (C := RX1) (T := TX1) (N := 4) hx hb hts in_X1 tyX1 tyX1_ok nmX1 hown hK hP hD hS 0 rfl rfl 3 (by decide) (hts _ q349) (fun _ h9 => h9) rfl (by decide +kernel) rfl rfl (Nat.le_of_ble_eq_true rfl) dX1_dequeueLastInt_46 (fun H locs hP hD hS => ?_)
      have hP : va_P (dC, dI) vwCl [(h0, .inr (1, [.ref ar, .int (nI L), .int (nI st), .int (nI (L - 1))])), (ar, .inl (d, L, .inl f))] H := hP
      have hD : va_D A [(h0, .inr (1, [.ref ar, .int (nI L), .int (nI st), .int (nI (L - 1))])), (ar, .inl (d, L, .inl f))] := hD
      refine va_iald hx hb hK hP 1 0 rfl rfl (vp_in_nI hl2.2.1 (by omega)) dX1_dequeueLastInt_49 ?_
      refine cl_ti (y := xs (n - 1)) (by rw [nI_clamp (by omega)]; exact hl2.2.2) ?_
      refine lv_istore_n (lv' := [(1, .int (xs (n - 1))), (0, .ref h0)]) hx hb dX1_dequeueLastInt_50 rfl hl (by decide) rfl (fun ls hl => ?_)
      refine lv_aload_n hx hb dX1_dequeueLastInt_51 rfl (lv_at hl 1 rfl) ?_
      have hPc := hP.sub (ws' := [(h0, .inr (1, [.ref ar, .int (nI L), .int (nI st), .int (nI (L - 1))])), (ar, .inl (d, L, .inl f))]) [0, 1] rfl
      have hDc := hD.sub (ws' := [(h0, .inr (1, [.ref ar, .int (nI L), .int (nI st), .int (nI (L - 1))])), (ar, .inl (d, L, .inl f))]) [0, 1] (by decide) rfl
      have hKc := hK.sub (tys' := [(d, .int)]) [0] rfl
      have hFc := va_free (wc := [(h0, .inr (1, [.ref ar, .int (nI L), .int (nI st), .int (nI (L - 1))])), (ar, .inl (d, L, .inl f))]) hD hS hA [0, 1] rfl
      refine va_callv (va_runV (As := []) (rest := []) ⟨hx, hb, hml, hown, hts⟩ (metX1_reduce l dC dI H.size h0 ar d L st (L - 1) (n - 1) f xs (cl_deqL hq hn he1)) (cwV 0 hts (lw_V q440 q442 qs3 q6 q443) rfl rfl rfl (by decide +kernel) ⟨Nat.le_of_ble_eq_true rfl, Nat.le_of_ble_eq_true rfl⟩) ⟨fun a U g mk q => by obtain ⟨q0, q1, qP, qK, qD⟩ := q; exact ⟨q0, q1, qP, va_K.moved (u := U) (U := U.calling g mk a) (Vm.Alike.refl U.vm) qK, qD⟩, va_recv hKc hPc (ci := 1) (q0 := 0) rfl rfl, fun U hU hW => ⟨rfl, by rw [hU], by rw [hU]; exact hPc, va_K.moved hW.alike hKc, hDc.weaken (fun _ _ _ _ => trivial)⟩⟩ rfl rfl hl.1 rfl (lv_room (Nat.le_of_ble_eq_true rfl)) dX1_dequeueLastInt_52 ⟨(show 0 + 1 ≤ 1 by omega), (show 0 + 300 ≤ 300 by omega)⟩) hS (fun q _ h => hFc q h) hFc (fun u t H1 locs ht hvm hw hB hz1 hk1 hS => ?_)
      obtain ⟨a2, d2, L2, s2, e2, f2⟩ := u
      obtain ⟨hP1, hK1, hD1⟩ := hB
      rw [ht] at hP1
      have hK1 := va_K.moved hvm.symm hK1
      obtain ⟨hP, hD⟩ := va_join (wr := []) (w1 := [(h0, .inr (1, [.ref a2, .int (nI L2), .int (nI s2), .int (nI e2)])), (a2, .inl (d2, L2, .inl f2))]) hP hD [0, 1] [] rfl rfl (by decide) (by decide) hk1 hFc hP1 hD1
      have hK := (hK.sub (tys' := []) [] rfl).app hK1
      clear hPc hDc hKc hFc hz1 hk1 hP1 hD1 hK1 ht hvm
      generalize H1 = H at hP hS ⊢
      have hP : va_P (dC, dI) vwCl [(h0, .inr (1, [.ref a2, .int (nI L2), .int (nI s2), .int (nI e2)])), (a2, .inl (d2, L2, .inl f2))] H := hP
      have hD : va_D A [(h0, .inr (1, [.ref a2, .int (nI L2), .int (nI s2), .int (nI e2)])), (a2, .inl (d2, L2, .inl f2))] := hD
      have hK : va_K (dC, dI) vwCl [(d2, .int)] s := hK
      refine W.widen (k := 1) (n := 300) (by omega) (by omega) ?_
      refine lv_iload_n hx hb dX1_dequeueLastInt_55 rfl (lv_at hl 0 rfl) ?_
      have hP9 := hP.sub (ws' := [(h0, .inr (1, [.ref a2, .int (nI L2), .int (nI s2), .int (nI e2)])), (a2, .inl (d2, L2, .inl f2))]) [0, 1] rfl
      have hD9 := hD.sub (ws' := [(h0, .inr (1, [.ref a2, .int (nI L2), .int (nI s2), .int (nI e2)])), (a2, .inl (d2, L2, .inl f2))]) [0, 1] (by decide) rfl
      have hK9 := hK.sub (tys' := [(d2, .int)]) [0] rfl
      exact W.iret (v := xs (n - 1)) hx hb hr (fun t ht hW => ⟨⟨xs (n - 1), (a2, d2, L2, s2, e2, f2), rfl, ⟨rfl, hw⟩, by rw [ht]; exact hP9, va_K.moved hW.alike hK9, hD9⟩, hS.F ht⟩) hS.2.2 dX1_dequeueLastInt_56
  · exact absurd c_8 (cl_neI hq hn)
end
section
/-! CircleLine -/
set_option maxRecDepth 100000
set_option maxHeartbeats 4000000 in
set_option maxRecDepth 100000 in
/-- CircleLine(): an empty line -/
theorem metX0_init (l : Launch) (dC : Nat → ClassId) (dI : Nat → Nat → Nat) (sz : Nat) (h0 : Nat) : Met l yX0_init (ws_ yX0_init cX0_init 1 none) ({ frames := 2, cells := 2, slots := 7, locals := 50 } : Jvm.Room) (va_Pc [.ref h0] (fun U => U.heap.size = sz ∧ va_P (dC, dI) vwCl [(h0, .inr (0, [.null]))] U.heap ∧ va_K (dC, dI) vwCl [] U ∧ va_D (fun _ => True) [(h0, .inr (0, [.null]))])) (va_Qv (S := Nat × cl_Q) (fun (u : Nat × cl_Q) => ∀ xs : Nat → Int32, cl_R u.2.2.2.2.2.2 u.2.2.2.1 u.2.2.2.2.1 u.2.2.2.2.2.1 0 xs) (cl_BL0 dC dI h0 (va_A [(h0, .inr (0, [.null]))] sz)) (va_A [(h0, .inr (0, [.null]))] sz)) 2 7 (va_A [(h0, .inr (0, [.null]))] sz) := by
  refine Met.ofW (cc := cX0_init) (maxL := 1) (ret := none) (by decide) rfl ?_
  intro p e s m args below meth c s₁ B hml hv
  obtain ⟨rfl, hsz, hP, hK, hD0⟩ := hv
  have hx := B.exec
  have hb := B.bytes
  have hr := B.returns
  have hts := atoms_spec (ws := ws_ yX0_init cX0_init 1 none) B.pre
  have hts : ∀ w ∈ lw_all, w.before _ s = true := fun w h => hts w (List.mem_cons_of_mem _ h)
  have hown : s.vm.findClass RX0 = some m.cls := findClass_of_methodNamed B.named
  have hlocks := B.notSynchronized
  have hin : meth.name = "<init>" := (name_of_methodNamed B.named B.method).1
  subst hsz
  have hD := hD0.self (sz := s.heap.size)
  generalize hAe : va_A [(h0, .inr (0, [.null]))] s.heap.size = A at hD ⊢
  have hA : ∀ q : Nat, s.heap.size ≤ q → A q := fun q h => by rw [← hAe]; exact Or.inr h
  have hS : va_S A s.heap s.heap [] := va_S.rf
  have hP : va_P (dC, dI) vwCl [(h0, .inr (0, [.null]))] s.heap := hP
  have hl := lv_entry ([.ref h0]) (n := 1) (Nat.le_of_ble_eq_true rfl)
  rw [lg_entry_eq]
  generalize (lg_sl ([.ref h0]) ++ List.replicate (1 - (lg_sl ([.ref h0])).length) Slot.unset).toArray = ls at hl ⊢
  have hl : lv_has ls 1 [(0, .ref h0)] := hl
  refine lv_aload_n hx hb dX0_init_0 rfl (lv_at hl 0 rfl) ?_
  refine W.objInit hx hb hown (hts _ q30) (hts _ q31) (hts _ q32) rfl (by rw [hml]; exact hl.1) rfl dX0_init_1 (Nat.le_of_ble_eq_true rfl) (Nat.le_of_ble_eq_true rfl) ?_
  refine W.eq (g2 := F0 m 4 ls []) rfl ?_
  refine lv_aload_n hx hb dX0_init_4 rfl (lv_at hl 0 rfl) ?_
  refine va_new (ci := 1) (fs := [.null, .int (nI 0), .int (nI 0), .int (nI 0)]) (C := RX1) (T := TX1) (N := 4) hx hb hts in_X1 tyX1 tyX1_ok hown (hts _ q33) (hts _ q34) (hts _ q6) hK hP hD hS hA rfl (fun j hj => by rcases (show j = 0 ∨ j = 1 ∨ j = 2 ∨ j = 3 by omega) with rfl | rfl | rfl | rfl <;> rfl) (show 0 + 1 ≤ 2 by omega) (show 0 + 4 ≤ 7 by omega) dX0_init_5 (fun q H hP hD hS => ?_)
  have hP : va_P (dC, dI) vwCl [(h0, .inr (0, [.null])), (q, .inr (1, [.null, .int (nI 0), .int (nI 0), .int (nI 0)]))] H := hP
  have hD : va_D A [(h0, .inr (0, [.null])), (q, .inr (1, [.null, .int (nI 0), .int (nI 0), .int (nI 0)]))] := hD
  refine W.widen (k := 1) (n := 4) (by omega) (by omega) ?_
  refine lv_dup hx hb dX0_init_8 rfl ?_
  refine lv_iconst (v := nI 2) hx hb dX0_init_9 (by decide) ?_
  have hPc := hP.sub (ws' := [(q, .inr (1, [.null, .int (nI 0), .int (nI 0), .int (nI 0)]))]) [1] rfl
  have hDc := hD.sub (ws' := [(q, .inr (1, [.null, .int (nI 0), .int (nI 0), .int (nI 0)]))]) [1] (by decide) rfl
  have hKc := hK.sub (tys' := []) [] rfl
  have hFc := va_free (wc := [(q, .inr (1, [.null, .int (nI 0), .int (nI 0), .int (nI 0)]))]) hD hS hA [1] rfl
  refine va_callv (va_runI (As := [.int (nI 2)]) (rest := [.ref q, .ref h0]) ⟨hx, hb, hml, hown, hts⟩ (metX1_init l dC dI H.size q) (cwI 1 hts (lw_meth q37) rfl rfl rfl (hts _ q6) (hts _ q35) (hts _ q36) rfl (by decide +kernel) ⟨Nat.le_of_ble_eq_true rfl, Nat.le_of_ble_eq_true rfl⟩) ⟨fun a U g mk q => by obtain ⟨q0, q1, qP, qK, qD⟩ := q; exact ⟨q0, q1, qP, va_K.moved (u := U) (U := U.calling g mk a) (Vm.Alike.refl U.vm) qK, qD⟩, fun U hU hW => ⟨rfl, by rw [hU], by rw [hU]; exact hPc, va_K.moved hW.alike hKc, hDc.weaken (fun _ _ _ _ => trivial)⟩⟩ rfl rfl hl.1 rfl (lv_room (Nat.le_of_ble_eq_true rfl)) dX0_init_10 ⟨(show 1 + 1 ≤ 2 by omega), (show 4 + 3 ≤ 7 by omega)⟩) hS (fun q _ h => hFc q h) hFc (fun u t H1 locs ht hvm hw hB hz1 hk1 hS => ?_)
  obtain ⟨a2, d2, L2, s2, e2, f2⟩ := u
  obtain ⟨hP1, hK1, hD1⟩ := hB
  rw [ht] at hP1
  have hK1 := va_K.moved hvm.symm hK1
  obtain ⟨hP, hD⟩ := va_join (wr := [(h0, .inr (0, [.null]))]) (w1 := [(q, .inr (1, [.ref a2, .int (nI L2), .int (nI s2), .int (nI e2)])), (a2, .inl (d2, L2, .inl f2))]) hP hD [1] [0] rfl rfl (by decide) (by decide) hk1 hFc hP1 hD1
  have hK := (hK.sub (tys' := []) [] rfl).app hK1
  clear hPc hDc hKc hFc hz1 hk1 hP1 hD1 hK1 ht hvm
  generalize H1 = H at hP hS ⊢
  have hP : va_P (dC, dI) vwCl [(h0, .inr (0, [.null])), (q, .inr (1, [.ref a2, .int (nI L2), .int (nI s2), .int (nI e2)])), (a2, .inl (d2, L2, .inl f2))] H := hP
  have hD : va_D A [(h0, .inr (0, [.null])), (q, .inr (1, [.ref a2, .int (nI L2), .int (nI s2), .int (nI e2)])), (a2, .inl (d2, L2, .inl f2))] := hD
  have hK : va_K (dC, dI) vwCl [(d2, .int)] s := hK
  refine W.widen (k := 2) (n := 7) (by omega) (by omega) ?_
  refine va_putF (D := (dC, dI)) (ci := 0) (v := .ref q) (ty := .object "IntArrayFIFOQueue") (C := RX0) (T := TX0) (N := 1) hx hb hts in_X0 tyX0 tyX0_ok nmX0 hown hK hP hD hS 0 rfl rfl 0 (by decide) (hts _ q360) (fun _ h9 => h9) rfl hin rfl (by decide +kernel) rfl rfl (Nat.le_of_ble_eq_true rfl) dX0_init_13 (fun H locs hP hD hS => ?_)
  have hP : va_P (dC, dI) vwCl [(h0, .inr (0, [.ref q])), (q, .inr (1, [.ref a2, .int (nI L2), .int (nI s2), .int (nI e2)])), (a2, .inl (d2, L2, .inl f2))] H := hP
  have hD : va_D A [(h0, .inr (0, [.ref q])), (q, .inr (1, [.ref a2, .int (nI L2), .int (nI s2), .int (nI e2)])), (a2, .inl (d2, L2, .inl f2))] := hD
  have hP9 := hP.sub (ws' := [(h0, .inr (0, [.ref q])), (q, .inr (1, [.ref a2, .int (nI L2), .int (nI s2), .int (nI e2)])), (a2, .inl (d2, L2, .inl f2))]) [0, 1, 2] rfl
  have hD9 := hD.sub (ws' := [(h0, .inr (0, [.ref q])), (q, .inr (1, [.ref a2, .int (nI L2), .int (nI s2), .int (nI e2)])), (a2, .inl (d2, L2, .inl f2))]) [0, 1, 2] (by decide) rfl
  have hK9 := hK.sub (tys' := [(d2, .int)]) [0] rfl
  exact W.vret hx hb hr (fun t ht hW => ⟨⟨(q, a2, d2, L2, s2, e2, f2), rfl, hw, by rw [ht]; exact hP9, va_K.moved hW.alike hK9, hD9⟩, hS.F ht⟩) hS.2.2 dX0_init_16
set_option maxHeartbeats 4000000 in
set_option maxRecDepth 100000 in
/-- back(x) -/
theorem metX0_back (l : Launch) (dC : Nat → ClassId) (dI : Nat → Nat → Nat) (sz : Nat) (h0 q ar : Nat) (d : ClassId) (L st en n : Nat) (f xs : Nat → Int32) (x : Int32) (hq : cl_R f L st en n xs) (hn : n ≤ 100) : Met l yX0_back (ws_ yX0_back cX0_back 2 (some .boolean)) ({ frames := 4, cells := 1, slots := 300, locals := 110 } : Jvm.Room) (va_Pc [.ref h0, .int x] (fun U => U.heap.size = sz ∧ va_P (dC, dI) vwCl [(h0, .inr (0, [.ref q])), (q, .inr (1, [.ref ar, .int (nI L), .int (nI st), .int (nI en)])), (ar, .inl (d, L, .inl f))] U.heap ∧ va_K (dC, dI) vwCl [(d, .int)] U ∧ va_D (fun _ => True) [(h0, .inr (0, [.ref q])), (q, .inr (1, [.ref ar, .int (nI L), .int (nI st), .int (nI en)])), (ar, .inl (d, L, .inl f))])) (va_Qi (S := cl_Q) (fun (r : Int32) (u : cl_Q) => r = nI 1 ∧ cl_R u.2.2.2.2.2 u.2.2.1 u.2.2.2.1 u.2.2.2.2.1 (n + 1) (upd xs n x)) (cl_BL dC dI h0 q (va_A [(h0, .inr (0, [.ref q])), (q, .inr (1, [.ref ar, .int (nI L), .int (nI st), .int (nI en)])), (ar, .inl (d, L, .inl f))] sz)) (va_A [(h0, .inr (0, [.ref q])), (q, .inr (1, [.ref ar, .int (nI L), .int (nI st), .int (nI en)])), (ar, .inl (d, L, .inl f))] sz)) 1 300 (va_A [(h0, .inr (0, [.ref q])), (q, .inr (1, [.ref ar, .int (nI L), .int (nI st), .int (nI en)])), (ar, .inl (d, L, .inl f))] sz) := by
  refine Met.ofW (cc := cX0_back) (maxL := 2) (ret := (some .boolean)) (by decide) rfl ?_
  intro p e s m args below meth c s₁ B hml hv
  obtain ⟨rfl, hsz, hP, hK, hD0⟩ := hv
  have hx := B.exec
  have hb := B.bytes
  have hr := B.returns
  have hts := atoms_spec (ws := ws_ yX0_back cX0_back 2 (some .boolean)) B.pre
  have hts : ∀ w ∈ lw_all, w.before _ s = true := fun w h => hts w (List.mem_cons_of_mem _ h)
  have hown : s.vm.findClass RX0 = some m.cls := findClass_of_methodNamed B.named
  have hlocks := B.notSynchronized
  subst hsz
  have hD := hD0.self (sz := s.heap.size)
  generalize hAe : va_A [(h0, .inr (0, [.ref q])), (q, .inr (1, [.ref ar, .int (nI L), .int (nI st), .int (nI en)])), (ar, .inl (d, L, .inl f))] s.heap.size = A at hD ⊢
  have hA : ∀ q : Nat, s.heap.size ≤ q → A q := fun q h => by rw [← hAe]; exact Or.inr h
  have hS : va_S A s.heap s.heap [] := va_S.rf
  have hP : va_P (dC, dI) vwCl [(h0, .inr (0, [.ref q])), (q, .inr (1, [.ref ar, .int (nI L), .int (nI st), .int (nI en)])), (ar, .inl (d, L, .inl f))] s.heap := hP
  have hl := lv_entry ([.ref h0, .int x]) (n := 2) (Nat.le_of_ble_eq_true rfl)
  rw [lg_entry_eq]
  generalize (lg_sl ([.ref h0, .int x]) ++ List.replicate (2 - (lg_sl ([.ref h0, .int x])).length) Slot.unset).toArray = ls at hl ⊢
  have hl : lv_has ls 2 [(0, .ref h0), (1, .int x)] := hl
  refine lv_aload_n hx hb dX0_back_0 rfl (lv_at hl 0 rfl) ?_
  refine va_get (D := (dC, dI)) (ci := 0) (v := .ref q) (C := RX0) (T := TX0) (N := 1) hx hb hts in_X0 hown hK hP 0 rfl rfl 0 (by decide) (hts _ q360) (fun _ h9 => h9) rfl dX0_back_1 ?_
  have hPc := hP.sub (ws' := [(q, .inr (1, [.ref ar, .int (nI L), .int (nI st), .int (nI en)])), (ar, .inl (d, L, .inl f))]) [1, 2] rfl
  have hDc := hD.sub (ws' := [(q, .inr (1, [.ref ar, .int (nI L), .int (nI st), .int (nI en)])), (ar, .inl (d, L, .inl f))]) [1, 2] (by decide) rfl
  have hKc := hK.sub (tys' := [(d, .int)]) [0] rfl
  have hFc := va_free (wc := [(q, .inr (1, [.ref ar, .int (nI L), .int (nI st), .int (nI en)])), (ar, .inl (d, L, .inl f))]) hD hS hA [1, 2] rfl
  refine va_calli (va_runV (As := []) (rest := []) ⟨hx, hb, hml, hown, hts⟩ (metX1_size l dC dI s.heap.size q ar d L st en n f xs hq) (cwV 0 hts (lw_V q368 q369 q370 q6 q371) rfl rfl rfl (by decide +kernel) ⟨Nat.le_of_ble_eq_true rfl, Nat.le_of_ble_eq_true rfl⟩) ⟨fun a U g mk q => by obtain ⟨q0, q1, qP, qK, qD⟩ := q; exact ⟨q0, q1, qP, va_K.moved (u := U) (U := U.calling g mk a) (Vm.Alike.refl U.vm) qK, qD⟩, va_recv hKc hPc (ci := 1) (q0 := 0) rfl rfl, fun U hU hW => ⟨rfl, by rw [hU], by rw [hU]; exact hPc, va_K.moved hW.alike hKc, hDc.weaken (fun _ _ _ _ => trivial)⟩⟩ rfl rfl hl.1 rfl (lv_room (Nat.le_of_ble_eq_true rfl)) dX0_back_4 ⟨Nat.zero_le _, Nat.zero_le _⟩) hS (fun q _ h => hFc q h) hFc (fun r u t H1 locs ht hvm hw hB hz1 hk1 hS => ?_)
  obtain ⟨hP1, hK1, hD1⟩ := hB
  rw [ht] at hP1
  have hK1 := va_K.moved hvm.symm hK1
  obtain ⟨hP, hD⟩ := va_join (wr := [(h0, .inr (0, [.ref q]))]) (w1 := [(q, .inr (1, [.ref ar, .int (nI L), .int (nI st), .int (nI en)])), (ar, .inl (d, L, .inl f))]) hP hD [1, 2] [0] rfl rfl (by decide) (by decide) hk1 hFc hP1 hD1
  have hK := (hK.sub (tys' := []) [] rfl).app hK1
  clear hPc hDc hKc hFc hz1 hk1 hP1 hD1 hK1 ht hvm
  generalize H1 = H at hP hS ⊢
  have hP : va_P (dC, dI) vwCl [(h0, .inr (0, [.ref q])), (q, .inr (1, [.ref ar, .int (nI L), .int (nI st), .int (nI en)])), (ar, .inl (d, L, .inl f))] H := hP
  have hD : va_D A [(h0, .inr (0, [.ref q])), (q, .inr (1, [.ref ar, .int (nI L), .int (nI st), .int (nI en)])), (ar, .inl (d, L, .inl f))] := hD
  have hK : va_K (dC, dI) vwCl [(d, .int)] s := hK
  have hw : r = nI n := hw
  subst hw
  refine W.widen (k := 0) (n := 0) (by omega) (by omega) ?_
  refine lv_sipush (v := nI 4096) hx hb dX0_back_7 (by decide) ?_
  refine lv_icmp_lt (tgt := 15) hx hb dX0_back_10 (by decide) (fun c_10 => ?_) (fun c_10 => ?_)
  · refine lv_aload_n hx hb dX0_back_15 rfl (lv_at hl 0 rfl) ?_
    refine va_get (D := (dC, dI)) (ci := 0) (v := .ref q) (C := RX0) (T := TX0) (N := 1) hx hb hts in_X0 hown hK hP 0 rfl rfl 0 (by decide) (hts _ q360) (fun _ h9 => h9) rfl dX0_back_16 ?_
    refine lv_iload_n hx hb dX0_back_19 rfl (lv_at hl 1 rfl) ?_
    have hPc := hP.sub (ws' := [(q, .inr (1, [.ref ar, .int (nI L), .int (nI st), .int (nI en)])), (ar, .inl (d, L, .inl f))]) [1, 2] rfl
    have hDc := hD.sub (ws' := [(q, .inr (1, [.ref ar, .int (nI L), .int (nI st), .int (nI en)])), (ar, .inl (d, L, .inl f))]) [1, 2] (by decide) rfl
    have hKc := hK.sub (tys' := [(d, .int)]) [0] rfl
    have hFc := va_free (wc := [(q, .inr (1, [.ref ar, .int (nI L), .int (nI st), .int (nI en)])), (ar, .inl (d, L, .inl f))]) hD hS hA [1, 2] rfl
    refine va_callv (va_runV (As := [.int x]) (rest := []) ⟨hx, hb, hml, hown, hts⟩ (metX1_enqueue l dC dI H.size q ar d L st en n f xs x hq hn) (cwV 1 hts (lw_V q372 q373 q374 q6 q375) rfl rfl rfl (by decide +kernel) ⟨Nat.le_of_ble_eq_true rfl, Nat.le_of_ble_eq_true rfl⟩) ⟨fun a U g mk q => by obtain ⟨q0, q1, qP, qK, qD⟩ := q; exact ⟨q0, q1, qP, va_K.moved (u := U) (U := U.calling g mk a) (Vm.Alike.refl U.vm) qK, qD⟩, va_recv hKc hPc (ci := 1) (q0 := 0) rfl rfl, fun U hU hW => ⟨rfl, by rw [hU], by rw [hU]; exact hPc, va_K.moved hW.alike hKc, hDc.weaken (fun _ _ _ _ => trivial)⟩⟩ rfl rfl hl.1 rfl (lv_room (Nat.le_of_ble_eq_true rfl)) dX0_back_20 ⟨(show 0 + 1 ≤ 1 by omega), (show 0 + 300 ≤ 300 by omega)⟩) hS (fun q _ h => hFc q h) hFc (fun u t H1 locs ht hvm hw hB hz1 hk1 hS => ?_)
    obtain ⟨a2, d2, L2, s2, e2, f2⟩ := u
    obtain ⟨hP1, hK1, hD1⟩ := hB
    rw [ht] at hP1
    have hK1 := va_K.moved hvm.symm hK1
    obtain ⟨hP, hD⟩ := va_join (wr := [(h0, .inr (0, [.ref q]))]) (w1 := [(q, .inr (1, [.ref a2, .int (nI L2), .int (nI s2), .int (nI e2)])), (a2, .inl (d2, L2, .inl f2))]) hP hD [1, 2] [0] rfl rfl (by decide) (by decide) hk1 hFc hP1 hD1
    have hK := (hK.sub (tys' := []) [] rfl).app hK1
    clear hPc hDc hKc hFc hz1 hk1 hP1 hD1 hK1 ht hvm
    generalize H1 = H at hP hS ⊢
    have hP : va_P (dC, dI) vwCl [(h0, .inr (0, [.ref q])), (q, .inr (1, [.ref a2, .int (nI L2), .int (nI s2), .int (nI e2)])), (a2, .inl (d2, L2, .inl f2))] H := hP
    have hD : va_D A [(h0, .inr (0, [.ref q])), (q, .inr (1, [.ref a2, .int (nI L2), .int (nI s2), .int (nI e2)])), (a2, .inl (d2, L2, .inl f2))] := hD
    have hK : va_K (dC, dI) vwCl [(d2, .int)] s := hK
    refine W.widen (k := 1) (n := 300) (by omega) (by omega) ?_
    refine lv_iconst (v := nI 1) hx hb dX0_back_23 (by decide) ?_
    have hP9 := hP.sub (ws' := [(h0, .inr (0, [.ref q])), (q, .inr (1, [.ref a2, .int (nI L2), .int (nI s2), .int (nI e2)])), (a2, .inl (d2, L2, .inl f2))]) [0, 1, 2] rfl
    have hD9 := hD.sub (ws' := [(h0, .inr (0, [.ref q])), (q, .inr (1, [.ref a2, .int (nI L2), .int (nI s2), .int (nI e2)])), (a2, .inl (d2, L2, .inl f2))]) [0, 1, 2] (by decide) rfl
    have hK9 := hK.sub (tys' := [(d2, .int)]) [0] rfl
    exact W.zret (v := nI 1) hx hb hr rfl (fun t ht hW => ⟨⟨nI 1, (a2, d2, L2, s2, e2, f2), rfl, ⟨rfl, hw⟩, by rw [ht]; exact hP9, va_K.moved hW.alike hK9, hD9⟩, hS.F ht⟩) hS.2.2 dX0_back_24
  · exact absurd (nI_lt (by omega) (by omega)) c_10
set_option maxHeartbeats 4000000 in
set_option maxRecDepth 100000 in
/-- front(x) -/
theorem metX0_front (l : Launch) (dC : Nat → ClassId) (dI : Nat → Nat → Nat) (sz : Nat) (h0 q ar : Nat) (d : ClassId) (L st en n : Nat) (f xs : Nat → Int32) (x : Int32) (hq : cl_R f L st en n xs) (hn : n ≤ 100) : Met l yX0_front (ws_ yX0_front cX0_front 2 (some .boolean)) ({ frames := 4, cells := 1, slots := 300, locals := 110 } : Jvm.Room) (va_Pc [.ref h0, .int x] (fun U => U.heap.size = sz ∧ va_P (dC, dI) vwCl [(h0, .inr (0, [.ref q])), (q, .inr (1, [.ref ar, .int (nI L), .int (nI st), .int (nI en)])), (ar, .inl (d, L, .inl f))] U.heap ∧ va_K (dC, dI) vwCl [(d, .int)] U ∧ va_D (fun _ => True) [(h0, .inr (0, [.ref q])), (q, .inr (1, [.ref ar, .int (nI L), .int (nI st), .int (nI en)])), (ar, .inl (d, L, .inl f))])) (va_Qi (S := cl_Q) (fun (r : Int32) (u : cl_Q) => r = nI 1 ∧ cl_R u.2.2.2.2.2 u.2.2.1 u.2.2.2.1 u.2.2.2.2.1 (n + 1) (cl_cons x xs)) (cl_BL dC dI h0 q (va_A [(h0, .inr (0, [.ref q])), (q, .inr (1, [.ref ar, .int (nI L), .int (nI st), .int (nI en)])), (ar, .inl (d, L, .inl f))] sz)) (va_A [(h0, .inr (0, [.ref q])), (q, .inr (1, [.ref ar, .int (nI L), .int (nI st), .int (nI en)])), (ar, .inl (d, L, .inl f))] sz)) 1 300 (va_A [(h0, .inr (0, [.ref q])), (q, .inr (1, [.ref ar, .int (nI L), .int (nI st), .int (nI en)])), (ar, .inl (d, L, .inl f))] sz) := by
  refine Met.ofW (cc := cX0_front) (maxL := 2) (ret := (some .boolean)) (by decide) rfl ?_
  intro p e s m args below meth c s₁ B hml hv
  obtain ⟨rfl, hsz, hP, hK, hD0⟩ := hv
  have hx := B.exec
  have hb := B.bytes
  have hr := B.returns
  have hts := atoms_spec (ws := ws_ yX0_front cX0_front 2 (some .boolean)) B.pre
  have hts : ∀ w ∈ lw_all, w.before _ s = true := fun w h => hts w (List.mem_cons_of_mem _ h)
  have hown : s.vm.findClass RX0 = some m.cls := findClass_of_methodNamed B.named
  have hlocks := B.notSynchronized
  subst hsz
  have hD := hD0.self (sz := s.heap.size)
  generalize hAe : va_A [(h0, .inr (0, [.ref q])), (q, .inr (1, [.ref ar, .int (nI L), .int (nI st), .int (nI en)])), (ar, .inl (d, L, .inl f))] s.heap.size = A at hD ⊢
  have hA : ∀ q : Nat, s.heap.size ≤ q → A q := fun q h => by rw [← hAe]; exact Or.inr h
  have hS : va_S A s.heap s.heap [] := va_S.rf
  have hP : va_P (dC, dI) vwCl [(h0, .inr (0, [.ref q])), (q, .inr (1, [.ref ar, .int (nI L), .int (nI st), .int (nI en)])), (ar, .inl (d, L, .inl f))] s.heap := hP
  have hl := lv_entry ([.ref h0, .int x]) (n := 2) (Nat.le_of_ble_eq_true rfl)
  rw [lg_entry_eq]
  generalize (lg_sl ([.ref h0, .int x]) ++ List.replicate (2 - (lg_sl ([.ref h0, .int x])).length) Slot.unset).toArray = ls at hl ⊢
  have hl : lv_has ls 2 [(0, .ref h0), (1, .int x)] := hl
  refine lv_aload_n hx hb dX0_front_0 rfl (lv_at hl 0 rfl) ?_
  refine va_get (D := (dC, dI)) (ci := 0) (v := .ref q) (C := RX0) (T := TX0) (N := 1) hx hb hts in_X0 hown hK hP 0 rfl rfl 0 (by decide) (hts _ q360) (fun _ h9 => h9) rfl dX0_front_1 ?_
  have hPc := hP.sub (ws' := [(q, .inr (1, [.ref ar, .int (nI L), .int (nI st), .int (nI en)])), (ar, .inl (d, L, .inl f))]) [1, 2] rfl
  have hDc := hD.sub (ws' := [(q, .inr (1, [.ref ar, .int (nI L), .int (nI st), .int (nI en)])), (ar, .inl (d, L, .inl f))]) [1, 2] (by decide) rfl
  have hKc := hK.sub (tys' := [(d, .int)]) [0] rfl
  have hFc := va_free (wc := [(q, .inr (1, [.ref ar, .int (nI L), .int (nI st), .int (nI en)])), (ar, .inl (d, L, .inl f))]) hD hS hA [1, 2] rfl
  refine va_calli (va_runV (As := []) (rest := []) ⟨hx, hb, hml, hown, hts⟩ (metX1_size l dC dI s.heap.size q ar d L st en n f xs hq) (cwV 0 hts (lw_V q368 q369 q370 q6 q371) rfl rfl rfl (by decide +kernel) ⟨Nat.le_of_ble_eq_true rfl, Nat.le_of_ble_eq_true rfl⟩) ⟨fun a U g mk q => by obtain ⟨q0, q1, qP, qK, qD⟩ := q; exact ⟨q0, q1, qP, va_K.moved (u := U) (U := U.calling g mk a) (Vm.Alike.refl U.vm) qK, qD⟩, va_recv hKc hPc (ci := 1) (q0 := 0) rfl rfl, fun U hU hW => ⟨rfl, by rw [hU], by rw [hU]; exact hPc, va_K.moved hW.alike hKc, hDc.weaken (fun _ _ _ _ => trivial)⟩⟩ rfl rfl hl.1 rfl (lv_room (Nat.le_of_ble_eq_true rfl)) dX0_front_4 ⟨Nat.zero_le _, Nat.zero_le _⟩) hS (fun q _ h => hFc q h) hFc (fun r u t H1 locs ht hvm hw hB hz1 hk1 hS => ?_)
  obtain ⟨hP1, hK1, hD1⟩ := hB
  rw [ht] at hP1
  have hK1 := va_K.moved hvm.symm hK1
  obtain ⟨hP, hD⟩ := va_join (wr := [(h0, .inr (0, [.ref q]))]) (w1 := [(q, .inr (1, [.ref ar, .int (nI L), .int (nI st), .int (nI en)])), (ar, .inl (d, L, .inl f))]) hP hD [1, 2] [0] rfl rfl (by decide) (by decide) hk1 hFc hP1 hD1
  have hK := (hK.sub (tys' := []) [] rfl).app hK1
  clear hPc hDc hKc hFc hz1 hk1 hP1 hD1 hK1 ht hvm
  generalize H1 = H at hP hS ⊢
  have hP : va_P (dC, dI) vwCl [(h0, .inr (0, [.ref q])), (q, .inr (1, [.ref ar, .int (nI L), .int (nI st), .int (nI en)])), (ar, .inl (d, L, .inl f))] H := hP
  have hD : va_D A [(h0, .inr (0, [.ref q])), (q, .inr (1, [.ref ar, .int (nI L), .int (nI st), .int (nI en)])), (ar, .inl (d, L, .inl f))] := hD
  have hK : va_K (dC, dI) vwCl [(d, .int)] s := hK
  have hw : r = nI n := hw
  subst hw
  refine W.widen (k := 0) (n := 0) (by omega) (by omega) ?_
  refine lv_sipush (v := nI 4096) hx hb dX0_front_7 (by decide) ?_
  refine lv_icmp_lt (tgt := 15) hx hb dX0_front_10 (by decide) (fun c_10 => ?_) (fun c_10 => ?_)
  · refine lv_aload_n hx hb dX0_front_15 rfl (lv_at hl 0 rfl) ?_
    refine va_get (D := (dC, dI)) (ci := 0) (v := .ref q) (C := RX0) (T := TX0) (N := 1) hx hb hts in_X0 hown hK hP 0 rfl rfl 0 (by decide) (hts _ q360) (fun _ h9 => h9) rfl dX0_front_16 ?_
    refine lv_iload_n hx hb dX0_front_19 rfl (lv_at hl 1 rfl) ?_
    have hPc := hP.sub (ws' := [(q, .inr (1, [.ref ar, .int (nI L), .int (nI st), .int (nI en)])), (ar, .inl (d, L, .inl f))]) [1, 2] rfl
    have hDc := hD.sub (ws' := [(q, .inr (1, [.ref ar, .int (nI L), .int (nI st), .int (nI en)])), (ar, .inl (d, L, .inl f))]) [1, 2] (by decide) rfl
    have hKc := hK.sub (tys' := [(d, .int)]) [0] rfl
    have hFc := va_free (wc := [(q, .inr (1, [.ref ar, .int (nI L), .int (nI st), .int (nI en)])), (ar, .inl (d, L, .inl f))]) hD hS hA [1, 2] rfl
    refine va_callv (va_runV (As := [.int x]) (rest := []) ⟨hx, hb, hml, hown, hts⟩ (metX1_enqueueFirst l dC dI H.size q ar d L st en n f xs x hq hn) (cwV 1 hts (lw_V q394 q395 q396 q6 q397) rfl rfl rfl (by decide +kernel) ⟨Nat.le_of_ble_eq_true rfl, Nat.le_of_ble_eq_true rfl⟩) ⟨fun a U g mk q => by obtain ⟨q0, q1, qP, qK, qD⟩ := q; exact ⟨q0, q1, qP, va_K.moved (u := U) (U := U.calling g mk a) (Vm.Alike.refl U.vm) qK, qD⟩, va_recv hKc hPc (ci := 1) (q0 := 0) rfl rfl, fun U hU hW => ⟨rfl, by rw [hU], by rw [hU]; exact hPc, va_K.moved hW.alike hKc, hDc.weaken (fun _ _ _ _ => trivial)⟩⟩ rfl rfl hl.1 rfl (lv_room (Nat.le_of_ble_eq_true rfl)) dX0_front_20 ⟨(show 0 + 1 ≤ 1 by omega), (show 0 + 300 ≤ 300 by omega)⟩) hS (fun q _ h => hFc q h) hFc (fun u t H1 locs ht hvm hw hB hz1 hk1 hS => ?_)
    obtain ⟨a2, d2, L2, s2, e2, f2⟩ := u
    obtain ⟨hP1, hK1, hD1⟩ := hB
    rw [ht] at hP1
    have hK1 := va_K.moved hvm.symm hK1
    obtain ⟨hP, hD⟩ := va_join (wr := [(h0, .inr (0, [.ref q]))]) (w1 := [(q, .inr (1, [.ref a2, .int (nI L2), .int (nI s2), .int (nI e2)])), (a2, .inl (d2, L2, .inl f2))]) hP hD [1, 2] [0] rfl rfl (by decide) (by decide) hk1 hFc hP1 hD1
    have hK := (hK.sub (tys' := []) [] rfl).app hK1
    clear hPc hDc hKc hFc hz1 hk1 hP1 hD1 hK1 ht hvm
    generalize H1 = H at hP hS ⊢
    have hP : va_P (dC, dI) vwCl [(h0, .inr (0, [.ref q])), (q, .inr (1, [.ref a2, .int (nI L2), .int (nI s2), .int (nI e2)])), (a2, .inl (d2, L2, .inl f2))] H := hP
    have hD : va_D A [(h0, .inr (0, [.ref q])), (q, .inr (1, [.ref a2, .int (nI L2), .int (nI s2), .int (nI e2)])), (a2, .inl (d2, L2, .inl f2))] := hD
    have hK : va_K (dC, dI) vwCl [(d2, .int)] s := hK
    refine W.widen (k := 1) (n := 300) (by omega) (by omega) ?_
    refine lv_iconst (v := nI 1) hx hb dX0_front_23 (by decide) ?_
    have hP9 := hP.sub (ws' := [(h0, .inr (0, [.ref q])), (q, .inr (1, [.ref a2, .int (nI L2), .int (nI s2), .int (nI e2)])), (a2, .inl (d2, L2, .inl f2))]) [0, 1, 2] rfl
    have hD9 := hD.sub (ws' := [(h0, .inr (0, [.ref q])), (q, .inr (1, [.ref a2, .int (nI L2), .int (nI s2), .int (nI e2)])), (a2, .inl (d2, L2, .inl f2))]) [0, 1, 2] (by decide) rfl
    have hK9 := hK.sub (tys' := [(d2, .int)]) [0] rfl
    exact W.zret (v := nI 1) hx hb hr rfl (fun t ht hW => ⟨⟨nI 1, (a2, d2, L2, s2, e2, f2), rfl, ⟨rfl, hw⟩, by rw [ht]; exact hP9, va_K.moved hW.alike hK9, hD9⟩, hS.F ht⟩) hS.2.2 dX0_front_24
  · exact absurd (nI_lt (by omega) (by omega)) c_10
set_option maxHeartbeats 4000000 in
set_option maxRecDepth 100000 in
/-- takeFirst() -/
theorem metX0_takeFirst (l : Launch) (dC : Nat → ClassId) (dI : Nat → Nat → Nat) (sz : Nat) (h0 q ar : Nat) (d : ClassId) (L st en n : Nat) (f xs : Nat → Int32) (hq : cl_R f L st en n xs) : Met l yX0_takeFirst (ws_ yX0_takeFirst cX0_takeFirst 1 (some .int)) ({ frames := 4, cells := 1, slots := 300, locals := 110 } : Jvm.Room) (va_Pc [.ref h0] (fun U => U.heap.size = sz ∧ va_P (dC, dI) vwCl [(h0, .inr (0, [.ref q])), (q, .inr (1, [.ref ar, .int (nI L), .int (nI st), .int (nI en)])), (ar, .inl (d, L, .inl f))] U.heap ∧ va_K (dC, dI) vwCl [(d, .int)] U ∧ va_D (fun _ => True) [(h0, .inr (0, [.ref q])), (q, .inr (1, [.ref ar, .int (nI L), .int (nI st), .int (nI en)])), (ar, .inl (d, L, .inl f))] ∧ cl_W U)) (va_Qi (S := cl_Q) (fun (r : Int32) (u : cl_Q) => (n = 0 → r = nI 0 ∧ cl_R u.2.2.2.2.2 u.2.2.1 u.2.2.2.1 u.2.2.2.2.1 0 xs) ∧ (0 < n → r = xs 0 ∧ cl_R u.2.2.2.2.2 u.2.2.1 u.2.2.2.1 u.2.2.2.2.1 (n - 1) (fun i => xs (i + 1)))) (cl_BL dC dI h0 q (va_A [(h0, .inr (0, [.ref q])), (q, .inr (1, [.ref ar, .int (nI L), .int (nI st), .int (nI en)])), (ar, .inl (d, L, .inl f))] sz)) (va_A [(h0, .inr (0, [.ref q])), (q, .inr (1, [.ref ar, .int (nI L), .int (nI st), .int (nI en)])), (ar, .inl (d, L, .inl f))] sz)) 1 300 (va_A [(h0, .inr (0, [.ref q])), (q, .inr (1, [.ref ar, .int (nI L), .int (nI st), .int (nI en)])), (ar, .inl (d, L, .inl f))] sz) := by
  refine Met.ofW (cc := cX0_takeFirst) (maxL := 1) (ret := (some .int)) (by decide) rfl ?_
  intro p e s m args below meth c s₁ B hml hv
  obtain ⟨rfl, hsz, hP, hK, hD0, hE⟩ := hv
  have hx := B.exec
  have hb := B.bytes
  have hr := B.returns
  have hts := atoms_spec (ws := ws_ yX0_takeFirst cX0_takeFirst 1 (some .int)) B.pre
  have hts : ∀ w ∈ lw_all, w.before _ s = true := fun w h => hts w (List.mem_cons_of_mem _ h)
  have hown : s.vm.findClass RX0 = some m.cls := findClass_of_methodNamed B.named
  have hlocks := B.notSynchronized
  subst hsz
  have hD := hD0.self (sz := s.heap.size)
  generalize hAe : va_A [(h0, .inr (0, [.ref q])), (q, .inr (1, [.ref ar, .int (nI L), .int (nI st), .int (nI en)])), (ar, .inl (d, L, .inl f))] s.heap.size = A at hD ⊢
  have hA : ∀ q : Nat, s.heap.size ≤ q → A q := fun q h => by rw [← hAe]; exact Or.inr h
  have hS : va_S A s.heap s.heap [] := va_S.rf
  have hP : va_P (dC, dI) vwCl [(h0, .inr (0, [.ref q])), (q, .inr (1, [.ref ar, .int (nI L), .int (nI st), .int (nI en)])), (ar, .inl (d, L, .inl f))] s.heap := hP
  have hl := lv_entry ([.ref h0]) (n := 1) (Nat.le_of_ble_eq_true rfl)
  rw [lg_entry_eq]
  generalize (lg_sl ([.ref h0]) ++ List.replicate (1 - (lg_sl ([.ref h0])).length) Slot.unset).toArray = ls at hl ⊢
  have hl : lv_has ls 1 [(0, .ref h0)] := hl
  refine lv_aload_n hx hb dX0_takeFirst_0 rfl (lv_at hl 0 rfl) ?_
  refine va_get (D := (dC, dI)) (ci := 0) (v := .ref q) (C := RX0) (T := TX0) (N := 1) hx hb hts in_X0 hown hK hP 0 rfl rfl 0 (by decide) (hts _ q360) (fun _ h9 => h9) rfl dX0_takeFirst_1 ?_
  have hPc := hP.sub (ws' := [(q, .inr (1, [.ref ar, .int (nI L), .int (nI st), .int (nI en)])), (ar, .inl (d, L, .inl f))]) [1, 2] rfl
  have hDc := hD.sub (ws' := [(q, .inr (1, [.ref ar, .int (nI L), .int (nI st), .int (nI en)])), (ar, .inl (d, L, .inl f))]) [1, 2] (by decide) rfl
  have hKc := hK.sub (tys' := [(d, .int)]) [0] rfl
  have hFc := va_free (wc := [(q, .inr (1, [.ref ar, .int (nI L), .int (nI st), .int (nI en)])), (ar, .inl (d, L, .inl f))]) hD hS hA [1, 2] rfl
  refine va_calli (cl_runD (As := []) (rest := []) ⟨hx, hb, hml, hown, hts⟩ (metX3_isEmpty l dC dI s.heap.size q ar d L st en n f xs hq) ⟨rfl, rfl, Nat.le_of_ble_eq_true rfl, Nat.le_of_ble_eq_true rfl, pay_in hts (lw_meth q406), List.mem_cons_self⟩ hE (hts _ q404) (hts _ q548) ⟨fun a U g mk q => by obtain ⟨q0, q1, qP, qK, qD, qE⟩ := q; exact ⟨q0, q1, qP, va_K.moved (u := U) (U := U.calling g mk a) (Vm.Alike.refl U.vm) qK, qD, cl_E.calls qE⟩, va_recv hKc hPc (ci := 1) (q0 := 0) rfl rfl, fun U hU hW => ⟨rfl, by rw [hU], by rw [hU]; exact hPc, va_K.moved hW.alike hKc, hDc.weaken (fun _ _ _ _ => trivial), cl_E.warm hW hE.1⟩⟩ rfl rfl hl.1 rfl (lv_room (Nat.le_of_ble_eq_true rfl)) dX0_takeFirst_4 ⟨Nat.zero_le _, Nat.zero_le _⟩) hS (fun q _ h => hFc q h) hFc (fun r u t H1 locs ht hvm hw hB hz1 hk1 hS => ?_)
  obtain ⟨hP1, hK1, hD1⟩ := hB
  rw [ht] at hP1
  have hK1 := va_K.moved hvm.symm hK1
  obtain ⟨hP, hD⟩ := va_join (wr := [(h0, .inr (0, [.ref q]))]) (w1 := [(q, .inr (1, [.ref ar, .int (nI L), .int (nI st), .int (nI en)])), (ar, .inl (d, L, .inl f))]) hP hD [1, 2] [0] rfl rfl (by decide) (by decide) hk1 hFc hP1 hD1
  have hK := (hK.sub (tys' := []) [] rfl).app hK1
  clear hPc hDc hKc hFc hz1 hk1 hP1 hD1 hK1 ht hvm
  generalize H1 = H at hP hS ⊢
  have hP : va_P (dC, dI) vwCl [(h0, .inr (0, [.ref q])), (q, .inr (1, [.ref ar, .int (nI L), .int (nI st), .int (nI en)])), (ar, .inl (d, L, .inl f))] H := hP
  have hD : va_D A [(h0, .inr (0, [.ref q])), (q, .inr (1, [.ref ar, .int (nI L), .int (nI st), .int (nI en)])), (ar, .inl (d, L, .inl f))] := hD
  have hK : va_K (dC, dI) vwCl [(d, .int)] s := hK
  have hw : (n = 0 → r = nI 1) ∧ (0 < n → r = nI 0) := hw
  refine W.widen (k := 0) (n := 0) (by omega) (by omega) ?_
  refine lv_if_eq (tgt := 14) hx hb dX0_takeFirst_7 (by decide) (fun c_7 => ?_) (fun c_7 => ?_)
  · have hn : 0 < n := by
      rcases Nat.eq_zero_or_pos n with q | q
      · exact absurd (c_7.symm.trans (hw.1 q)) (by decide)
      · exact q
    refine lv_aload_n hx hb dX0_takeFirst_14 rfl (lv_at hl 0 rfl) ?_
    refine va_get (D := (dC, dI)) (ci := 0) (v := .ref q) (C := RX0) (T := TX0) (N := 1) hx hb hts in_X0 hown hK hP 0 rfl rfl 0 (by decide) (hts _ q360) (fun _ h9 => h9) rfl dX0_takeFirst_15 ?_
    have hPc := hP.sub (ws' := [(q, .inr (1, [.ref ar, .int (nI L), .int (nI st), .int (nI en)])), (ar, .inl (d, L, .inl f))]) [1, 2] rfl
    have hDc := hD.sub (ws' := [(q, .inr (1, [.ref ar, .int (nI L), .int (nI st), .int (nI en)])), (ar, .inl (d, L, .inl f))]) [1, 2] (by decide) rfl
    have hKc := hK.sub (tys' := [(d, .int)]) [0] rfl
    have hFc := va_free (wc := [(q, .inr (1, [.ref ar, .int (nI L), .int (nI st), .int (nI en)])), (ar, .inl (d, L, .inl f))]) hD hS hA [1, 2] rfl
    refine va_calli (va_runV (As := []) (rest := []) ⟨hx, hb, hml, hown, hts⟩ (metX1_dequeueInt l dC dI H.size q ar d L st en n f xs hq hn) (cwV 0 hts (lw_V q415 q416 q417 q6 q418) rfl rfl rfl (by decide +kernel) ⟨Nat.le_of_ble_eq_true rfl, Nat.le_of_ble_eq_true rfl⟩) ⟨fun a U g mk q => by obtain ⟨q0, q1, qP, qK, qD⟩ := q; exact ⟨q0, q1, qP, va_K.moved (u := U) (U := U.calling g mk a) (Vm.Alike.refl U.vm) qK, qD⟩, va_recv hKc hPc (ci := 1) (q0 := 0) rfl rfl, fun U hU hW => ⟨rfl, by rw [hU], by rw [hU]; exact hPc, va_K.moved hW.alike hKc, hDc.weaken (fun _ _ _ _ => trivial)⟩⟩ rfl rfl hl.1 rfl (lv_room (Nat.le_of_ble_eq_true rfl)) dX0_takeFirst_18 ⟨(show 0 + 1 ≤ 1 by omega), (show 0 + 300 ≤ 300 by omega)⟩) hS (fun q _ h => hFc q h) hFc (fun r2 u t H1 locs ht hvm hw2 hB hz1 hk1 hS => ?_)
    obtain ⟨a2, d2, L2, s2, e2, f2⟩ := u
    obtain ⟨hP1, hK1, hD1⟩ := hB
    rw [ht] at hP1
    have hK1 := va_K.moved hvm.symm hK1
    obtain ⟨hP, hD⟩ := va_join (wr := [(h0, .inr (0, [.ref q]))]) (w1 := [(q, .inr (1, [.ref a2, .int (nI L2), .int (nI s2), .int (nI e2)])), (a2, .inl (d2, L2, .inl f2))]) hP hD [1, 2] [0] rfl rfl (by decide) (by decide) hk1 hFc hP1 hD1
    have hK := (hK.sub (tys' := []) [] rfl).app hK1
    clear hPc hDc hKc hFc hz1 hk1 hP1 hD1 hK1 ht hvm
    generalize H1 = H at hP hS ⊢
    have hP : va_P (dC, dI) vwCl [(h0, .inr (0, [.ref q])), (q, .inr (1, [.ref a2, .int (nI L2), .int (nI s2), .int (nI e2)])), (a2, .inl (d2, L2, .inl f2))] H := hP
    have hD : va_D A [(h0, .inr (0, [.ref q])), (q, .inr (1, [.ref a2, .int (nI L2), .int (nI s2), .int (nI e2)])), (a2, .inl (d2, L2, .inl f2))] := hD
    have hK : va_K (dC, dI) vwCl [(d2, .int)] s := hK
    refine W.widen (k := 1) (n := 300) (by omega) (by omega) ?_
    have hP9 := hP.sub (ws' := [(h0, .inr (0, [.ref q])), (q, .inr (1, [.ref a2, .int (nI L2), .int (nI s2), .int (nI e2)])), (a2, .inl (d2, L2, .inl f2))]) [0, 1, 2] rfl
    have hD9 := hD.sub (ws' := [(h0, .inr (0, [.ref q])), (q, .inr (1, [.ref a2, .int (nI L2), .int (nI s2), .int (nI e2)])), (a2, .inl (d2, L2, .inl f2))]) [0, 1, 2] (by decide) rfl
    have hK9 := hK.sub (tys' := [(d2, .int)]) [0] rfl
    exact W.iret (v := r2) hx hb hr (fun t ht hW => ⟨⟨r2, (a2, d2, L2, s2, e2, f2), rfl, ⟨fun q => absurd q (by omega), fun _ => hw2⟩, by rw [ht]; exact hP9, va_K.moved hW.alike hK9, hD9⟩, hS.F ht⟩) hS.2.2 dX0_takeFirst_21
  · have hn : n = 0 := by
      rcases Nat.eq_zero_or_pos n with q | q
      · exact q
      · exact absurd (hw.2 q) c_7
    refine lv_iconst (v := nI 0) hx hb dX0_takeFirst_10 (by decide) ?_
    refine lv_goto (tgt := 21) hx hb dX0_takeFirst_11 (by decide) ?_
    have hP9 := hP.sub (ws' := [(h0, .inr (0, [.ref q])), (q, .inr (1, [.ref ar, .int (nI L), .int (nI st), .int (nI en)])), (ar, .inl (d, L, .inl f))]) [0, 1, 2] rfl
    have hD9 := hD.sub (ws' := [(h0, .inr (0, [.ref q])), (q, .inr (1, [.ref ar, .int (nI L), .int (nI st), .int (nI en)])), (ar, .inl (d, L, .inl f))]) [0, 1, 2] (by decide) rfl
    have hK9 := hK.sub (tys' := [(d, .int)]) [0] rfl
    refine W.widen (k := 1) (n := 300) (by omega) (by omega) ?_
    exact W.iret (v := nI 0) hx hb hr (fun t ht hW => ⟨⟨nI 0, (ar, d, L, st, en, f), rfl, ⟨fun _ => ⟨rfl, by have h := hq; rw [hn] at h; exact h⟩, fun q => absurd q (by omega)⟩, by rw [ht]; exact hP9, va_K.moved hW.alike hK9, hD9⟩, hS.F ht⟩) hS.2.2 dX0_takeFirst_21
set_option maxHeartbeats 4000000 in
set_option maxRecDepth 100000 in
/-- takeLast() -/
theorem metX0_takeLast (l : Launch) (dC : Nat → ClassId) (dI : Nat → Nat → Nat) (sz : Nat) (h0 q ar : Nat) (d : ClassId) (L st en n : Nat) (f xs : Nat → Int32) (hq : cl_R f L st en n xs) : Met l yX0_takeLast (ws_ yX0_takeLast cX0_takeLast 1 (some .int)) ({ frames := 4, cells := 1, slots := 300, locals := 110 } : Jvm.Room) (va_Pc [.ref h0] (fun U => U.heap.size = sz ∧ va_P (dC, dI) vwCl [(h0, .inr (0, [.ref q])), (q, .inr (1, [.ref ar, .int (nI L), .int (nI st), .int (nI en)])), (ar, .inl (d, L, .inl f))] U.heap ∧ va_K (dC, dI) vwCl [(d, .int)] U ∧ va_D (fun _ => True) [(h0, .inr (0, [.ref q])), (q, .inr (1, [.ref ar, .int (nI L), .int (nI st), .int (nI en)])), (ar, .inl (d, L, .inl f))] ∧ cl_W U)) (va_Qi (S := cl_Q) (fun (r : Int32) (u : cl_Q) => (n = 0 → r = nI 0 ∧ cl_R u.2.2.2.2.2 u.2.2.1 u.2.2.2.1 u.2.2.2.2.1 0 xs) ∧ (0 < n → r = xs (n - 1) ∧ cl_R u.2.2.2.2.2 u.2.2.1 u.2.2.2.1 u.2.2.2.2.1 (n - 1) (xs))) (cl_BL dC dI h0 q (va_A [(h0, .inr (0, [.ref q])), (q, .inr (1, [.ref ar, .int (nI L), .int (nI st), .int (nI en)])), (ar, .inl (d, L, .inl f))] sz)) (va_A [(h0, .inr (0, [.ref q])), (q, .inr (1, [.ref ar, .int (nI L), .int (nI st), .int (nI en)])), (ar, .inl (d, L, .inl f))] sz)) 1 300 (va_A [(h0, .inr (0, [.ref q])), (q, .inr (1, [.ref ar, .int (nI L), .int (nI st), .int (nI en)])), (ar, .inl (d, L, .inl f))] sz) := by
  refine Met.ofW (cc := cX0_takeLast) (maxL := 1) (ret := (some .int)) (by decide) rfl ?_
  intro p e s m args below meth c s₁ B hml hv
  obtain ⟨rfl, hsz, hP, hK, hD0, hE⟩ := hv
  have hx := B.exec
  have hb := B.bytes
  have hr := B.returns
  have hts := atoms_spec (ws := ws_ yX0_takeLast cX0_takeLast 1 (some .int)) B.pre
  have hts : ∀ w ∈ lw_all, w.before _ s = true := fun w h => hts w (List.mem_cons_of_mem _ h)
  have hown : s.vm.findClass RX0 = some m.cls := findClass_of_methodNamed B.named
  have hlocks := B.notSynchronized
  subst hsz
  have hD := hD0.self (sz := s.heap.size)
  generalize hAe : va_A [(h0, .inr (0, [.ref q])), (q, .inr (1, [.ref ar, .int (nI L), .int (nI st), .int (nI en)])), (ar, .inl (d, L, .inl f))] s.heap.size = A at hD ⊢
  have hA : ∀ q : Nat, s.heap.size ≤ q → A q := fun q h => by rw [← hAe]; exact Or.inr h
  have hS : va_S A s.heap s.heap [] := va_S.rf
  have hP : va_P (dC, dI) vwCl [(h0, .inr (0, [.ref q])), (q, .inr (1, [.ref ar, .int (nI L), .int (nI st), .int (nI en)])), (ar, .inl (d, L, .inl f))] s.heap := hP
  have hl := lv_entry ([.ref h0]) (n := 1) (Nat.le_of_ble_eq_true rfl)
  rw [lg_entry_eq]
  generalize (lg_sl ([.ref h0]) ++ List.replicate (1 - (lg_sl ([.ref h0])).length) Slot.unset).toArray = ls at hl ⊢
  have hl : lv_has ls 1 [(0, .ref h0)] := hl
  refine lv_aload_n hx hb dX0_takeLast_0 rfl (lv_at hl 0 rfl) ?_
  refine va_get (D := (dC, dI)) (ci := 0) (v := .ref q) (C := RX0) (T := TX0) (N := 1) hx hb hts in_X0 hown hK hP 0 rfl rfl 0 (by decide) (hts _ q360) (fun _ h9 => h9) rfl dX0_takeLast_1 ?_
  have hPc := hP.sub (ws' := [(q, .inr (1, [.ref ar, .int (nI L), .int (nI st), .int (nI en)])), (ar, .inl (d, L, .inl f))]) [1, 2] rfl
  have hDc := hD.sub (ws' := [(q, .inr (1, [.ref ar, .int (nI L), .int (nI st), .int (nI en)])), (ar, .inl (d, L, .inl f))]) [1, 2] (by decide) rfl
  have hKc := hK.sub (tys' := [(d, .int)]) [0] rfl
  have hFc := va_free (wc := [(q, .inr (1, [.ref ar, .int (nI L), .int (nI st), .int (nI en)])), (ar, .inl (d, L, .inl f))]) hD hS hA [1, 2] rfl
  refine va_calli (cl_runD (As := []) (rest := []) ⟨hx, hb, hml, hown, hts⟩ (metX3_isEmpty l dC dI s.heap.size q ar d L st en n f xs hq) ⟨rfl, rfl, Nat.le_of_ble_eq_true rfl, Nat.le_of_ble_eq_true rfl, pay_in hts (lw_meth q406), List.mem_cons_self⟩ hE (hts _ q404) (hts _ q548) ⟨fun a U g mk q => by obtain ⟨q0, q1, qP, qK, qD, qE⟩ := q; exact ⟨q0, q1, qP, va_K.moved (u := U) (U := U.calling g mk a) (Vm.Alike.refl U.vm) qK, qD, cl_E.calls qE⟩, va_recv hKc hPc (ci := 1) (q0 := 0) rfl rfl, fun U hU hW => ⟨rfl, by rw [hU], by rw [hU]; exact hPc, va_K.moved hW.alike hKc, hDc.weaken (fun _ _ _ _ => trivial), cl_E.warm hW hE.1⟩⟩ rfl rfl hl.1 rfl (lv_room (Nat.le_of_ble_eq_true rfl)) dX0_takeLast_4 ⟨Nat.zero_le _, Nat.zero_le _⟩) hS (fun q _ h => hFc q h) hFc (fun r u t H1 locs ht hvm hw hB hz1 hk1 hS => ?_)
  obtain ⟨hP1, hK1, hD1⟩ := hB
  rw [ht] at hP1
  have hK1 := va_K.moved hvm.symm hK1
  obtain ⟨hP, hD⟩ := va_join (wr := [(h0, .inr (0, [.ref q]))]) (w1 := [(q, .inr (1, [.ref ar, .int (nI L), .int (nI st), .int (nI en)])), (ar, .inl (d, L, .inl f))]) hP hD [1, 2] [0] rfl rfl (by decide) (by decide) hk1 hFc hP1 hD1
  have hK := (hK.sub (tys' := []) [] rfl).app hK1
  clear hPc hDc hKc hFc hz1 hk1 hP1 hD1 hK1 ht hvm
  generalize H1 = H at hP hS ⊢
  have hP : va_P (dC, dI) vwCl [(h0, .inr (0, [.ref q])), (q, .inr (1, [.ref ar, .int (nI L), .int (nI st), .int (nI en)])), (ar, .inl (d, L, .inl f))] H := hP
  have hD : va_D A [(h0, .inr (0, [.ref q])), (q, .inr (1, [.ref ar, .int (nI L), .int (nI st), .int (nI en)])), (ar, .inl (d, L, .inl f))] := hD
  have hK : va_K (dC, dI) vwCl [(d, .int)] s := hK
  have hw : (n = 0 → r = nI 1) ∧ (0 < n → r = nI 0) := hw
  refine W.widen (k := 0) (n := 0) (by omega) (by omega) ?_
  refine lv_if_eq (tgt := 14) hx hb dX0_takeLast_7 (by decide) (fun c_7 => ?_) (fun c_7 => ?_)
  · have hn : 0 < n := by
      rcases Nat.eq_zero_or_pos n with q | q
      · exact absurd (c_7.symm.trans (hw.1 q)) (by decide)
      · exact q
    refine lv_aload_n hx hb dX0_takeLast_14 rfl (lv_at hl 0 rfl) ?_
    refine va_get (D := (dC, dI)) (ci := 0) (v := .ref q) (C := RX0) (T := TX0) (N := 1) hx hb hts in_X0 hown hK hP 0 rfl rfl 0 (by decide) (hts _ q360) (fun _ h9 => h9) rfl dX0_takeLast_15 ?_
    have hPc := hP.sub (ws' := [(q, .inr (1, [.ref ar, .int (nI L), .int (nI st), .int (nI en)])), (ar, .inl (d, L, .inl f))]) [1, 2] rfl
    have hDc := hD.sub (ws' := [(q, .inr (1, [.ref ar, .int (nI L), .int (nI st), .int (nI en)])), (ar, .inl (d, L, .inl f))]) [1, 2] (by decide) rfl
    have hKc := hK.sub (tys' := [(d, .int)]) [0] rfl
    have hFc := va_free (wc := [(q, .inr (1, [.ref ar, .int (nI L), .int (nI st), .int (nI en)])), (ar, .inl (d, L, .inl f))]) hD hS hA [1, 2] rfl
    refine va_calli (va_runV (As := []) (rest := []) ⟨hx, hb, hml, hown, hts⟩ (metX1_dequeueLastInt l dC dI H.size q ar d L st en n f xs hq hn) (cwV 0 hts (lw_V q449 q450 q451 q6 q452) rfl rfl rfl (by decide +kernel) ⟨Nat.le_of_ble_eq_true rfl, Nat.le_of_ble_eq_true rfl⟩) ⟨fun a U g mk q => by obtain ⟨q0, q1, qP, qK, qD⟩ := q; exact ⟨q0, q1, qP, va_K.moved (u := U) (U := U.calling g mk a) (Vm.Alike.refl U.vm) qK, qD⟩, va_recv hKc hPc (ci := 1) (q0 := 0) rfl rfl, fun U hU hW => ⟨rfl, by rw [hU], by rw [hU]; exact hPc, va_K.moved hW.alike hKc, hDc.weaken (fun _ _ _ _ => trivial)⟩⟩ rfl rfl hl.1 rfl (lv_room (Nat.le_of_ble_eq_true rfl)) dX0_takeLast_18 ⟨(show 0 + 1 ≤ 1 by omega), (show 0 + 300 ≤ 300 by omega)⟩) hS (fun q _ h => hFc q h) hFc (fun r2 u t H1 locs ht hvm hw2 hB hz1 hk1 hS => ?_)
    obtain ⟨a2, d2, L2, s2, e2, f2⟩ := u
    obtain ⟨hP1, hK1, hD1⟩ := hB
    rw [ht] at hP1
    have hK1 := va_K.moved hvm.symm hK1
    obtain ⟨hP, hD⟩ := va_join (wr := [(h0, .inr (0, [.ref q]))]) (w1 := [(q, .inr (1, [.ref a2, .int (nI L2), .int (nI s2), .int (nI e2)])), (a2, .inl (d2, L2, .inl f2))]) hP hD [1, 2] [0] rfl rfl (by decide) (by decide) hk1 hFc hP1 hD1
    have hK := (hK.sub (tys' := []) [] rfl).app hK1
    clear hPc hDc hKc hFc hz1 hk1 hP1 hD1 hK1 ht hvm
    generalize H1 = H at hP hS ⊢
    have hP : va_P (dC, dI) vwCl [(h0, .inr (0, [.ref q])), (q, .inr (1, [.ref a2, .int (nI L2), .int (nI s2), .int (nI e2)])), (a2, .inl (d2, L2, .inl f2))] H := hP
    have hD : va_D A [(h0, .inr (0, [.ref q])), (q, .inr (1, [.ref a2, .int (nI L2), .int (nI s2), .int (nI e2)])), (a2, .inl (d2, L2, .inl f2))] := hD
    have hK : va_K (dC, dI) vwCl [(d2, .int)] s := hK
    refine W.widen (k := 1) (n := 300) (by omega) (by omega) ?_
    have hP9 := hP.sub (ws' := [(h0, .inr (0, [.ref q])), (q, .inr (1, [.ref a2, .int (nI L2), .int (nI s2), .int (nI e2)])), (a2, .inl (d2, L2, .inl f2))]) [0, 1, 2] rfl
    have hD9 := hD.sub (ws' := [(h0, .inr (0, [.ref q])), (q, .inr (1, [.ref a2, .int (nI L2), .int (nI s2), .int (nI e2)])), (a2, .inl (d2, L2, .inl f2))]) [0, 1, 2] (by decide) rfl
    have hK9 := hK.sub (tys' := [(d2, .int)]) [0] rfl
    exact W.iret (v := r2) hx hb hr (fun t ht hW => ⟨⟨r2, (a2, d2, L2, s2, e2, f2), rfl, ⟨fun q => absurd q (by omega), fun _ => hw2⟩, by rw [ht]; exact hP9, va_K.moved hW.alike hK9, hD9⟩, hS.F ht⟩) hS.2.2 dX0_takeLast_21
  · have hn : n = 0 := by
      rcases Nat.eq_zero_or_pos n with q | q
      · exact q
      · exact absurd (hw.2 q) c_7
    refine lv_iconst (v := nI 0) hx hb dX0_takeLast_10 (by decide) ?_
    refine lv_goto (tgt := 21) hx hb dX0_takeLast_11 (by decide) ?_
    have hP9 := hP.sub (ws' := [(h0, .inr (0, [.ref q])), (q, .inr (1, [.ref ar, .int (nI L), .int (nI st), .int (nI en)])), (ar, .inl (d, L, .inl f))]) [0, 1, 2] rfl
    have hD9 := hD.sub (ws' := [(h0, .inr (0, [.ref q])), (q, .inr (1, [.ref ar, .int (nI L), .int (nI st), .int (nI en)])), (ar, .inl (d, L, .inl f))]) [0, 1, 2] (by decide) rfl
    have hK9 := hK.sub (tys' := [(d, .int)]) [0] rfl
    refine W.widen (k := 1) (n := 300) (by omega) (by omega) ?_
    exact W.iret (v := nI 0) hx hb hr (fun t ht hW => ⟨⟨nI 0, (ar, d, L, st, en, f), rfl, ⟨fun _ => ⟨rfl, by have h := hq; rw [hn] at h; exact h⟩, fun q => absurd q (by omega)⟩, by rw [ht]; exact hP9, va_K.moved hW.alike hK9, hD9⟩, hS.F ht⟩) hS.2.2 dX0_takeLast_21
set_option maxHeartbeats 4000000 in
set_option maxRecDepth 100000 in
/-- first() -/
theorem metX0_first (l : Launch) (dC : Nat → ClassId) (dI : Nat → Nat → Nat) (sz : Nat) (h0 q ar : Nat) (d : ClassId) (L st en n : Nat) (f xs : Nat → Int32) (hq : cl_R f L st en n xs) : Met l yX0_first (ws_ yX0_first cX0_first 1 (some .int)) ({ frames := 4, cells := 0, slots := 0, locals := 110 } : Jvm.Room) (va_Pc [.ref h0] (fun U => U.heap.size = sz ∧ va_P (dC, dI) vwCl [(h0, .inr (0, [.ref q])), (q, .inr (1, [.ref ar, .int (nI L), .int (nI st), .int (nI en)])), (ar, .inl (d, L, .inl f))] U.heap ∧ va_K (dC, dI) vwCl [(d, .int)] U ∧ va_D (fun _ => True) [(h0, .inr (0, [.ref q])), (q, .inr (1, [.ref ar, .int (nI L), .int (nI st), .int (nI en)])), (ar, .inl (d, L, .inl f))] ∧ cl_W U)) (va_Qi (S := Unit) (fun (r : Int32) (_ : Unit) => (n = 0 → r = nI 0) ∧ (0 < n → r = xs 0)) (cl_BW dC dI [(d, .int)] [(h0, .inr (0, [.ref q])), (q, .inr (1, [.ref ar, .int (nI L), .int (nI st), .int (nI en)])), (ar, .inl (d, L, .inl f))] (va_A [(h0, .inr (0, [.ref q])), (q, .inr (1, [.ref ar, .int (nI L), .int (nI st), .int (nI en)])), (ar, .inl (d, L, .inl f))] sz)) (va_A [(h0, .inr (0, [.ref q])), (q, .inr (1, [.ref ar, .int (nI L), .int (nI st), .int (nI en)])), (ar, .inl (d, L, .inl f))] sz)) 0 0 (va_A [(h0, .inr (0, [.ref q])), (q, .inr (1, [.ref ar, .int (nI L), .int (nI st), .int (nI en)])), (ar, .inl (d, L, .inl f))] sz) := by
  refine Met.ofW (cc := cX0_first) (maxL := 1) (ret := (some .int)) (by decide) rfl ?_
  intro p e s m args below meth c s₁ B hml hv
  obtain ⟨rfl, hsz, hP, hK, hD0, hE⟩ := hv
  have hx := B.exec
  have hb := B.bytes
  have hr := B.returns
  have hts := atoms_spec (ws := ws_ yX0_first cX0_first 1 (some .int)) B.pre
  have hts : ∀ w ∈ lw_all, w.before _ s = true := fun w h => hts w (List.mem_cons_of_mem _ h)
  have hown : s.vm.findClass RX0 = some m.cls := findClass_of_methodNamed B.named
  have hlocks := B.notSynchronized
  subst hsz
  have hD := hD0.self (sz := s.heap.size)
  generalize hAe : va_A [(h0, .inr (0, [.ref q])), (q, .inr (1, [.ref ar, .int (nI L), .int (nI st), .int (nI en)])), (ar, .inl (d, L, .inl f))] s.heap.size = A at hD ⊢
  have hA : ∀ q : Nat, s.heap.size ≤ q → A q := fun q h => by rw [← hAe]; exact Or.inr h
  have hS : va_S A s.heap s.heap [] := va_S.rf
  have hP : va_P (dC, dI) vwCl [(h0, .inr (0, [.ref q])), (q, .inr (1, [.ref ar, .int (nI L), .int (nI st), .int (nI en)])), (ar, .inl (d, L, .inl f))] s.heap := hP
  have hl := lv_entry ([.ref h0]) (n := 1) (Nat.le_of_ble_eq_true rfl)
  rw [lg_entry_eq]
  generalize (lg_sl ([.ref h0]) ++ List.replicate (1 - (lg_sl ([.ref h0])).length) Slot.unset).toArray = ls at hl ⊢
  have hl : lv_has ls 1 [(0, .ref h0)] := hl
  refine lv_aload_n hx hb dX0_first_0 rfl (lv_at hl 0 rfl) ?_
  refine va_get (D := (dC, dI)) (ci := 0) (v := .ref q) (C := RX0) (T := TX0) (N := 1) hx hb hts in_X0 hown hK hP 0 rfl rfl 0 (by decide) (hts _ q360) (fun _ h9 => h9) rfl dX0_first_1 ?_
  have hPc := hP.sub (ws' := [(q, .inr (1, [.ref ar, .int (nI L), .int (nI st), .int (nI en)])), (ar, .inl (d, L, .inl f))]) [1, 2] rfl
  have hDc := hD.sub (ws' := [(q, .inr (1, [.ref ar, .int (nI L), .int (nI st), .int (nI en)])), (ar, .inl (d, L, .inl f))]) [1, 2] (by decide) rfl
  have hKc := hK.sub (tys' := [(d, .int)]) [0] rfl
  have hFc := va_free (wc := [(q, .inr (1, [.ref ar, .int (nI L), .int (nI st), .int (nI en)])), (ar, .inl (d, L, .inl f))]) hD hS hA [1, 2] rfl
  refine va_calli (cl_runD (As := []) (rest := []) ⟨hx, hb, hml, hown, hts⟩ (metX3_isEmpty l dC dI s.heap.size q ar d L st en n f xs hq) ⟨rfl, rfl, Nat.le_of_ble_eq_true rfl, Nat.le_of_ble_eq_true rfl, pay_in hts (lw_meth q406), List.mem_cons_self⟩ hE (hts _ q404) (hts _ q548) ⟨fun a U g mk q => by obtain ⟨q0, q1, qP, qK, qD, qE⟩ := q; exact ⟨q0, q1, qP, va_K.moved (u := U) (U := U.calling g mk a) (Vm.Alike.refl U.vm) qK, qD, cl_E.calls qE⟩, va_recv hKc hPc (ci := 1) (q0 := 0) rfl rfl, fun U hU hW => ⟨rfl, by rw [hU], by rw [hU]; exact hPc, va_K.moved hW.alike hKc, hDc.weaken (fun _ _ _ _ => trivial), cl_E.warm hW hE.1⟩⟩ rfl rfl hl.1 rfl (lv_room (Nat.le_of_ble_eq_true rfl)) dX0_first_4 ⟨Nat.zero_le _, Nat.zero_le _⟩) hS (fun q _ h => hFc q h) hFc (fun r u t H1 locs ht hvm hw hB hz1 hk1 hS => ?_)
  obtain ⟨hP1, hK1, hD1⟩ := hB
  rw [ht] at hP1
  have hK1 := va_K.moved hvm.symm hK1
  obtain ⟨hP, hD⟩ := va_join (wr := [(h0, .inr (0, [.ref q]))]) (w1 := [(q, .inr (1, [.ref ar, .int (nI L), .int (nI st), .int (nI en)])), (ar, .inl (d, L, .inl f))]) hP hD [1, 2] [0] rfl rfl (by decide) (by decide) hk1 hFc hP1 hD1
  have hK := (hK.sub (tys' := []) [] rfl).app hK1
  clear hPc hDc hKc hFc hz1 hk1 hP1 hD1 hK1 ht hvm
  generalize H1 = H at hP hS ⊢
  have hP : va_P (dC, dI) vwCl [(h0, .inr (0, [.ref q])), (q, .inr (1, [.ref ar, .int (nI L), .int (nI st), .int (nI en)])), (ar, .inl (d, L, .inl f))] H := hP
  have hD : va_D A [(h0, .inr (0, [.ref q])), (q, .inr (1, [.ref ar, .int (nI L), .int (nI st), .int (nI en)])), (ar, .inl (d, L, .inl f))] := hD
  have hK : va_K (dC, dI) vwCl [(d, .int)] s := hK
  have hw : (n = 0 → r = nI 1) ∧ (0 < n → r = nI 0) := hw
  refine W.widen (k := 0) (n := 0) (by omega) (by omega) ?_
  refine lv_if_eq (tgt := 14) hx hb dX0_first_7 (by decide) (fun c_7 => ?_) (fun c_7 => ?_)
  · have hn : 0 < n := by
      rcases Nat.eq_zero_or_pos n with q | q
      · exact absurd (c_7.symm.trans (hw.1 q)) (by decide)
      · exact q
    refine lv_aload_n hx hb dX0_first_14 rfl (lv_at hl 0 rfl) ?_
    refine va_get (D := (dC, dI)) (ci := 0) (v := .ref q) (C := RX0) (T := TX0) (N := 1) hx hb hts in_X0 hown hK hP 0 rfl rfl 0 (by decide) (hts _ q360) (fun _ h9 => h9) rfl dX0_first_15 ?_
    have hPc := hP.sub (ws' := [(q, .inr (1, [.ref ar, .int (nI L), .int (nI st), .int (nI en)])), (ar, .inl (d, L, .inl f))]) [1, 2] rfl
    have hDc := hD.sub (ws' := [(q, .inr (1, [.ref ar, .int (nI L), .int (nI st), .int (nI en)])), (ar, .inl (d, L, .inl f))]) [1, 2] (by decide) rfl
    have hKc := hK.sub (tys' := [(d, .int)]) [0] rfl
    have hFc := va_free (wc := [(q, .inr (1, [.ref ar, .int (nI L), .int (nI st), .int (nI en)])), (ar, .inl (d, L, .inl f))]) hD hS hA [1, 2] rfl
    refine va_calli (va_runV (As := []) (rest := []) ⟨hx, hb, hml, hown, hts⟩ (metX1_firstInt l dC dI H.size q ar d L st en n f xs hq hn) (cwV 0 hts (lw_V q457 q458 q459 q6 q460) rfl rfl rfl (by decide +kernel) ⟨Nat.le_of_ble_eq_true rfl, Nat.le_of_ble_eq_true rfl⟩) ⟨fun a U g mk q => by obtain ⟨q0, q1, qP, qK, qD⟩ := q; exact ⟨q0, q1, qP, va_K.moved (u := U) (U := U.calling g mk a) (Vm.Alike.refl U.vm) qK, qD⟩, va_recv hKc hPc (ci := 1) (q0 := 0) rfl rfl, fun U hU hW => ⟨rfl, by rw [hU], by rw [hU]; exact hPc, va_K.moved hW.alike hKc, hDc.weaken (fun _ _ _ _ => trivial)⟩⟩ rfl rfl hl.1 rfl (lv_room (Nat.le_of_ble_eq_true rfl)) dX0_first_18 ⟨Nat.zero_le _, Nat.zero_le _⟩) hS (fun q _ h => hFc q h) hFc (fun r2 u t H1 locs ht hvm hw2 hB hz1 hk1 hS => ?_)
    obtain ⟨hP1, hK1, hD1⟩ := hB
    rw [ht] at hP1
    have hK1 := va_K.moved hvm.symm hK1
    obtain ⟨hP, hD⟩ := va_join (wr := [(h0, .inr (0, [.ref q]))]) (w1 := [(q, .inr (1, [.ref ar, .int (nI L), .int (nI st), .int (nI en)])), (ar, .inl (d, L, .inl f))]) hP hD [1, 2] [0] rfl rfl (by decide) (by decide) hk1 hFc hP1 hD1
    have hK := (hK.sub (tys' := []) [] rfl).app hK1
    clear hPc hDc hKc hFc hz1 hk1 hP1 hD1 hK1 ht hvm
    generalize H1 = H at hP hS ⊢
    have hP : va_P (dC, dI) vwCl [(h0, .inr (0, [.ref q])), (q, .inr (1, [.ref ar, .int (nI L), .int (nI st), .int (nI en)])), (ar, .inl (d, L, .inl f))] H := hP
    have hD : va_D A [(h0, .inr (0, [.ref q])), (q, .inr (1, [.ref ar, .int (nI L), .int (nI st), .int (nI en)])), (ar, .inl (d, L, .inl f))] := hD
    have hK : va_K (dC, dI) vwCl [(d, .int)] s := hK
    refine W.widen (k := 0) (n := 0) (by omega) (by omega) ?_
    have hP9 := hP.sub (ws' := [(h0, .inr (0, [.ref q])), (q, .inr (1, [.ref ar, .int (nI L), .int (nI st), .int (nI en)])), (ar, .inl (d, L, .inl f))]) [0, 1, 2] rfl
    have hD9 := hD.sub (ws' := [(h0, .inr (0, [.ref q])), (q, .inr (1, [.ref ar, .int (nI L), .int (nI st), .int (nI en)])), (ar, .inl (d, L, .inl f))]) [0, 1, 2] (by decide) rfl
    have hK9 := hK.sub (tys' := [(d, .int)]) [0] rfl
    exact W.iret (v := r2) hx hb hr (fun t ht hW => ⟨⟨r2, (()), rfl, ⟨fun q => absurd q (by omega), fun _ => hw2⟩, by rw [ht]; exact hP9, va_K.moved hW.alike hK9, hD9⟩, hS.F ht⟩) hS.2.2 dX0_first_21
  · have hn : n = 0 := by
      rcases Nat.eq_zero_or_pos n with q | q
      · exact q
      · exact absurd (hw.2 q) c_7
    refine lv_iconst (v := nI 0) hx hb dX0_first_10 (by decide) ?_
    refine lv_goto (tgt := 21) hx hb dX0_first_11 (by decide) ?_
    have hP9 := hP.sub (ws' := [(h0, .inr (0, [.ref q])), (q, .inr (1, [.ref ar, .int (nI L), .int (nI st), .int (nI en)])), (ar, .inl (d, L, .inl f))]) [0, 1, 2] rfl
    have hD9 := hD.sub (ws' := [(h0, .inr (0, [.ref q])), (q, .inr (1, [.ref ar, .int (nI L), .int (nI st), .int (nI en)])), (ar, .inl (d, L, .inl f))]) [0, 1, 2] (by decide) rfl
    have hK9 := hK.sub (tys' := [(d, .int)]) [0] rfl
    exact W.iret (v := nI 0) hx hb hr (fun t ht hW => ⟨⟨nI 0, (()), rfl, ⟨fun _ => rfl, fun q => absurd q (by omega)⟩, by rw [ht]; exact hP9, va_K.moved hW.alike hK9, hD9⟩, hS.F ht⟩) hS.2.2 dX0_first_21
set_option maxHeartbeats 4000000 in
set_option maxRecDepth 100000 in
/-- last() -/
theorem metX0_last (l : Launch) (dC : Nat → ClassId) (dI : Nat → Nat → Nat) (sz : Nat) (h0 q ar : Nat) (d : ClassId) (L st en n : Nat) (f xs : Nat → Int32) (hq : cl_R f L st en n xs) : Met l yX0_last (ws_ yX0_last cX0_last 1 (some .int)) ({ frames := 4, cells := 0, slots := 0, locals := 110 } : Jvm.Room) (va_Pc [.ref h0] (fun U => U.heap.size = sz ∧ va_P (dC, dI) vwCl [(h0, .inr (0, [.ref q])), (q, .inr (1, [.ref ar, .int (nI L), .int (nI st), .int (nI en)])), (ar, .inl (d, L, .inl f))] U.heap ∧ va_K (dC, dI) vwCl [(d, .int)] U ∧ va_D (fun _ => True) [(h0, .inr (0, [.ref q])), (q, .inr (1, [.ref ar, .int (nI L), .int (nI st), .int (nI en)])), (ar, .inl (d, L, .inl f))] ∧ cl_W U)) (va_Qi (S := Unit) (fun (r : Int32) (_ : Unit) => (n = 0 → r = nI 0) ∧ (0 < n → r = xs (n - 1))) (cl_BW dC dI [(d, .int)] [(h0, .inr (0, [.ref q])), (q, .inr (1, [.ref ar, .int (nI L), .int (nI st), .int (nI en)])), (ar, .inl (d, L, .inl f))] (va_A [(h0, .inr (0, [.ref q])), (q, .inr (1, [.ref ar, .int (nI L), .int (nI st), .int (nI en)])), (ar, .inl (d, L, .inl f))] sz)) (va_A [(h0, .inr (0, [.ref q])), (q, .inr (1, [.ref ar, .int (nI L), .int (nI st), .int (nI en)])), (ar, .inl (d, L, .inl f))] sz)) 0 0 (va_A [(h0, .inr (0, [.ref q])), (q, .inr (1, [.ref ar, .int (nI L), .int (nI st), .int (nI en)])), (ar, .inl (d, L, .inl f))] sz) := by
  refine Met.ofW (cc := cX0_last) (maxL := 1) (ret := (some .int)) (by decide) rfl ?_
  intro p e s m args below meth c s₁ B hml hv
  obtain ⟨rfl, hsz, hP, hK, hD0, hE⟩ := hv
  have hx := B.exec
  have hb := B.bytes
  have hr := B.returns
  have hts := atoms_spec (ws := ws_ yX0_last cX0_last 1 (some .int)) B.pre
  have hts : ∀ w ∈ lw_all, w.before _ s = true := fun w h => hts w (List.mem_cons_of_mem _ h)
  have hown : s.vm.findClass RX0 = some m.cls := findClass_of_methodNamed B.named
  have hlocks := B.notSynchronized
  subst hsz
  have hD := hD0.self (sz := s.heap.size)
  generalize hAe : va_A [(h0, .inr (0, [.ref q])), (q, .inr (1, [.ref ar, .int (nI L), .int (nI st), .int (nI en)])), (ar, .inl (d, L, .inl f))] s.heap.size = A at hD ⊢
  have hA : ∀ q : Nat, s.heap.size ≤ q → A q := fun q h => by rw [← hAe]; exact Or.inr h
  have hS : va_S A s.heap s.heap [] := va_S.rf
  have hP : va_P (dC, dI) vwCl [(h0, .inr (0, [.ref q])), (q, .inr (1, [.ref ar, .int (nI L), .int (nI st), .int (nI en)])), (ar, .inl (d, L, .inl f))] s.heap := hP
  have hl := lv_entry ([.ref h0]) (n := 1) (Nat.le_of_ble_eq_true rfl)
  rw [lg_entry_eq]
  generalize (lg_sl ([.ref h0]) ++ List.replicate (1 - (lg_sl ([.ref h0])).length) Slot.unset).toArray = ls at hl ⊢
  have hl : lv_has ls 1 [(0, .ref h0)] := hl
  refine lv_aload_n hx hb dX0_last_0 rfl (lv_at hl 0 rfl) ?_
  refine va_get (D := (dC, dI)) (ci := 0) (v := .ref q) (C := RX0) (T := TX0) (N := 1) hx hb hts in_X0 hown hK hP 0 rfl rfl 0 (by decide) (hts _ q360) (fun _ h9 => h9) rfl dX0_last_1 ?_
  have hPc := hP.sub (ws' := [(q, .inr (1, [.ref ar, .int (nI L), .int (nI st), .int (nI en)])), (ar, .inl (d, L, .inl f))]) [1, 2] rfl
  have hDc := hD.sub (ws' := [(q, .inr (1, [.ref ar, .int (nI L), .int (nI st), .int (nI en)])), (ar, .inl (d, L, .inl f))]) [1, 2] (by decide) rfl
  have hKc := hK.sub (tys' := [(d, .int)]) [0] rfl
  have hFc := va_free (wc := [(q, .inr (1, [.ref ar, .int (nI L), .int (nI st), .int (nI en)])), (ar, .inl (d, L, .inl f))]) hD hS hA [1, 2] rfl
  refine va_calli (cl_runD (As := []) (rest := []) ⟨hx, hb, hml, hown, hts⟩ (metX3_isEmpty l dC dI s.heap.size q ar d L st en n f xs hq) ⟨rfl, rfl, Nat.le_of_ble_eq_true rfl, Nat.le_of_ble_eq_true rfl, pay_in hts (lw_meth q406), List.mem_cons_self⟩ hE (hts _ q404) (hts _ q548) ⟨fun a U g mk q => by obtain ⟨q0, q1, qP, qK, qD, qE⟩ := q; exact ⟨q0, q1, qP, va_K.moved (u := U) (U := U.calling g mk a) (Vm.Alike.refl U.vm) qK, qD, cl_E.calls qE⟩, va_recv hKc hPc (ci := 1) (q0 := 0) rfl rfl, fun U hU hW => ⟨rfl, by rw [hU], by rw [hU]; exact hPc, va_K.moved hW.alike hKc, hDc.weaken (fun _ _ _ _ => trivial), cl_E.warm hW hE.1⟩⟩ rfl rfl hl.1 rfl (lv_room (Nat.le_of_ble_eq_true rfl)) dX0_last_4 ⟨Nat.zero_le _, Nat.zero_le _⟩) hS (fun q _ h => hFc q h) hFc (fun r u t H1 locs ht hvm hw hB hz1 hk1 hS => ?_)
  obtain ⟨hP1, hK1, hD1⟩ := hB
  rw [ht] at hP1
  have hK1 := va_K.moved hvm.symm hK1
  obtain ⟨hP, hD⟩ := va_join (wr := [(h0, .inr (0, [.ref q]))]) (w1 := [(q, .inr (1, [.ref ar, .int (nI L), .int (nI st), .int (nI en)])), (ar, .inl (d, L, .inl f))]) hP hD [1, 2] [0] rfl rfl (by decide) (by decide) hk1 hFc hP1 hD1
  have hK := (hK.sub (tys' := []) [] rfl).app hK1
  clear hPc hDc hKc hFc hz1 hk1 hP1 hD1 hK1 ht hvm
  generalize H1 = H at hP hS ⊢
  have hP : va_P (dC, dI) vwCl [(h0, .inr (0, [.ref q])), (q, .inr (1, [.ref ar, .int (nI L), .int (nI st), .int (nI en)])), (ar, .inl (d, L, .inl f))] H := hP
  have hD : va_D A [(h0, .inr (0, [.ref q])), (q, .inr (1, [.ref ar, .int (nI L), .int (nI st), .int (nI en)])), (ar, .inl (d, L, .inl f))] := hD
  have hK : va_K (dC, dI) vwCl [(d, .int)] s := hK
  have hw : (n = 0 → r = nI 1) ∧ (0 < n → r = nI 0) := hw
  refine W.widen (k := 0) (n := 0) (by omega) (by omega) ?_
  refine lv_if_eq (tgt := 14) hx hb dX0_last_7 (by decide) (fun c_7 => ?_) (fun c_7 => ?_)
  · have hn : 0 < n := by
      rcases Nat.eq_zero_or_pos n with q | q
      · exact absurd (c_7.symm.trans (hw.1 q)) (by decide)
      · exact q
    refine lv_aload_n hx hb dX0_last_14 rfl (lv_at hl 0 rfl) ?_
    refine va_get (D := (dC, dI)) (ci := 0) (v := .ref q) (C := RX0) (T := TX0) (N := 1) hx hb hts in_X0 hown hK hP 0 rfl rfl 0 (by decide) (hts _ q360) (fun _ h9 => h9) rfl dX0_last_15 ?_
    have hPc := hP.sub (ws' := [(q, .inr (1, [.ref ar, .int (nI L), .int (nI st), .int (nI en)])), (ar, .inl (d, L, .inl f))]) [1, 2] rfl
    have hDc := hD.sub (ws' := [(q, .inr (1, [.ref ar, .int (nI L), .int (nI st), .int (nI en)])), (ar, .inl (d, L, .inl f))]) [1, 2] (by decide) rfl
    have hKc := hK.sub (tys' := [(d, .int)]) [0] rfl
    have hFc := va_free (wc := [(q, .inr (1, [.ref ar, .int (nI L), .int (nI st), .int (nI en)])), (ar, .inl (d, L, .inl f))]) hD hS hA [1, 2] rfl
    refine va_calli (va_runV (As := []) (rest := []) ⟨hx, hb, hml, hown, hts⟩ (metX1_lastInt l dC dI H.size q ar d L st en n f xs hq hn) (cwV 0 hts (lw_V q465 q466 q467 q6 q468) rfl rfl rfl (by decide +kernel) ⟨Nat.le_of_ble_eq_true rfl, Nat.le_of_ble_eq_true rfl⟩) ⟨fun a U g mk q => by obtain ⟨q0, q1, qP, qK, qD⟩ := q; exact ⟨q0, q1, qP, va_K.moved (u := U) (U := U.calling g mk a) (Vm.Alike.refl U.vm) qK, qD⟩, va_recv hKc hPc (ci := 1) (q0 := 0) rfl rfl, fun U hU hW => ⟨rfl, by rw [hU], by rw [hU]; exact hPc, va_K.moved hW.alike hKc, hDc.weaken (fun _ _ _ _ => trivial)⟩⟩ rfl rfl hl.1 rfl (lv_room (Nat.le_of_ble_eq_true rfl)) dX0_last_18 ⟨Nat.zero_le _, Nat.zero_le _⟩) hS (fun q _ h => hFc q h) hFc (fun r2 u t H1 locs ht hvm hw2 hB hz1 hk1 hS => ?_)
    obtain ⟨hP1, hK1, hD1⟩ := hB
    rw [ht] at hP1
    have hK1 := va_K.moved hvm.symm hK1
    obtain ⟨hP, hD⟩ := va_join (wr := [(h0, .inr (0, [.ref q]))]) (w1 := [(q, .inr (1, [.ref ar, .int (nI L), .int (nI st), .int (nI en)])), (ar, .inl (d, L, .inl f))]) hP hD [1, 2] [0] rfl rfl (by decide) (by decide) hk1 hFc hP1 hD1
    have hK := (hK.sub (tys' := []) [] rfl).app hK1
    clear hPc hDc hKc hFc hz1 hk1 hP1 hD1 hK1 ht hvm
    generalize H1 = H at hP hS ⊢
    have hP : va_P (dC, dI) vwCl [(h0, .inr (0, [.ref q])), (q, .inr (1, [.ref ar, .int (nI L), .int (nI st), .int (nI en)])), (ar, .inl (d, L, .inl f))] H := hP
    have hD : va_D A [(h0, .inr (0, [.ref q])), (q, .inr (1, [.ref ar, .int (nI L), .int (nI st), .int (nI en)])), (ar, .inl (d, L, .inl f))] := hD
    have hK : va_K (dC, dI) vwCl [(d, .int)] s := hK
    refine W.widen (k := 0) (n := 0) (by omega) (by omega) ?_
    have hP9 := hP.sub (ws' := [(h0, .inr (0, [.ref q])), (q, .inr (1, [.ref ar, .int (nI L), .int (nI st), .int (nI en)])), (ar, .inl (d, L, .inl f))]) [0, 1, 2] rfl
    have hD9 := hD.sub (ws' := [(h0, .inr (0, [.ref q])), (q, .inr (1, [.ref ar, .int (nI L), .int (nI st), .int (nI en)])), (ar, .inl (d, L, .inl f))]) [0, 1, 2] (by decide) rfl
    have hK9 := hK.sub (tys' := [(d, .int)]) [0] rfl
    exact W.iret (v := r2) hx hb hr (fun t ht hW => ⟨⟨r2, (()), rfl, ⟨fun q => absurd q (by omega), fun _ => hw2⟩, by rw [ht]; exact hP9, va_K.moved hW.alike hK9, hD9⟩, hS.F ht⟩) hS.2.2 dX0_last_21
  · have hn : n = 0 := by
      rcases Nat.eq_zero_or_pos n with q | q
      · exact q
      · exact absurd (hw.2 q) c_7
    refine lv_iconst (v := nI 0) hx hb dX0_last_10 (by decide) ?_
    refine lv_goto (tgt := 21) hx hb dX0_last_11 (by decide) ?_
    have hP9 := hP.sub (ws' := [(h0, .inr (0, [.ref q])), (q, .inr (1, [.ref ar, .int (nI L), .int (nI st), .int (nI en)])), (ar, .inl (d, L, .inl f))]) [0, 1, 2] rfl
    have hD9 := hD.sub (ws' := [(h0, .inr (0, [.ref q])), (q, .inr (1, [.ref ar, .int (nI L), .int (nI st), .int (nI en)])), (ar, .inl (d, L, .inl f))]) [0, 1, 2] (by decide) rfl
    have hK9 := hK.sub (tys' := [(d, .int)]) [0] rfl
    exact W.iret (v := nI 0) hx hb hr (fun t ht hW => ⟨⟨nI 0, (()), rfl, ⟨fun _ => rfl, fun q => absurd q (by omega)⟩, by rw [ht]; exact hP9, va_K.moved hW.alike hK9, hD9⟩, hS.F ht⟩) hS.2.2 dX0_last_21
set_option maxHeartbeats 4000000 in
set_option maxRecDepth 100000 in
/-- size() -/
theorem metX0_size (l : Launch) (dC : Nat → ClassId) (dI : Nat → Nat → Nat) (sz : Nat) (h0 q ar : Nat) (d : ClassId) (L st en n : Nat) (f xs : Nat → Int32) (hq : cl_R f L st en n xs) : Met l yX0_size (ws_ yX0_size cX0_size 1 (some .int)) ({ frames := 4, cells := 0, slots := 0, locals := 110 } : Jvm.Room) (va_Pc [.ref h0] (fun U => U.heap.size = sz ∧ va_P (dC, dI) vwCl [(h0, .inr (0, [.ref q])), (q, .inr (1, [.ref ar, .int (nI L), .int (nI st), .int (nI en)])), (ar, .inl (d, L, .inl f))] U.heap ∧ va_K (dC, dI) vwCl [(d, .int)] U ∧ va_D (fun _ => True) [(h0, .inr (0, [.ref q])), (q, .inr (1, [.ref ar, .int (nI L), .int (nI st), .int (nI en)])), (ar, .inl (d, L, .inl f))])) (va_Qi (S := Unit) (fun (r : Int32) (_ : Unit) => r = nI n) (cl_BW dC dI [(d, .int)] [(h0, .inr (0, [.ref q])), (q, .inr (1, [.ref ar, .int (nI L), .int (nI st), .int (nI en)])), (ar, .inl (d, L, .inl f))] (va_A [(h0, .inr (0, [.ref q])), (q, .inr (1, [.ref ar, .int (nI L), .int (nI st), .int (nI en)])), (ar, .inl (d, L, .inl f))] sz)) (va_A [(h0, .inr (0, [.ref q])), (q, .inr (1, [.ref ar, .int (nI L), .int (nI st), .int (nI en)])), (ar, .inl (d, L, .inl f))] sz)) 0 0 (va_A [(h0, .inr (0, [.ref q])), (q, .inr (1, [.ref ar, .int (nI L), .int (nI st), .int (nI en)])), (ar, .inl (d, L, .inl f))] sz) := by
  refine Met.ofW (cc := cX0_size) (maxL := 1) (ret := (some .int)) (by decide) rfl ?_
  intro p e s m args below meth c s₁ B hml hv
  obtain ⟨rfl, hsz, hP, hK, hD0⟩ := hv
  have hx := B.exec
  have hb := B.bytes
  have hr := B.returns
  have hts := atoms_spec (ws := ws_ yX0_size cX0_size 1 (some .int)) B.pre
  have hts : ∀ w ∈ lw_all, w.before _ s = true := fun w h => hts w (List.mem_cons_of_mem _ h)
  have hown : s.vm.findClass RX0 = some m.cls := findClass_of_methodNamed B.named
  have hlocks := B.notSynchronized
  subst hsz
  have hD := hD0.self (sz := s.heap.size)
  generalize hAe : va_A [(h0, .inr (0, [.ref q])), (q, .inr (1, [.ref ar, .int (nI L), .int (nI st), .int (nI en)])), (ar, .inl (d, L, .inl f))] s.heap.size = A at hD ⊢
  have hA : ∀ q : Nat, s.heap.size ≤ q → A q := fun q h => by rw [← hAe]; exact Or.inr h
  have hS : va_S A s.heap s.heap [] := va_S.rf
  have hP : va_P (dC, dI) vwCl [(h0, .inr (0, [.ref q])), (q, .inr (1, [.ref ar, .int (nI L), .int (nI st), .int (nI en)])), (ar, .inl (d, L, .inl f))] s.heap := hP
  have hl := lv_entry ([.ref h0]) (n := 1) (Nat.le_of_ble_eq_true rfl)
  rw [lg_entry_eq]
  generalize (lg_sl ([.ref h0]) ++ List.replicate (1 - (lg_sl ([.ref h0])).length) Slot.unset).toArray = ls at hl ⊢
  have hl : lv_has ls 1 [(0, .ref h0)] := hl
  refine lv_aload_n hx hb dX0_size_0 rfl (lv_at hl 0 rfl) ?_
  refine va_get (D := (dC, dI)) (ci := 0) (v := .ref q) (C := RX0) (T := TX0) (N := 1) hx hb hts in_X0 hown hK hP 0 rfl rfl 0 (by decide) (hts _ q360) (fun _ h9 => h9) rfl dX0_size_1 ?_
  have hPc := hP.sub (ws' := [(q, .inr (1, [.ref ar, .int (nI L), .int (nI st), .int (nI en)])), (ar, .inl (d, L, .inl f))]) [1, 2] rfl
  have hDc := hD.sub (ws' := [(q, .inr (1, [.ref ar, .int (nI L), .int (nI st), .int (nI en)])), (ar, .inl (d, L, .inl f))]) [1, 2] (by decide) rfl
  have hKc := hK.sub (tys' := [(d, .int)]) [0] rfl
  have hFc := va_free (wc := [(q, .inr (1, [.ref ar, .int (nI L), .int (nI st), .int (nI en)])), (ar, .inl (d, L, .inl f))]) hD hS hA [1, 2] rfl
  refine va_calli (va_runV (As := []) (rest := []) ⟨hx, hb, hml, hown, hts⟩ (metX1_size l dC dI s.heap.size q ar d L st en n f xs hq) (cwV 0 hts (lw_V q368 q369 q370 q6 q371) rfl rfl rfl (by decide +kernel) ⟨Nat.le_of_ble_eq_true rfl, Nat.le_of_ble_eq_true rfl⟩) ⟨fun a U g mk q => by obtain ⟨q0, q1, qP, qK, qD⟩ := q; exact ⟨q0, q1, qP, va_K.moved (u := U) (U := U.calling g mk a) (Vm.Alike.refl U.vm) qK, qD⟩, va_recv hKc hPc (ci := 1) (q0 := 0) rfl rfl, fun U hU hW => ⟨rfl, by rw [hU], by rw [hU]; exact hPc, va_K.moved hW.alike hKc, hDc.weaken (fun _ _ _ _ => trivial)⟩⟩ rfl rfl hl.1 rfl (lv_room (Nat.le_of_ble_eq_true rfl)) dX0_size_4 ⟨Nat.zero_le _, Nat.zero_le _⟩) hS (fun q _ h => hFc q h) hFc (fun r u t H1 locs ht hvm hw hB hz1 hk1 hS => ?_)
  obtain ⟨hP1, hK1, hD1⟩ := hB
  rw [ht] at hP1
  have hK1 := va_K.moved hvm.symm hK1
  obtain ⟨hP, hD⟩ := va_join (wr := [(h0, .inr (0, [.ref q]))]) (w1 := [(q, .inr (1, [.ref ar, .int (nI L), .int (nI st), .int (nI en)])), (ar, .inl (d, L, .inl f))]) hP hD [1, 2] [0] rfl rfl (by decide) (by decide) hk1 hFc hP1 hD1
  have hK := (hK.sub (tys' := []) [] rfl).app hK1
  clear hPc hDc hKc hFc hz1 hk1 hP1 hD1 hK1 ht hvm
  generalize H1 = H at hP hS ⊢
  have hP : va_P (dC, dI) vwCl [(h0, .inr (0, [.ref q])), (q, .inr (1, [.ref ar, .int (nI L), .int (nI st), .int (nI en)])), (ar, .inl (d, L, .inl f))] H := hP
  have hD : va_D A [(h0, .inr (0, [.ref q])), (q, .inr (1, [.ref ar, .int (nI L), .int (nI st), .int (nI en)])), (ar, .inl (d, L, .inl f))] := hD
  have hK : va_K (dC, dI) vwCl [(d, .int)] s := hK
  have hw : r = nI n := hw
  subst hw
  refine W.widen (k := 0) (n := 0) (by omega) (by omega) ?_
  have hP9 := hP.sub (ws' := [(h0, .inr (0, [.ref q])), (q, .inr (1, [.ref ar, .int (nI L), .int (nI st), .int (nI en)])), (ar, .inl (d, L, .inl f))]) [0, 1, 2] rfl
  have hD9 := hD.sub (ws' := [(h0, .inr (0, [.ref q])), (q, .inr (1, [.ref ar, .int (nI L), .int (nI st), .int (nI en)])), (ar, .inl (d, L, .inl f))]) [0, 1, 2] (by decide) rfl
  have hK9 := hK.sub (tys' := [(d, .int)]) [0] rfl
  exact W.iret (v := nI n) hx hb hr (fun t ht hW => ⟨⟨nI n, (()), rfl, rfl, by rw [ht]; exact hP9, va_K.moved hW.alike hK9, hD9⟩, hS.F ht⟩) hS.2.2 dX0_size_7
set_option maxHeartbeats 4000000 in
set_option maxRecDepth 100000 in
/-- trim() -/
theorem metX0_trim (l : Launch) (dC : Nat → ClassId) (dI : Nat → Nat → Nat) (sz : Nat) (h0 q ar : Nat) (d : ClassId) (L st en n : Nat) (f xs : Nat → Int32) (hq : cl_R f L st en n xs) : Met l yX0_trim (ws_ yX0_trim cX0_trim 1 none) ({ frames := 4, cells := 1, slots := 300, locals := 110 } : Jvm.Room) (va_Pc [.ref h0] (fun U => U.heap.size = sz ∧ va_P (dC, dI) vwCl [(h0, .inr (0, [.ref q])), (q, .inr (1, [.ref ar, .int (nI L), .int (nI st), .int (nI en)])), (ar, .inl (d, L, .inl f))] U.heap ∧ va_K (dC, dI) vwCl [(d, .int)] U ∧ va_D (fun _ => True) [(h0, .inr (0, [.ref q])), (q, .inr (1, [.ref ar, .int (nI L), .int (nI st), .int (nI en)])), (ar, .inl (d, L, .inl f))])) (va_Qv (S := cl_Q) (fun (u : cl_Q) => cl_R u.2.2.2.2.2 u.2.2.1 u.2.2.2.1 u.2.2.2.2.1 n xs) (cl_BL dC dI h0 q (va_A [(h0, .inr (0, [.ref q])), (q, .inr (1, [.ref ar, .int (nI L), .int (nI st), .int (nI en)])), (ar, .inl (d, L, .inl f))] sz)) (va_A [(h0, .inr (0, [.ref q])), (q, .inr (1, [.ref ar, .int (nI L), .int (nI st), .int (nI en)])), (ar, .inl (d, L, .inl f))] sz)) 1 300 (va_A [(h0, .inr (0, [.ref q])), (q, .inr (1, [.ref ar, .int (nI L), .int (nI st), .int (nI en)])), (ar, .inl (d, L, .inl f))] sz) := by
  refine Met.ofW (cc := cX0_trim) (maxL := 1) (ret := none) (by decide) rfl ?_
  intro p e s m args below meth c s₁ B hml hv
  obtain ⟨rfl, hsz, hP, hK, hD0⟩ := hv
  have hx := B.exec
  have hb := B.bytes
  have hr := B.returns
  have hts := atoms_spec (ws := ws_ yX0_trim cX0_trim 1 none) B.pre
  have hts : ∀ w ∈ lw_all, w.before _ s = true := fun w h => hts w (List.mem_cons_of_mem _ h)
  have hown : s.vm.findClass RX0 = some m.cls := findClass_of_methodNamed B.named
  have hlocks := B.notSynchronized
  subst hsz
  have hD := hD0.self (sz := s.heap.size)
  generalize hAe : va_A [(h0, .inr (0, [.ref q])), (q, .inr (1, [.ref ar, .int (nI L), .int (nI st), .int (nI en)])), (ar, .inl (d, L, .inl f))] s.heap.size = A at hD ⊢
  have hA : ∀ q : Nat, s.heap.size ≤ q → A q := fun q h => by rw [← hAe]; exact Or.inr h
  have hS : va_S A s.heap s.heap [] := va_S.rf
  have hP : va_P (dC, dI) vwCl [(h0, .inr (0, [.ref q])), (q, .inr (1, [.ref ar, .int (nI L), .int (nI st), .int (nI en)])), (ar, .inl (d, L, .inl f))] s.heap := hP
  have hl := lv_entry ([.ref h0]) (n := 1) (Nat.le_of_ble_eq_true rfl)
  rw [lg_entry_eq]
  generalize (lg_sl ([.ref h0]) ++ List.replicate (1 - (lg_sl ([.ref h0])).length) Slot.unset).toArray = ls at hl ⊢
  have hl : lv_has ls 1 [(0, .ref h0)] := hl
  refine lv_aload_n hx hb dX0_trim_0 rfl (lv_at hl 0 rfl) ?_
  refine va_get (D := (dC, dI)) (ci := 0) (v := .ref q) (C := RX0) (T := TX0) (N := 1) hx hb hts in_X0 hown hK hP 0 rfl rfl 0 (by decide) (hts _ q360) (fun _ h9 => h9) rfl dX0_trim_1 ?_
  have hPc := hP.sub (ws' := [(q, .inr (1, [.ref ar, .int (nI L), .int (nI st), .int (nI en)])), (ar, .inl (d, L, .inl f))]) [1, 2] rfl
  have hDc := hD.sub (ws' := [(q, .inr (1, [.ref ar, .int (nI L), .int (nI st), .int (nI en)])), (ar, .inl (d, L, .inl f))]) [1, 2] (by decide) rfl
  have hKc := hK.sub (tys' := [(d, .int)]) [0] rfl
  have hFc := va_free (wc := [(q, .inr (1, [.ref ar, .int (nI L), .int (nI st), .int (nI en)])), (ar, .inl (d, L, .inl f))]) hD hS hA [1, 2] rfl
  refine va_callv (va_runV (As := []) (rest := []) ⟨hx, hb, hml, hown, hts⟩ (metX1_trim l dC dI s.heap.size q ar d L st en n f xs hq) (cwV 0 hts (lw_V q477 q478 q479 q6 q480) rfl rfl rfl (by decide +kernel) ⟨Nat.le_of_ble_eq_true rfl, Nat.le_of_ble_eq_true rfl⟩) ⟨fun a U g mk q => by obtain ⟨q0, q1, qP, qK, qD⟩ := q; exact ⟨q0, q1, qP, va_K.moved (u := U) (U := U.calling g mk a) (Vm.Alike.refl U.vm) qK, qD⟩, va_recv hKc hPc (ci := 1) (q0 := 0) rfl rfl, fun U hU hW => ⟨rfl, by rw [hU], by rw [hU]; exact hPc, va_K.moved hW.alike hKc, hDc.weaken (fun _ _ _ _ => trivial)⟩⟩ rfl rfl hl.1 rfl (lv_room (Nat.le_of_ble_eq_true rfl)) dX0_trim_4 ⟨(show 0 + 1 ≤ 1 by omega), (show 0 + 300 ≤ 300 by omega)⟩) hS (fun q _ h => hFc q h) hFc (fun u t H1 locs ht hvm hw hB hz1 hk1 hS => ?_)
  obtain ⟨a2, d2, L2, s2, e2, f2⟩ := u
  obtain ⟨hP1, hK1, hD1⟩ := hB
  rw [ht] at hP1
  have hK1 := va_K.moved hvm.symm hK1
  obtain ⟨hP, hD⟩ := va_join (wr := [(h0, .inr (0, [.ref q]))]) (w1 := [(q, .inr (1, [.ref a2, .int (nI L2), .int (nI s2), .int (nI e2)])), (a2, .inl (d2, L2, .inl f2))]) hP hD [1, 2] [0] rfl rfl (by decide) (by decide) hk1 hFc hP1 hD1
  have hK := (hK.sub (tys' := []) [] rfl).app hK1
  clear hPc hDc hKc hFc hz1 hk1 hP1 hD1 hK1 ht hvm
  generalize H1 = H at hP hS ⊢
  have hP : va_P (dC, dI) vwCl [(h0, .inr (0, [.ref q])), (q, .inr (1, [.ref a2, .int (nI L2), .int (nI s2), .int (nI e2)])), (a2, .inl (d2, L2, .inl f2))] H := hP
  have hD : va_D A [(h0, .inr (0, [.ref q])), (q, .inr (1, [.ref a2, .int (nI L2), .int (nI s2), .int (nI e2)])), (a2, .inl (d2, L2, .inl f2))] := hD
  have hK : va_K (dC, dI) vwCl [(d2, .int)] s := hK
  refine W.widen (k := 1) (n := 300) (by omega) (by omega) ?_
  have hP9 := hP.sub (ws' := [(h0, .inr (0, [.ref q])), (q, .inr (1, [.ref a2, .int (nI L2), .int (nI s2), .int (nI e2)])), (a2, .inl (d2, L2, .inl f2))]) [0, 1, 2] rfl
  have hD9 := hD.sub (ws' := [(h0, .inr (0, [.ref q])), (q, .inr (1, [.ref a2, .int (nI L2), .int (nI s2), .int (nI e2)])), (a2, .inl (d2, L2, .inl f2))]) [0, 1, 2] (by decide) rfl
  have hK9 := hK.sub (tys' := [(d2, .int)]) [0] rfl
  exact W.vret hx hb hr (fun t ht hW => ⟨⟨(a2, d2, L2, s2, e2, f2), rfl, hw, by rw [ht]; exact hP9, va_K.moved hW.alike hK9, hD9⟩, hS.F ht⟩) hS.2.2 dX0_trim_7
set_option maxHeartbeats 4000000 in
set_option maxRecDepth 100000 in
/-- clear() -/
theorem metX0_clear (l : Launch) (dC : Nat → ClassId) (dI : Nat → Nat → Nat) (sz : Nat) (h0 q ar : Nat) (d : ClassId) (L st en n : Nat) (f xs : Nat → Int32) (hq : cl_R f L st en n xs) : Met l yX0_clear (ws_ yX0_clear cX0_clear 1 none) ({ frames := 4, cells := 0, slots := 0, locals := 110 } : Jvm.Room) (va_Pc [.ref h0] (fun U => U.heap.size = sz ∧ va_P (dC, dI) vwCl [(h0, .inr (0, [.ref q])), (q, .inr (1, [.ref ar, .int (nI L), .int (nI st), .int (nI en)])), (ar, .inl (d, L, .inl f))] U.heap ∧ va_K (dC, dI) vwCl [(d, .int)] U ∧ va_D (fun _ => True) [(h0, .inr (0, [.ref q])), (q, .inr (1, [.ref ar, .int (nI L), .int (nI st), .int (nI en)])), (ar, .inl (d, L, .inl f))])) (va_Qv (S := cl_Q) (fun (u : cl_Q) => cl_R u.2.2.2.2.2 u.2.2.1 u.2.2.2.1 u.2.2.2.2.1 0 xs) (cl_BL dC dI h0 q (va_A [(h0, .inr (0, [.ref q])), (q, .inr (1, [.ref ar, .int (nI L), .int (nI st), .int (nI en)])), (ar, .inl (d, L, .inl f))] sz)) (va_A [(h0, .inr (0, [.ref q])), (q, .inr (1, [.ref ar, .int (nI L), .int (nI st), .int (nI en)])), (ar, .inl (d, L, .inl f))] sz)) 0 0 (va_A [(h0, .inr (0, [.ref q])), (q, .inr (1, [.ref ar, .int (nI L), .int (nI st), .int (nI en)])), (ar, .inl (d, L, .inl f))] sz) := by
  refine Met.ofW (cc := cX0_clear) (maxL := 1) (ret := none) (by decide) rfl ?_
  intro p e s m args below meth c s₁ B hml hv
  obtain ⟨rfl, hsz, hP, hK, hD0⟩ := hv
  have hx := B.exec
  have hb := B.bytes
  have hr := B.returns
  have hts := atoms_spec (ws := ws_ yX0_clear cX0_clear 1 none) B.pre
  have hts : ∀ w ∈ lw_all, w.before _ s = true := fun w h => hts w (List.mem_cons_of_mem _ h)
  have hown : s.vm.findClass RX0 = some m.cls := findClass_of_methodNamed B.named
  have hlocks := B.notSynchronized
  subst hsz
  have hD := hD0.self (sz := s.heap.size)
  generalize hAe : va_A [(h0, .inr (0, [.ref q])), (q, .inr (1, [.ref ar, .int (nI L), .int (nI st), .int (nI en)])), (ar, .inl (d, L, .inl f))] s.heap.size = A at hD ⊢
  have hA : ∀ q : Nat, s.heap.size ≤ q → A q := fun q h => by rw [← hAe]; exact Or.inr h
  have hS : va_S A s.heap s.heap [] := va_S.rf
  have hP : va_P (dC, dI) vwCl [(h0, .inr (0, [.ref q])), (q, .inr (1, [.ref ar, .int (nI L), .int (nI st), .int (nI en)])), (ar, .inl (d, L, .inl f))] s.heap := hP
  have hl := lv_entry ([.ref h0]) (n := 1) (Nat.le_of_ble_eq_true rfl)
  rw [lg_entry_eq]
  generalize (lg_sl ([.ref h0]) ++ List.replicate (1 - (lg_sl ([.ref h0])).length) Slot.unset).toArray = ls at hl ⊢
  have hl : lv_has ls 1 [(0, .ref h0)] := hl
  refine lv_aload_n hx hb dX0_clear_0 rfl (lv_at hl 0 rfl) ?_
  refine va_get (D := (dC, dI)) (ci := 0) (v := .ref q) (C := RX0) (T := TX0) (N := 1) hx hb hts in_X0 hown hK hP 0 rfl rfl 0 (by decide) (hts _ q360) (fun _ h9 => h9) rfl dX0_clear_1 ?_
  have hPc := hP.sub (ws' := [(q, .inr (1, [.ref ar, .int (nI L), .int (nI st), .int (nI en)])), (ar, .inl (d, L, .inl f))]) [1, 2] rfl
  have hDc := hD.sub (ws' := [(q, .inr (1, [.ref ar, .int (nI L), .int (nI st), .int (nI en)])), (ar, .inl (d, L, .inl f))]) [1, 2] (by decide) rfl
  have hKc := hK.sub (tys' := [(d, .int)]) [0] rfl
  have hFc := va_free (wc := [(q, .inr (1, [.ref ar, .int (nI L), .int (nI st), .int (nI en)])), (ar, .inl (d, L, .inl f))]) hD hS hA [1, 2] rfl
  refine va_callv (va_runV (As := []) (rest := []) ⟨hx, hb, hml, hown, hts⟩ (metX1_clear l dC dI s.heap.size q ar d L st en n f xs hq) (cwV 0 hts (lw_V q485 q486 q487 q6 q488) rfl rfl rfl (by decide +kernel) ⟨Nat.le_of_ble_eq_true rfl, Nat.le_of_ble_eq_true rfl⟩) ⟨fun a U g mk q => by obtain ⟨q0, q1, qP, qK, qD⟩ := q; exact ⟨q0, q1, qP, va_K.moved (u := U) (U := U.calling g mk a) (Vm.Alike.refl U.vm) qK, qD⟩, va_recv hKc hPc (ci := 1) (q0 := 0) rfl rfl, fun U hU hW => ⟨rfl, by rw [hU], by rw [hU]; exact hPc, va_K.moved hW.alike hKc, hDc.weaken (fun _ _ _ _ => trivial)⟩⟩ rfl rfl hl.1 rfl (lv_room (Nat.le_of_ble_eq_true rfl)) dX0_clear_4 ⟨Nat.zero_le _, Nat.zero_le _⟩) hS (fun q _ h => hFc q h) hFc (fun u t H1 locs ht hvm hw hB hz1 hk1 hS => ?_)
  obtain ⟨a2, d2, L2, s2, e2, f2⟩ := u
  obtain ⟨hP1, hK1, hD1⟩ := hB
  rw [ht] at hP1
  have hK1 := va_K.moved hvm.symm hK1
  obtain ⟨hP, hD⟩ := va_join (wr := [(h0, .inr (0, [.ref q]))]) (w1 := [(q, .inr (1, [.ref a2, .int (nI L2), .int (nI s2), .int (nI e2)])), (a2, .inl (d2, L2, .inl f2))]) hP hD [1, 2] [0] rfl rfl (by decide) (by decide) hk1 hFc hP1 hD1
  have hK := (hK.sub (tys' := []) [] rfl).app hK1
  clear hPc hDc hKc hFc hz1 hk1 hP1 hD1 hK1 ht hvm
  generalize H1 = H at hP hS ⊢
  have hP : va_P (dC, dI) vwCl [(h0, .inr (0, [.ref q])), (q, .inr (1, [.ref a2, .int (nI L2), .int (nI s2), .int (nI e2)])), (a2, .inl (d2, L2, .inl f2))] H := hP
  have hD : va_D A [(h0, .inr (0, [.ref q])), (q, .inr (1, [.ref a2, .int (nI L2), .int (nI s2), .int (nI e2)])), (a2, .inl (d2, L2, .inl f2))] := hD
  have hK : va_K (dC, dI) vwCl [(d2, .int)] s := hK
  refine W.widen (k := 0) (n := 0) (by omega) (by omega) ?_
  have hP9 := hP.sub (ws' := [(h0, .inr (0, [.ref q])), (q, .inr (1, [.ref a2, .int (nI L2), .int (nI s2), .int (nI e2)])), (a2, .inl (d2, L2, .inl f2))]) [0, 1, 2] rfl
  have hD9 := hD.sub (ws' := [(h0, .inr (0, [.ref q])), (q, .inr (1, [.ref a2, .int (nI L2), .int (nI s2), .int (nI e2)])), (a2, .inl (d2, L2, .inl f2))]) [0, 1, 2] (by decide) rfl
  have hK9 := hK.sub (tys' := [(d2, .int)]) [0] rfl
  exact W.vret hx hb hr (fun t ht hW => ⟨⟨(a2, d2, L2, s2, e2, f2), rfl, hw, by rw [ht]; exact hP9, va_K.moved hW.alike hK9, hD9⟩, hS.F ht⟩) hS.2.2 dX0_clear_7
end
section
/-! CircleLineModel -/
set_option maxRecDepth 100000
set_option maxHeartbeats 4000000 in
set_option maxRecDepth 100000 in
/-- CircleLineModel(): an empty row -/
theorem metX2_init (l : Launch) (dC : Nat → ClassId) (dI : Nat → Nat → Nat) (sz : Nat) (h0 : Nat) : Met l yX2_init (ws_ yX2_init cX2_init 1 none) ({ frames := 1, cells := 1, slots := 4096, locals := 12 } : Jvm.Room) (va_Pc [.ref h0] (fun U => U.heap.size = sz ∧ va_P (dC, dI) vwCl [(h0, .inr (2, [.null, .int (nI 0)]))] U.heap ∧ va_K (dC, dI) vwCl [] U ∧ va_D (fun _ => True) [(h0, .inr (2, [.null, .int (nI 0)]))])) (va_Qv (S := Nat × ClassId × Nat × (Nat → Int32)) (fun (u : Nat × ClassId × Nat × (Nat → Int32)) => u.2.2.1 = 0) (cl_BM0 dC dI h0 (va_A [(h0, .inr (2, [.null, .int (nI 0)]))] sz)) (va_A [(h0, .inr (2, [.null, .int (nI 0)]))] sz)) 1 4096 (va_A [(h0, .inr (2, [.null, .int (nI 0)]))] sz) := by
  refine Met.ofW (cc := cX2_init) (maxL := 1) (ret := none) (by decide) rfl ?_
  intro p e s m args below meth c s₁ B hml hv
  obtain ⟨rfl, hsz, hP, hK, hD0⟩ := hv
  have hx := B.exec
  have hb := B.bytes
  have hr := B.returns
  have hts := atoms_spec (ws := ws_ yX2_init cX2_init 1 none) B.pre
  have hts : ∀ w ∈ lw_all, w.before _ s = true := fun w h => hts w (List.mem_cons_of_mem _ h)
  have hown : s.vm.findClass RX2 = some m.cls := findClass_of_methodNamed B.named
  have hlocks := B.notSynchronized
  have hin : meth.name = "<init>" := (name_of_methodNamed B.named B.method).1
  subst hsz
  have hD := hD0.self (sz := s.heap.size)
  generalize hAe : va_A [(h0, .inr (2, [.null, .int (nI 0)]))] s.heap.size = A at hD ⊢
  have hA : ∀ q : Nat, s.heap.size ≤ q → A q := fun q h => by rw [← hAe]; exact Or.inr h
  have hS : va_S A s.heap s.heap [] := va_S.rf
  have hP : va_P (dC, dI) vwCl [(h0, .inr (2, [.null, .int (nI 0)]))] s.heap := hP
  have hl := lv_entry ([.ref h0]) (n := 1) (Nat.le_of_ble_eq_true rfl)
  rw [lg_entry_eq]
  generalize (lg_sl ([.ref h0]) ++ List.replicate (1 - (lg_sl ([.ref h0])).length) Slot.unset).toArray = ls at hl ⊢
  have hl : lv_has ls 1 [(0, .ref h0)] := hl
  refine lv_aload_n hx hb dX2_init_0 rfl (lv_at hl 0 rfl) ?_
  refine W.objInit hx hb hown (hts _ q494) (hts _ q31) (hts _ q32) rfl (by rw [hml]; exact hl.1) rfl dX2_init_1 (Nat.le_of_ble_eq_true rfl) (Nat.le_of_ble_eq_true rfl) ?_
  refine W.eq (g2 := F0 m 4 ls []) rfl ?_
  refine lv_aload_n hx hb dX2_init_4 rfl (lv_at hl 0 rfl) ?_
  refine lv_sipush (v := nI 4096) hx hb dX2_init_5 (by decide) ?_
  refine va_newa (atype := .int) (ty := .int) (n := nI 4096) (N' := 4096) (a0 := (4096, .inl (fun _ => 0))) hx hb (hts _ q359) rfl hK hP hD hS hA (fun _ => rfl) (nI_pos (by omega)) (nI_clamp (by omega)) (show 4096 * 4 ≤ 536870912 by omega) (show 0 + 1 ≤ 1 by omega) (show 0 + 4096 ≤ 4096 by omega) dX2_init_8 (fun ro d H hK hP hD hS => ?_)
  have hP : va_P (dC, dI) vwCl [(h0, .inr (2, [.null, .int (nI 0)])), (ro, .inl (d, 4096, .inl (fun _ => 0)))] H := hP
  have hD : va_D A [(h0, .inr (2, [.null, .int (nI 0)])), (ro, .inl (d, 4096, .inl (fun _ => 0)))] := hD
  have hK : va_K (dC, dI) vwCl [(d, .int)] s := hK
  refine W.widen (k := 1) (n := 4096) (by omega) (by omega) ?_
  refine va_putF (D := (dC, dI)) (ci := 2) (v := .ref ro) (ty := .array .int) (C := RX2) (T := TX2) (N := 2) hx hb hts in_X2 tyX2 tyX2_ok nmX2 hown hK hP hD hS 0 rfl rfl 0 (by decide) (hts _ q495) (fun _ h9 => h9) rfl hin rfl (by decide +kernel) rfl rfl (Nat.le_of_ble_eq_true rfl) dX2_init_10 (fun H locs hP hD hS => ?_)
  have hP : va_P (dC, dI) vwCl [(h0, .inr (2, [.ref ro, .int (nI 0)])), (ro, .inl (d, 4096, .inl (fun _ => 0)))] H := hP
  have hD : va_D A [(h0, .inr (2, [.ref ro, .int (nI 0)])), (ro, .inl (d, 4096, .inl (fun _ => 0)))] := hD
  have hP9 := hP.sub (ws' := [(h0, .inr (2, [.ref ro, .int (nI 0)])), (ro, .inl (d, 4096, .inl (fun _ => 0)))]) [0, 1] rfl
  have hD9 := hD.sub (ws' := [(h0, .inr (2, [.ref ro, .int (nI 0)])), (ro, .inl (d, 4096, .inl (fun _ => 0)))]) [0, 1] (by decide) rfl
  have hK9 := hK.sub (tys' := [(d, .int)]) [0] rfl
  exact W.vret hx hb hr (fun t ht hW => ⟨⟨(ro, d, 0, fun _ => 0), rfl, rfl, by rw [ht]; exact hP9, va_K.moved hW.alike hK9, hD9⟩, hS.F ht⟩) hS.2.2 dX2_init_13
set_option maxHeartbeats 4000000 in
set_option maxRecDepth 100000 in
/-- back(x) -/
theorem metX2_back (l : Launch) (dC : Nat → ClassId) (dI : Nat → Nat → Nat) (sz : Nat) (h0 ro : Nat) (d : ClassId) (n : Nat) (g : Nat → Int32) (hn : n ≤ 100) (x : Int32) : Met l yX2_back (ws_ yX2_back cX2_back 2 (some .boolean)) ({ frames := 0, cells := 0, slots := 0, locals := 0 } : Jvm.Room) (va_Pc [.ref h0, .int x] (fun U => U.heap.size = sz ∧ va_P (dC, dI) vwCl [(h0, .inr (2, [.ref ro, .int (nI n)])), (ro, .inl (d, 4096, .inl g))] U.heap ∧ va_K (dC, dI) vwCl [(d, .int)] U ∧ va_D (fun _ => True) [(h0, .inr (2, [.ref ro, .int (nI n)])), (ro, .inl (d, 4096, .inl g))])) (va_Qi (S := Nat × (Nat → Int32)) (fun (r : Int32) (u : Nat × (Nat → Int32)) => r = nI 1 ∧ u.1 = n + 1 ∧ u.2 = upd g n x) (cl_BM dC dI h0 ro d (va_A [(h0, .inr (2, [.ref ro, .int (nI n)])), (ro, .inl (d, 4096, .inl g))] sz)) (va_A [(h0, .inr (2, [.ref ro, .int (nI n)])), (ro, .inl (d, 4096, .inl g))] sz)) 0 0 (va_A [(h0, .inr (2, [.ref ro, .int (nI n)])), (ro, .inl (d, 4096, .inl g))] sz) := by
  refine Met.ofW (cc := cX2_back) (maxL := 2) (ret := (some .boolean)) (by decide) rfl ?_
  intro p e s m args below meth c s₁ B hml hv
  obtain ⟨rfl, hsz, hP, hK, hD0⟩ := hv
  have hx := B.exec
  have hb := B.bytes
  have hr := B.returns
  have hts := atoms_spec (ws := ws_ yX2_back cX2_back 2 (some .boolean)) B.pre
  have hts : ∀ w ∈ lw_all, w.before _ s = true := fun w h => hts w (List.mem_cons_of_mem _ h)
  have hown : s.vm.findClass RX2 = some m.cls := findClass_of_methodNamed B.named
  have hlocks := B.notSynchronized
  subst hsz
  have hD := hD0.self (sz := s.heap.size)
  generalize hAe : va_A [(h0, .inr (2, [.ref ro, .int (nI n)])), (ro, .inl (d, 4096, .inl g))] s.heap.size = A at hD ⊢
  have hA : ∀ q : Nat, s.heap.size ≤ q → A q := fun q h => by rw [← hAe]; exact Or.inr h
  have hS : va_S A s.heap s.heap [] := va_S.rf
  have hP : va_P (dC, dI) vwCl [(h0, .inr (2, [.ref ro, .int (nI n)])), (ro, .inl (d, 4096, .inl g))] s.heap := hP
  have hl := lv_entry ([.ref h0, .int x]) (n := 2) (Nat.le_of_ble_eq_true rfl)
  rw [lg_entry_eq]
  generalize (lg_sl ([.ref h0, .int x]) ++ List.replicate (2 - (lg_sl ([.ref h0, .int x])).length) Slot.unset).toArray = ls at hl ⊢
  have hl : lv_has ls 2 [(0, .ref h0), (1, .int x)] := hl
  refine lv_aload_n hx hb dX2_back_0 rfl (lv_at hl 0 rfl) ?_
  refine va_get (D := (dC, dI)) (ci := 2) (v := .int (nI n)) (C := RX2) (T := TX2) (N := 2) hx hb hts in_X2 hown hK hP 0 rfl rfl 1 (by decide) (hts _ q496) (fun _ h9 => h9) rfl dX2_back_1 ?_
  refine lv_sipush (v := nI 4096) hx hb dX2_back_4 (by decide) ?_
  refine lv_icmp_ne (tgt := 12) hx hb dX2_back_7 (by decide) (fun c_7 => ?_) (fun c_7 => ?_)
  · refine lv_aload_n hx hb dX2_back_12 rfl (lv_at hl 0 rfl) ?_
    refine va_get (D := (dC, dI)) (ci := 2) (v := .ref ro) (C := RX2) (T := TX2) (N := 2) hx hb hts in_X2 hown hK hP 0 rfl rfl 0 (by decide) (hts _ q495) (fun _ h9 => h9) rfl dX2_back_13 ?_
    refine lv_aload_n hx hb dX2_back_16 rfl (lv_at hl 0 rfl) ?_
    refine va_get (D := (dC, dI)) (ci := 2) (v := .int (nI n)) (C := RX2) (T := TX2) (N := 2) hx hb hts in_X2 hown hK hP 0 rfl rfl 1 (by decide) (hts _ q496) (fun _ h9 => h9) rfl dX2_back_17 ?_
    refine lv_iload_n hx hb dX2_back_20 rfl (lv_at hl 1 rfl) ?_
    refine va_iast hx hb hK hP hD hS 1 0 rfl rfl (vp_in_nI (n := n) (N := 4096) (by omega) (by omega)) dX2_back_21 (fun H locs hP hD hS => ?_)
    have hP : va_P (dC, dI) vwCl [(h0, .inr (2, [.ref ro, .int (nI n)])), (ro, .inl (d, 4096, .inl (upd g (nI n).toNatClampNeg x)))] H := hP
    have hD : va_D A [(h0, .inr (2, [.ref ro, .int (nI n)])), (ro, .inl (d, 4096, .inl (upd g (nI n).toNatClampNeg x)))] := hD
    have hfe : upd g (nI n).toNatClampNeg x = upd g n x := by rw [nI_clamp (by omega)]
    rw [hfe] at hP hD
    refine lv_aload_n hx hb dX2_back_22 rfl (lv_at hl 0 rfl) ?_
    refine lv_aload_n hx hb dX2_back_23 rfl (lv_at hl 0 rfl) ?_
    refine va_get (D := (dC, dI)) (ci := 2) (v := .int (nI n)) (C := RX2) (T := TX2) (N := 2) hx hb hts in_X2 hown hK hP 0 rfl rfl 1 (by decide) (hts _ q496) (fun _ h9 => h9) rfl dX2_back_24 ?_
    refine lv_iconst (v := nI 1) hx hb dX2_back_27 (by decide) ?_
    refine lv_iadd hx hb dX2_back_28 ?_
    refine cl_ti (y := nI (n + 1)) (nI_1 n) ?_
    refine va_put (D := (dC, dI)) (ci := 2) (v := .int (nI (n + 1))) (ty := .int) (C := RX2) (T := TX2) (N := 2) hx hb hts in_X2 tyX2 tyX2_ok nmX2 hown hK hP hD hS 0 rfl rfl 1 (by decide) (hts _ q496) (fun _ h9 => h9) rfl (by decide +kernel) rfl rfl (Nat.le_of_ble_eq_true rfl) dX2_back_29 (fun H locs hP hD hS => ?_)
    have hP : va_P (dC, dI) vwCl [(h0, .inr (2, [.ref ro, .int (nI (n + 1))])), (ro, .inl (d, 4096, .inl (upd g n x)))] H := hP
    have hD : va_D A [(h0, .inr (2, [.ref ro, .int (nI (n + 1))])), (ro, .inl (d, 4096, .inl (upd g n x)))] := hD
    refine lv_iconst (v := nI 1) hx hb dX2_back_32 (by decide) ?_
    have hP9 := hP.sub (ws' := [(h0, .inr (2, [.ref ro, .int (nI (n + 1))])), (ro, .inl (d, 4096, .inl (upd g n x)))]) [0, 1] rfl
    have hD9 := hD.sub (ws' := [(h0, .inr (2, [.ref ro, .int (nI (n + 1))])), (ro, .inl (d, 4096, .inl (upd g n x)))]) [0, 1] (by decide) rfl
    have hK9 := hK.sub (tys' := [(d, .int)]) [0] rfl
    exact W.zret (v := nI 1) hx hb hr rfl (fun t ht hW => ⟨⟨nI 1, (n + 1, upd g n x), rfl, ⟨rfl, rfl, rfl⟩, by rw [ht]; exact hP9, va_K.moved hW.alike hK9, hD9⟩, hS.F ht⟩) hS.2.2 dX2_back_33
  · exact absurd c_7 (by intro q; have := cl_eqN (by omega) (by omega) q; omega)
set_option maxHeartbeats 4000000 in
set_option maxRecDepth 100000 in
/-- front(x): every number one place on, x at place 0 -/
theorem metX2_front (l : Launch) (dC : Nat → ClassId) (dI : Nat → Nat → Nat) (sz : Nat) (h0 ro : Nat) (d : ClassId) (n : Nat) (g : Nat → Int32) (hn : n ≤ 100) (x : Int32) : Met l yX2_front (ws_ yX2_front cX2_front 3 (some .boolean)) ({ frames := 0, cells := 0, slots := 0, locals := 0 } : Jvm.Room) (va_Pc [.ref h0, .int x] (fun U => U.heap.size = sz ∧ va_P (dC, dI) vwCl [(h0, .inr (2, [.ref ro, .int (nI n)])), (ro, .inl (d, 4096, .inl g))] U.heap ∧ va_K (dC, dI) vwCl [(d, .int)] U ∧ va_D (fun _ => True) [(h0, .inr (2, [.ref ro, .int (nI n)])), (ro, .inl (d, 4096, .inl g))])) (va_Qi (S := Nat × (Nat → Int32)) (fun (r : Int32) (u : Nat × (Nat → Int32)) => r = nI 1 ∧ u.1 = n + 1 ∧ ∀ j, j < n + 1 → u.2 j = cl_cons x g j) (cl_BM dC dI h0 ro d (va_A [(h0, .inr (2, [.ref ro, .int (nI n)])), (ro, .inl (d, 4096, .inl g))] sz)) (va_A [(h0, .inr (2, [.ref ro, .int (nI n)])), (ro, .inl (d, 4096, .inl g))] sz)) 0 0 (va_A [(h0, .inr (2, [.ref ro, .int (nI n)])), (ro, .inl (d, 4096, .inl g))] sz) := by
  refine Met.ofW (cc := cX2_front) (maxL := 3) (ret := (some .boolean)) (by decide) rfl ?_
  intro p e s m args below meth c s₁ B hml hv
  obtain ⟨rfl, hsz, hP, hK, hD0⟩ := hv
  have hx := B.exec
  have hb := B.bytes
  have hr := B.returns
  have hts := atoms_spec (ws := ws_ yX2_front cX2_front 3 (some .boolean)) B.pre
  have hts : ∀ w ∈ lw_all, w.before _ s = true := fun w h => hts w (List.mem_cons_of_mem _ h)
  have hown : s.vm.findClass RX2 = some m.cls := findClass_of_methodNamed B.named
  have hlocks := B.notSynchronized
  subst hsz
  have hD := hD0.self (sz := s.heap.size)
  generalize hAe : va_A [(h0, .inr (2, [.ref ro, .int (nI n)])), (ro, .inl (d, 4096, .inl g))] s.heap.size = A at hD ⊢
  have hA : ∀ q : Nat, s.heap.size ≤ q → A q := fun q h => by rw [← hAe]; exact Or.inr h
  have hS : va_S A s.heap s.heap [] := va_S.rf
  have hP : va_P (dC, dI) vwCl [(h0, .inr (2, [.ref ro, .int (nI n)])), (ro, .inl (d, 4096, .inl g))] s.heap := hP
  have hl := lv_entry ([.ref h0, .int x]) (n := 3) (Nat.le_of_ble_eq_true rfl)
  rw [lg_entry_eq]
  generalize (lg_sl ([.ref h0, .int x]) ++ List.replicate (3 - (lg_sl ([.ref h0, .int x])).length) Slot.unset).toArray = ls at hl ⊢
  have hl : lv_has ls 3 [(0, .ref h0), (1, .int x)] := hl
  refine lv_aload_n hx hb dX2_front_0 rfl (lv_at hl 0 rfl) ?_
  refine va_get (D := (dC, dI)) (ci := 2) (v := .int (nI n)) (C := RX2) (T := TX2) (N := 2) hx hb hts in_X2 hown hK hP 0 rfl rfl 1 (by decide) (hts _ q496) (fun _ h9 => h9) rfl dX2_front_1 ?_
  refine lv_sipush (v := nI 4096) hx hb dX2_front_4 (by decide) ?_
  refine lv_icmp_ne (tgt := 12) hx hb dX2_front_7 (by decide) (fun c_7 => ?_) (fun c_7 => ?_)
  · refine lv_aload_n hx hb dX2_front_12 rfl (lv_at hl 0 rfl) ?_
    refine va_get (D := (dC, dI)) (ci := 2) (v := .int (nI n)) (C := RX2) (T := TX2) (N := 2) hx hb hts in_X2 hown hK hP 0 rfl rfl 1 (by decide) (hts _ q496) (fun _ h9 => h9) rfl dX2_front_13 ?_
    refine lv_istore_n (lv' := [(2, .int (nI n)), (0, .ref h0), (1, .int x)]) hx hb dX2_front_16 rfl hl (by decide) rfl (fun ls hl => ?_)
    refine cl_down (I := fun (k : Nat) (H : Heap) (locs : List Loc) (ls : Array Slot) => ∃ r : Nat → Int32, k ≤ n ∧ (∀ j, r j = if k < j ∧ j ≤ n then g (j - 1) else g j) ∧ va_P (dC, dI) vwCl [(h0, .inr (2, [.ref ro, .int (nI n)])), (ro, .inl (d, 4096, .inl r))] H ∧ va_D A [(h0, .inr (2, [.ref ro, .int (nI n)])), (ro, .inl (d, 4096, .inl r))] ∧ va_S A s.heap H locs ∧ lv_has ls 3 [(2, .int (nI k)), (0, .ref h0), (1, .int x)]) (fun H locs ls hI => ?_) (fun k H locs ls hI ih => ?_) n _ _ _ ⟨g, Nat.le_refl n, fun j => (if_neg (by omega)).symm, hP, hD, hS, hl⟩
    · obtain ⟨r, hk, hr2, hP, hD, hS, hl⟩ := hI
      refine lv_iload_n hx hb dX2_front_17 rfl (lv_at hl 0 rfl) ?_
      refine lv_if_le (tgt := 41) hx hb dX2_front_18 (by decide) (fun c_18 => ?_) (fun c_18 => ?_)
      · refine lv_aload_n hx hb dX2_front_41 rfl (lv_at hl 1 rfl) ?_
        refine va_get (D := (dC, dI)) (ci := 2) (v := .ref ro) (C := RX2) (T := TX2) (N := 2) hx hb hts in_X2 hown hK hP 0 rfl rfl 0 (by decide) (hts _ q495) (fun _ h9 => h9) rfl dX2_front_42 ?_
        refine lv_iconst (v := nI 0) hx hb dX2_front_45 (by decide) ?_
        refine lv_iload_n hx hb dX2_front_46 rfl (lv_at hl 2 rfl) ?_
        refine va_iast hx hb hK hP hD hS 1 0 rfl rfl (vp_in_nI (n := 0) (N := 4096) (by omega) (by omega)) dX2_front_47 (fun H locs hP hD hS => ?_)
        have hP : va_P (dC, dI) vwCl [(h0, .inr (2, [.ref ro, .int (nI n)])), (ro, .inl (d, 4096, .inl (upd r (nI 0).toNatClampNeg x)))] H := hP
        have hD : va_D A [(h0, .inr (2, [.ref ro, .int (nI n)])), (ro, .inl (d, 4096, .inl (upd r (nI 0).toNatClampNeg x)))] := hD
        have hfe : upd r (nI 0).toNatClampNeg x = upd r 0 x := by rw [nI_clamp (by omega)]
        rw [hfe] at hP hD
        refine lv_aload_n hx hb dX2_front_48 rfl (lv_at hl 1 rfl) ?_
        refine lv_aload_n hx hb dX2_front_49 rfl (lv_at hl 1 rfl) ?_
        refine va_get (D := (dC, dI)) (ci := 2) (v := .int (nI n)) (C := RX2) (T := TX2) (N := 2) hx hb hts in_X2 hown hK hP 0 rfl rfl 1 (by decide) (hts _ q496) (fun _ h9 => h9) rfl dX2_front_50 ?_
        refine lv_iconst (v := nI 1) hx hb dX2_front_53 (by decide) ?_
        refine lv_iadd hx hb dX2_front_54 ?_
        refine cl_ti (y := nI (n + 1)) (nI_1 n) ?_
        refine va_put (D := (dC, dI)) (ci := 2) (v := .int (nI (n + 1))) (ty := .int) (C := RX2) (T := TX2) (N := 2) hx hb hts in_X2 tyX2 tyX2_ok nmX2 hown hK hP hD hS 0 rfl rfl 1 (by decide) (hts _ q496) (fun _ h9 => h9) rfl (by decide +kernel) rfl rfl (Nat.le_of_ble_eq_true rfl) dX2_front_55 (fun H locs hP hD hS => ?_)
        have hP : va_P (dC, dI) vwCl [(h0, .inr (2, [.ref ro, .int (nI (n + 1))])), (ro, .inl (d, 4096, .inl (upd r 0 x)))] H := hP
        have hD : va_D A [(h0, .inr (2, [.ref ro, .int (nI (n + 1))])), (ro, .inl (d, 4096, .inl (upd r 0 x)))] := hD
        refine lv_iconst (v := nI 1) hx hb dX2_front_58 (by decide) ?_
        have hfin : ∀ j, j < n + 1 → upd r 0 x j = cl_cons x g j := by
          intro j hj
          cases j with
          | zero => exact pk_us
          | succ j => rw [pk_un (by omega), hr2, if_pos (by omega)]; rfl
        have hP9 := hP.sub (ws' := [(h0, .inr (2, [.ref ro, .int (nI (n + 1))])), (ro, .inl (d, 4096, .inl (upd r 0 x)))]) [0, 1] rfl
        have hD9 := hD.sub (ws' := [(h0, .inr (2, [.ref ro, .int (nI (n + 1))])), (ro, .inl (d, 4096, .inl (upd r 0 x)))]) [0, 1] (by decide) rfl
        have hK9 := hK.sub (tys' := [(d, .int)]) [0] rfl
        exact W.zret (v := nI 1) hx hb hr rfl (fun t ht hW => ⟨⟨nI 1, (n + 1, upd r 0 x), rfl, ⟨rfl, rfl, hfin⟩, by rw [ht]; exact hP9, va_K.moved hW.alike hK9, hD9⟩, hS.F ht⟩) hS.2.2 dX2_front_59
      · exact absurd (by decide +kernel) c_18
    · obtain ⟨r, hk, hr2, hP, hD, hS, hl⟩ := hI
      refine lv_iload_n hx hb dX2_front_17 rfl (lv_at hl 0 rfl) ?_
      refine lv_if_le (tgt := 41) hx hb dX2_front_18 (by decide) (fun c_18 => ?_) (fun c_18 => ?_)
      · exact absurd c_18 (nI_nle (by omega) (by omega))
      · refine lv_aload_n hx hb dX2_front_21 rfl (lv_at hl 1 rfl) ?_
        refine va_get (D := (dC, dI)) (ci := 2) (v := .ref ro) (C := RX2) (T := TX2) (N := 2) hx hb hts in_X2 hown hK hP 0 rfl rfl 0 (by decide) (hts _ q495) (fun _ h9 => h9) rfl dX2_front_22 ?_
        refine lv_iload_n hx hb dX2_front_25 rfl (lv_at hl 0 rfl) ?_
        refine lv_aload_n hx hb dX2_front_26 rfl (lv_at hl 1 rfl) ?_
        refine va_get (D := (dC, dI)) (ci := 2) (v := .ref ro) (C := RX2) (T := TX2) (N := 2) hx hb hts in_X2 hown hK hP 0 rfl rfl 0 (by decide) (hts _ q495) (fun _ h9 => h9) rfl dX2_front_27 ?_
        refine lv_iload_n hx hb dX2_front_30 rfl (lv_at hl 0 rfl) ?_
        refine lv_iconst (v := nI 1) hx hb dX2_front_31 (by decide) ?_
        refine lv_isub hx hb dX2_front_32 ?_
        refine cl_ti (y := nI k) (nI_pred k) ?_
        refine va_iald hx hb hK hP 1 0 rfl rfl (vp_in_nI (n := k) (N := 4096) (by omega) (by omega)) dX2_front_33 ?_
        refine cl_ti (y := r k) (by rw [nI_clamp (by omega)]) ?_
        refine va_iast hx hb hK hP hD hS 1 0 rfl rfl (vp_in_nI (n := k + 1) (N := 4096) (by omega) (by omega)) dX2_front_34 (fun H locs hP hD hS => ?_)
        have hP : va_P (dC, dI) vwCl [(h0, .inr (2, [.ref ro, .int (nI n)])), (ro, .inl (d, 4096, .inl (upd r (nI (k + 1)).toNatClampNeg (r k))))] H := hP
        have hD : va_D A [(h0, .inr (2, [.ref ro, .int (nI n)])), (ro, .inl (d, 4096, .inl (upd r (nI (k + 1)).toNatClampNeg (r k))))] := hD
        have hfe : upd r (nI (k + 1)).toNatClampNeg (r k) = upd r (k + 1) (r k) := by rw [nI_clamp (by omega)]
        rw [hfe] at hP hD
        refine lv_iinc (v := nI k) (lv' := [(2, .int (nI k)), (0, .ref h0), (1, .int x)]) hx hb dX2_front_35 hl (k := 0) rfl (pk_m1 k) (by decide) rfl (fun ls hl => ?_)
        refine lv_goto (tgt := 17) hx hb dX2_front_38 (by decide) ?_
        refine ih _ _ _ ⟨upd r (k + 1) (r k), by omega, fun j => ?_, hP, hD, hS, hl⟩
        rcases Nat.lt_trichotomy j (k + 1) with q | q | q
        · rw [pk_un (by omega), hr2, if_neg (by omega), if_neg (by omega)]
        · rw [q, pk_us, hr2, if_neg (by omega), if_pos (by omega)]; rfl
        · rw [pk_un (by omega), hr2]
          rcases Nat.lt_or_ge n j with q2 | q2
          · rw [if_neg (by omega), if_neg (by omega)]
          · rw [if_pos (by omega), if_pos (by omega)]
  · exact absurd c_7 (by intro q; have := cl_eqN (by omega) (by omega) q; omega)
set_option maxHeartbeats 4000000 in
set_option maxRecDepth 100000 in
/-- takeFirst(): every number one place back -/
theorem metX2_takeFirst (l : Launch) (dC : Nat → ClassId) (dI : Nat → Nat → Nat) (sz : Nat) (h0 ro : Nat) (d : ClassId) (n : Nat) (g : Nat → Int32) (hn : n ≤ 100) : Met l yX2_takeFirst (ws_ yX2_takeFirst cX2_takeFirst 3 (some .int)) ({ frames := 0, cells := 0, slots := 0, locals := 0 } : Jvm.Room) (va_Pc [.ref h0] (fun U => U.heap.size = sz ∧ va_P (dC, dI) vwCl [(h0, .inr (2, [.ref ro, .int (nI n)])), (ro, .inl (d, 4096, .inl g))] U.heap ∧ va_K (dC, dI) vwCl [(d, .int)] U ∧ va_D (fun _ => True) [(h0, .inr (2, [.ref ro, .int (nI n)])), (ro, .inl (d, 4096, .inl g))])) (va_Qi (S := Nat × (Nat → Int32)) (fun (r : Int32) (u : Nat × (Nat → Int32)) => (n = 0 → r = nI 0 ∧ u.1 = 0) ∧ (0 < n → r = g 0 ∧ u.1 = n - 1 ∧ ∀ j, j < n - 1 → u.2 j = g (j + 1))) (cl_BM dC dI h0 ro d (va_A [(h0, .inr (2, [.ref ro, .int (nI n)])), (ro, .inl (d, 4096, .inl g))] sz)) (va_A [(h0, .inr (2, [.ref ro, .int (nI n)])), (ro, .inl (d, 4096, .inl g))] sz)) 0 0 (va_A [(h0, .inr (2, [.ref ro, .int (nI n)])), (ro, .inl (d, 4096, .inl g))] sz) := by
  refine Met.ofW (cc := cX2_takeFirst) (maxL := 3) (ret := (some .int)) (by decide) rfl ?_
  intro p e s m args below meth c s₁ B hml hv
  obtain ⟨rfl, hsz, hP, hK, hD0⟩ := hv
  have hx := B.exec
  have hb := B.bytes
  have hr := B.returns
  have hts := atoms_spec (ws := ws_ yX2_takeFirst cX2_takeFirst 3 (some .int)) B.pre
  have hts : ∀ w ∈ lw_all, w.before _ s = true := fun w h => hts w (List.mem_cons_of_mem _ h)
  have hown : s.vm.findClass RX2 = some m.cls := findClass_of_methodNamed B.named
  have hlocks := B.notSynchronized
  subst hsz
  have hD := hD0.self (sz := s.heap.size)
  generalize hAe : va_A [(h0, .inr (2, [.ref ro, .int (nI n)])), (ro, .inl (d, 4096, .inl g))] s.heap.size = A at hD ⊢
  have hA : ∀ q : Nat, s.heap.size ≤ q → A q := fun q h => by rw [← hAe]; exact Or.inr h
  have hS : va_S A s.heap s.heap [] := va_S.rf
  have hP : va_P (dC, dI) vwCl [(h0, .inr (2, [.ref ro, .int (nI n)])), (ro, .inl (d, 4096, .inl g))] s.heap := hP
  have hl := lv_entry ([.ref h0]) (n := 3) (Nat.le_of_ble_eq_true rfl)
  rw [lg_entry_eq]
  generalize (lg_sl ([.ref h0]) ++ List.replicate (3 - (lg_sl ([.ref h0])).length) Slot.unset).toArray = ls at hl ⊢
  have hl : lv_has ls 3 [(0, .ref h0)] := hl
  refine lv_aload_n hx hb dX2_takeFirst_0 rfl (lv_at hl 0 rfl) ?_
  refine va_get (D := (dC, dI)) (ci := 2) (v := .int (nI n)) (C := RX2) (T := TX2) (N := 2) hx hb hts in_X2 hown hK hP 0 rfl rfl 1 (by decide) (hts _ q496) (fun _ h9 => h9) rfl dX2_takeFirst_1 ?_
  refine lv_if_ne (tgt := 9) hx hb dX2_takeFirst_4 (by decide) (fun c_4 => ?_) (fun c_4 => ?_)
  · have hn0 := cl_nz c_4
    refine lv_aload_n hx hb dX2_takeFirst_9 rfl (lv_at hl 0 rfl) ?_
    refine va_get (D := (dC, dI)) (ci := 2) (v := .ref ro) (C := RX2) (T := TX2) (N := 2) hx hb hts in_X2 hown hK hP 0 rfl rfl 0 (by decide) (hts _ q495) (fun _ h9 => h9) rfl dX2_takeFirst_10 ?_
    refine lv_iconst (v := nI 0) hx hb dX2_takeFirst_13 (by decide) ?_
    refine va_iald hx hb hK hP 1 0 rfl rfl (vp_in_nI (n := 0) (N := 4096) (by omega) (by omega)) dX2_takeFirst_14 ?_
    refine cl_ti (y := g 0) (by rw [nI_clamp (by omega)]) ?_
    refine lv_istore_n (lv' := [(1, .int (g 0)), (0, .ref h0)]) hx hb dX2_takeFirst_15 rfl hl (by decide) rfl (fun ls hl => ?_)
    refine lv_aload_n hx hb dX2_takeFirst_16 rfl (lv_at hl 1 rfl) ?_
    refine lv_aload_n hx hb dX2_takeFirst_17 rfl (lv_at hl 1 rfl) ?_
    refine va_get (D := (dC, dI)) (ci := 2) (v := .int (nI n)) (C := RX2) (T := TX2) (N := 2) hx hb hts in_X2 hown hK hP 0 rfl rfl 1 (by decide) (hts _ q496) (fun _ h9 => h9) rfl dX2_takeFirst_18 ?_
    refine lv_iconst (v := nI 1) hx hb dX2_takeFirst_21 (by decide) ?_
    refine lv_isub hx hb dX2_takeFirst_22 ?_
    refine cl_ti (y := nI (n - 1)) (pk_sub (a := n) (b := 1) (by omega)) ?_
    refine va_put (D := (dC, dI)) (ci := 2) (v := .int (nI (n - 1))) (ty := .int) (C := RX2) (T := TX2) (N := 2) hx hb hts in_X2 tyX2 tyX2_ok nmX2 hown hK hP hD hS 0 rfl rfl 1 (by decide) (hts _ q496) (fun _ h9 => h9) rfl (by decide +kernel) rfl rfl (Nat.le_of_ble_eq_true rfl) dX2_takeFirst_23 (fun H locs hP hD hS => ?_)
    have hP : va_P (dC, dI) vwCl [(h0, .inr (2, [.ref ro, .int (nI (n - 1))])), (ro, .inl (d, 4096, .inl g))] H := hP
    have hD : va_D A [(h0, .inr (2, [.ref ro, .int (nI (n - 1))])), (ro, .inl (d, 4096, .inl g))] := hD
    refine lv_iconst (v := nI 0) hx hb dX2_takeFirst_26 (by decide) ?_
    refine lv_istore_n (lv' := [(2, .int (nI 0)), (1, .int (g 0)), (0, .ref h0)]) hx hb dX2_takeFirst_27 rfl hl (by decide) rfl (fun ls hl => ?_)
    refine cl_down (I := fun (z : Nat) (H : Heap) (locs : List Loc) (ls : Array Slot) => ∃ (k : Nat) (r : Nat → Int32), k + z = n - 1 ∧ (∀ j, r j = if j < k then g (j + 1) else g j) ∧ va_P (dC, dI) vwCl [(h0, .inr (2, [.ref ro, .int (nI (n - 1))])), (ro, .inl (d, 4096, .inl r))] H ∧ va_D A [(h0, .inr (2, [.ref ro, .int (nI (n - 1))])), (ro, .inl (d, 4096, .inl r))] ∧ va_S A s.heap H locs ∧ lv_has ls 3 [(2, .int (nI k)), (1, .int (g 0)), (0, .ref h0)]) (fun H locs ls hI => ?_) (fun z H locs ls hI ih => ?_) (n - 1) _ _ _ ⟨0, g, by omega, fun j => (if_neg (by omega)).symm, hP, hD, hS, hl⟩
    · obtain ⟨k, r, hk, hr2, hP, hD, hS, hl⟩ := hI
      refine lv_iload_n hx hb dX2_takeFirst_28 rfl (lv_at hl 0 rfl) ?_
      refine lv_aload_n hx hb dX2_takeFirst_29 rfl (lv_at hl 2 rfl) ?_
      refine va_get (D := (dC, dI)) (ci := 2) (v := .int (nI (n - 1))) (C := RX2) (T := TX2) (N := 2) hx hb hts in_X2 hown hK hP 0 rfl rfl 1 (by decide) (hts _ q496) (fun _ h9 => h9) rfl dX2_takeFirst_30 ?_
      refine lv_icmp_ge (tgt := 56) hx hb dX2_takeFirst_33 (by decide) (fun c_33 => ?_) (fun c_33 => ?_)
      · refine lv_iload_n hx hb dX2_takeFirst_56 rfl (lv_at hl 1 rfl) ?_
        have hP9 := hP.sub (ws' := [(h0, .inr (2, [.ref ro, .int (nI (n - 1))])), (ro, .inl (d, 4096, .inl r))]) [0, 1] rfl
        have hD9 := hD.sub (ws' := [(h0, .inr (2, [.ref ro, .int (nI (n - 1))])), (ro, .inl (d, 4096, .inl r))]) [0, 1] (by decide) rfl
        have hK9 := hK.sub (tys' := [(d, .int)]) [0] rfl
        exact W.iret (v := g 0) hx hb hr (fun t ht hW => ⟨⟨g 0, (n - 1, r), rfl, ⟨fun q => absurd q (by omega), fun _ => ⟨rfl, rfl, fun j hj => (hr2 j).trans (if_pos (by omega))⟩⟩, by rw [ht]; exact hP9, va_K.moved hW.alike hK9, hD9⟩, hS.F ht⟩) hS.2.2 dX2_takeFirst_57
      · exact absurd (nI_le (a := n - 1) (b := k) (by omega) (by omega)) c_33
    · obtain ⟨k, r, hk, hr2, hP, hD, hS, hl⟩ := hI
      refine lv_iload_n hx hb dX2_takeFirst_28 rfl (lv_at hl 0 rfl) ?_
      refine lv_aload_n hx hb dX2_takeFirst_29 rfl (lv_at hl 2 rfl) ?_
      refine va_get (D := (dC, dI)) (ci := 2) (v := .int (nI (n - 1))) (C := RX2) (T := TX2) (N := 2) hx hb hts in_X2 hown hK hP 0 rfl rfl 1 (by decide) (hts _ q496) (fun _ h9 => h9) rfl dX2_takeFirst_30 ?_
      refine lv_icmp_ge (tgt := 56) hx hb dX2_takeFirst_33 (by decide) (fun c_33 => ?_) (fun c_33 => ?_)
      · exact absurd c_33 (nI_ge (a := k) (b := n - 1) (by omega) (by omega))
      · refine lv_aload_n hx hb dX2_takeFirst_36 rfl (lv_at hl 2 rfl) ?_
        refine va_get (D := (dC, dI)) (ci := 2) (v := .ref ro) (C := RX2) (T := TX2) (N := 2) hx hb hts in_X2 hown hK hP 0 rfl rfl 0 (by decide) (hts _ q495) (fun _ h9 => h9) rfl dX2_takeFirst_37 ?_
        refine lv_iload_n hx hb dX2_takeFirst_40 rfl (lv_at hl 0 rfl) ?_
        refine lv_aload_n hx hb dX2_takeFirst_41 rfl (lv_at hl 2 rfl) ?_
        refine va_get (D := (dC, dI)) (ci := 2) (v := .ref ro) (C := RX2) (T := TX2) (N := 2) hx hb hts in_X2 hown hK hP 0 rfl rfl 0 (by decide) (hts _ q495) (fun _ h9 => h9) rfl dX2_takeFirst_42 ?_
        refine lv_iload_n hx hb dX2_takeFirst_45 rfl (lv_at hl 0 rfl) ?_
        refine lv_iconst (v := nI 1) hx hb dX2_takeFirst_46 (by decide) ?_
        refine lv_iadd hx hb dX2_takeFirst_47 ?_
        refine cl_ti (y := nI (k + 1)) (nI_1 k) ?_
        refine va_iald hx hb hK hP 1 0 rfl rfl (vp_in_nI (n := k + 1) (N := 4096) (by omega) (by omega)) dX2_takeFirst_48 ?_
        refine cl_ti (y := r (k + 1)) (by rw [nI_clamp (by omega)]) ?_
        refine va_iast hx hb hK hP hD hS 1 0 rfl rfl (vp_in_nI (n := k) (N := 4096) (by omega) (by omega)) dX2_takeFirst_49 (fun H locs hP hD hS => ?_)
        have hP : va_P (dC, dI) vwCl [(h0, .inr (2, [.ref ro, .int (nI (n - 1))])), (ro, .inl (d, 4096, .inl (upd r (nI k).toNatClampNeg (r (k + 1)))))] H := hP
        have hD : va_D A [(h0, .inr (2, [.ref ro, .int (nI (n - 1))])), (ro, .inl (d, 4096, .inl (upd r (nI k).toNatClampNeg (r (k + 1)))))] := hD
        have hfe : upd r (nI k).toNatClampNeg (r (k + 1)) = upd r k (r (k + 1)) := by rw [nI_clamp (by omega)]
        rw [hfe] at hP hD
        refine lv_iinc (v := nI (k + 1)) (lv' := [(2, .int (nI (k + 1))), (1, .int (g 0)), (0, .ref h0)]) hx hb dX2_takeFirst_50 hl (k := 0) rfl (nI_1 k) (by decide) rfl (fun ls hl => ?_)
        refine lv_goto (tgt := 28) hx hb dX2_takeFirst_53 (by decide) ?_
        refine ih _ _ _ ⟨k + 1, upd r k (r (k + 1)), by omega, fun j => ?_, hP, hD, hS, hl⟩
        rcases Nat.lt_trichotomy j k with q | q | q
        · rw [pk_un (by omega), hr2, if_pos (by omega), if_pos (by omega)]
        · rw [q, pk_us, hr2, if_neg (by omega), if_pos (by omega)]
        · rw [pk_un (by omega), hr2, if_neg (by omega), if_neg (by omega)]
  · have hn0 := cl_z (by omega) c_4
    refine lv_iconst (v := nI 0) hx hb dX2_takeFirst_7 (by decide) ?_
    have hP9 := hP.sub (ws' := [(h0, .inr (2, [.ref ro, .int (nI n)])), (ro, .inl (d, 4096, .inl g))]) [0, 1] rfl
    have hD9 := hD.sub (ws' := [(h0, .inr (2, [.ref ro, .int (nI n)])), (ro, .inl (d, 4096, .inl g))]) [0, 1] (by decide) rfl
    have hK9 := hK.sub (tys' := [(d, .int)]) [0] rfl
    exact W.iret (v := nI 0) hx hb hr (fun t ht hW => ⟨⟨nI 0, (n, g), rfl, ⟨fun q => ⟨rfl, q⟩, fun q => absurd q (by omega)⟩, by rw [ht]; exact hP9, va_K.moved hW.alike hK9, hD9⟩, hS.F ht⟩) hS.2.2 dX2_takeFirst_8
set_option maxHeartbeats 4000000 in
set_option maxRecDepth 100000 in
/-- takeLast() -/
theorem metX2_takeLast (l : Launch) (dC : Nat → ClassId) (dI : Nat → Nat → Nat) (sz : Nat) (h0 ro : Nat) (d : ClassId) (n : Nat) (g : Nat → Int32) (hn : n ≤ 100) : Met l yX2_takeLast (ws_ yX2_takeLast cX2_takeLast 1 (some .int)) ({ frames := 0, cells := 0, slots := 0, locals := 0 } : Jvm.Room) (va_Pc [.ref h0] (fun U => U.heap.size = sz ∧ va_P (dC, dI) vwCl [(h0, .inr (2, [.ref ro, .int (nI n)])), (ro, .inl (d, 4096, .inl g))] U.heap ∧ va_K (dC, dI) vwCl [(d, .int)] U ∧ va_D (fun _ => True) [(h0, .inr (2, [.ref ro, .int (nI n)])), (ro, .inl (d, 4096, .inl g))])) (va_Qi (S := Nat × (Nat → Int32)) (fun (r : Int32) (u : Nat × (Nat → Int32)) => u.2 = g ∧ (n = 0 → r = nI 0 ∧ u.1 = 0) ∧ (0 < n → r = g (n - 1) ∧ u.1 = n - 1)) (cl_BM dC dI h0 ro d (va_A [(h0, .inr (2, [.ref ro, .int (nI n)])), (ro, .inl (d, 4096, .inl g))] sz)) (va_A [(h0, .inr (2, [.ref ro, .int (nI n)])), (ro, .inl (d, 4096, .inl g))] sz)) 0 0 (va_A [(h0, .inr (2, [.ref ro, .int (nI n)])), (ro, .inl (d, 4096, .inl g))] sz) := by
  refine Met.ofW (cc := cX2_takeLast) (maxL := 1) (ret := (some .int)) (by decide) rfl ?_
  intro p e s m args below meth c s₁ B hml hv
  obtain ⟨rfl, hsz, hP, hK, hD0⟩ := hv
  have hx := B.exec
  have hb := B.bytes
  have hr := B.returns
  have hts := atoms_spec (ws := ws_ yX2_takeLast cX2_takeLast 1 (some .int)) B.pre
  have hts : ∀ w ∈ lw_all, w.before _ s = true := fun w h => hts w (List.mem_cons_of_mem _ h)
  have hown : s.vm.findClass RX2 = some m.cls := findClass_of_methodNamed B.named
  have hlocks := B.notSynchronized
  subst hsz
  have hD := hD0.self (sz := s.heap.size)
  generalize hAe : va_A [(h0, .inr (2, [.ref ro, .int (nI n)])), (ro, .inl (d, 4096, .inl g))] s.heap.size = A at hD ⊢
  have hA : ∀ q : Nat, s.heap.size ≤ q → A q := fun q h => by rw [← hAe]; exact Or.inr h
  have hS : va_S A s.heap s.heap [] := va_S.rf
  have hP : va_P (dC, dI) vwCl [(h0, .inr (2, [.ref ro, .int (nI n)])), (ro, .inl (d, 4096, .inl g))] s.heap := hP
  have hl := lv_entry ([.ref h0]) (n := 1) (Nat.le_of_ble_eq_true rfl)
  rw [lg_entry_eq]
  generalize (lg_sl ([.ref h0]) ++ List.replicate (1 - (lg_sl ([.ref h0])).length) Slot.unset).toArray = ls at hl ⊢
  have hl : lv_has ls 1 [(0, .ref h0)] := hl
  refine lv_aload_n hx hb dX2_takeLast_0 rfl (lv_at hl 0 rfl) ?_
  refine va_get (D := (dC, dI)) (ci := 2) (v := .int (nI n)) (C := RX2) (T := TX2) (N := 2) hx hb hts in_X2 hown hK hP 0 rfl rfl 1 (by decide) (hts _ q496) (fun _ h9 => h9) rfl dX2_takeLast_1 ?_
  refine lv_if_ne (tgt := 9) hx hb dX2_takeLast_4 (by decide) (fun c_4 => ?_) (fun c_4 => ?_)
  · have hn0 := cl_nz c_4
    refine lv_aload_n hx hb dX2_takeLast_9 rfl (lv_at hl 0 rfl) ?_
    refine lv_aload_n hx hb dX2_takeLast_10 rfl (lv_at hl 0 rfl) ?_
    refine va_get (D := (dC, dI)) (ci := 2) (v := .int (nI n)) (C := RX2) (T := TX2) (N := 2) hx hb hts in_X2 hown hK hP 0 rfl rfl 1 (by decide) (hts _ q496) (fun _ h9 => h9) rfl dX2_takeLast_11 ?_
    refine lv_iconst (v := nI 1) hx hb dX2_takeLast_14 (by decide) ?_
    refine lv_isub hx hb dX2_takeLast_15 ?_
    refine cl_ti (y := nI (n - 1)) (pk_sub (a := n) (b := 1) (by omega)) ?_
    refine va_put (D := (dC, dI)) (ci := 2) (v := .int (nI (n - 1))) (ty := .int) (C := RX2) (T := TX2) (N := 2) hx hb hts in_X2 tyX2 tyX2_ok nmX2 hown hK hP hD hS 0 rfl rfl 1 (by decide) (hts _ q496) (fun _ h9 => h9) rfl (by decide +kernel) rfl rfl (Nat.le_of_ble_eq_true rfl) dX2_takeLast_16 (fun H locs hP hD hS => ?_)
    have hP : va_P (dC, dI) vwCl [(h0, .inr (2, [.ref ro, .int (nI (n - 1))])), (ro, .inl (d, 4096, .inl g))] H := hP
    have hD : va_D A [(h0, .inr (2, [.ref ro, .int (nI (n - 1))])), (ro, .inl (d, 4096, .inl g))] := hD
    refine lv_aload_n hx hb dX2_takeLast_19 rfl (lv_at hl 0 rfl) ?_
    refine va_get (D := (dC, dI)) (ci := 2) (v := .ref ro) (C := RX2) (T := TX2) (N := 2) hx hb hts in_X2 hown hK hP 0 rfl rfl 0 (by decide) (hts _ q495) (fun _ h9 => h9) rfl dX2_takeLast_20 ?_
    refine lv_aload_n hx hb dX2_takeLast_23 rfl (lv_at hl 0 rfl) ?_
    refine va_get (D := (dC, dI)) (ci := 2) (v := .int (nI (n - 1))) (C := RX2) (T := TX2) (N := 2) hx hb hts in_X2 hown hK hP 0 rfl rfl 1 (by decide) (hts _ q496) (fun _ h9 => h9) rfl dX2_takeLast_24 ?_
    refine va_iald hx hb hK hP 1 0 rfl rfl (vp_in_nI (n := n - 1) (N := 4096) (by omega) (by omega)) dX2_takeLast_27 ?_
    refine cl_ti (y := g (n - 1)) (by rw [nI_clamp (by omega)]) ?_
    have hP9 := hP.sub (ws' := [(h0, .inr (2, [.ref ro, .int (nI (n - 1))])), (ro, .inl (d, 4096, .inl g))]) [0, 1] rfl
    have hD9 := hD.sub (ws' := [(h0, .inr (2, [.ref ro, .int (nI (n - 1))])), (ro, .inl (d, 4096, .inl g))]) [0, 1] (by decide) rfl
    have hK9 := hK.sub (tys' := [(d, .int)]) [0] rfl
    exact W.iret (v := g (n - 1)) hx hb hr (fun t ht hW => ⟨⟨g (n - 1), (n - 1, g), rfl, ⟨rfl, fun q => absurd q (by omega), fun _ => ⟨rfl, rfl⟩⟩, by rw [ht]; exact hP9, va_K.moved hW.alike hK9, hD9⟩, hS.F ht⟩) hS.2.2 dX2_takeLast_28
  · have hn0 := cl_z (by omega) c_4
    refine lv_iconst (v := nI 0) hx hb dX2_takeLast_7 (by decide) ?_
    have hP9 := hP.sub (ws' := [(h0, .inr (2, [.ref ro, .int (nI n)])), (ro, .inl (d, 4096, .inl g))]) [0, 1] rfl
    have hD9 := hD.sub (ws' := [(h0, .inr (2, [.ref ro, .int (nI n)])), (ro, .inl (d, 4096, .inl g))]) [0, 1] (by decide) rfl
    have hK9 := hK.sub (tys' := [(d, .int)]) [0] rfl
    exact W.iret (v := nI 0) hx hb hr (fun t ht hW => ⟨⟨nI 0, (n, g), rfl, ⟨rfl, fun q => ⟨rfl, q⟩, fun q => absurd q (by omega)⟩, by rw [ht]; exact hP9, va_K.moved hW.alike hK9, hD9⟩, hS.F ht⟩) hS.2.2 dX2_takeLast_8
set_option maxHeartbeats 4000000 in
set_option maxRecDepth 100000 in
/-- first() -/
theorem metX2_first (l : Launch) (dC : Nat → ClassId) (dI : Nat → Nat → Nat) (sz : Nat) (h0 ro : Nat) (d : ClassId) (n : Nat) (g : Nat → Int32) (hn : n ≤ 100) : Met l yX2_first (ws_ yX2_first cX2_first 1 (some .int)) ({ frames := 0, cells := 0, slots := 0, locals := 0 } : Jvm.Room) (va_Pc [.ref h0] (fun U => U.heap.size = sz ∧ va_P (dC, dI) vwCl [(h0, .inr (2, [.ref ro, .int (nI n)])), (ro, .inl (d, 4096, .inl g))] U.heap ∧ va_K (dC, dI) vwCl [(d, .int)] U ∧ va_D (fun _ => True) [(h0, .inr (2, [.ref ro, .int (nI n)])), (ro, .inl (d, 4096, .inl g))])) (va_Qi (S := Unit) (fun (r : Int32) (_ : Unit) => (n = 0 → r = nI 0) ∧ (0 < n → r = g 0)) (cl_BW dC dI [(d, .int)] [(h0, .inr (2, [.ref ro, .int (nI n)])), (ro, .inl (d, 4096, .inl g))] (va_A [(h0, .inr (2, [.ref ro, .int (nI n)])), (ro, .inl (d, 4096, .inl g))] sz)) (va_A [(h0, .inr (2, [.ref ro, .int (nI n)])), (ro, .inl (d, 4096, .inl g))] sz)) 0 0 (va_A [(h0, .inr (2, [.ref ro, .int (nI n)])), (ro, .inl (d, 4096, .inl g))] sz) := by
  refine Met.ofW (cc := cX2_first) (maxL := 1) (ret := (some .int)) (by decide) rfl ?_
  intro p e s m args below meth c s₁ B hml hv
  obtain ⟨rfl, hsz, hP, hK, hD0⟩ := hv
  have hx := B.exec
  have hb := B.bytes
  have hr := B.returns
  have hts := atoms_spec (ws := ws_ yX2_first cX2_first 1 (some .int)) B.pre
  have hts : ∀ w ∈ lw_all, w.before _ s = true := fun w h => hts w (List.mem_cons_of_mem _ h)
  have hown : s.vm.findClass RX2 = some m.cls := findClass_of_methodNamed B.named
  have hlocks := B.notSynchronized
  subst hsz
  have hD := hD0.self (sz := s.heap.size)
  generalize hAe : va_A [(h0, .inr (2, [.ref ro, .int (nI n)])), (ro, .inl (d, 4096, .inl g))] s.heap.size = A at hD ⊢
  have hA : ∀ q : Nat, s.heap.size ≤ q → A q := fun q h => by rw [← hAe]; exact Or.inr h
  have hS : va_S A s.heap s.heap [] := va_S.rf
  have hP : va_P (dC, dI) vwCl [(h0, .inr (2, [.ref ro, .int (nI n)])), (ro, .inl (d, 4096, .inl g))] s.heap := hP
  have hl := lv_entry ([.ref h0]) (n := 1) (Nat.le_of_ble_eq_true rfl)
  rw [lg_entry_eq]
  generalize (lg_sl ([.ref h0]) ++ List.replicate (1 - (lg_sl ([.ref h0])).length) Slot.unset).toArray = ls at hl ⊢
  have hl : lv_has ls 1 [(0, .ref h0)] := hl
  refine lv_aload_n hx hb dX2_first_0 rfl (lv_at hl 0 rfl) ?_
  refine va_get (D := (dC, dI)) (ci := 2) (v := .int (nI n)) (C := RX2) (T := TX2) (N := 2) hx hb hts in_X2 hown hK hP 0 rfl rfl 1 (by decide) (hts _ q496) (fun _ h9 => h9) rfl dX2_first_1 ?_
  refine lv_if_ne (tgt := 11) hx hb dX2_first_4 (by decide) (fun c_4 => ?_) (fun c_4 => ?_)
  · have hn0 := cl_nz c_4
    refine lv_aload_n hx hb dX2_first_11 rfl (lv_at hl 0 rfl) ?_
    refine va_get (D := (dC, dI)) (ci := 2) (v := .ref ro) (C := RX2) (T := TX2) (N := 2) hx hb hts in_X2 hown hK hP 0 rfl rfl 0 (by decide) (hts _ q495) (fun _ h9 => h9) rfl dX2_first_12 ?_
    refine lv_iconst (v := nI 0) hx hb dX2_first_15 (by decide) ?_
    refine va_iald hx hb hK hP 1 0 rfl rfl (vp_in_nI (n := 0) (N := 4096) (by omega) (by omega)) dX2_first_16 ?_
    refine cl_ti (y := g 0) (by rw [nI_clamp (by omega)]) ?_
    have hP9 := hP.sub (ws' := [(h0, .inr (2, [.ref ro, .int (nI n)])), (ro, .inl (d, 4096, .inl g))]) [0, 1] rfl
    have hD9 := hD.sub (ws' := [(h0, .inr (2, [.ref ro, .int (nI n)])), (ro, .inl (d, 4096, .inl g))]) [0, 1] (by decide) rfl
    have hK9 := hK.sub (tys' := [(d, .int)]) [0] rfl
    exact W.iret (v := g 0) hx hb hr (fun t ht hW => ⟨⟨g 0, (()), rfl, ⟨fun q => absurd q (by omega), fun _ => rfl⟩, by rw [ht]; exact hP9, va_K.moved hW.alike hK9, hD9⟩, hS.F ht⟩) hS.2.2 dX2_first_17
  · have hn0 := cl_z (by omega) c_4
    refine lv_iconst (v := nI 0) hx hb dX2_first_7 (by decide) ?_
    refine lv_goto (tgt := 17) hx hb dX2_first_8 (by decide) ?_
    have hP9 := hP.sub (ws' := [(h0, .inr (2, [.ref ro, .int (nI n)])), (ro, .inl (d, 4096, .inl g))]) [0, 1] rfl
    have hD9 := hD.sub (ws' := [(h0, .inr (2, [.ref ro, .int (nI n)])), (ro, .inl (d, 4096, .inl g))]) [0, 1] (by decide) rfl
    have hK9 := hK.sub (tys' := [(d, .int)]) [0] rfl
    exact W.iret (v := nI 0) hx hb hr (fun t ht hW => ⟨⟨nI 0, (()), rfl, ⟨fun _ => rfl, fun q => absurd q (by omega)⟩, by rw [ht]; exact hP9, va_K.moved hW.alike hK9, hD9⟩, hS.F ht⟩) hS.2.2 dX2_first_17
set_option maxHeartbeats 4000000 in
set_option maxRecDepth 100000 in
/-- last() -/
theorem metX2_last (l : Launch) (dC : Nat → ClassId) (dI : Nat → Nat → Nat) (sz : Nat) (h0 ro : Nat) (d : ClassId) (n : Nat) (g : Nat → Int32) (hn : n ≤ 100) : Met l yX2_last (ws_ yX2_last cX2_last 1 (some .int)) ({ frames := 0, cells := 0, slots := 0, locals := 0 } : Jvm.Room) (va_Pc [.ref h0] (fun U => U.heap.size = sz ∧ va_P (dC, dI) vwCl [(h0, .inr (2, [.ref ro, .int (nI n)])), (ro, .inl (d, 4096, .inl g))] U.heap ∧ va_K (dC, dI) vwCl [(d, .int)] U ∧ va_D (fun _ => True) [(h0, .inr (2, [.ref ro, .int (nI n)])), (ro, .inl (d, 4096, .inl g))])) (va_Qi (S := Unit) (fun (r : Int32) (_ : Unit) => (n = 0 → r = nI 0) ∧ (0 < n → r = g (n - 1))) (cl_BW dC dI [(d, .int)] [(h0, .inr (2, [.ref ro, .int (nI n)])), (ro, .inl (d, 4096, .inl g))] (va_A [(h0, .inr (2, [.ref ro, .int (nI n)])), (ro, .inl (d, 4096, .inl g))] sz)) (va_A [(h0, .inr (2, [.ref ro, .int (nI n)])), (ro, .inl (d, 4096, .inl g))] sz)) 0 0 (va_A [(h0, .inr (2, [.ref ro, .int (nI n)])), (ro, .inl (d, 4096, .inl g))] sz) := by
  refine Met.ofW (cc := cX2_last) (maxL := 1) (ret := (some .int)) (by decide) rfl ?_
  intro p e s m args below meth c s₁ B hml hv
  obtain ⟨rfl, hsz, hP, hK, hD0⟩ := hv
  have hx := B.exec
  have hb := B.bytes
  have hr := B.returns
  have hts := atoms_spec (ws := ws_ yX2_last cX2_last 1 (some .int)) B.pre
  have hts : ∀ w ∈ lw_all, w.before _ s = true := fun w h => hts w (List.mem_cons_of_mem _ h)
  have hown : s.vm.findClass RX2 = some m.cls := findClass_of_methodNamed B.named
  have hlocks := B.notSynchronized
  subst hsz
  have hD := hD0.self (sz := s.heap.size)
  generalize hAe : va_A [(h0, .inr (2, [.ref ro, .int (nI n)])), (ro, .inl (d, 4096, .inl g))] s.heap.size = A at hD ⊢
  have hA : ∀ q : Nat, s.heap.size ≤ q → A q := fun q h => by rw [← hAe]; exact Or.inr h
  have hS : va_S A s.heap s.heap [] := va_S.rf
  have hP : va_P (dC, dI) vwCl [(h0, .inr (2, [.ref ro, .int (nI n)])), (ro, .inl (d, 4096, .inl g))] s.heap := hP
  have hl := lv_entry ([.ref h0]) (n := 1) (Nat.le_of_ble_eq_true rfl)
  rw [lg_entry_eq]
  generalize (lg_sl ([.ref h0]) ++ List.replicate (1 - (lg_sl ([.ref h0])).length) Slot.unset).toArray = ls at hl ⊢
  have hl : lv_has ls 1 [(0, .ref h0)] := hl
  refine lv_aload_n hx hb dX2_last_0 rfl (lv_at hl 0 rfl) ?_
  refine va_get (D := (dC, dI)) (ci := 2) (v := .int (nI n)) (C := RX2) (T := TX2) (N := 2) hx hb hts in_X2 hown hK hP 0 rfl rfl 1 (by decide) (hts _ q496) (fun _ h9 => h9) rfl dX2_last_1 ?_
  refine lv_if_ne (tgt := 11) hx hb dX2_last_4 (by decide) (fun c_4 => ?_) (fun c_4 => ?_)
  · have hn0 := cl_nz c_4
    refine lv_aload_n hx hb dX2_last_11 rfl (lv_at hl 0 rfl) ?_
    refine va_get (D := (dC, dI)) (ci := 2) (v := .ref ro) (C := RX2) (T := TX2) (N := 2) hx hb hts in_X2 hown hK hP 0 rfl rfl 0 (by decide) (hts _ q495) (fun _ h9 => h9) rfl dX2_last_12 ?_
    refine lv_aload_n hx hb dX2_last_15 rfl (lv_at hl 0 rfl) ?_
    refine va_get (D := (dC, dI)) (ci := 2) (v := .int (nI n)) (C := RX2) (T := TX2) (N := 2) hx hb hts in_X2 hown hK hP 0 rfl rfl 1 (by decide) (hts _ q496) (fun _ h9 => h9) rfl dX2_last_16 ?_
    refine lv_iconst (v := nI 1) hx hb dX2_last_19 (by decide) ?_
    refine lv_isub hx hb dX2_last_20 ?_
    refine cl_ti (y := nI (n - 1)) (pk_sub (a := n) (b := 1) (by omega)) ?_
    refine va_iald hx hb hK hP 1 0 rfl rfl (vp_in_nI (n := n - 1) (N := 4096) (by omega) (by omega)) dX2_last_21 ?_
    refine cl_ti (y := g (n - 1)) (by rw [nI_clamp (by omega)]) ?_
    have hP9 := hP.sub (ws' := [(h0, .inr (2, [.ref ro, .int (nI n)])), (ro, .inl (d, 4096, .inl g))]) [0, 1] rfl
    have hD9 := hD.sub (ws' := [(h0, .inr (2, [.ref ro, .int (nI n)])), (ro, .inl (d, 4096, .inl g))]) [0, 1] (by decide) rfl
    have hK9 := hK.sub (tys' := [(d, .int)]) [0] rfl
    exact W.iret (v := g (n - 1)) hx hb hr (fun t ht hW => ⟨⟨g (n - 1), (()), rfl, ⟨fun q => absurd q (by omega), fun _ => rfl⟩, by rw [ht]; exact hP9, va_K.moved hW.alike hK9, hD9⟩, hS.F ht⟩) hS.2.2 dX2_last_22
  · have hn0 := cl_z (by omega) c_4
    refine lv_iconst (v := nI 0) hx hb dX2_last_7 (by decide) ?_
    refine lv_goto (tgt := 22) hx hb dX2_last_8 (by decide) ?_
    have hP9 := hP.sub (ws' := [(h0, .inr (2, [.ref ro, .int (nI n)])), (ro, .inl (d, 4096, .inl g))]) [0, 1] rfl
    have hD9 := hD.sub (ws' := [(h0, .inr (2, [.ref ro, .int (nI n)])), (ro, .inl (d, 4096, .inl g))]) [0, 1] (by decide) rfl
    have hK9 := hK.sub (tys' := [(d, .int)]) [0] rfl
    exact W.iret (v := nI 0) hx hb hr (fun t ht hW => ⟨⟨nI 0, (()), rfl, ⟨fun _ => rfl, fun q => absurd q (by omega)⟩, by rw [ht]; exact hP9, va_K.moved hW.alike hK9, hD9⟩, hS.F ht⟩) hS.2.2 dX2_last_22
set_option maxHeartbeats 4000000 in
set_option maxRecDepth 100000 in
/-- size() -/
theorem metX2_size (l : Launch) (dC : Nat → ClassId) (dI : Nat → Nat → Nat) (sz : Nat) (h0 ro : Nat) (d : ClassId) (n : Nat) (g : Nat → Int32) (hn : n ≤ 100) : Met l yX2_size (ws_ yX2_size cX2_size 1 (some .int)) ({ frames := 0, cells := 0, slots := 0, locals := 0 } : Jvm.Room) (va_Pc [.ref h0] (fun U => U.heap.size = sz ∧ va_P (dC, dI) vwCl [(h0, .inr (2, [.ref ro, .int (nI n)])), (ro, .inl (d, 4096, .inl g))] U.heap ∧ va_K (dC, dI) vwCl [(d, .int)] U ∧ va_D (fun _ => True) [(h0, .inr (2, [.ref ro, .int (nI n)])), (ro, .inl (d, 4096, .inl g))])) (va_Qi (S := Unit) (fun (r : Int32) (_ : Unit) => r = nI n) (cl_BW dC dI [(d, .int)] [(h0, .inr (2, [.ref ro, .int (nI n)])), (ro, .inl (d, 4096, .inl g))] (va_A [(h0, .inr (2, [.ref ro, .int (nI n)])), (ro, .inl (d, 4096, .inl g))] sz)) (va_A [(h0, .inr (2, [.ref ro, .int (nI n)])), (ro, .inl (d, 4096, .inl g))] sz)) 0 0 (va_A [(h0, .inr (2, [.ref ro, .int (nI n)])), (ro, .inl (d, 4096, .inl g))] sz) := by
  refine Met.ofW (cc := cX2_size) (maxL := 1) (ret := (some .int)) (by decide) rfl ?_
  intro p e s m args below meth c s₁ B hml hv
  obtain ⟨rfl, hsz, hP, hK, hD0⟩ := hv
  have hx := B.exec
  have hb := B.bytes
  have hr := B.returns
  have hts := atoms_spec (ws := ws_ yX2_size cX2_size 1 (some .int)) B.pre
  have hts : ∀ w ∈ lw_all, w.before _ s = true := fun w h => hts w (List.mem_cons_of_mem _ h)
  have hown : s.vm.findClass RX2 = some m.cls := findClass_of_methodNamed B.named
  have hlocks := B.notSynchronized
  subst hsz
  have hD := hD0.self (sz := s.heap.size)
  generalize hAe : va_A [(h0, .inr (2, [.ref ro, .int (nI n)])), (ro, .inl (d, 4096, .inl g))] s.heap.size = A at hD ⊢
  have hA : ∀ q : Nat, s.heap.size ≤ q → A q := fun q h => by rw [← hAe]; exact Or.inr h
  have hS : va_S A s.heap s.heap [] := va_S.rf
  have hP : va_P (dC, dI) vwCl [(h0, .inr (2, [.ref ro, .int (nI n)])), (ro, .inl (d, 4096, .inl g))] s.heap := hP
  have hl := lv_entry ([.ref h0]) (n := 1) (Nat.le_of_ble_eq_true rfl)
  rw [lg_entry_eq]
  generalize (lg_sl ([.ref h0]) ++ List.replicate (1 - (lg_sl ([.ref h0])).length) Slot.unset).toArray = ls at hl ⊢
  have hl : lv_has ls 1 [(0, .ref h0)] := hl
  refine lv_aload_n hx hb dX2_size_0 rfl (lv_at hl 0 rfl) ?_
  refine va_get (D := (dC, dI)) (ci := 2) (v := .int (nI n)) (C := RX2) (T := TX2) (N := 2) hx hb hts in_X2 hown hK hP 0 rfl rfl 1 (by decide) (hts _ q496) (fun _ h9 => h9) rfl dX2_size_1 ?_
  have hP9 := hP.sub (ws' := [(h0, .inr (2, [.ref ro, .int (nI n)])), (ro, .inl (d, 4096, .inl g))]) [0, 1] rfl
  have hD9 := hD.sub (ws' := [(h0, .inr (2, [.ref ro, .int (nI n)])), (ro, .inl (d, 4096, .inl g))]) [0, 1] (by decide) rfl
  have hK9 := hK.sub (tys' := [(d, .int)]) [0] rfl
  exact W.iret (v := nI n) hx hb hr (fun t ht hW => ⟨⟨nI n, (()), rfl, rfl, by rw [ht]; exact hP9, va_K.moved hW.alike hK9, hD9⟩, hS.F ht⟩) hS.2.2 dX2_size_4
set_option maxHeartbeats 4000000 in
set_option maxRecDepth 100000 in
/-- trim() -/
theorem metX2_trim (l : Launch) (dC : Nat → ClassId) (dI : Nat → Nat → Nat) (sz : Nat) (h0 ro : Nat) (d : ClassId) (n : Nat) (g : Nat → Int32) (hn : n ≤ 100) : Met l yX2_trim (ws_ yX2_trim cX2_trim 1 none) ({ frames := 0, cells := 0, slots := 0, locals := 0 } : Jvm.Room) (va_Pc [.ref h0] (fun U => U.heap.size = sz ∧ va_P (dC, dI) vwCl [(h0, .inr (2, [.ref ro, .int (nI n)])), (ro, .inl (d, 4096, .inl g))] U.heap ∧ va_K (dC, dI) vwCl [(d, .int)] U ∧ va_D (fun _ => True) [(h0, .inr (2, [.ref ro, .int (nI n)])), (ro, .inl (d, 4096, .inl g))])) (va_Qv (S := Unit) (fun (_ : Unit) => True) (cl_BW dC dI [(d, .int)] [(h0, .inr (2, [.ref ro, .int (nI n)])), (ro, .inl (d, 4096, .inl g))] (va_A [(h0, .inr (2, [.ref ro, .int (nI n)])), (ro, .inl (d, 4096, .inl g))] sz)) (va_A [(h0, .inr (2, [.ref ro, .int (nI n)])), (ro, .inl (d, 4096, .inl g))] sz)) 0 0 (va_A [(h0, .inr (2, [.ref ro, .int (nI n)])), (ro, .inl (d, 4096, .inl g))] sz) := by
  refine Met.ofW (cc := cX2_trim) (maxL := 1) (ret := none) (by decide) rfl ?_
  intro p e s m args below meth c s₁ B hml hv
  obtain ⟨rfl, hsz, hP, hK, hD0⟩ := hv
  have hx := B.exec
  have hb := B.bytes
  have hr := B.returns
  have hts := atoms_spec (ws := ws_ yX2_trim cX2_trim 1 none) B.pre
  have hts : ∀ w ∈ lw_all, w.before _ s = true := fun w h => hts w (List.mem_cons_of_mem _ h)
  have hown : s.vm.findClass RX2 = some m.cls := findClass_of_methodNamed B.named
  have hlocks := B.notSynchronized
  subst hsz
  have hD := hD0.self (sz := s.heap.size)
  generalize hAe : va_A [(h0, .inr (2, [.ref ro, .int (nI n)])), (ro, .inl (d, 4096, .inl g))] s.heap.size = A at hD ⊢
  have hA : ∀ q : Nat, s.heap.size ≤ q → A q := fun q h => by rw [← hAe]; exact Or.inr h
  have hS : va_S A s.heap s.heap [] := va_S.rf
  have hP : va_P (dC, dI) vwCl [(h0, .inr (2, [.ref ro, .int (nI n)])), (ro, .inl (d, 4096, .inl g))] s.heap := hP
  have hl := lv_entry ([.ref h0]) (n := 1) (Nat.le_of_ble_eq_true rfl)
  rw [lg_entry_eq]
  generalize (lg_sl ([.ref h0]) ++ List.replicate (1 - (lg_sl ([.ref h0])).length) Slot.unset).toArray = ls at hl ⊢
  have hl : lv_has ls 1 [(0, .ref h0)] := hl
  have hP9 := hP.sub (ws' := [(h0, .inr (2, [.ref ro, .int (nI n)])), (ro, .inl (d, 4096, .inl g))]) [0, 1] rfl
  have hD9 := hD.sub (ws' := [(h0, .inr (2, [.ref ro, .int (nI n)])), (ro, .inl (d, 4096, .inl g))]) [0, 1] (by decide) rfl
  have hK9 := hK.sub (tys' := [(d, .int)]) [0] rfl
  exact W.vret hx hb hr (fun t ht hW => ⟨⟨(()), rfl, trivial, by rw [ht]; exact hP9, va_K.moved hW.alike hK9, hD9⟩, hS.F ht⟩) hS.2.2 dX2_trim_0
set_option maxHeartbeats 4000000 in
set_option maxRecDepth 100000 in
/-- clear() -/
theorem metX2_clear (l : Launch) (dC : Nat → ClassId) (dI : Nat → Nat → Nat) (sz : Nat) (h0 ro : Nat) (d : ClassId) (n : Nat) (g : Nat → Int32) (hn : n ≤ 100) : Met l yX2_clear (ws_ yX2_clear cX2_clear 1 none) ({ frames := 0, cells := 0, slots := 0, locals := 0 } : Jvm.Room) (va_Pc [.ref h0] (fun U => U.heap.size = sz ∧ va_P (dC, dI) vwCl [(h0, .inr (2, [.ref ro, .int (nI n)])), (ro, .inl (d, 4096, .inl g))] U.heap ∧ va_K (dC, dI) vwCl [(d, .int)] U ∧ va_D (fun _ => True) [(h0, .inr (2, [.ref ro, .int (nI n)])), (ro, .inl (d, 4096, .inl g))])) (va_Qv (S := Nat × (Nat → Int32)) (fun (u : Nat × (Nat → Int32)) => u.1 = 0 ∧ u.2 = g) (cl_BM dC dI h0 ro d (va_A [(h0, .inr (2, [.ref ro, .int (nI n)])), (ro, .inl (d, 4096, .inl g))] sz)) (va_A [(h0, .inr (2, [.ref ro, .int (nI n)])), (ro, .inl (d, 4096, .inl g))] sz)) 0 0 (va_A [(h0, .inr (2, [.ref ro, .int (nI n)])), (ro, .inl (d, 4096, .inl g))] sz) := by
  refine Met.ofW (cc := cX2_clear) (maxL := 1) (ret := none) (by decide) rfl ?_
  intro p e s m args below meth c s₁ B hml hv
  obtain ⟨rfl, hsz, hP, hK, hD0⟩ := hv
  have hx := B.exec
  have hb := B.bytes
  have hr := B.returns
  have hts := atoms_spec (ws := ws_ yX2_clear cX2_clear 1 none) B.pre
  have hts : ∀ w ∈ lw_all, w.before _ s = true := fun w h => hts w (List.mem_cons_of_mem _ h)
  have hown : s.vm.findClass RX2 = some m.cls := findClass_of_methodNamed B.named
  have hlocks := B.notSynchronized
  subst hsz
  have hD := hD0.self (sz := s.heap.size)
  generalize hAe : va_A [(h0, .inr (2, [.ref ro, .int (nI n)])), (ro, .inl (d, 4096, .inl g))] s.heap.size = A at hD ⊢
  have hA : ∀ q : Nat, s.heap.size ≤ q → A q := fun q h => by rw [← hAe]; exact Or.inr h
  have hS : va_S A s.heap s.heap [] := va_S.rf
  have hP : va_P (dC, dI) vwCl [(h0, .inr (2, [.ref ro, .int (nI n)])), (ro, .inl (d, 4096, .inl g))] s.heap := hP
  have hl := lv_entry ([.ref h0]) (n := 1) (Nat.le_of_ble_eq_true rfl)
  rw [lg_entry_eq]
  generalize (lg_sl ([.ref h0]) ++ List.replicate (1 - (lg_sl ([.ref h0])).length) Slot.unset).toArray = ls at hl ⊢
  have hl : lv_has ls 1 [(0, .ref h0)] := hl
  refine lv_aload_n hx hb dX2_clear_0 rfl (lv_at hl 0 rfl) ?_
  refine lv_iconst (v := nI 0) hx hb dX2_clear_1 (by decide) ?_
  refine va_put (D := (dC, dI)) (ci := 2) (v := .int (nI 0)) (ty := .int) (C := RX2) (T := TX2) (N := 2) hx hb hts in_X2 tyX2 tyX2_ok nmX2 hown hK hP hD hS 0 rfl rfl 1 (by decide) (hts _ q496) (fun _ h9 => h9) rfl (by decide +kernel) rfl rfl (Nat.le_of_ble_eq_true rfl) dX2_clear_2 (fun H locs hP hD hS => ?_)
  have hP : va_P (dC, dI) vwCl [(h0, .inr (2, [.ref ro, .int (nI 0)])), (ro, .inl (d, 4096, .inl g))] H := hP
  have hD : va_D A [(h0, .inr (2, [.ref ro, .int (nI 0)])), (ro, .inl (d, 4096, .inl g))] := hD
  have hP9 := hP.sub (ws' := [(h0, .inr (2, [.ref ro, .int (nI 0)])), (ro, .inl (d, 4096, .inl g))]) [0, 1] rfl
  have hD9 := hD.sub (ws' := [(h0, .inr (2, [.ref ro, .int (nI 0)])), (ro, .inl (d, 4096, .inl g))]) [0, 1] (by decide) rfl
  have hK9 := hK.sub (tys' := [(d, .int)]) [0] rfl
  exact W.vret hx hb hr (fun t ht hW => ⟨⟨(0, g), rfl, ⟨rfl, rfl⟩, by rw [ht]; exact hP9, va_K.moved hW.alike hK9, hD9⟩, hS.F ht⟩) hS.2.2 dX2_clear_5
end
section
set_option maxRecDepth 100000
/-! THE CLAIM OUT OF ONE WALK OF THE LAW'S BODY. Your part is whole_start (and what it stands on); all else here is the same for every law, but numbers. -/
def R_law : String := "CircleLineLaw"
def lw_P (b : Addr) (xs : List Int32) (args : Array Value) (s : State) : Prop := args = #[.ref b] ∧ s.IntsAt b xs ∧ xs.length ≤ 384 ∧ (Jvm.Cond.and given_1 narrow_1).before args s = true
def lw_Q (_ : Array Value) (s : State) (o : Outcome) (t : State) : Prop := o = .returned (some (.int 1)) ∧ Framed s o t [] 600128 7301098
def lw_Z (below : List Frame) (a : Array Value) (s : State) : State → Prop := fun t => ∃ o, t.status = .running ∧ Ended t below o ∧ lw_Q a s o t
/-- the law's own end, with 1 on the stack, nothing written that was there before, its room as the claim has it -/
theorem lw_ret {p : Program} {l : Launch} {e : Env} {s : State} {m : MethodId} {below : List Frame} {meth : Method} {c : Code} {b : Nat} (hx : p.tables.exec = Jvm.exec) (hb : c.code = code) (hr : meth.sig.returnType = ret) (hlocks : meth.locks = false) {pc : Nat} {H : Heap} {ls : Array Slot} (hdg : decode code pc = .ok (.ireturn, 1)) : W p l e room_1 s m #[Value.ref b] below meth c H [] 600128 7301098 (lw_Z below #[Value.ref b] s) (F0 m pc ls [.int 1]) := by
  intro T hT X
  obtain ⟨fs, hret, hrun, hended, hW, hframe⟩ := X.leave (v := some (.int 1)) (hlocks := hlocks) (fun h => by rw [hr] at h; cases h)
  have hmeth' : T.vm.method? m = some meth := X.method'
  refine ⟨T.setFrames fs, ?_, .returned (some (.int 1)), hrun, hended, rfl, ⟨_, rfl⟩, hW, hframe⟩
  jvm_step X.here [X.here.top, hx, hb, hdg, hmeth', hr, ret, narrow_b1]
  (try refine ⟨rfl, ?_⟩); (try refine ⟨rfl, ?_⟩)
  first | (intro acts; rw [hret _ acts rfl rfl rfl]) | rw [hret _ _ rfl rfl rfl]
  exact Steps.refl _
/-- what holds at the law's entry: the machine, the code, the tables' words (any of lw_tbl by 'hts w (by decide +kernel)'), the script of L ints xs at the cell b, what the Statement gives of the start (any of its parts by flat_of_before) -/
def lw_At (p : Program) (s : State) (m : MethodId) (meth : Method) (c : Code) (b L : Nat) (xs : Nat → Int32) : Prop :=
  p.tables.exec = Jvm.exec ∧ c.code = code ∧ meth.sig.returnType = ret ∧ c.maxLocals = 4 ∧ s.vm.findClass R_law = some m.cls ∧ (∀ w ∈ lw_tbl, w.before #[Value.ref b] s = true) ∧ va_X b L xs s s.heap ∧ b < s.heap.size ∧ meth.locks = false ∧ (Jvm.Cond.and given_1 narrow_1).before #[Value.ref b] s = true
/-- the loop goes on: six more numbers stand in the script -/
theorem cl_head {i Ls : Nat} (hi : i < 2 ^ 30) (hL : Ls < 2 ^ 30) (c : ¬ nI Ls - nI 6 < nI i) : i + 6 ≤ Ls := by
  rw [Int32.lt_iff_toInt_lt, pk_sub_toInt (by omega) (by omega), nI_toInt (by omega)] at c
  omega
/-- the words of the default method's call, at the start -/
theorem cl_start {s : State} {b : Nat} (hts0 : ∀ w ∈ lw_tbl, w.before #[Value.ref b] s = true) (hgv : (Jvm.Cond.and given_1 narrow_1).before #[Value.ref b] s = true) : cl_W s := by
  have hs := flat_of_before _ hgv
  exact cl_W.of (va_Fw.of (hts0 _ q410) (hts0 _ q409) (hts0 _ q414) (hts0 _ q413) (hts0 _ q411)) (hs _ (by decide +kernel)) (hs _ (by decide +kernel)) (hts0 _ q402) (hs _ (by decide +kernel))
/-- the three classes, known at the start -/
theorem cl_classes {s : State} {b : Nat} (hts0 : ∀ w ∈ lw_tbl, w.before #[Value.ref b] s = true) : ∃ (dC : Nat → ClassId) (dI : Nat → Nat → Nat), ∀ (k : Nat) (q : vw_C), vwCl[k]? = some q → u_Kn s q.1 q.2.1 q.2.2 (dC k) (dI k) := by
  obtain ⟨c0_, iS0, hKn0⟩ := u_known (C := RX0) (T := TX0) (N := 1) (n := 1) hts0 (fun w h => lw_all_tbl (in_X0 w h)) (hts0 _ (lw_all_tbl q26))
  obtain ⟨c1_, iS1, hKn1⟩ := u_known (C := RX1) (T := TX1) (N := 4) (n := 4) hts0 (fun w h => lw_all_tbl (in_X1 w h)) (hts0 _ (lw_all_tbl q34))
  obtain ⟨c2_, iS2, hKn2⟩ := u_known (C := RX2) (T := TX2) (N := 2) (n := 2) hts0 (fun w h => lw_all_tbl (in_X2 w h)) (hts0 _ (lw_all_tbl q490))
  refine ⟨fun k => if k = 0 then c0_ else if k = 1 then c1_ else c2_, fun k => if k = 0 then iS0 else if k = 1 then iS1 else iS2, ?_⟩
  intro k q hq
  match k, hq with
  | 0, hq => cases hq; exact hKn0
  | 1, hq => cases hq; exact hKn1
  | 2, hq => cases hq; exact hKn2
  | k + 3, hq => simp [vwCl] at hq
set_option maxHeartbeats 4000000 in
set_option maxRecDepth 100000 in
/-- the law's loop at its head, j calls made: the line holds the row of the model -/
theorem law_loop {p : Program} {l : Launch} {e : Env} {s : State} {m : MethodId} {below : List Frame} {meth : Method} {c : Code} {dC : Nat → ClassId} {dI : Nat → Nat → Nat} {b Ls : Nat} {xs : Nat → Int32} (hL : Ls ≤ 384) (C0 : lw_At p s m meth c b Ls xs) (hE : cl_W s) {xo q mo ro : Nat} {dm : ClassId} : ∀ (N j : Nat), 6 * j ≤ Ls + 6 → Ls + 6 < 6 * (j + N) → ∀ (ar : Nat) (d : ClassId) (L st en n : Nat) (f g : Nat → Int32), cl_R f L st en n g → n ≤ j → ∀ (H : Heap) (locs : List Loc), va_K (dC, dI) vwCl [(d, .int), (dm, .int)] s → va_P (dC, dI) vwCl [(xo, .inr (0, [.ref q])), (q, .inr (1, [.ref ar, .int (nI L), .int (nI st), .int (nI en)])), (ar, .inl (d, L, .inl f)), (mo, .inr (2, [.ref ro, .int (nI n)])), (ro, .inl (dm, 4096, .inl g))] H → va_D (fun q : Nat => s.heap.size ≤ q) [(xo, .inr (0, [.ref q])), (q, .inr (1, [.ref ar, .int (nI L), .int (nI st), .int (nI en)])), (ar, .inl (d, L, .inl f)), (mo, .inr (2, [.ref ro, .int (nI n)])), (ro, .inl (dm, 4096, .inl g))] → va_S (fun q : Nat => s.heap.size ≤ q) s.heap H locs → ∀ (ls : Array Slot), lv_has ls 4 [(0, .ref b), (1, .ref xo), (2, .ref mo), (3, .int (nI (6 * j)))] → W p l e room_1 s m #[Value.ref b] below meth c H locs (5 + j) (4110 + 300 * j) (lw_Z below #[Value.ref b] s) (F0 m 18 ls []) := by
  obtain ⟨hx, hb, hr, hml, hown, hts0, hX, hbl, hlocks, hgv⟩ := C0
  have hts : ∀ w ∈ lw_all, w.before #[Value.ref b] s = true := fun w h => hts0 w (lw_all_tbl h)
  have hA : ∀ q : Nat, s.heap.size ≤ q → (fun q : Nat => s.heap.size ≤ q) q := fun _ h => h
  have hbA : ¬ (fun q : Nat => s.heap.size ≤ q) b := Nat.not_le.mpr hbl
  intro N
  induction N with
  | zero =>
    intro j h1 h2
    exact absurd h2 (by omega)
  | succ N ih =>
    intro j hj1 hj2 ar d L st en n f g hq hnj H locs hK hP hD hS ls hl
    have hn : n ≤ 100 := by omega
    refine lv_iload_n hx hb dL_law_18 rfl (lv_at hl 3 rfl) ?_
    refine lv_aload_n hx hb dL_law_19 rfl (lv_at hl 0 rfl) ?_
    refine va_slen hx hb hX hbl hbA hS dL_law_20 ?_
    refine cl_ti (y := nI Ls) rfl ?_
    refine lv_bipush (v := nI 6) hx hb dL_law_21 (by decide) ?_
    refine lv_isub hx hb dL_law_23 ?_
    refine lv_icmp_gt (tgt := 223) hx hb dL_law_24 (by decide) (fun c_24 => ?_) (fun c_24 => ?_)
    · refine lv_iconst (v := nI 1) hx hb dL_law_223 (by decide) ?_
      refine cl_ti (y := 1) (by decide) ?_
      refine va_forget (fun q hq => hS.2.2 q hq) ?_
      refine W.widen (k := 600128) (n := 7301098) (by omega) (by omega) ?_
      exact lw_ret hx hb hr hlocks dL_law_224
    · have hi : 6 * j + 6 ≤ Ls := cl_head (by omega) (by omega) c_24
      have tail : ∀ (ar : Nat) (d : ClassId) (L st en n : Nat) (f g : Nat → Int32), cl_R f L st en n g → n ≤ (j + 1) → ∀ (H : Heap) (locs : List Loc), va_K (dC, dI) vwCl [(d, .int), (dm, .int)] s → va_P (dC, dI) vwCl [(xo, .inr (0, [.ref q])), (q, .inr (1, [.ref ar, .int (nI L), .int (nI st), .int (nI en)])), (ar, .inl (d, L, .inl f)), (mo, .inr (2, [.ref ro, .int (nI n)])), (ro, .inl (dm, 4096, .inl g))] H → va_D (fun q : Nat => s.heap.size ≤ q) [(xo, .inr (0, [.ref q])), (q, .inr (1, [.ref ar, .int (nI L), .int (nI st), .int (nI en)])), (ar, .inl (d, L, .inl f)), (mo, .inr (2, [.ref ro, .int (nI n)])), (ro, .inl (dm, 4096, .inl g))] → va_S (fun q : Nat => s.heap.size ≤ q) s.heap H locs → ∀ (ls : Array Slot), lv_has ls 4 [(0, .ref b), (1, .ref xo), (2, .ref mo), (3, .int (nI (6 * j)))] → W p l e room_1 s m #[Value.ref b] below meth c H locs (5 + (j + 1)) (4110 + 300 * (j + 1)) (lw_Z below #[Value.ref b] s) (F0 m 217 ls []) := by
        intro ar d L st en n f g hq hnj H locs hK hP hD hS ls hl
        refine lv_iinc (v := nI (6 * (j + 1))) (lv' := [(3, .int (nI (6 * (j + 1)))), (0, .ref b), (1, .ref xo), (2, .ref mo)]) hx hb dL_law_217 hl (k := 3) rfl (show nI (6 * j) + nI 6 = nI (6 * (j + 1)) from nI_add (6 * j) 6) (by decide) rfl (fun ls hl => ?_)
        refine lv_goto (tgt := 18) hx hb dL_law_220 (by decide) ?_
        exact ih (j + 1) (by omega) (by omega) ar d L st en n f g hq hnj _ _ hK hP hD hS _ (lv_sub hl [1, 2, 3, 0] rfl)
      refine lv_aload_n hx hb dL_law_27 rfl (lv_at hl 0 rfl) ?_
      refine lv_iload_n hx hb dL_law_28 rfl (lv_at hl 3 rfl) ?_
      refine va_sld hx hb hX hbl hbA hS (vp_in_nI (n := 6 * j) (N := Ls) (by omega) (by omega)) dL_law_29 ?_
      refine lv_bipush (v := nI 15) hx hb dL_law_30 (by decide) ?_
      refine lv_iand hx hb dL_law_32 ?_
      obtain ⟨k, hk, ek⟩ := pk_andE (xs (nI (6 * j)).toNatClampNeg) (m := nI 15) 4 (by decide +kernel)
      refine cl_ti (y := nI k) (ek) ?_
      rcases (show k = 0 ∨ k = 1 ∨ k = 2 ∨ k = 3 ∨ k = 4 ∨ k = 5 ∨ k = 6 ∨ k = 7 ∨ k = 8 ∨ 9 ≤ k by omega) with rfl | rfl | rfl | rfl | rfl | rfl | rfl | rfl | rfl | hk9
      · refine lv_tableIn (tgt := 84) (off := 51) hx hb dL_law_33 (by decide +kernel) (by decide +kernel) (by decide +kernel) (by decide) ?_
        refine lv_aload_n hx hb dL_law_84 rfl (lv_at hl 1 rfl) ?_
        refine lv_aload_n hx hb dL_law_85 rfl (lv_at hl 0 rfl) ?_
        refine lv_iload_n hx hb dL_law_86 rfl (lv_at hl 3 rfl) ?_
        refine lv_iconst (v := nI 1) hx hb dL_law_87 (by decide) ?_
        refine lv_iadd hx hb dL_law_88 ?_
        refine cl_ti (y := nI (6 * j + 1)) (nI_1 (6 * j)) ?_
        refine va_sld hx hb hX hbl hbA hS (vp_in_nI (n := 6 * j + 1) (N := Ls) (by omega) (by omega)) dL_law_89 ?_
        refine cl_ti (y := xs (6 * j + 1)) (by rw [nI_clamp (by omega)]) ?_
        have hPc := hP.sub (ws' := [(xo, .inr (0, [.ref q])), (q, .inr (1, [.ref ar, .int (nI L), .int (nI st), .int (nI en)])), (ar, .inl (d, L, .inl f))]) [0, 1, 2] rfl
        have hDc := hD.sub (ws' := [(xo, .inr (0, [.ref q])), (q, .inr (1, [.ref ar, .int (nI L), .int (nI st), .int (nI en)])), (ar, .inl (d, L, .inl f))]) [0, 1, 2] (by decide) rfl
        have hKc := hK.sub (tys' := [(d, .int)]) [0] rfl
        have hFc := va_free (wc := [(xo, .inr (0, [.ref q])), (q, .inr (1, [.ref ar, .int (nI L), .int (nI st), .int (nI en)])), (ar, .inl (d, L, .inl f))]) hD hS hA [0, 1, 2] rfl
        refine va_calli (va_runV (As := [.int (xs (6 * j + 1))]) (rest := []) ⟨hx, hb, hml, hown, hts⟩ (metX0_back l dC dI H.size xo q ar d L st en n f g (xs (6 * j + 1)) hq hn) (cwV 1 hts (lw_V q364 q365 q366 q5 q367) rfl rfl rfl (by decide +kernel) ⟨Nat.le_of_ble_eq_true rfl, Nat.le_of_ble_eq_true rfl⟩) ⟨fun a U g mk q => by obtain ⟨q0, q1, qP, qK, qD⟩ := q; exact ⟨q0, q1, qP, va_K.moved (u := U) (U := U.calling g mk a) (Vm.Alike.refl U.vm) qK, qD⟩, va_recv hKc hPc (ci := 0) (q0 := 0) rfl rfl, fun U hU hW => ⟨rfl, by rw [hU], by rw [hU]; exact hPc, va_K.moved hW.alike hKc, hDc.weaken (fun _ _ _ _ => trivial)⟩⟩ rfl rfl hl.1 rfl (lv_room (Nat.le_of_ble_eq_true rfl)) dL_law_90 ⟨(show 5 + j + 1 ≤ 600128 by omega), (show 4110 + 300 * j + 300 ≤ 7301098 by omega)⟩) hS (fun q _ h => hFc q h) hFc (fun r1 u t H1 locs ht hvm hw1 hB hz1 hk1 hS => ?_)
        obtain ⟨a2, d2, L2, s2, e2, f2⟩ := u
        obtain ⟨hP1, hK1, hD1⟩ := hB
        rw [ht] at hP1
        have hK1 := va_K.moved hvm.symm hK1
        obtain ⟨hP, hD⟩ := va_join (wr := [(mo, .inr (2, [.ref ro, .int (nI n)])), (ro, .inl (dm, 4096, .inl g))]) (w1 := [(xo, .inr (0, [.ref q])), (q, .inr (1, [.ref a2, .int (nI L2), .int (nI s2), .int (nI e2)])), (a2, .inl (d2, L2, .inl f2))]) hP hD [0, 1, 2] [3, 4] rfl rfl (by decide) (by decide) hk1 hFc hP1 hD1
        have hK := (hK.sub (tys' := [(dm, .int)]) [1] rfl).app hK1
        clear hPc hDc hKc hFc hz1 hk1 hP1 hD1 hK1 ht hvm
        generalize H1 = H at hP hS ⊢
        have hP : va_P (dC, dI) vwCl [(mo, .inr (2, [.ref ro, .int (nI n)])), (ro, .inl (dm, 4096, .inl g)), (xo, .inr (0, [.ref q])), (q, .inr (1, [.ref a2, .int (nI L2), .int (nI s2), .int (nI e2)])), (a2, .inl (d2, L2, .inl f2))] H := hP
        have hD : va_D (fun q : Nat => s.heap.size ≤ q) [(mo, .inr (2, [.ref ro, .int (nI n)])), (ro, .inl (dm, 4096, .inl g)), (xo, .inr (0, [.ref q])), (q, .inr (1, [.ref a2, .int (nI L2), .int (nI s2), .int (nI e2)])), (a2, .inl (d2, L2, .inl f2))] := hD
        have hK : va_K (dC, dI) vwCl [(dm, .int), (d2, .int)] s := hK
        refine W.widen (k := 5 + (j + 1)) (n := 4110 + 300 * (j + 1)) (by omega) (by omega) ?_
        refine lv_aload_n hx hb dL_law_93 rfl (lv_at hl 2 rfl) ?_
        refine lv_aload_n hx hb dL_law_94 rfl (lv_at hl 0 rfl) ?_
        refine lv_iload_n hx hb dL_law_95 rfl (lv_at hl 3 rfl) ?_
        refine lv_iconst (v := nI 1) hx hb dL_law_96 (by decide) ?_
        refine lv_iadd hx hb dL_law_97 ?_
        refine cl_ti (y := nI (6 * j + 1)) (nI_1 (6 * j)) ?_
        refine va_sld hx hb hX hbl hbA hS (vp_in_nI (n := 6 * j + 1) (N := Ls) (by omega) (by omega)) dL_law_98 ?_
        refine cl_ti (y := xs (6 * j + 1)) (by rw [nI_clamp (by omega)]) ?_
        have hPc := hP.sub (ws' := [(mo, .inr (2, [.ref ro, .int (nI n)])), (ro, .inl (dm, 4096, .inl g))]) [0, 1] rfl
        have hDc := hD.sub (ws' := [(mo, .inr (2, [.ref ro, .int (nI n)])), (ro, .inl (dm, 4096, .inl g))]) [0, 1] (by decide) rfl
        have hKc := hK.sub (tys' := [(dm, .int)]) [0] rfl
        have hFc := va_free (wc := [(mo, .inr (2, [.ref ro, .int (nI n)])), (ro, .inl (dm, 4096, .inl g))]) hD hS hA [0, 1] rfl
        refine va_calli (va_runV (As := [.int (xs (6 * j + 1))]) (rest := [.int r1]) ⟨hx, hb, hml, hown, hts⟩ (metX2_back l dC dI H.size mo ro dm n g hn (xs (6 * j + 1))) (cwV 1 hts (lw_V q502 q503 q504 q23 q505) rfl rfl rfl (by decide +kernel) ⟨Nat.le_of_ble_eq_true rfl, Nat.le_of_ble_eq_true rfl⟩) ⟨fun a U g mk q => by obtain ⟨q0, q1, qP, qK, qD⟩ := q; exact ⟨q0, q1, qP, va_K.moved (u := U) (U := U.calling g mk a) (Vm.Alike.refl U.vm) qK, qD⟩, va_recv hKc hPc (ci := 2) (q0 := 0) rfl rfl, fun U hU hW => ⟨rfl, by rw [hU], by rw [hU]; exact hPc, va_K.moved hW.alike hKc, hDc.weaken (fun _ _ _ _ => trivial)⟩⟩ rfl rfl hl.1 rfl (lv_room (Nat.le_of_ble_eq_true rfl)) dL_law_99 ⟨(show 5 + (j + 1) + 0 ≤ 600128 by omega), (show 4110 + 300 * (j + 1) + 0 ≤ 7301098 by omega)⟩) hS (fun q _ h => hFc q h) hFc (fun r2 u t H1 locs ht hvm hw2 hB hz1 hk1 hS => ?_)
        obtain ⟨n3, g3⟩ := u
        obtain ⟨hP1, hK1, hD1⟩ := hB
        rw [ht] at hP1
        have hK1 := va_K.moved hvm.symm hK1
        obtain ⟨hP, hD⟩ := va_join (wr := [(xo, .inr (0, [.ref q])), (q, .inr (1, [.ref a2, .int (nI L2), .int (nI s2), .int (nI e2)])), (a2, .inl (d2, L2, .inl f2))]) (w1 := [(mo, .inr (2, [.ref ro, .int (nI n3)])), (ro, .inl (dm, 4096, .inl g3))]) hP hD [0, 1] [2, 3, 4] rfl rfl (by decide) (by decide) hk1 hFc hP1 hD1
        have hK := (hK.sub (tys' := [(d2, .int)]) [1] rfl).app hK1
        clear hPc hDc hKc hFc hz1 hk1 hP1 hD1 hK1 ht hvm
        generalize H1 = H at hP hS ⊢
        have hP : va_P (dC, dI) vwCl [(xo, .inr (0, [.ref q])), (q, .inr (1, [.ref a2, .int (nI L2), .int (nI s2), .int (nI e2)])), (a2, .inl (d2, L2, .inl f2)), (mo, .inr (2, [.ref ro, .int (nI n3)])), (ro, .inl (dm, 4096, .inl g3))] H := hP
        have hD : va_D (fun q : Nat => s.heap.size ≤ q) [(xo, .inr (0, [.ref q])), (q, .inr (1, [.ref a2, .int (nI L2), .int (nI s2), .int (nI e2)])), (a2, .inl (d2, L2, .inl f2)), (mo, .inr (2, [.ref ro, .int (nI n3)])), (ro, .inl (dm, 4096, .inl g3))] := hD
        have hK : va_K (dC, dI) vwCl [(d2, .int), (dm, .int)] s := hK
        refine W.widen (k := 5 + (j + 1)) (n := 4110 + 300 * (j + 1)) (by omega) (by omega) ?_
        obtain ⟨k1, k2⟩ := hw1
        obtain ⟨k3, k4, k5⟩ := hw2
        have k4 : n3 = n + 1 := k4
        subst k4
        refine lv_icmp_eq (tgt := 217) hx hb dL_law_102 (by decide) (fun c_102 => ?_) (fun c_102 => ?_)
        · exact tail a2 d2 L2 s2 e2 (n + 1) f2 g3 (by have k5 : g3 = upd g n (xs (6 * j + 1)) := k5; rw [k5]; exact k2) (by omega) _ _ hK hP hD hS _ hl
        · exact absurd (k1.trans k3.symm) c_102
      · refine lv_tableIn (tgt := 107) (off := 74) hx hb dL_law_33 (by decide +kernel) (by decide +kernel) (by decide +kernel) (by decide) ?_
        refine lv_aload_n hx hb dL_law_107 rfl (lv_at hl 1 rfl) ?_
        refine lv_aload_n hx hb dL_law_108 rfl (lv_at hl 0 rfl) ?_
        refine lv_iload_n hx hb dL_law_109 rfl (lv_at hl 3 rfl) ?_
        refine lv_iconst (v := nI 1) hx hb dL_law_110 (by decide) ?_
        refine lv_iadd hx hb dL_law_111 ?_
        refine cl_ti (y := nI (6 * j + 1)) (nI_1 (6 * j)) ?_
        refine va_sld hx hb hX hbl hbA hS (vp_in_nI (n := 6 * j + 1) (N := Ls) (by omega) (by omega)) dL_law_112 ?_
        refine cl_ti (y := xs (6 * j + 1)) (by rw [nI_clamp (by omega)]) ?_
        have hPc := hP.sub (ws' := [(xo, .inr (0, [.ref q])), (q, .inr (1, [.ref ar, .int (nI L), .int (nI st), .int (nI en)])), (ar, .inl (d, L, .inl f))]) [0, 1, 2] rfl
        have hDc := hD.sub (ws' := [(xo, .inr (0, [.ref q])), (q, .inr (1, [.ref ar, .int (nI L), .int (nI st), .int (nI en)])), (ar, .inl (d, L, .inl f))]) [0, 1, 2] (by decide) rfl
        have hKc := hK.sub (tys' := [(d, .int)]) [0] rfl
        have hFc := va_free (wc := [(xo, .inr (0, [.ref q])), (q, .inr (1, [.ref ar, .int (nI L), .int (nI st), .int (nI en)])), (ar, .inl (d, L, .inl f))]) hD hS hA [0, 1, 2] rfl
        refine va_calli (va_runV (As := [.int (xs (6 * j + 1))]) (rest := []) ⟨hx, hb, hml, hown, hts⟩ (metX0_front l dC dI H.size xo q ar d L st en n f g (xs (6 * j + 1)) hq hn) (cwV 1 hts (lw_V q390 q391 q392 q5 q393) rfl rfl rfl (by decide +kernel) ⟨Nat.le_of_ble_eq_true rfl, Nat.le_of_ble_eq_true rfl⟩) ⟨fun a U g mk q => by obtain ⟨q0, q1, qP, qK, qD⟩ := q; exact ⟨q0, q1, qP, va_K.moved (u := U) (U := U.calling g mk a) (Vm.Alike.refl U.vm) qK, qD⟩, va_recv hKc hPc (ci := 0) (q0 := 0) rfl rfl, fun U hU hW => ⟨rfl, by rw [hU], by rw [hU]; exact hPc, va_K.moved hW.alike hKc, hDc.weaken (fun _ _ _ _ => trivial)⟩⟩ rfl rfl hl.1 rfl (lv_room (Nat.le_of_ble_eq_true rfl)) dL_law_113 ⟨(show 5 + j + 1 ≤ 600128 by omega), (show 4110 + 300 * j + 300 ≤ 7301098 by omega)⟩) hS (fun q _ h => hFc q h) hFc (fun r1 u t H1 locs ht hvm hw1 hB hz1 hk1 hS => ?_)
        obtain ⟨a2, d2, L2, s2, e2, f2⟩ := u
        obtain ⟨hP1, hK1, hD1⟩ := hB
        rw [ht] at hP1
        have hK1 := va_K.moved hvm.symm hK1
        obtain ⟨hP, hD⟩ := va_join (wr := [(mo, .inr (2, [.ref ro, .int (nI n)])), (ro, .inl (dm, 4096, .inl g))]) (w1 := [(xo, .inr (0, [.ref q])), (q, .inr (1, [.ref a2, .int (nI L2), .int (nI s2), .int (nI e2)])), (a2, .inl (d2, L2, .inl f2))]) hP hD [0, 1, 2] [3, 4] rfl rfl (by decide) (by decide) hk1 hFc hP1 hD1
        have hK := (hK.sub (tys' := [(dm, .int)]) [1] rfl).app hK1
        clear hPc hDc hKc hFc hz1 hk1 hP1 hD1 hK1 ht hvm
        generalize H1 = H at hP hS ⊢
        have hP : va_P (dC, dI) vwCl [(mo, .inr (2, [.ref ro, .int (nI n)])), (ro, .inl (dm, 4096, .inl g)), (xo, .inr (0, [.ref q])), (q, .inr (1, [.ref a2, .int (nI L2), .int (nI s2), .int (nI e2)])), (a2, .inl (d2, L2, .inl f2))] H := hP
        have hD : va_D (fun q : Nat => s.heap.size ≤ q) [(mo, .inr (2, [.ref ro, .int (nI n)])), (ro, .inl (dm, 4096, .inl g)), (xo, .inr (0, [.ref q])), (q, .inr (1, [.ref a2, .int (nI L2), .int (nI s2), .int (nI e2)])), (a2, .inl (d2, L2, .inl f2))] := hD
        have hK : va_K (dC, dI) vwCl [(dm, .int), (d2, .int)] s := hK
        refine W.widen (k := 5 + (j + 1)) (n := 4110 + 300 * (j + 1)) (by omega) (by omega) ?_
        refine lv_aload_n hx hb dL_law_116 rfl (lv_at hl 2 rfl) ?_
        refine lv_aload_n hx hb dL_law_117 rfl (lv_at hl 0 rfl) ?_
        refine lv_iload_n hx hb dL_law_118 rfl (lv_at hl 3 rfl) ?_
        refine lv_iconst (v := nI 1) hx hb dL_law_119 (by decide) ?_
        refine lv_iadd hx hb dL_law_120 ?_
        refine cl_ti (y := nI (6 * j + 1)) (nI_1 (6 * j)) ?_
        refine va_sld hx hb hX hbl hbA hS (vp_in_nI (n := 6 * j + 1) (N := Ls) (by omega) (by omega)) dL_law_121 ?_
        refine cl_ti (y := xs (6 * j + 1)) (by rw [nI_clamp (by omega)]) ?_
        have hPc := hP.sub (ws' := [(mo, .inr (2, [.ref ro, .int (nI n)])), (ro, .inl (dm, 4096, .inl g))]) [0, 1] rfl
        have hDc := hD.sub (ws' := [(mo, .inr (2, [.ref ro, .int (nI n)])), (ro, .inl (dm, 4096, .inl g))]) [0, 1] (by decide) rfl
        have hKc := hK.sub (tys' := [(dm, .int)]) [0] rfl
        have hFc := va_free (wc := [(mo, .inr (2, [.ref ro, .int (nI n)])), (ro, .inl (dm, 4096, .inl g))]) hD hS hA [0, 1] rfl
        refine va_calli (va_runV (As := [.int (xs (6 * j + 1))]) (rest := [.int r1]) ⟨hx, hb, hml, hown, hts⟩ (metX2_front l dC dI H.size mo ro dm n g hn (xs (6 * j + 1))) (cwV 1 hts (lw_V q506 q507 q508 q23 q509) rfl rfl rfl (by decide +kernel) ⟨Nat.le_of_ble_eq_true rfl, Nat.le_of_ble_eq_true rfl⟩) ⟨fun a U g mk q => by obtain ⟨q0, q1, qP, qK, qD⟩ := q; exact ⟨q0, q1, qP, va_K.moved (u := U) (U := U.calling g mk a) (Vm.Alike.refl U.vm) qK, qD⟩, va_recv hKc hPc (ci := 2) (q0 := 0) rfl rfl, fun U hU hW => ⟨rfl, by rw [hU], by rw [hU]; exact hPc, va_K.moved hW.alike hKc, hDc.weaken (fun _ _ _ _ => trivial)⟩⟩ rfl rfl hl.1 rfl (lv_room (Nat.le_of_ble_eq_true rfl)) dL_law_122 ⟨(show 5 + (j + 1) + 0 ≤ 600128 by omega), (show 4110 + 300 * (j + 1) + 0 ≤ 7301098 by omega)⟩) hS (fun q _ h => hFc q h) hFc (fun r2 u t H1 locs ht hvm hw2 hB hz1 hk1 hS => ?_)
        obtain ⟨n3, g3⟩ := u
        obtain ⟨hP1, hK1, hD1⟩ := hB
        rw [ht] at hP1
        have hK1 := va_K.moved hvm.symm hK1
        obtain ⟨hP, hD⟩ := va_join (wr := [(xo, .inr (0, [.ref q])), (q, .inr (1, [.ref a2, .int (nI L2), .int (nI s2), .int (nI e2)])), (a2, .inl (d2, L2, .inl f2))]) (w1 := [(mo, .inr (2, [.ref ro, .int (nI n3)])), (ro, .inl (dm, 4096, .inl g3))]) hP hD [0, 1] [2, 3, 4] rfl rfl (by decide) (by decide) hk1 hFc hP1 hD1
        have hK := (hK.sub (tys' := [(d2, .int)]) [1] rfl).app hK1
        clear hPc hDc hKc hFc hz1 hk1 hP1 hD1 hK1 ht hvm
        generalize H1 = H at hP hS ⊢
        have hP : va_P (dC, dI) vwCl [(xo, .inr (0, [.ref q])), (q, .inr (1, [.ref a2, .int (nI L2), .int (nI s2), .int (nI e2)])), (a2, .inl (d2, L2, .inl f2)), (mo, .inr (2, [.ref ro, .int (nI n3)])), (ro, .inl (dm, 4096, .inl g3))] H := hP
        have hD : va_D (fun q : Nat => s.heap.size ≤ q) [(xo, .inr (0, [.ref q])), (q, .inr (1, [.ref a2, .int (nI L2), .int (nI s2), .int (nI e2)])), (a2, .inl (d2, L2, .inl f2)), (mo, .inr (2, [.ref ro, .int (nI n3)])), (ro, .inl (dm, 4096, .inl g3))] := hD
        have hK : va_K (dC, dI) vwCl [(d2, .int), (dm, .int)] s := hK
        refine W.widen (k := 5 + (j + 1)) (n := 4110 + 300 * (j + 1)) (by omega) (by omega) ?_
        obtain ⟨k1, k2⟩ := hw1
        obtain ⟨k3, k4, k5⟩ := hw2
        have k4 : n3 = n + 1 := k4
        subst k4
        refine lv_icmp_eq (tgt := 217) hx hb dL_law_125 (by decide) (fun c_125 => ?_) (fun c_125 => ?_)
        · exact tail a2 d2 L2 s2 e2 (n + 1) f2 g3 (cl_R.congr k2 (fun i hi => (k5 i hi).symm)) (by omega) _ _ hK hP hD hS _ hl
        · exact absurd (k1.trans k3.symm) c_125
      · refine lv_tableIn (tgt := 130) (off := 97) hx hb dL_law_33 (by decide +kernel) (by decide +kernel) (by decide +kernel) (by decide) ?_
        refine lv_aload_n hx hb dL_law_130 rfl (lv_at hl 1 rfl) ?_
        have hPc := hP.sub (ws' := [(xo, .inr (0, [.ref q])), (q, .inr (1, [.ref ar, .int (nI L), .int (nI st), .int (nI en)])), (ar, .inl (d, L, .inl f))]) [0, 1, 2] rfl
        have hDc := hD.sub (ws' := [(xo, .inr (0, [.ref q])), (q, .inr (1, [.ref ar, .int (nI L), .int (nI st), .int (nI en)])), (ar, .inl (d, L, .inl f))]) [0, 1, 2] (by decide) rfl
        have hKc := hK.sub (tys' := [(d, .int)]) [0] rfl
        have hFc := va_free (wc := [(xo, .inr (0, [.ref q])), (q, .inr (1, [.ref ar, .int (nI L), .int (nI st), .int (nI en)])), (ar, .inl (d, L, .inl f))]) hD hS hA [0, 1, 2] rfl
        refine va_calli (va_runV (As := []) (rest := []) ⟨hx, hb, hml, hown, hts⟩ (metX0_takeFirst l dC dI H.size xo q ar d L st en n f g hq) (cwV 0 hts (lw_V q398 q399 q400 q5 q401) rfl rfl rfl (by decide +kernel) ⟨Nat.le_of_ble_eq_true rfl, Nat.le_of_ble_eq_true rfl⟩) ⟨fun a U g mk q => by obtain ⟨q0, q1, qP, qK, qD, qE⟩ := q; exact ⟨q0, q1, qP, va_K.moved (u := U) (U := U.calling g mk a) (Vm.Alike.refl U.vm) qK, qD, cl_W.calls qE⟩, va_recv hKc hPc (ci := 0) (q0 := 0) rfl rfl, fun U hU hW => ⟨rfl, by rw [hU], by rw [hU]; exact hPc, va_K.moved hW.alike hKc, hDc.weaken (fun _ _ _ _ => trivial), cl_W.warm hW hE⟩⟩ rfl rfl hl.1 rfl (lv_room (Nat.le_of_ble_eq_true rfl)) dL_law_131 ⟨(show 5 + j + 1 ≤ 600128 by omega), (show 4110 + 300 * j + 300 ≤ 7301098 by omega)⟩) hS (fun q _ h => hFc q h) hFc (fun r1 u t H1 locs ht hvm hw1 hB hz1 hk1 hS => ?_)
        obtain ⟨a2, d2, L2, s2, e2, f2⟩ := u
        obtain ⟨hP1, hK1, hD1⟩ := hB
        rw [ht] at hP1
        have hK1 := va_K.moved hvm.symm hK1
        obtain ⟨hP, hD⟩ := va_join (wr := [(mo, .inr (2, [.ref ro, .int (nI n)])), (ro, .inl (dm, 4096, .inl g))]) (w1 := [(xo, .inr (0, [.ref q])), (q, .inr (1, [.ref a2, .int (nI L2), .int (nI s2), .int (nI e2)])), (a2, .inl (d2, L2, .inl f2))]) hP hD [0, 1, 2] [3, 4] rfl rfl (by decide) (by decide) hk1 hFc hP1 hD1
        have hK := (hK.sub (tys' := [(dm, .int)]) [1] rfl).app hK1
        clear hPc hDc hKc hFc hz1 hk1 hP1 hD1 hK1 ht hvm
        generalize H1 = H at hP hS ⊢
        have hP : va_P (dC, dI) vwCl [(mo, .inr (2, [.ref ro, .int (nI n)])), (ro, .inl (dm, 4096, .inl g)), (xo, .inr (0, [.ref q])), (q, .inr (1, [.ref a2, .int (nI L2), .int (nI s2), .int (nI e2)])), (a2, .inl (d2, L2, .inl f2))] H := hP
        have hD : va_D (fun q : Nat => s.heap.size ≤ q) [(mo, .inr (2, [.ref ro, .int (nI n)])), (ro, .inl (dm, 4096, .inl g)), (xo, .inr (0, [.ref q])), (q, .inr (1, [.ref a2, .int (nI L2), .int (nI s2), .int (nI e2)])), (a2, .inl (d2, L2, .inl f2))] := hD
        have hK : va_K (dC, dI) vwCl [(dm, .int), (d2, .int)] s := hK
        refine W.widen (k := 5 + (j + 1)) (n := 4110 + 300 * (j + 1)) (by omega) (by omega) ?_
        refine lv_aload_n hx hb dL_law_134 rfl (lv_at hl 2 rfl) ?_
        have hPc := hP.sub (ws' := [(mo, .inr (2, [.ref ro, .int (nI n)])), (ro, .inl (dm, 4096, .inl g))]) [0, 1] rfl
        have hDc := hD.sub (ws' := [(mo, .inr (2, [.ref ro, .int (nI n)])), (ro, .inl (dm, 4096, .inl g))]) [0, 1] (by decide) rfl
        have hKc := hK.sub (tys' := [(dm, .int)]) [0] rfl
        have hFc := va_free (wc := [(mo, .inr (2, [.ref ro, .int (nI n)])), (ro, .inl (dm, 4096, .inl g))]) hD hS hA [0, 1] rfl
        refine va_calli (va_runV (As := []) (rest := [.int r1]) ⟨hx, hb, hml, hown, hts⟩ (metX2_takeFirst l dC dI H.size mo ro dm n g hn) (cwV 0 hts (lw_V q510 q511 q512 q23 q513) rfl rfl rfl (by decide +kernel) ⟨Nat.le_of_ble_eq_true rfl, Nat.le_of_ble_eq_true rfl⟩) ⟨fun a U g mk q => by obtain ⟨q0, q1, qP, qK, qD⟩ := q; exact ⟨q0, q1, qP, va_K.moved (u := U) (U := U.calling g mk a) (Vm.Alike.refl U.vm) qK, qD⟩, va_recv hKc hPc (ci := 2) (q0 := 0) rfl rfl, fun U hU hW => ⟨rfl, by rw [hU], by rw [hU]; exact hPc, va_K.moved hW.alike hKc, hDc.weaken (fun _ _ _ _ => trivial)⟩⟩ rfl rfl hl.1 rfl (lv_room (Nat.le_of_ble_eq_true rfl)) dL_law_135 ⟨(show 5 + (j + 1) + 0 ≤ 600128 by omega), (show 4110 + 300 * (j + 1) + 0 ≤ 7301098 by omega)⟩) hS (fun q _ h => hFc q h) hFc (fun r2 u t H1 locs ht hvm hw2 hB hz1 hk1 hS => ?_)
        obtain ⟨n3, g3⟩ := u
        obtain ⟨hP1, hK1, hD1⟩ := hB
        rw [ht] at hP1
        have hK1 := va_K.moved hvm.symm hK1
        obtain ⟨hP, hD⟩ := va_join (wr := [(xo, .inr (0, [.ref q])), (q, .inr (1, [.ref a2, .int (nI L2), .int (nI s2), .int (nI e2)])), (a2, .inl (d2, L2, .inl f2))]) (w1 := [(mo, .inr (2, [.ref ro, .int (nI n3)])), (ro, .inl (dm, 4096, .inl g3))]) hP hD [0, 1] [2, 3, 4] rfl rfl (by decide) (by decide) hk1 hFc hP1 hD1
        have hK := (hK.sub (tys' := [(d2, .int)]) [1] rfl).app hK1
        clear hPc hDc hKc hFc hz1 hk1 hP1 hD1 hK1 ht hvm
        generalize H1 = H at hP hS ⊢
        have hP : va_P (dC, dI) vwCl [(xo, .inr (0, [.ref q])), (q, .inr (1, [.ref a2, .int (nI L2), .int (nI s2), .int (nI e2)])), (a2, .inl (d2, L2, .inl f2)), (mo, .inr (2, [.ref ro, .int (nI n3)])), (ro, .inl (dm, 4096, .inl g3))] H := hP
        have hD : va_D (fun q : Nat => s.heap.size ≤ q) [(xo, .inr (0, [.ref q])), (q, .inr (1, [.ref a2, .int (nI L2), .int (nI s2), .int (nI e2)])), (a2, .inl (d2, L2, .inl f2)), (mo, .inr (2, [.ref ro, .int (nI n3)])), (ro, .inl (dm, 4096, .inl g3))] := hD
        have hK : va_K (dC, dI) vwCl [(d2, .int), (dm, .int)] s := hK
        refine W.widen (k := 5 + (j + 1)) (n := 4110 + 300 * (j + 1)) (by omega) (by omega) ?_
        have hw2 : (n = 0 → r2 = nI 0 ∧ n3 = 0) ∧ (0 < n → r2 = g 0 ∧ n3 = n - 1 ∧ ∀ j, j < n - 1 → g3 j = g (j + 1)) := hw2
        have hw1 : (n = 0 → r1 = nI 0 ∧ cl_R f2 L2 s2 e2 0 g) ∧ (0 < n → r1 = g 0 ∧ cl_R f2 L2 s2 e2 (n - 1) (fun i => g (i + 1))) := hw1
        obtain ⟨kr, kq, kn⟩ : r1 = r2 ∧ cl_R f2 L2 s2 e2 n3 g3 ∧ n3 ≤ j + 1 := by
          rcases Nat.eq_zero_or_pos n with z | z
          · obtain ⟨k1, k2⟩ := hw1.1 z
            obtain ⟨k3, k4⟩ := hw2.1 z
            exact ⟨k1.trans k3.symm, by rw [k4]; exact k2.congr (fun i hi => absurd hi (Nat.not_lt_zero i)), by omega⟩
          · obtain ⟨k1, k2⟩ := hw1.2 z
            obtain ⟨k3, k4, k5⟩ := hw2.2 z
            exact ⟨k1.trans k3.symm, by rw [k4]; exact k2.congr (fun i hi => (k5 i hi).symm), by omega⟩
        refine lv_icmp_eq (tgt := 217) hx hb dL_law_138 (by decide) (fun c_138 => ?_) (fun c_138 => ?_)
        · exact tail a2 d2 L2 s2 e2 n3 f2 g3 kq kn _ _ hK hP hD hS _ hl
        · exact absurd (kr) c_138
      · refine lv_tableIn (tgt := 143) (off := 110) hx hb dL_law_33 (by decide +kernel) (by decide +kernel) (by decide +kernel) (by decide) ?_
        refine lv_aload_n hx hb dL_law_143 rfl (lv_at hl 1 rfl) ?_
        have hPc := hP.sub (ws' := [(xo, .inr (0, [.ref q])), (q, .inr (1, [.ref ar, .int (nI L), .int (nI st), .int (nI en)])), (ar, .inl (d, L, .inl f))]) [0, 1, 2] rfl
        have hDc := hD.sub (ws' := [(xo, .inr (0, [.ref q])), (q, .inr (1, [.ref ar, .int (nI L), .int (nI st), .int (nI en)])), (ar, .inl (d, L, .inl f))]) [0, 1, 2] (by decide) rfl
        have hKc := hK.sub (tys' := [(d, .int)]) [0] rfl
        have hFc := va_free (wc := [(xo, .inr (0, [.ref q])), (q, .inr (1, [.ref ar, .int (nI L), .int (nI st), .int (nI en)])), (ar, .inl (d, L, .inl f))]) hD hS hA [0, 1, 2] rfl
        refine va_calli (va_runV (As := []) (rest := []) ⟨hx, hb, hml, hown, hts⟩ (metX0_takeLast l dC dI H.size xo q ar d L st en n f g hq) (cwV 0 hts (lw_V q445 q446 q447 q5 q448) rfl rfl rfl (by decide +kernel) ⟨Nat.le_of_ble_eq_true rfl, Nat.le_of_ble_eq_true rfl⟩) ⟨fun a U g mk q => by obtain ⟨q0, q1, qP, qK, qD, qE⟩ := q; exact ⟨q0, q1, qP, va_K.moved (u := U) (U := U.calling g mk a) (Vm.Alike.refl U.vm) qK, qD, cl_W.calls qE⟩, va_recv hKc hPc (ci := 0) (q0 := 0) rfl rfl, fun U hU hW => ⟨rfl, by rw [hU], by rw [hU]; exact hPc, va_K.moved hW.alike hKc, hDc.weaken (fun _ _ _ _ => trivial), cl_W.warm hW hE⟩⟩ rfl rfl hl.1 rfl (lv_room (Nat.le_of_ble_eq_true rfl)) dL_law_144 ⟨(show 5 + j + 1 ≤ 600128 by omega), (show 4110 + 300 * j + 300 ≤ 7301098 by omega)⟩) hS (fun q _ h => hFc q h) hFc (fun r1 u t H1 locs ht hvm hw1 hB hz1 hk1 hS => ?_)
        obtain ⟨a2, d2, L2, s2, e2, f2⟩ := u
        obtain ⟨hP1, hK1, hD1⟩ := hB
        rw [ht] at hP1
        have hK1 := va_K.moved hvm.symm hK1
        obtain ⟨hP, hD⟩ := va_join (wr := [(mo, .inr (2, [.ref ro, .int (nI n)])), (ro, .inl (dm, 4096, .inl g))]) (w1 := [(xo, .inr (0, [.ref q])), (q, .inr (1, [.ref a2, .int (nI L2), .int (nI s2), .int (nI e2)])), (a2, .inl (d2, L2, .inl f2))]) hP hD [0, 1, 2] [3, 4] rfl rfl (by decide) (by decide) hk1 hFc hP1 hD1
        have hK := (hK.sub (tys' := [(dm, .int)]) [1] rfl).app hK1
        clear hPc hDc hKc hFc hz1 hk1 hP1 hD1 hK1 ht hvm
        generalize H1 = H at hP hS ⊢
        have hP : va_P (dC, dI) vwCl [(mo, .inr (2, [.ref ro, .int (nI n)])), (ro, .inl (dm, 4096, .inl g)), (xo, .inr (0, [.ref q])), (q, .inr (1, [.ref a2, .int (nI L2), .int (nI s2), .int (nI e2)])), (a2, .inl (d2, L2, .inl f2))] H := hP
        have hD : va_D (fun q : Nat => s.heap.size ≤ q) [(mo, .inr (2, [.ref ro, .int (nI n)])), (ro, .inl (dm, 4096, .inl g)), (xo, .inr (0, [.ref q])), (q, .inr (1, [.ref a2, .int (nI L2), .int (nI s2), .int (nI e2)])), (a2, .inl (d2, L2, .inl f2))] := hD
        have hK : va_K (dC, dI) vwCl [(dm, .int), (d2, .int)] s := hK
        refine W.widen (k := 5 + (j + 1)) (n := 4110 + 300 * (j + 1)) (by omega) (by omega) ?_
        refine lv_aload_n hx hb dL_law_147 rfl (lv_at hl 2 rfl) ?_
        have hPc := hP.sub (ws' := [(mo, .inr (2, [.ref ro, .int (nI n)])), (ro, .inl (dm, 4096, .inl g))]) [0, 1] rfl
        have hDc := hD.sub (ws' := [(mo, .inr (2, [.ref ro, .int (nI n)])), (ro, .inl (dm, 4096, .inl g))]) [0, 1] (by decide) rfl
        have hKc := hK.sub (tys' := [(dm, .int)]) [0] rfl
        have hFc := va_free (wc := [(mo, .inr (2, [.ref ro, .int (nI n)])), (ro, .inl (dm, 4096, .inl g))]) hD hS hA [0, 1] rfl
        refine va_calli (va_runV (As := []) (rest := [.int r1]) ⟨hx, hb, hml, hown, hts⟩ (metX2_takeLast l dC dI H.size mo ro dm n g hn) (cwV 0 hts (lw_V q514 q515 q516 q23 q517) rfl rfl rfl (by decide +kernel) ⟨Nat.le_of_ble_eq_true rfl, Nat.le_of_ble_eq_true rfl⟩) ⟨fun a U g mk q => by obtain ⟨q0, q1, qP, qK, qD⟩ := q; exact ⟨q0, q1, qP, va_K.moved (u := U) (U := U.calling g mk a) (Vm.Alike.refl U.vm) qK, qD⟩, va_recv hKc hPc (ci := 2) (q0 := 0) rfl rfl, fun U hU hW => ⟨rfl, by rw [hU], by rw [hU]; exact hPc, va_K.moved hW.alike hKc, hDc.weaken (fun _ _ _ _ => trivial)⟩⟩ rfl rfl hl.1 rfl (lv_room (Nat.le_of_ble_eq_true rfl)) dL_law_148 ⟨(show 5 + (j + 1) + 0 ≤ 600128 by omega), (show 4110 + 300 * (j + 1) + 0 ≤ 7301098 by omega)⟩) hS (fun q _ h => hFc q h) hFc (fun r2 u t H1 locs ht hvm hw2 hB hz1 hk1 hS => ?_)
        obtain ⟨n3, g3⟩ := u
        obtain ⟨hP1, hK1, hD1⟩ := hB
        rw [ht] at hP1
        have hK1 := va_K.moved hvm.symm hK1
        obtain ⟨hP, hD⟩ := va_join (wr := [(xo, .inr (0, [.ref q])), (q, .inr (1, [.ref a2, .int (nI L2), .int (nI s2), .int (nI e2)])), (a2, .inl (d2, L2, .inl f2))]) (w1 := [(mo, .inr (2, [.ref ro, .int (nI n3)])), (ro, .inl (dm, 4096, .inl g3))]) hP hD [0, 1] [2, 3, 4] rfl rfl (by decide) (by decide) hk1 hFc hP1 hD1
        have hK := (hK.sub (tys' := [(d2, .int)]) [1] rfl).app hK1
        clear hPc hDc hKc hFc hz1 hk1 hP1 hD1 hK1 ht hvm
        generalize H1 = H at hP hS ⊢
        have hP : va_P (dC, dI) vwCl [(xo, .inr (0, [.ref q])), (q, .inr (1, [.ref a2, .int (nI L2), .int (nI s2), .int (nI e2)])), (a2, .inl (d2, L2, .inl f2)), (mo, .inr (2, [.ref ro, .int (nI n3)])), (ro, .inl (dm, 4096, .inl g3))] H := hP
        have hD : va_D (fun q : Nat => s.heap.size ≤ q) [(xo, .inr (0, [.ref q])), (q, .inr (1, [.ref a2, .int (nI L2), .int (nI s2), .int (nI e2)])), (a2, .inl (d2, L2, .inl f2)), (mo, .inr (2, [.ref ro, .int (nI n3)])), (ro, .inl (dm, 4096, .inl g3))] := hD
        have hK : va_K (dC, dI) vwCl [(d2, .int), (dm, .int)] s := hK
        refine W.widen (k := 5 + (j + 1)) (n := 4110 + 300 * (j + 1)) (by omega) (by omega) ?_
        have hw2 : g3 = g ∧ (n = 0 → r2 = nI 0 ∧ n3 = 0) ∧ (0 < n → r2 = g (n - 1) ∧ n3 = n - 1) := hw2
        have hw1 : (n = 0 → r1 = nI 0 ∧ cl_R f2 L2 s2 e2 0 g) ∧ (0 < n → r1 = g (n - 1) ∧ cl_R f2 L2 s2 e2 (n - 1) g) := hw1
        obtain ⟨kr, kq, kn⟩ : r1 = r2 ∧ cl_R f2 L2 s2 e2 n3 g3 ∧ n3 ≤ j + 1 := by
          rcases Nat.eq_zero_or_pos n with z | z
          · obtain ⟨k1, k2⟩ := hw1.1 z
            obtain ⟨k3, k4⟩ := hw2.2.1 z
            exact ⟨k1.trans k3.symm, by rw [k4, hw2.1]; exact k2, by omega⟩
          · obtain ⟨k1, k2⟩ := hw1.2 z
            obtain ⟨k3, k4⟩ := hw2.2.2 z
            exact ⟨k1.trans k3.symm, by rw [k4, hw2.1]; exact k2, by omega⟩
        refine lv_icmp_eq (tgt := 217) hx hb dL_law_151 (by decide) (fun c_151 => ?_) (fun c_151 => ?_)
        · exact tail a2 d2 L2 s2 e2 n3 f2 g3 kq kn _ _ hK hP hD hS _ hl
        · exact absurd (kr) c_151
      · refine lv_tableIn (tgt := 156) (off := 123) hx hb dL_law_33 (by decide +kernel) (by decide +kernel) (by decide +kernel) (by decide) ?_
        refine lv_aload_n hx hb dL_law_156 rfl (lv_at hl 1 rfl) ?_
        have hPc := hP.sub (ws' := [(xo, .inr (0, [.ref q])), (q, .inr (1, [.ref ar, .int (nI L), .int (nI st), .int (nI en)])), (ar, .inl (d, L, .inl f))]) [0, 1, 2] rfl
        have hDc := hD.sub (ws' := [(xo, .inr (0, [.ref q])), (q, .inr (1, [.ref ar, .int (nI L), .int (nI st), .int (nI en)])), (ar, .inl (d, L, .inl f))]) [0, 1, 2] (by decide) rfl
        have hKc := hK.sub (tys' := [(d, .int)]) [0] rfl
        have hFc := va_free (wc := [(xo, .inr (0, [.ref q])), (q, .inr (1, [.ref ar, .int (nI L), .int (nI st), .int (nI en)])), (ar, .inl (d, L, .inl f))]) hD hS hA [0, 1, 2] rfl
        refine va_calli (va_runV (As := []) (rest := []) ⟨hx, hb, hml, hown, hts⟩ (metX0_first l dC dI H.size xo q ar d L st en n f g hq) (cwV 0 hts (lw_V q453 q454 q455 q5 q456) rfl rfl rfl (by decide +kernel) ⟨Nat.le_of_ble_eq_true rfl, Nat.le_of_ble_eq_true rfl⟩) ⟨fun a U g mk q => by obtain ⟨q0, q1, qP, qK, qD, qE⟩ := q; exact ⟨q0, q1, qP, va_K.moved (u := U) (U := U.calling g mk a) (Vm.Alike.refl U.vm) qK, qD, cl_W.calls qE⟩, va_recv hKc hPc (ci := 0) (q0 := 0) rfl rfl, fun U hU hW => ⟨rfl, by rw [hU], by rw [hU]; exact hPc, va_K.moved hW.alike hKc, hDc.weaken (fun _ _ _ _ => trivial), cl_W.warm hW hE⟩⟩ rfl rfl hl.1 rfl (lv_room (Nat.le_of_ble_eq_true rfl)) dL_law_157 ⟨(show 5 + j + 0 ≤ 600128 by omega), (show 4110 + 300 * j + 0 ≤ 7301098 by omega)⟩) hS (fun q _ h => hFc q h) hFc (fun r1 u t H1 locs ht hvm hw1 hB hz1 hk1 hS => ?_)
        obtain ⟨hP1, hK1, hD1⟩ := hB
        rw [ht] at hP1
        have hK1 := va_K.moved hvm.symm hK1
        obtain ⟨hP, hD⟩ := va_join (wr := [(mo, .inr (2, [.ref ro, .int (nI n)])), (ro, .inl (dm, 4096, .inl g))]) (w1 := [(xo, .inr (0, [.ref q])), (q, .inr (1, [.ref ar, .int (nI L), .int (nI st), .int (nI en)])), (ar, .inl (d, L, .inl f))]) hP hD [0, 1, 2] [3, 4] rfl rfl (by decide) (by decide) hk1 hFc hP1 hD1
        have hK := (hK.sub (tys' := [(dm, .int)]) [1] rfl).app hK1
        clear hPc hDc hKc hFc hz1 hk1 hP1 hD1 hK1 ht hvm
        generalize H1 = H at hP hS ⊢
        have hP : va_P (dC, dI) vwCl [(mo, .inr (2, [.ref ro, .int (nI n)])), (ro, .inl (dm, 4096, .inl g)), (xo, .inr (0, [.ref q])), (q, .inr (1, [.ref ar, .int (nI L), .int (nI st), .int (nI en)])), (ar, .inl (d, L, .inl f))] H := hP
        have hD : va_D (fun q : Nat => s.heap.size ≤ q) [(mo, .inr (2, [.ref ro, .int (nI n)])), (ro, .inl (dm, 4096, .inl g)), (xo, .inr (0, [.ref q])), (q, .inr (1, [.ref ar, .int (nI L), .int (nI st), .int (nI en)])), (ar, .inl (d, L, .inl f))] := hD
        have hK : va_K (dC, dI) vwCl [(dm, .int), (d, .int)] s := hK
        refine W.widen (k := 5 + (j + 1)) (n := 4110 + 300 * (j + 1)) (by omega) (by omega) ?_
        refine lv_aload_n hx hb dL_law_160 rfl (lv_at hl 2 rfl) ?_
        have hPc := hP.sub (ws' := [(mo, .inr (2, [.ref ro, .int (nI n)])), (ro, .inl (dm, 4096, .inl g))]) [0, 1] rfl
        have hDc := hD.sub (ws' := [(mo, .inr (2, [.ref ro, .int (nI n)])), (ro, .inl (dm, 4096, .inl g))]) [0, 1] (by decide) rfl
        have hKc := hK.sub (tys' := [(dm, .int)]) [0] rfl
        have hFc := va_free (wc := [(mo, .inr (2, [.ref ro, .int (nI n)])), (ro, .inl (dm, 4096, .inl g))]) hD hS hA [0, 1] rfl
        refine va_calli (va_runV (As := []) (rest := [.int r1]) ⟨hx, hb, hml, hown, hts⟩ (metX2_first l dC dI H.size mo ro dm n g hn) (cwV 0 hts (lw_V q518 q519 q520 q23 q521) rfl rfl rfl (by decide +kernel) ⟨Nat.le_of_ble_eq_true rfl, Nat.le_of_ble_eq_true rfl⟩) ⟨fun a U g mk q => by obtain ⟨q0, q1, qP, qK, qD⟩ := q; exact ⟨q0, q1, qP, va_K.moved (u := U) (U := U.calling g mk a) (Vm.Alike.refl U.vm) qK, qD⟩, va_recv hKc hPc (ci := 2) (q0 := 0) rfl rfl, fun U hU hW => ⟨rfl, by rw [hU], by rw [hU]; exact hPc, va_K.moved hW.alike hKc, hDc.weaken (fun _ _ _ _ => trivial)⟩⟩ rfl rfl hl.1 rfl (lv_room (Nat.le_of_ble_eq_true rfl)) dL_law_161 ⟨(show 5 + (j + 1) + 0 ≤ 600128 by omega), (show 4110 + 300 * (j + 1) + 0 ≤ 7301098 by omega)⟩) hS (fun q _ h => hFc q h) hFc (fun r2 u t H1 locs ht hvm hw2 hB hz1 hk1 hS => ?_)
        obtain ⟨hP1, hK1, hD1⟩ := hB
        rw [ht] at hP1
        have hK1 := va_K.moved hvm.symm hK1
        obtain ⟨hP, hD⟩ := va_join (wr := [(xo, .inr (0, [.ref q])), (q, .inr (1, [.ref ar, .int (nI L), .int (nI st), .int (nI en)])), (ar, .inl (d, L, .inl f))]) (w1 := [(mo, .inr (2, [.ref ro, .int (nI n)])), (ro, .inl (dm, 4096, .inl g))]) hP hD [0, 1] [2, 3, 4] rfl rfl (by decide) (by decide) hk1 hFc hP1 hD1
        have hK := (hK.sub (tys' := [(d, .int)]) [1] rfl).app hK1
        clear hPc hDc hKc hFc hz1 hk1 hP1 hD1 hK1 ht hvm
        generalize H1 = H at hP hS ⊢
        have hP : va_P (dC, dI) vwCl [(xo, .inr (0, [.ref q])), (q, .inr (1, [.ref ar, .int (nI L), .int (nI st), .int (nI en)])), (ar, .inl (d, L, .inl f)), (mo, .inr (2, [.ref ro, .int (nI n)])), (ro, .inl (dm, 4096, .inl g))] H := hP
        have hD : va_D (fun q : Nat => s.heap.size ≤ q) [(xo, .inr (0, [.ref q])), (q, .inr (1, [.ref ar, .int (nI L), .int (nI st), .int (nI en)])), (ar, .inl (d, L, .inl f)), (mo, .inr (2, [.ref ro, .int (nI n)])), (ro, .inl (dm, 4096, .inl g))] := hD
        have hK : va_K (dC, dI) vwCl [(d, .int), (dm, .int)] s := hK
        refine W.widen (k := 5 + (j + 1)) (n := 4110 + 300 * (j + 1)) (by omega) (by omega) ?_
        have hw1 : (n = 0 → r1 = nI 0) ∧ (0 < n → r1 = g 0) := hw1
        have hw2 : (n = 0 → r2 = nI 0) ∧ (0 < n → r2 = g 0) := hw2
        have kr : r1 = r2 := by
          rcases Nat.eq_zero_or_pos n with z | z
          · exact (hw1.1 z).trans (hw2.1 z).symm
          · exact (hw1.2 z).trans (hw2.2 z).symm
        refine lv_icmp_eq (tgt := 217) hx hb dL_law_164 (by decide) (fun c_164 => ?_) (fun c_164 => ?_)
        · exact tail ar d L st en n f g hq (by omega) _ _ hK hP hD hS _ hl
        · exact absurd (kr) c_164
      · refine lv_tableIn (tgt := 169) (off := 136) hx hb dL_law_33 (by decide +kernel) (by decide +kernel) (by decide +kernel) (by decide) ?_
        refine lv_aload_n hx hb dL_law_169 rfl (lv_at hl 1 rfl) ?_
        have hPc := hP.sub (ws' := [(xo, .inr (0, [.ref q])), (q, .inr (1, [.ref ar, .int (nI L), .int (nI st), .int (nI en)])), (ar, .inl (d, L, .inl f))]) [0, 1, 2] rfl
        have hDc := hD.sub (ws' := [(xo, .inr (0, [.ref q])), (q, .inr (1, [.ref ar, .int (nI L), .int (nI st), .int (nI en)])), (ar, .inl (d, L, .inl f))]) [0, 1, 2] (by decide) rfl
        have hKc := hK.sub (tys' := [(d, .int)]) [0] rfl
        have hFc := va_free (wc := [(xo, .inr (0, [.ref q])), (q, .inr (1, [.ref ar, .int (nI L), .int (nI st), .int (nI en)])), (ar, .inl (d, L, .inl f))]) hD hS hA [0, 1, 2] rfl
        refine va_calli (va_runV (As := []) (rest := []) ⟨hx, hb, hml, hown, hts⟩ (metX0_last l dC dI H.size xo q ar d L st en n f g hq) (cwV 0 hts (lw_V q461 q462 q463 q5 q464) rfl rfl rfl (by decide +kernel) ⟨Nat.le_of_ble_eq_true rfl, Nat.le_of_ble_eq_true rfl⟩) ⟨fun a U g mk q => by obtain ⟨q0, q1, qP, qK, qD, qE⟩ := q; exact ⟨q0, q1, qP, va_K.moved (u := U) (U := U.calling g mk a) (Vm.Alike.refl U.vm) qK, qD, cl_W.calls qE⟩, va_recv hKc hPc (ci := 0) (q0 := 0) rfl rfl, fun U hU hW => ⟨rfl, by rw [hU], by rw [hU]; exact hPc, va_K.moved hW.alike hKc, hDc.weaken (fun _ _ _ _ => trivial), cl_W.warm hW hE⟩⟩ rfl rfl hl.1 rfl (lv_room (Nat.le_of_ble_eq_true rfl)) dL_law_170 ⟨(show 5 + j + 0 ≤ 600128 by omega), (show 4110 + 300 * j + 0 ≤ 7301098 by omega)⟩) hS (fun q _ h => hFc q h) hFc (fun r1 u t H1 locs ht hvm hw1 hB hz1 hk1 hS => ?_)
        obtain ⟨hP1, hK1, hD1⟩ := hB
        rw [ht] at hP1
        have hK1 := va_K.moved hvm.symm hK1
        obtain ⟨hP, hD⟩ := va_join (wr := [(mo, .inr (2, [.ref ro, .int (nI n)])), (ro, .inl (dm, 4096, .inl g))]) (w1 := [(xo, .inr (0, [.ref q])), (q, .inr (1, [.ref ar, .int (nI L), .int (nI st), .int (nI en)])), (ar, .inl (d, L, .inl f))]) hP hD [0, 1, 2] [3, 4] rfl rfl (by decide) (by decide) hk1 hFc hP1 hD1
        have hK := (hK.sub (tys' := [(dm, .int)]) [1] rfl).app hK1
        clear hPc hDc hKc hFc hz1 hk1 hP1 hD1 hK1 ht hvm
        generalize H1 = H at hP hS ⊢
        have hP : va_P (dC, dI) vwCl [(mo, .inr (2, [.ref ro, .int (nI n)])), (ro, .inl (dm, 4096, .inl g)), (xo, .inr (0, [.ref q])), (q, .inr (1, [.ref ar, .int (nI L), .int (nI st), .int (nI en)])), (ar, .inl (d, L, .inl f))] H := hP
        have hD : va_D (fun q : Nat => s.heap.size ≤ q) [(mo, .inr (2, [.ref ro, .int (nI n)])), (ro, .inl (dm, 4096, .inl g)), (xo, .inr (0, [.ref q])), (q, .inr (1, [.ref ar, .int (nI L), .int (nI st), .int (nI en)])), (ar, .inl (d, L, .inl f))] := hD
        have hK : va_K (dC, dI) vwCl [(dm, .int), (d, .int)] s := hK
        refine W.widen (k := 5 + (j + 1)) (n := 4110 + 300 * (j + 1)) (by omega) (by omega) ?_
        refine lv_aload_n hx hb dL_law_173 rfl (lv_at hl 2 rfl) ?_
        have hPc := hP.sub (ws' := [(mo, .inr (2, [.ref ro, .int (nI n)])), (ro, .inl (dm, 4096, .inl g))]) [0, 1] rfl
        have hDc := hD.sub (ws' := [(mo, .inr (2, [.ref ro, .int (nI n)])), (ro, .inl (dm, 4096, .inl g))]) [0, 1] (by decide) rfl
        have hKc := hK.sub (tys' := [(dm, .int)]) [0] rfl
        have hFc := va_free (wc := [(mo, .inr (2, [.ref ro, .int (nI n)])), (ro, .inl (dm, 4096, .inl g))]) hD hS hA [0, 1] rfl
        refine va_calli (va_runV (As := []) (rest := [.int r1]) ⟨hx, hb, hml, hown, hts⟩ (metX2_last l dC dI H.size mo ro dm n g hn) (cwV 0 hts (lw_V q522 q523 q524 q23 q525) rfl rfl rfl (by decide +kernel) ⟨Nat.le_of_ble_eq_true rfl, Nat.le_of_ble_eq_true rfl⟩) ⟨fun a U g mk q => by obtain ⟨q0, q1, qP, qK, qD⟩ := q; exact ⟨q0, q1, qP, va_K.moved (u := U) (U := U.calling g mk a) (Vm.Alike.refl U.vm) qK, qD⟩, va_recv hKc hPc (ci := 2) (q0 := 0) rfl rfl, fun U hU hW => ⟨rfl, by rw [hU], by rw [hU]; exact hPc, va_K.moved hW.alike hKc, hDc.weaken (fun _ _ _ _ => trivial)⟩⟩ rfl rfl hl.1 rfl (lv_room (Nat.le_of_ble_eq_true rfl)) dL_law_174 ⟨(show 5 + (j + 1) + 0 ≤ 600128 by omega), (show 4110 + 300 * (j + 1) + 0 ≤ 7301098 by omega)⟩) hS (fun q _ h => hFc q h) hFc (fun r2 u t H1 locs ht hvm hw2 hB hz1 hk1 hS => ?_)
        obtain ⟨hP1, hK1, hD1⟩ := hB
        rw [ht] at hP1
        have hK1 := va_K.moved hvm.symm hK1
        obtain ⟨hP, hD⟩ := va_join (wr := [(xo, .inr (0, [.ref q])), (q, .inr (1, [.ref ar, .int (nI L), .int (nI st), .int (nI en)])), (ar, .inl (d, L, .inl f))]) (w1 := [(mo, .inr (2, [.ref ro, .int (nI n)])), (ro, .inl (dm, 4096, .inl g))]) hP hD [0, 1] [2, 3, 4] rfl rfl (by decide) (by decide) hk1 hFc hP1 hD1
        have hK := (hK.sub (tys' := [(d, .int)]) [1] rfl).app hK1
        clear hPc hDc hKc hFc hz1 hk1 hP1 hD1 hK1 ht hvm
        generalize H1 = H at hP hS ⊢
        have hP : va_P (dC, dI) vwCl [(xo, .inr (0, [.ref q])), (q, .inr (1, [.ref ar, .int (nI L), .int (nI st), .int (nI en)])), (ar, .inl (d, L, .inl f)), (mo, .inr (2, [.ref ro, .int (nI n)])), (ro, .inl (dm, 4096, .inl g))] H := hP
        have hD : va_D (fun q : Nat => s.heap.size ≤ q) [(xo, .inr (0, [.ref q])), (q, .inr (1, [.ref ar, .int (nI L), .int (nI st), .int (nI en)])), (ar, .inl (d, L, .inl f)), (mo, .inr (2, [.ref ro, .int (nI n)])), (ro, .inl (dm, 4096, .inl g))] := hD
        have hK : va_K (dC, dI) vwCl [(d, .int), (dm, .int)] s := hK
        refine W.widen (k := 5 + (j + 1)) (n := 4110 + 300 * (j + 1)) (by omega) (by omega) ?_
        have hw1 : (n = 0 → r1 = nI 0) ∧ (0 < n → r1 = g (n - 1)) := hw1
        have hw2 : (n = 0 → r2 = nI 0) ∧ (0 < n → r2 = g (n - 1)) := hw2
        have kr : r1 = r2 := by
          rcases Nat.eq_zero_or_pos n with z | z
          · exact (hw1.1 z).trans (hw2.1 z).symm
          · exact (hw1.2 z).trans (hw2.2 z).symm
        refine lv_icmp_eq (tgt := 217) hx hb dL_law_177 (by decide) (fun c_177 => ?_) (fun c_177 => ?_)
        · exact tail ar d L st en n f g hq (by omega) _ _ hK hP hD hS _ hl
        · exact absurd (kr) c_177
      · refine lv_tableIn (tgt := 182) (off := 149) hx hb dL_law_33 (by decide +kernel) (by decide +kernel) (by decide +kernel) (by decide) ?_
        refine lv_aload_n hx hb dL_law_182 rfl (lv_at hl 1 rfl) ?_
        have hPc := hP.sub (ws' := [(xo, .inr (0, [.ref q])), (q, .inr (1, [.ref ar, .int (nI L), .int (nI st), .int (nI en)])), (ar, .inl (d, L, .inl f))]) [0, 1, 2] rfl
        have hDc := hD.sub (ws' := [(xo, .inr (0, [.ref q])), (q, .inr (1, [.ref ar, .int (nI L), .int (nI st), .int (nI en)])), (ar, .inl (d, L, .inl f))]) [0, 1, 2] (by decide) rfl
        have hKc := hK.sub (tys' := [(d, .int)]) [0] rfl
        have hFc := va_free (wc := [(xo, .inr (0, [.ref q])), (q, .inr (1, [.ref ar, .int (nI L), .int (nI st), .int (nI en)])), (ar, .inl (d, L, .inl f))]) hD hS hA [0, 1, 2] rfl
        refine va_calli (va_runV (As := []) (rest := []) ⟨hx, hb, hml, hown, hts⟩ (metX0_size l dC dI H.size xo q ar d L st en n f g hq) (cwV 0 hts (lw_V q469 q470 q471 q5 q472) rfl rfl rfl (by decide +kernel) ⟨Nat.le_of_ble_eq_true rfl, Nat.le_of_ble_eq_true rfl⟩) ⟨fun a U g mk q => by obtain ⟨q0, q1, qP, qK, qD⟩ := q; exact ⟨q0, q1, qP, va_K.moved (u := U) (U := U.calling g mk a) (Vm.Alike.refl U.vm) qK, qD⟩, va_recv hKc hPc (ci := 0) (q0 := 0) rfl rfl, fun U hU hW => ⟨rfl, by rw [hU], by rw [hU]; exact hPc, va_K.moved hW.alike hKc, hDc.weaken (fun _ _ _ _ => trivial)⟩⟩ rfl rfl hl.1 rfl (lv_room (Nat.le_of_ble_eq_true rfl)) dL_law_183 ⟨(show 5 + j + 0 ≤ 600128 by omega), (show 4110 + 300 * j + 0 ≤ 7301098 by omega)⟩) hS (fun q _ h => hFc q h) hFc (fun r1 u t H1 locs ht hvm hw1 hB hz1 hk1 hS => ?_)
        obtain ⟨hP1, hK1, hD1⟩ := hB
        rw [ht] at hP1
        have hK1 := va_K.moved hvm.symm hK1
        obtain ⟨hP, hD⟩ := va_join (wr := [(mo, .inr (2, [.ref ro, .int (nI n)])), (ro, .inl (dm, 4096, .inl g))]) (w1 := [(xo, .inr (0, [.ref q])), (q, .inr (1, [.ref ar, .int (nI L), .int (nI st), .int (nI en)])), (ar, .inl (d, L, .inl f))]) hP hD [0, 1, 2] [3, 4] rfl rfl (by decide) (by decide) hk1 hFc hP1 hD1
        have hK := (hK.sub (tys' := [(dm, .int)]) [1] rfl).app hK1
        clear hPc hDc hKc hFc hz1 hk1 hP1 hD1 hK1 ht hvm
        generalize H1 = H at hP hS ⊢
        have hP : va_P (dC, dI) vwCl [(mo, .inr (2, [.ref ro, .int (nI n)])), (ro, .inl (dm, 4096, .inl g)), (xo, .inr (0, [.ref q])), (q, .inr (1, [.ref ar, .int (nI L), .int (nI st), .int (nI en)])), (ar, .inl (d, L, .inl f))] H := hP
        have hD : va_D (fun q : Nat => s.heap.size ≤ q) [(mo, .inr (2, [.ref ro, .int (nI n)])), (ro, .inl (dm, 4096, .inl g)), (xo, .inr (0, [.ref q])), (q, .inr (1, [.ref ar, .int (nI L), .int (nI st), .int (nI en)])), (ar, .inl (d, L, .inl f))] := hD
        have hK : va_K (dC, dI) vwCl [(dm, .int), (d, .int)] s := hK
        refine W.widen (k := 5 + (j + 1)) (n := 4110 + 300 * (j + 1)) (by omega) (by omega) ?_
        refine lv_aload_n hx hb dL_law_186 rfl (lv_at hl 2 rfl) ?_
        have hPc := hP.sub (ws' := [(mo, .inr (2, [.ref ro, .int (nI n)])), (ro, .inl (dm, 4096, .inl g))]) [0, 1] rfl
        have hDc := hD.sub (ws' := [(mo, .inr (2, [.ref ro, .int (nI n)])), (ro, .inl (dm, 4096, .inl g))]) [0, 1] (by decide) rfl
        have hKc := hK.sub (tys' := [(dm, .int)]) [0] rfl
        have hFc := va_free (wc := [(mo, .inr (2, [.ref ro, .int (nI n)])), (ro, .inl (dm, 4096, .inl g))]) hD hS hA [0, 1] rfl
        refine va_calli (va_runV (As := []) (rest := [.int r1]) ⟨hx, hb, hml, hown, hts⟩ (metX2_size l dC dI H.size mo ro dm n g hn) (cwV 0 hts (lw_V q526 q527 q528 q23 q529) rfl rfl rfl (by decide +kernel) ⟨Nat.le_of_ble_eq_true rfl, Nat.le_of_ble_eq_true rfl⟩) ⟨fun a U g mk q => by obtain ⟨q0, q1, qP, qK, qD⟩ := q; exact ⟨q0, q1, qP, va_K.moved (u := U) (U := U.calling g mk a) (Vm.Alike.refl U.vm) qK, qD⟩, va_recv hKc hPc (ci := 2) (q0 := 0) rfl rfl, fun U hU hW => ⟨rfl, by rw [hU], by rw [hU]; exact hPc, va_K.moved hW.alike hKc, hDc.weaken (fun _ _ _ _ => trivial)⟩⟩ rfl rfl hl.1 rfl (lv_room (Nat.le_of_ble_eq_true rfl)) dL_law_187 ⟨(show 5 + (j + 1) + 0 ≤ 600128 by omega), (show 4110 + 300 * (j + 1) + 0 ≤ 7301098 by omega)⟩) hS (fun q _ h => hFc q h) hFc (fun r2 u t H1 locs ht hvm hw2 hB hz1 hk1 hS => ?_)
        obtain ⟨hP1, hK1, hD1⟩ := hB
        rw [ht] at hP1
        have hK1 := va_K.moved hvm.symm hK1
        obtain ⟨hP, hD⟩ := va_join (wr := [(xo, .inr (0, [.ref q])), (q, .inr (1, [.ref ar, .int (nI L), .int (nI st), .int (nI en)])), (ar, .inl (d, L, .inl f))]) (w1 := [(mo, .inr (2, [.ref ro, .int (nI n)])), (ro, .inl (dm, 4096, .inl g))]) hP hD [0, 1] [2, 3, 4] rfl rfl (by decide) (by decide) hk1 hFc hP1 hD1
        have hK := (hK.sub (tys' := [(d, .int)]) [1] rfl).app hK1
        clear hPc hDc hKc hFc hz1 hk1 hP1 hD1 hK1 ht hvm
        generalize H1 = H at hP hS ⊢
        have hP : va_P (dC, dI) vwCl [(xo, .inr (0, [.ref q])), (q, .inr (1, [.ref ar, .int (nI L), .int (nI st), .int (nI en)])), (ar, .inl (d, L, .inl f)), (mo, .inr (2, [.ref ro, .int (nI n)])), (ro, .inl (dm, 4096, .inl g))] H := hP
        have hD : va_D (fun q : Nat => s.heap.size ≤ q) [(xo, .inr (0, [.ref q])), (q, .inr (1, [.ref ar, .int (nI L), .int (nI st), .int (nI en)])), (ar, .inl (d, L, .inl f)), (mo, .inr (2, [.ref ro, .int (nI n)])), (ro, .inl (dm, 4096, .inl g))] := hD
        have hK : va_K (dC, dI) vwCl [(d, .int), (dm, .int)] s := hK
        refine W.widen (k := 5 + (j + 1)) (n := 4110 + 300 * (j + 1)) (by omega) (by omega) ?_
        have hw1 : r1 = nI n := hw1
        have hw2 : r2 = nI n := hw2
        refine lv_icmp_eq (tgt := 217) hx hb dL_law_190 (by decide) (fun c_190 => ?_) (fun c_190 => ?_)
        · exact tail ar d L st en n f g hq (by omega) _ _ hK hP hD hS _ hl
        · exact absurd (hw1.trans hw2.symm) c_190
      · refine lv_tableIn (tgt := 195) (off := 162) hx hb dL_law_33 (by decide +kernel) (by decide +kernel) (by decide +kernel) (by decide) ?_
        refine lv_aload_n hx hb dL_law_195 rfl (lv_at hl 1 rfl) ?_
        have hPc := hP.sub (ws' := [(xo, .inr (0, [.ref q])), (q, .inr (1, [.ref ar, .int (nI L), .int (nI st), .int (nI en)])), (ar, .inl (d, L, .inl f))]) [0, 1, 2] rfl
        have hDc := hD.sub (ws' := [(xo, .inr (0, [.ref q])), (q, .inr (1, [.ref ar, .int (nI L), .int (nI st), .int (nI en)])), (ar, .inl (d, L, .inl f))]) [0, 1, 2] (by decide) rfl
        have hKc := hK.sub (tys' := [(d, .int)]) [0] rfl
        have hFc := va_free (wc := [(xo, .inr (0, [.ref q])), (q, .inr (1, [.ref ar, .int (nI L), .int (nI st), .int (nI en)])), (ar, .inl (d, L, .inl f))]) hD hS hA [0, 1, 2] rfl
        refine va_callv (va_runV (As := []) (rest := []) ⟨hx, hb, hml, hown, hts⟩ (metX0_trim l dC dI H.size xo q ar d L st en n f g hq) (cwV 0 hts (lw_V q473 q474 q475 q5 q476) rfl rfl rfl (by decide +kernel) ⟨Nat.le_of_ble_eq_true rfl, Nat.le_of_ble_eq_true rfl⟩) ⟨fun a U g mk q => by obtain ⟨q0, q1, qP, qK, qD⟩ := q; exact ⟨q0, q1, qP, va_K.moved (u := U) (U := U.calling g mk a) (Vm.Alike.refl U.vm) qK, qD⟩, va_recv hKc hPc (ci := 0) (q0 := 0) rfl rfl, fun U hU hW => ⟨rfl, by rw [hU], by rw [hU]; exact hPc, va_K.moved hW.alike hKc, hDc.weaken (fun _ _ _ _ => trivial)⟩⟩ rfl rfl hl.1 rfl (lv_room (Nat.le_of_ble_eq_true rfl)) dL_law_196 ⟨(show 5 + j + 1 ≤ 600128 by omega), (show 4110 + 300 * j + 300 ≤ 7301098 by omega)⟩) hS (fun q _ h => hFc q h) hFc (fun u t H1 locs ht hvm hw1 hB hz1 hk1 hS => ?_)
        obtain ⟨a2, d2, L2, s2, e2, f2⟩ := u
        obtain ⟨hP1, hK1, hD1⟩ := hB
        rw [ht] at hP1
        have hK1 := va_K.moved hvm.symm hK1
        obtain ⟨hP, hD⟩ := va_join (wr := [(mo, .inr (2, [.ref ro, .int (nI n)])), (ro, .inl (dm, 4096, .inl g))]) (w1 := [(xo, .inr (0, [.ref q])), (q, .inr (1, [.ref a2, .int (nI L2), .int (nI s2), .int (nI e2)])), (a2, .inl (d2, L2, .inl f2))]) hP hD [0, 1, 2] [3, 4] rfl rfl (by decide) (by decide) hk1 hFc hP1 hD1
        have hK := (hK.sub (tys' := [(dm, .int)]) [1] rfl).app hK1
        clear hPc hDc hKc hFc hz1 hk1 hP1 hD1 hK1 ht hvm
        generalize H1 = H at hP hS ⊢
        have hP : va_P (dC, dI) vwCl [(mo, .inr (2, [.ref ro, .int (nI n)])), (ro, .inl (dm, 4096, .inl g)), (xo, .inr (0, [.ref q])), (q, .inr (1, [.ref a2, .int (nI L2), .int (nI s2), .int (nI e2)])), (a2, .inl (d2, L2, .inl f2))] H := hP
        have hD : va_D (fun q : Nat => s.heap.size ≤ q) [(mo, .inr (2, [.ref ro, .int (nI n)])), (ro, .inl (dm, 4096, .inl g)), (xo, .inr (0, [.ref q])), (q, .inr (1, [.ref a2, .int (nI L2), .int (nI s2), .int (nI e2)])), (a2, .inl (d2, L2, .inl f2))] := hD
        have hK : va_K (dC, dI) vwCl [(dm, .int), (d2, .int)] s := hK
        refine W.widen (k := 5 + (j + 1)) (n := 4110 + 300 * (j + 1)) (by omega) (by omega) ?_
        refine lv_aload_n hx hb dL_law_199 rfl (lv_at hl 2 rfl) ?_
        have hPc := hP.sub (ws' := [(mo, .inr (2, [.ref ro, .int (nI n)])), (ro, .inl (dm, 4096, .inl g))]) [0, 1] rfl
        have hDc := hD.sub (ws' := [(mo, .inr (2, [.ref ro, .int (nI n)])), (ro, .inl (dm, 4096, .inl g))]) [0, 1] (by decide) rfl
        have hKc := hK.sub (tys' := [(dm, .int)]) [0] rfl
        have hFc := va_free (wc := [(mo, .inr (2, [.ref ro, .int (nI n)])), (ro, .inl (dm, 4096, .inl g))]) hD hS hA [0, 1] rfl
        refine va_callv (va_runV (As := []) (rest := []) ⟨hx, hb, hml, hown, hts⟩ (metX2_trim l dC dI H.size mo ro dm n g hn) (cwV 0 hts (lw_V q530 q531 q532 q23 q533) rfl rfl rfl (by decide +kernel) ⟨Nat.le_of_ble_eq_true rfl, Nat.le_of_ble_eq_true rfl⟩) ⟨fun a U g mk q => by obtain ⟨q0, q1, qP, qK, qD⟩ := q; exact ⟨q0, q1, qP, va_K.moved (u := U) (U := U.calling g mk a) (Vm.Alike.refl U.vm) qK, qD⟩, va_recv hKc hPc (ci := 2) (q0 := 0) rfl rfl, fun U hU hW => ⟨rfl, by rw [hU], by rw [hU]; exact hPc, va_K.moved hW.alike hKc, hDc.weaken (fun _ _ _ _ => trivial)⟩⟩ rfl rfl hl.1 rfl (lv_room (Nat.le_of_ble_eq_true rfl)) dL_law_200 ⟨(show 5 + (j + 1) + 0 ≤ 600128 by omega), (show 4110 + 300 * (j + 1) + 0 ≤ 7301098 by omega)⟩) hS (fun q _ h => hFc q h) hFc (fun u t H1 locs ht hvm hw2 hB hz1 hk1 hS => ?_)
        obtain ⟨hP1, hK1, hD1⟩ := hB
        rw [ht] at hP1
        have hK1 := va_K.moved hvm.symm hK1
        obtain ⟨hP, hD⟩ := va_join (wr := [(xo, .inr (0, [.ref q])), (q, .inr (1, [.ref a2, .int (nI L2), .int (nI s2), .int (nI e2)])), (a2, .inl (d2, L2, .inl f2))]) (w1 := [(mo, .inr (2, [.ref ro, .int (nI n)])), (ro, .inl (dm, 4096, .inl g))]) hP hD [0, 1] [2, 3, 4] rfl rfl (by decide) (by decide) hk1 hFc hP1 hD1
        have hK := (hK.sub (tys' := [(d2, .int)]) [1] rfl).app hK1
        clear hPc hDc hKc hFc hz1 hk1 hP1 hD1 hK1 ht hvm
        generalize H1 = H at hP hS ⊢
        have hP : va_P (dC, dI) vwCl [(xo, .inr (0, [.ref q])), (q, .inr (1, [.ref a2, .int (nI L2), .int (nI s2), .int (nI e2)])), (a2, .inl (d2, L2, .inl f2)), (mo, .inr (2, [.ref ro, .int (nI n)])), (ro, .inl (dm, 4096, .inl g))] H := hP
        have hD : va_D (fun q : Nat => s.heap.size ≤ q) [(xo, .inr (0, [.ref q])), (q, .inr (1, [.ref a2, .int (nI L2), .int (nI s2), .int (nI e2)])), (a2, .inl (d2, L2, .inl f2)), (mo, .inr (2, [.ref ro, .int (nI n)])), (ro, .inl (dm, 4096, .inl g))] := hD
        have hK : va_K (dC, dI) vwCl [(d2, .int), (dm, .int)] s := hK
        refine W.widen (k := 5 + (j + 1)) (n := 4110 + 300 * (j + 1)) (by omega) (by omega) ?_
        refine lv_goto (tgt := 217) hx hb dL_law_203 (by decide) ?_
        exact tail a2 d2 L2 s2 e2 n f2 g hw1 (by omega) _ _ hK hP hD hS _ hl
      · refine lv_tableIn (tgt := 206) (off := 173) hx hb dL_law_33 (by decide +kernel) (by decide +kernel) (by decide +kernel) (by decide) ?_
        refine lv_aload_n hx hb dL_law_206 rfl (lv_at hl 1 rfl) ?_
        have hPc := hP.sub (ws' := [(xo, .inr (0, [.ref q])), (q, .inr (1, [.ref ar, .int (nI L), .int (nI st), .int (nI en)])), (ar, .inl (d, L, .inl f))]) [0, 1, 2] rfl
        have hDc := hD.sub (ws' := [(xo, .inr (0, [.ref q])), (q, .inr (1, [.ref ar, .int (nI L), .int (nI st), .int (nI en)])), (ar, .inl (d, L, .inl f))]) [0, 1, 2] (by decide) rfl
        have hKc := hK.sub (tys' := [(d, .int)]) [0] rfl
        have hFc := va_free (wc := [(xo, .inr (0, [.ref q])), (q, .inr (1, [.ref ar, .int (nI L), .int (nI st), .int (nI en)])), (ar, .inl (d, L, .inl f))]) hD hS hA [0, 1, 2] rfl
        refine va_callv (va_runV (As := []) (rest := []) ⟨hx, hb, hml, hown, hts⟩ (metX0_clear l dC dI H.size xo q ar d L st en n f g hq) (cwV 0 hts (lw_V q481 q482 q483 q5 q484) rfl rfl rfl (by decide +kernel) ⟨Nat.le_of_ble_eq_true rfl, Nat.le_of_ble_eq_true rfl⟩) ⟨fun a U g mk q => by obtain ⟨q0, q1, qP, qK, qD⟩ := q; exact ⟨q0, q1, qP, va_K.moved (u := U) (U := U.calling g mk a) (Vm.Alike.refl U.vm) qK, qD⟩, va_recv hKc hPc (ci := 0) (q0 := 0) rfl rfl, fun U hU hW => ⟨rfl, by rw [hU], by rw [hU]; exact hPc, va_K.moved hW.alike hKc, hDc.weaken (fun _ _ _ _ => trivial)⟩⟩ rfl rfl hl.1 rfl (lv_room (Nat.le_of_ble_eq_true rfl)) dL_law_207 ⟨(show 5 + j + 0 ≤ 600128 by omega), (show 4110 + 300 * j + 0 ≤ 7301098 by omega)⟩) hS (fun q _ h => hFc q h) hFc (fun u t H1 locs ht hvm hw1 hB hz1 hk1 hS => ?_)
        obtain ⟨a2, d2, L2, s2, e2, f2⟩ := u
        obtain ⟨hP1, hK1, hD1⟩ := hB
        rw [ht] at hP1
        have hK1 := va_K.moved hvm.symm hK1
        obtain ⟨hP, hD⟩ := va_join (wr := [(mo, .inr (2, [.ref ro, .int (nI n)])), (ro, .inl (dm, 4096, .inl g))]) (w1 := [(xo, .inr (0, [.ref q])), (q, .inr (1, [.ref a2, .int (nI L2), .int (nI s2), .int (nI e2)])), (a2, .inl (d2, L2, .inl f2))]) hP hD [0, 1, 2] [3, 4] rfl rfl (by decide) (by decide) hk1 hFc hP1 hD1
        have hK := (hK.sub (tys' := [(dm, .int)]) [1] rfl).app hK1
        clear hPc hDc hKc hFc hz1 hk1 hP1 hD1 hK1 ht hvm
        generalize H1 = H at hP hS ⊢
        have hP : va_P (dC, dI) vwCl [(mo, .inr (2, [.ref ro, .int (nI n)])), (ro, .inl (dm, 4096, .inl g)), (xo, .inr (0, [.ref q])), (q, .inr (1, [.ref a2, .int (nI L2), .int (nI s2), .int (nI e2)])), (a2, .inl (d2, L2, .inl f2))] H := hP
        have hD : va_D (fun q : Nat => s.heap.size ≤ q) [(mo, .inr (2, [.ref ro, .int (nI n)])), (ro, .inl (dm, 4096, .inl g)), (xo, .inr (0, [.ref q])), (q, .inr (1, [.ref a2, .int (nI L2), .int (nI s2), .int (nI e2)])), (a2, .inl (d2, L2, .inl f2))] := hD
        have hK : va_K (dC, dI) vwCl [(dm, .int), (d2, .int)] s := hK
        refine W.widen (k := 5 + (j + 1)) (n := 4110 + 300 * (j + 1)) (by omega) (by omega) ?_
        refine lv_aload_n hx hb dL_law_210 rfl (lv_at hl 2 rfl) ?_
        have hPc := hP.sub (ws' := [(mo, .inr (2, [.ref ro, .int (nI n)])), (ro, .inl (dm, 4096, .inl g))]) [0, 1] rfl
        have hDc := hD.sub (ws' := [(mo, .inr (2, [.ref ro, .int (nI n)])), (ro, .inl (dm, 4096, .inl g))]) [0, 1] (by decide) rfl
        have hKc := hK.sub (tys' := [(dm, .int)]) [0] rfl
        have hFc := va_free (wc := [(mo, .inr (2, [.ref ro, .int (nI n)])), (ro, .inl (dm, 4096, .inl g))]) hD hS hA [0, 1] rfl
        refine va_callv (va_runV (As := []) (rest := []) ⟨hx, hb, hml, hown, hts⟩ (metX2_clear l dC dI H.size mo ro dm n g hn) (cwV 0 hts (lw_V q534 q535 q536 q23 q537) rfl rfl rfl (by decide +kernel) ⟨Nat.le_of_ble_eq_true rfl, Nat.le_of_ble_eq_true rfl⟩) ⟨fun a U g mk q => by obtain ⟨q0, q1, qP, qK, qD⟩ := q; exact ⟨q0, q1, qP, va_K.moved (u := U) (U := U.calling g mk a) (Vm.Alike.refl U.vm) qK, qD⟩, va_recv hKc hPc (ci := 2) (q0 := 0) rfl rfl, fun U hU hW => ⟨rfl, by rw [hU], by rw [hU]; exact hPc, va_K.moved hW.alike hKc, hDc.weaken (fun _ _ _ _ => trivial)⟩⟩ rfl rfl hl.1 rfl (lv_room (Nat.le_of_ble_eq_true rfl)) dL_law_211 ⟨(show 5 + (j + 1) + 0 ≤ 600128 by omega), (show 4110 + 300 * (j + 1) + 0 ≤ 7301098 by omega)⟩) hS (fun q _ h => hFc q h) hFc (fun u t H1 locs ht hvm hw2 hB hz1 hk1 hS => ?_)
        obtain ⟨n3, g3⟩ := u
        obtain ⟨hP1, hK1, hD1⟩ := hB
        rw [ht] at hP1
        have hK1 := va_K.moved hvm.symm hK1
        obtain ⟨hP, hD⟩ := va_join (wr := [(xo, .inr (0, [.ref q])), (q, .inr (1, [.ref a2, .int (nI L2), .int (nI s2), .int (nI e2)])), (a2, .inl (d2, L2, .inl f2))]) (w1 := [(mo, .inr (2, [.ref ro, .int (nI n3)])), (ro, .inl (dm, 4096, .inl g3))]) hP hD [0, 1] [2, 3, 4] rfl rfl (by decide) (by decide) hk1 hFc hP1 hD1
        have hK := (hK.sub (tys' := [(d2, .int)]) [1] rfl).app hK1
        clear hPc hDc hKc hFc hz1 hk1 hP1 hD1 hK1 ht hvm
        generalize H1 = H at hP hS ⊢
        have hP : va_P (dC, dI) vwCl [(xo, .inr (0, [.ref q])), (q, .inr (1, [.ref a2, .int (nI L2), .int (nI s2), .int (nI e2)])), (a2, .inl (d2, L2, .inl f2)), (mo, .inr (2, [.ref ro, .int (nI n3)])), (ro, .inl (dm, 4096, .inl g3))] H := hP
        have hD : va_D (fun q : Nat => s.heap.size ≤ q) [(xo, .inr (0, [.ref q])), (q, .inr (1, [.ref a2, .int (nI L2), .int (nI s2), .int (nI e2)])), (a2, .inl (d2, L2, .inl f2)), (mo, .inr (2, [.ref ro, .int (nI n3)])), (ro, .inl (dm, 4096, .inl g3))] := hD
        have hK : va_K (dC, dI) vwCl [(d2, .int), (dm, .int)] s := hK
        refine W.widen (k := 5 + (j + 1)) (n := 4110 + 300 * (j + 1)) (by omega) (by omega) ?_
        refine lv_goto (tgt := 217) hx hb dL_law_214 (by decide) ?_
        obtain ⟨k4, k5⟩ := hw2
        have k4 : n3 = 0 := k4
        subst k4
        have k6 : g3 = g := k5
        exact tail a2 d2 L2 s2 e2 0 f2 g3 (by rw [k6]; exact hw1) (by omega) _ _ hK hP hD hS _ hl
      · refine lv_tableOut (tgt := 217) hx hb dL_law_33 (Or.inr (by rw [nI_toInt (by omega)]; omega)) (by decide) ?_
        refine W.widen (k := 5 + (j + 1)) (n := 4110 + 300 * (j + 1)) (by omega) (by omega) ?_
        exact tail ar d L st en n f g hq (by omega) _ _ hK hP hD hS _ hl
end
section
set_option maxRecDepth 100000
set_option maxHeartbeats 4000000 in
set_option maxRecDepth 100000 in
/-- THE LAW, from its entry -/
theorem whole_start {p : Program} {e : Env} {s : State} {m : MethodId} {below : List Frame} {meth : Method} {c : Code} (l : Launch) (hflags : l.flags = flags0) {b L : Nat} {xs : Nat → Int32} (hL : L ≤ 384) (C0 : lw_At p s m meth c b L xs) : W p l e room_1 s m #[Value.ref b] below meth c s.heap [] 0 0 (lw_Z below #[Value.ref b] s) (entryFrame m ([Value.ref b] : List Value).toArray 4) := by
  obtain ⟨hx, hb, hr, hml, hown, hts0, hX, hbl, hlocks, hgv⟩ := id C0
  have hts : ∀ w ∈ lw_all, w.before #[Value.ref b] s = true := fun w h => hts0 w (lw_all_tbl h)
  have hA : ∀ q : Nat, s.heap.size ≤ q → (fun q : Nat => s.heap.size ≤ q) q := fun _ h => h
  have hE : cl_W s := cl_start hts0 hgv
  obtain ⟨dC, dI, hKc⟩ := cl_classes hts0
  have hS : va_S (fun q : Nat => s.heap.size ≤ q) s.heap s.heap [] := va_S.rf
  have hK : va_K (dC, dI) vwCl [] s := ⟨hKc, fun k q h => by simp at h⟩
  have hP : va_P (dC, dI) vwCl [] s.heap := fun k q h => by simp at h
  have hD : va_D (fun q : Nat => s.heap.size ≤ q) [] := ⟨fun i j p q h => by simp at h, fun k q h => by simp at h⟩
  clear hKc
  have hl := lv_entry ([.ref b]) (n := 4) (Nat.le_of_ble_eq_true rfl)
  rw [lg_entry_eq]
  generalize (lg_sl ([.ref b]) ++ List.replicate (4 - (lg_sl ([.ref b])).length) Slot.unset).toArray = ls at hl ⊢
  have hl : lv_has ls 4 [(0, .ref b)] := hl
  refine va_new (ci := 0) (fs := [.null]) (C := RX0) (T := TX0) (N := 1) hx hb hts in_X0 tyX0 tyX0_ok hown (hts _ q25) (hts _ q26) (hts _ q5) hK hP hD hS hA rfl (fun j hj => by rcases (show j = 0 by omega) with rfl <;> rfl) (show 0 + 1 ≤ 600128 by omega) (show 0 + 1 ≤ 7301098 by omega) dL_law_0 (fun xo H hP hD hS => ?_)
  have hP : va_P (dC, dI) vwCl [(xo, .inr (0, [.null]))] H := hP
  have hD : va_D (fun q : Nat => s.heap.size ≤ q) [(xo, .inr (0, [.null]))] := hD
  refine W.widen (k := 1) (n := 1) (by omega) (by omega) ?_
  refine lv_dup hx hb dL_law_3 rfl ?_
  have hPc := hP.sub (ws' := [(xo, .inr (0, [.null]))]) [0] rfl
  have hDc := hD.sub (ws' := [(xo, .inr (0, [.null]))]) [0] (by decide) rfl
  have hKc := hK.sub (tys' := []) [] rfl
  have hFc := va_free (wc := [(xo, .inr (0, [.null]))]) hD hS hA [0] rfl
  refine va_callv (va_runI (As := []) (rest := [.ref xo]) ⟨hx, hb, hml, hown, hts⟩ (metX0_init l dC dI H.size xo) (cwI 0 hts (lw_meth q29) rfl rfl rfl (hts _ q5) (hts _ q27) (hts _ q28) rfl (by decide +kernel) ⟨Nat.le_of_ble_eq_true rfl, Nat.le_of_ble_eq_true rfl⟩) ⟨fun a U g mk q => by obtain ⟨q0, q1, qP, qK, qD⟩ := q; exact ⟨q0, q1, qP, va_K.moved (u := U) (U := U.calling g mk a) (Vm.Alike.refl U.vm) qK, qD⟩, fun U hU hW => ⟨rfl, by rw [hU], by rw [hU]; exact hPc, va_K.moved hW.alike hKc, hDc.weaken (fun _ _ _ _ => trivial)⟩⟩ rfl rfl hl.1 rfl (lv_room (Nat.le_of_ble_eq_true rfl)) dL_law_4 ⟨(show 1 + 2 ≤ 600128 by omega), (show 1 + 7 ≤ 7301098 by omega)⟩) hS (fun q _ h => hFc q h) hFc (fun u t H1 locs ht hvm hw1 hB hz1 hk1 hS => ?_)
  obtain ⟨q, a2, d2, L2, s2, e2, f2⟩ := u
  obtain ⟨hP1, hK1, hD1⟩ := hB
  rw [ht] at hP1
  have hK1 := va_K.moved hvm.symm hK1
  obtain ⟨hP, hD⟩ := va_join (wr := []) (w1 := [(xo, .inr (0, [.ref q])), (q, .inr (1, [.ref a2, .int (nI L2), .int (nI s2), .int (nI e2)])), (a2, .inl (d2, L2, .inl f2))]) hP hD [0] [] rfl rfl (by decide) (by decide) hk1 hFc hP1 hD1
  have hK := (hK.sub (tys' := []) [] rfl).app hK1
  clear hPc hDc hKc hFc hz1 hk1 hP1 hD1 hK1 ht hvm
  generalize H1 = H at hP hS ⊢
  have hP : va_P (dC, dI) vwCl [(xo, .inr (0, [.ref q])), (q, .inr (1, [.ref a2, .int (nI L2), .int (nI s2), .int (nI e2)])), (a2, .inl (d2, L2, .inl f2))] H := hP
  have hD : va_D (fun q : Nat => s.heap.size ≤ q) [(xo, .inr (0, [.ref q])), (q, .inr (1, [.ref a2, .int (nI L2), .int (nI s2), .int (nI e2)])), (a2, .inl (d2, L2, .inl f2))] := hD
  have hK : va_K (dC, dI) vwCl [(d2, .int)] s := hK
  refine W.widen (k := 3) (n := 8) (by omega) (by omega) ?_
  refine lv_astore_n (lv' := [(1, .ref xo), (0, .ref b)]) hx hb dL_law_7 rfl hl (by decide) rfl (fun ls hl => ?_)
  refine va_new (ci := 2) (fs := [.null, .int (nI 0)]) (C := RX2) (T := TX2) (N := 2) hx hb hts in_X2 tyX2 tyX2_ok hown (hts _ q489) (hts _ q490) (hts _ q23) hK hP hD hS hA rfl (fun j hj => by rcases (show j = 0 ∨ j = 1 by omega) with rfl | rfl <;> rfl) (show 3 + 1 ≤ 600128 by omega) (show 8 + 2 ≤ 7301098 by omega) dL_law_8 (fun mo H hP hD hS => ?_)
  have hP : va_P (dC, dI) vwCl [(xo, .inr (0, [.ref q])), (q, .inr (1, [.ref a2, .int (nI L2), .int (nI s2), .int (nI e2)])), (a2, .inl (d2, L2, .inl f2)), (mo, .inr (2, [.null, .int (nI 0)]))] H := hP
  have hD : va_D (fun q : Nat => s.heap.size ≤ q) [(xo, .inr (0, [.ref q])), (q, .inr (1, [.ref a2, .int (nI L2), .int (nI s2), .int (nI e2)])), (a2, .inl (d2, L2, .inl f2)), (mo, .inr (2, [.null, .int (nI 0)]))] := hD
  refine W.widen (k := 4) (n := 10) (by omega) (by omega) ?_
  refine lv_dup hx hb dL_law_11 rfl ?_
  have hPc := hP.sub (ws' := [(mo, .inr (2, [.null, .int (nI 0)]))]) [3] rfl
  have hDc := hD.sub (ws' := [(mo, .inr (2, [.null, .int (nI 0)]))]) [3] (by decide) rfl
  have hKc := hK.sub (tys' := []) [] rfl
  have hFc := va_free (wc := [(mo, .inr (2, [.null, .int (nI 0)]))]) hD hS hA [3] rfl
  refine va_callv (va_runI (As := []) (rest := [.ref mo]) ⟨hx, hb, hml, hown, hts⟩ (metX2_init l dC dI H.size mo) (cwI 0 hts (lw_meth q493) rfl rfl rfl (hts _ q23) (hts _ q491) (hts _ q492) rfl (by decide +kernel) ⟨Nat.le_of_ble_eq_true rfl, Nat.le_of_ble_eq_true rfl⟩) ⟨fun a U g mk q => by obtain ⟨q0, q1, qP, qK, qD⟩ := q; exact ⟨q0, q1, qP, va_K.moved (u := U) (U := U.calling g mk a) (Vm.Alike.refl U.vm) qK, qD⟩, fun U hU hW => ⟨rfl, by rw [hU], by rw [hU]; exact hPc, va_K.moved hW.alike hKc, hDc.weaken (fun _ _ _ _ => trivial)⟩⟩ rfl rfl hl.1 rfl (lv_room (Nat.le_of_ble_eq_true rfl)) dL_law_12 ⟨(show 4 + 1 ≤ 600128 by omega), (show 10 + 4096 ≤ 7301098 by omega)⟩) hS (fun q _ h => hFc q h) hFc (fun u t H1 locs ht hvm hw2 hB hz1 hk1 hS => ?_)
  obtain ⟨ro, dm, n0, g0⟩ := u
  obtain ⟨hP1, hK1, hD1⟩ := hB
  rw [ht] at hP1
  have hK1 := va_K.moved hvm.symm hK1
  obtain ⟨hP, hD⟩ := va_join (wr := [(xo, .inr (0, [.ref q])), (q, .inr (1, [.ref a2, .int (nI L2), .int (nI s2), .int (nI e2)])), (a2, .inl (d2, L2, .inl f2))]) (w1 := [(mo, .inr (2, [.ref ro, .int (nI n0)])), (ro, .inl (dm, 4096, .inl g0))]) hP hD [3] [0, 1, 2] rfl rfl (by decide) (by decide) hk1 hFc hP1 hD1
  have hK := (hK.sub (tys' := [(d2, .int)]) [0] rfl).app hK1
  clear hPc hDc hKc hFc hz1 hk1 hP1 hD1 hK1 ht hvm
  generalize H1 = H at hP hS ⊢
  have hP : va_P (dC, dI) vwCl [(xo, .inr (0, [.ref q])), (q, .inr (1, [.ref a2, .int (nI L2), .int (nI s2), .int (nI e2)])), (a2, .inl (d2, L2, .inl f2)), (mo, .inr (2, [.ref ro, .int (nI n0)])), (ro, .inl (dm, 4096, .inl g0))] H := hP
  have hD : va_D (fun q : Nat => s.heap.size ≤ q) [(xo, .inr (0, [.ref q])), (q, .inr (1, [.ref a2, .int (nI L2), .int (nI s2), .int (nI e2)])), (a2, .inl (d2, L2, .inl f2)), (mo, .inr (2, [.ref ro, .int (nI n0)])), (ro, .inl (dm, 4096, .inl g0))] := hD
  have hK : va_K (dC, dI) vwCl [(d2, .int), (dm, .int)] s := hK
  have hw2 : n0 = 0 := hw2
  subst hw2
  refine W.widen (k := 5 + 0) (n := 4110 + 300 * 0) (by omega) (by omega) ?_
  refine lv_astore_n (lv' := [(2, .ref mo), (1, .ref xo), (0, .ref b)]) hx hb dL_law_15 rfl hl (by decide) rfl (fun ls hl => ?_)
  refine lv_iconst (v := nI 0) hx hb dL_law_16 (by decide) ?_
  refine lv_istore_n (lv' := [(3, .int (nI 0)), (2, .ref mo), (1, .ref xo), (0, .ref b)]) hx hb dL_law_17 rfl hl (by decide) rfl (fun ls hl => ?_)
  exact law_loop hL C0 hE (L + 2) 0 (by omega) (by omega) a2 d2 L2 s2 e2 0 f2 g0 (hw1 g0) (Nat.le_refl 0) _ _ hK hP hD hS ls (lv_sub hl [3, 2, 1, 0] rfl)
set_option maxHeartbeats 4000000 in
theorem lw_walk (l : Launch) (hflags : l.flags = flags0) (b : Addr) (xs : List Int32) : MetFree l x (headSpec (Jvm.Cond.code x code maxLocals ret :: tables_1) room_1) (lw_P b xs) (fun _ _ _ _ _ => True) lw_Q := by
  refine MetFree.of_bodyS (code := code) (maxLocals := maxLocals) (ret := ret) (by decide) ?_ ?_
  · intro args s m h hn
    obtain ⟨meth, c, h1, h2, h3, h4, h5, h6, -, -⟩ := Cond.code_spec hn (atoms_spec (ws := Jvm.Cond.code x code maxLocals ret :: tables_1) h _ List.mem_cons_self)
    exact ⟨meth, c, h1, h2, h3, h4, h5, h6⟩
  · intro p e s m args below meth c s₁ B hml0 hP _
    obtain ⟨rfl, hx, hbd, hgv⟩ := hP
    obtain ⟨scr, harrAt, hlist, hof, hsmall⟩ := hx
    obtain ⟨hcb, hkn, -, -⟩ := State.arrayAt?_spec harrAt
    have hown : s.vm.findClass R_law = some m.cls := findClass_of_methodNamed B.named
    have hts0 : ∀ c ∈ (Jvm.Cond.code x code maxLocals ret :: tables_1), c.before #[Value.ref b] s = true := atoms_spec (ws := Jvm.Cond.code x code maxLocals ret :: tables_1) B.pre
    have hts : ∀ w ∈ lw_tbl, w.before #[Value.ref b] s = true := k2_hts_sels lw_privs (fun w hw => hts0 w (List.mem_cons_of_mem _ hw)) lw_privs_ok
    have hml : c.maxLocals = 4 := B.maxLocals_eq (hts0 _ List.mem_cons_self)
    have X₀ : Stand p l e room_1 s m #[Value.ref b] below meth c s₁ [] 0 0 := Stand.of_body B
    have hh0 : s₁.heap = s.heap := by rw [B.state]; rfl
    have hsz : scr.slots.size = xs.length := by rw [← Array.length_toList, hlist, List.length_map]
    have hval : ∀ j : Nat, j < xs.length → scr.slots[j]? = some (.int (xs.getD j 0)) := fun j hj => by
      rw [← Array.getElem?_toList, hlist]
      simp [hj]
    have hbl : b < s.heap.size := (Array.getElem?_eq_some_iff.mp hcb).1
    have hX : va_X b xs.length (fun j => xs.getD j 0) s s.heap := ⟨scr, hcb, hof, hkn, hsz, hval⟩
    have K : W p l e room_1 s m #[Value.ref b] below meth c s₁.heap [] 0 0 (lw_Z below #[Value.ref b] s) (entryFrame m ([Value.ref b] : List Value).toArray 4) := by
      rw [hh0]
      exact whole_start l hflags hbd ⟨B.exec, B.bytes, B.returns, hml, hown, hts, hX, hbl, B.notSynchronized, hgv⟩
    obtain ⟨t, a1, o, b1, b2, b3⟩ := K s₁ rfl X₀
    exact ⟨t, o, a1, b1, b2, b3⟩
theorem lw_pre_spec {args : Array Value} {s : State} (h : (Jvm.Cond.and given_1 narrow_1).before args s = true) (hr : rest_1_c.before args s = true) : ∃ (b : Addr) (xs : List Int32), lw_P b xs args s := by
  have hs := flat_of_before _ h
  have hq := flat_of_before _ hr
  have hc : (Cond.count 1).before args s = true := hs _ (by decide +kernel)
  have harr : (Cond.arrayOf (.arg 0) .int).before args s = true := hs _ (by decide +kernel)
  have hle : (Cond.le (.length (.arg 0)) (.int 384)).before args s = true := hs _ (by decide +kernel)
  have hlen : (Cond.isInt (.length (.arg 0))).before args s = true := hq _ (by decide +kernel)
  have hall : (Cond.all (.arg 0) (.isInt (.elem (.arg 0) (.index 0)))).before args s = true := hq _ (by decide +kernel)
  obtain ⟨b, xs, hb, hx⟩ := State.ints_of_pre rfl harr hlen hall
  have hsm : xs.length < 2 ^ 31 := hx.choose_spec.2.2.2
  have hev : (Term.length (.arg 0)).eval args s none [] s = some (.int xs.length.toInt32) := hx.length_eval hb
  have hv := Cond.le_ints hev (show (Term.int 384).eval args s none [] s = some (.int 384) from rfl)
  have hd : xs.length.toInt32 ≤ 384 := by
    simpa [Cond.before, Cond.holds, hv] using hle
  have hN : xs.length ≤ 384 := (Int32.ofNat_le_ofNat hsm (by decide)).mp (show Int32.ofNat xs.length ≤ Int32.ofNat 384 from hd)
  exact ⟨b, xs, Cond.one_arg hc (show args[0]? = some (.ref b) from hb), hx, hN, h⟩
theorem lw_comes (l : Launch) (hflags : l.flags = flags0) : Comes l x (Jvm.Cond.code x code maxLocals ret :: tables_1) room_1 (fun tb e args s => Calls_1 tb e args s ∧ rest_1 tb e args s ∧ Pre_1 tb e args s)
    (fun _ _ args s o t => lw_Q args s o t) := by
  intro p e ha hc hk s m args below hf hfit hheap happ hpre
  obtain ⟨b, xs, hP⟩ := lw_pre_spec hpre.2.2 hpre.2.1
  obtain ⟨k, o, h1, h2, h3, hQ⟩ := lw_walk l hflags b xs p e ha hc hk s m args below hf ((Spec.applies_iff_loose hf).mp happ).1 hP trivial
  exact ⟨k, o, h1, h2, h3, hQ⟩
theorem lw_frame {s t : State} {o : Outcome} {args : Array Value} (h : Framed s o t [] 600128 7301098) :
    Framed s o t (fieldLocs frame_1_writes args s ++ arrayLocs frame_1_arrays args s ++ staticLocs frame_1_statics s) 600128 7301098 := h
theorem lw_limb (L : Cond) (hL : ∀ (args : Array Value) (s t : State), L.after args s (.returned (some (.int 1))) t = true) :
    ArmFor flags0 classFile x code maxLocals ret World_1 tables_1 room_1 Calls_1 rest_1 Pre_1
      (fun tb e a s o t => postC L tb e a s o t ∧ Framed s o t (fieldLocs frame_1_writes a s ++ arrayLocs frame_1_arrays a s ++ staticLocs frame_1_statics s) 600128 7301098) := by
  intro l hflags _ _ p e ha hc hk s m args below hf hfit hheap happ hpre
  obtain ⟨k, o, h1, h2, h3, rfl, hF⟩ := lw_comes l hflags p e ha hc hk s m args below hf hfit hheap happ hpre
  exact ⟨k, _, h1, h2, h3, hL args s _, lw_frame hF⟩
theorem i_vc : Claimed_1_1 ∧ Claimed_1_2 := ⟨lw_limb limb_1_1 (fun args s t => by simp [limb_1_1, Cond.after, Cond.holds, Cond.value]), lw_limb limb_1_2 (fun args s t => Cond.after_iff.mpr (by
  first | (rw [show limb_1_2 = Cond.eq .result (.int 1) from rfl, Cond.eq_ints (x := 1) (y := 1) rfl rfl]; simp; done) | (simp [limb_1_2, Cond.value, Term.eval]; done)))⟩
end
