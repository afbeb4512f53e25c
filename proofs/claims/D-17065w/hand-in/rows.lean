section
-- ===== PART A: goes FIRST, ahead of the names: the tables' words, and 'selects' of the private methods out of them =====
/-- a private method of a class that the tables say can be made, by its rows of tables_1 -/
def lw_okq (q : MethodName × Nat) : Prop := (q.1.cls ≠ "java/lang/invoke/MethodHandle" ∧ q.1.cls ≠ "java/lang/invoke/VarHandle") ∧ Cond.instantiable q.1.cls q.2 ∈ tables_1 ∧ Cond.privateMethod q.1 ∈ tables_1 ∧ Cond.instanceMethod q.1 ∈ tables_1
set_option maxRecDepth 100000
theorem lw_t1 {w : Cond} (h : w ∈ tables_1_1) : w ∈ tables_1 := List.mem_append_left _ h
theorem lw_t2 {w : Cond} (h : w ∈ tables_1_2) : w ∈ tables_1 := List.mem_append_right _ h
theorem lw_p0 : lw_okq (⟨"BitReader", "word", "(II)V"⟩, 3) := ⟨⟨by decide +kernel, by decide +kernel⟩, lw_t1 (List.mem_of_getElem? (i := 14) rfl), lw_t1 (List.mem_of_getElem? (i := 53) rfl), lw_t1 (List.mem_of_getElem? (i := 54) rfl)⟩
theorem lw_p1 : lw_okq (⟨"BitReader", "from", "(I)I"⟩, 3) := ⟨⟨by decide +kernel, by decide +kernel⟩, lw_t1 (List.mem_of_getElem? (i := 14) rfl), lw_t1 (List.mem_of_getElem? (i := 61) rfl), lw_t1 (List.mem_of_getElem? (i := 62) rfl)⟩
theorem lw_p2 : lw_okq (⟨"java/lang/Throwable", "fillInStackTrace", "(I)Ljava/lang/Throwable;"⟩, 6) := ⟨⟨by decide +kernel, by decide +kernel⟩, lw_t1 (List.mem_of_getElem? (i := 128) rfl), lw_t1 (List.mem_of_getElem? (i := 126) rfl), lw_t1 (List.mem_of_getElem? (i := 127) rfl)⟩
theorem lw_p3 : lw_okq (⟨"BitReaderModel", "first", "(I)I"⟩, 5) := ⟨⟨by decide +kernel, by decide +kernel⟩, lw_t1 (List.mem_of_getElem? (i := 227) rfl), lw_t2 (List.mem_of_getElem? (i := 17) rfl), lw_t2 (List.mem_of_getElem? (i := 18) rfl)⟩
def lw_privs_1 : List (MethodName × Nat) := [(⟨"BitReader", "word", "(II)V"⟩, 3), (⟨"BitReader", "from", "(I)I"⟩, 3), (⟨"java/lang/Throwable", "fillInStackTrace", "(I)Ljava/lang/Throwable;"⟩, 6), (⟨"BitReaderModel", "first", "(I)I"⟩, 5)]
theorem lw_r1 : ∀ q ∈ lw_privs_1, lw_okq q := List.forall_mem_cons.mpr ⟨lw_p0, List.forall_mem_cons.mpr ⟨lw_p1, List.forall_mem_cons.mpr ⟨lw_p2, List.forall_mem_cons.mpr ⟨lw_p3, fun _ h => absurd h List.not_mem_nil⟩⟩⟩⟩
def lw_privs : List (MethodName × Nat) := lw_privs_1
def lw_tbl : List Cond := k2_sels lw_privs ++ tables_1
theorem lw_privs_ok : ∀ q ∈ lw_privs, lw_okq q := lw_r1
-- ===== ONE list of words for every method: the tables' words that hold all through a run =====
def lw_all : List Cond := lw_tbl.filter goodWord
/-- a word of the tables by its place: claim/WORDS.tsv -/
theorem lw_w {w : Cond} (i : Nat) (h : lw_tbl[i]? = some w) (g : goodWord w = true) : w ∈ lw_all := List.mem_filter.mpr ⟨List.mem_of_getElem? h, g⟩
theorem lw_all_tbl {w : Cond} (h : w ∈ lw_all) : w ∈ lw_tbl := (List.mem_filter.mp h).1
theorem lw_self : GoodIn lw_all lw_all := fun w h => ⟨h, good_of_word (List.mem_filter.mp h).2⟩
/-- a class's field words, by their places -/
theorem lw_in (ws : List Cond) (ps : List Nat) (hp : ws = ps.filterMap (fun i => lw_tbl[i]?)) (hg : ws.all goodWord = true) : ∀ w ∈ ws, w ∈ lw_all := by
  intro w h
  have h1 := List.all_eq_true.mp hg w h
  rw [hp] at h
  obtain ⟨i, -, hi⟩ := List.mem_filterMap.mp h
  exact lw_w i hi h1
/-- the words of a contract for the method y with code b, L locals, answer r -/
abbrev ws_ (y : MethodName) (b : ByteArray) (L : Nat) (r : Option FieldType) : List Cond := Cond.code y b L r :: lw_all
theorem lw_meth {y : MethodName} {b : ByteArray} {L : Nat} {r : Option FieldType} (h : Cond.code y b L r ∈ lw_all) : GoodIn lw_all (ws_ y b L r) := by
  intro w hw
  rcases List.mem_cons.mp hw with e | e
  · rw [e]
    exact lw_self _ h
  · exact lw_self _ e
theorem lw_app {a c : List Cond} (ha : ∀ w ∈ a, w ∈ lw_all) (hc : GoodIn lw_all c) : GoodIn lw_all (a ++ c) := by
  intro w hw
  rcases List.mem_append.mp hw with e | e
  · exact lw_self w (ha w e)
  · exact hc w e
/-- what a call through an object asks: cwV n hts (lw_V ..) -/
theorem lw_V {own : String} {idx : Nat} {C : String} {y : MethodName} {b : ByteArray} {L : Nat} {r : Option FieldType} (h1 : Cond.methodLink own idx y ∈ lw_all) (h2 : Cond.instanceMethod y ∈ lw_all) (h3 : Cond.selects C y y ∈ lw_all) (h4 : Cond.initialized C ∈ lw_all) (h5 : Cond.code y b L r ∈ lw_all) : GoodIn lw_all (wsV own idx C y (ws_ y b L r)) := by
  refine lw_app ?_ (lw_meth h5)
  intro w hw
  simp only [List.mem_cons, List.not_mem_nil, or_false] at hw
  rcases hw with e | e | e | e
  · rw [e]; exact h1
  · rw [e]; exact h2
  · rw [e]; exact h3
  · rw [e]; exact h4
/-- what a static call asks: va_cwS n hts (lw_S ..) -/
theorem lw_S {own : String} {idx : Nat} {y : MethodName} {b : ByteArray} {L : Nat} {r : Option FieldType} (h1 : Cond.methodLink own idx y ∈ lw_all) (h2 : Cond.static y ∈ lw_all) (h3 : Cond.initialized y.cls ∈ lw_all) (h4 : Cond.code y b L r ∈ lw_all) : GoodIn lw_all (va_wsS own idx y (ws_ y b L r)) := by
  refine lw_app ?_ (lw_meth h4)
  intro w hw
  simp only [List.mem_cons, List.not_mem_nil, or_false] at hw
  rcases hw with e | e | e
  · rw [e]; exact h1
  · rw [e]; exact h2
  · rw [e]; exact h3
/-- the words of a contract for a method WITH HANDLERS (hh: its table) -/
abbrev wsW_ (y : MethodName) (b : ByteArray) (L : Nat) (r : Option FieldType) (hh : List (Nat × Nat × Nat × Nat)) : List Cond := Cond.codeWith y b L r hh :: lw_all
theorem lw_methW {y : MethodName} {b : ByteArray} {L : Nat} {r : Option FieldType} {hh : List (Nat × Nat × Nat × Nat)} (h : Cond.codeWith y b L r hh ∈ lw_all) : GoodIn lw_all (wsW_ y b L r hh) := by
  intro w hw
  rcases List.mem_cons.mp hw with e | e
  · rw [e]
    exact lw_self _ h
  · exact lw_self _ e
/-- any list of words by their places (lw_in), good -/
theorem lw_good {ws : List Cond} (h : ∀ w ∈ ws, w ∈ lw_all) : GoodIn lw_all ws := fun w hw => lw_self w (h w hw)
/-- what a call of a method with handlers asks: vx_cwVW n hts (lw_VW ..), vx_cwSW n hts (lw_SW ..) -/
theorem lw_VW {own : String} {idx : Nat} {C : String} {y : MethodName} {b : ByteArray} {L : Nat} {r : Option FieldType} {hh : List (Nat × Nat × Nat × Nat)} (h1 : Cond.methodLink own idx y ∈ lw_all) (h2 : Cond.instanceMethod y ∈ lw_all) (h3 : Cond.selects C y y ∈ lw_all) (h4 : Cond.initialized C ∈ lw_all) (h5 : Cond.codeWith y b L r hh ∈ lw_all) : GoodIn lw_all (wsV own idx C y (wsW_ y b L r hh)) := by
  refine lw_app ?_ (lw_methW h5)
  intro w hw
  simp only [List.mem_cons, List.not_mem_nil, or_false] at hw
  rcases hw with e | e | e | e
  · rw [e]; exact h1
  · rw [e]; exact h2
  · rw [e]; exact h3
  · rw [e]; exact h4
theorem lw_SW {own : String} {idx : Nat} {y : MethodName} {b : ByteArray} {L : Nat} {r : Option FieldType} {hh : List (Nat × Nat × Nat × Nat)} (h1 : Cond.methodLink own idx y ∈ lw_all) (h2 : Cond.static y ∈ lw_all) (h3 : Cond.initialized y.cls ∈ lw_all) (h4 : Cond.codeWith y b L r hh ∈ lw_all) : GoodIn lw_all (va_wsS own idx y (wsW_ y b L r hh)) := by
  refine lw_app ?_ (lw_methW h4)
  intro w hw
  simp only [List.mem_cons, List.not_mem_nil, or_false] at hw
  rcases hw with e | e | e
  · rw [e]; exact h1
  · rw [e]; exact h2
  · rw [e]; exact h3
/-- a word by its place in its run of the tables -/
theorem lw_at {r : List Cond} (hr : ∀ w ∈ r, w ∈ lw_tbl) {w : Cond} (i : Nat) (h : r[i]? = some w) : w ∈ lw_tbl := hr w (List.mem_of_getElem? h)
theorem lw_g {w : Cond} (h : w ∈ lw_tbl) (g : goodWord w = true) : w ∈ lw_all := List.mem_filter.mpr ⟨h, g⟩
theorem lw_ms : ∀ w ∈ k2_sels lw_privs, w ∈ lw_tbl := fun w h => show w ∈ k2_sels lw_privs ++ tables_1 from List.mem_append_left _ h
theorem lw_m1 : ∀ w ∈ tables_1_1, w ∈ lw_tbl := fun w h => show w ∈ k2_sels lw_privs ++ tables_1 from List.mem_append_right (k2_sels lw_privs) (show w ∈ tables_1 from List.mem_append_left _ h)
theorem lw_m2 : ∀ w ∈ tables_1_2, w ∈ lw_tbl := fun w h => show w ∈ k2_sels lw_privs ++ tables_1 from List.mem_append_right (k2_sels lw_privs) (show w ∈ tables_1 from List.mem_append_right _ h)
theorem qs0 : (Cond.selects "BitReader" ⟨"BitReader", "word", "(II)V"⟩ ⟨"BitReader", "word", "(II)V"⟩) ∈ lw_all := lw_g (lw_at lw_ms 0 rfl) rfl
theorem qs1 : (Cond.selects "BitReader" ⟨"BitReader", "from", "(I)I"⟩ ⟨"BitReader", "from", "(I)I"⟩) ∈ lw_all := lw_g (lw_at lw_ms 1 rfl) rfl
theorem qs2 : (Cond.selects "java/lang/Throwable" ⟨"java/lang/Throwable", "fillInStackTrace", "(I)Ljava/lang/Throwable;"⟩ ⟨"java/lang/Throwable", "fillInStackTrace", "(I)Ljava/lang/Throwable;"⟩) ∈ lw_all := lw_g (lw_at lw_ms 2 rfl) rfl
theorem qs3 : (Cond.selects "BitReaderModel" ⟨"BitReaderModel", "first", "(I)I"⟩ ⟨"BitReaderModel", "first", "(I)I"⟩) ∈ lw_all := lw_g (lw_at lw_ms 3 rfl) rfl
end
section
/-! DECODE ROWS BY BYTES: one lemma an opcode; a method's code is cut into short pieces once, and a row reads its own piece alone. -/
set_option maxRecDepth 100000
/-- the code has just these bytes from pc on -/
def DkAt (code : ByteArray) (pc : Nat) (bs : List UInt8) : Prop := ∀ (j : Nat) (b : UInt8), bs[j]? = some b → code.data.toList[pc + j]? = some b
/-- the piece W has the bytes bs from its place j on -/
def dkIn (W : List UInt8) (j : Nat) (bs : List UInt8) : Bool := decide ((W.drop j).take bs.length = bs)
theorem dk_seg {l W T : List UInt8} {o o2 : Nat} (h : l.drop o = W ++ T) (n : Nat) (hn : W.length = n) (ho : o + n = o2) : l.drop o2 = T := by
  subst ho
  rw [← List.drop_drop, h, List.drop_left' hn]
theorem dk_at {code : ByteArray} {W T bs : List UInt8} {o pc : Nat} (h : code.data.toList.drop o = W ++ T) (j : Nat) (hp : o + j = pc) (hw : dkIn W j bs = true) : DkAt code pc bs := by
  subst hp
  intro i b e
  have h1 := of_decide_eq_true hw
  have h2 : i < bs.length := (List.getElem?_eq_some_iff.mp e).1
  have h3 : W[j + i]? = some b := by
    rw [← h1, List.getElem?_take, if_pos h2, List.getElem?_drop] at e
    exact e
  have h4 : j + i < W.length := (List.getElem?_eq_some_iff.mp h3).1
  have h5 : (code.data.toList.drop o)[j + i]? = some b := by
    rw [h, List.getElem?_append_left h4]
    exact h3
  rw [List.getElem?_drop, ← Nat.add_assoc] at h5
  exact h5
theorem dk_u1 {A : ByteArray} {p : Nat} {b : UInt8} (h : A.data.toList[p]? = some b) : (Reader.u1 : Reader DecodeError Nat) A p = .ok (b.toNat, p + 1) := by
  obtain ⟨h1, h2⟩ := List.getElem?_eq_some_iff.mp h
  have h3 : p < A.size := by simpa using h1
  have h4 : A[p]'h3 = b := h2
  have e : (Reader.u1 : Reader DecodeError Nat) A p = (if h : p < A.size then .ok (A[p].toNat, p + 1) else .error (HasTruncated.truncated p)) := by
    show (do if h : p < A.size then do set (p + 1); Pure.pure A[p].toNat else MonadExcept.throw (HasTruncated.truncated p) : Reader DecodeError Nat) A p = _
    by_cases hi : p < A.size
    · rw [dif_pos hi, dif_pos hi]; rfl
    · rw [dif_neg hi, dif_neg hi]; rfl
  rw [e, dif_pos h3, h4]
theorem dk_bind {α β : Type} {r : Reader DecodeError α} {f : α → Reader DecodeError β} {A : ByteArray} {p s : Nat} {a : α} (h : r A p = .ok (a, s)) : (r >>= f) A p = f a A s := by
  show (do let (a, s) ← r A p; f a A s : Except DecodeError (β × Nat)) = _
  rw [h]
  rfl
theorem dk_map {α β : Type} {r : Reader DecodeError α} {g : α → β} {A : ByteArray} {p s : Nat} {a : α} (h : r A p = .ok (a, s)) : (g <$> r) A p = .ok (g a, s) := by
  show (do let (a, s) ← r A p; .ok (g a, s) : Except DecodeError (β × Nat)) = _
  rw [h]
  rfl
theorem dk_u2 {A : ByteArray} {p : Nat} {a b : UInt8} (h : A.data.toList[p]? = some a) (h2 : A.data.toList[p + 1]? = some b) : (Reader.u2 : Reader DecodeError Nat) A p = .ok (a.toNat * 256 + b.toNat, p + 2) := by
  show (Reader.u1 >>= fun hi => Reader.u1 >>= fun lo => Pure.pure (hi * 256 + lo) : Reader DecodeError Nat) A p = _
  rw [dk_bind (dk_u1 h), dk_bind (dk_u1 h2)]
  rfl
theorem dk_of {code : ByteArray} {pc n : Nat} {i : Instr} (h : Decoder.instr pc code pc = .ok (i, pc + n)) : decode code pc = .ok (i, n) := by
  have e : decode code pc = (match Decoder.instr pc code pc with | .error x => .error x | .ok (j, s) => .ok (j, s - pc)) := by
    show (do let (j, s) ← Decoder.instr pc code pc; Pure.pure (j, s - pc) : Except DecodeError (Instr × Nat)) = _
    cases Decoder.instr pc code pc <;> rfl
  rw [e, h]
  show Except.ok (i, pc + n - pc) = _
  rw [Nat.add_sub_cancel_left]
theorem dk_3 {code : ByteArray} {pc : Nat} (h : DkAt code pc [3]) : decode code pc = .ok (.iconst 0, 1) := dk_of ((dk_bind (dk_u1 (h 0 _ rfl))).trans rfl)
theorem dk_4 {code : ByteArray} {pc : Nat} (h : DkAt code pc [4]) : decode code pc = .ok (.iconst 1, 1) := dk_of ((dk_bind (dk_u1 (h 0 _ rfl))).trans rfl)
theorem dk_5 {code : ByteArray} {pc : Nat} (h : DkAt code pc [5]) : decode code pc = .ok (.iconst 2, 1) := dk_of ((dk_bind (dk_u1 (h 0 _ rfl))).trans rfl)
theorem dk_6 {code : ByteArray} {pc : Nat} (h : DkAt code pc [6]) : decode code pc = .ok (.iconst 3, 1) := dk_of ((dk_bind (dk_u1 (h 0 _ rfl))).trans rfl)
theorem dk_7 {code : ByteArray} {pc : Nat} (h : DkAt code pc [7]) : decode code pc = .ok (.iconst 4, 1) := dk_of ((dk_bind (dk_u1 (h 0 _ rfl))).trans rfl)
theorem dk_16 {code : ByteArray} {pc : Nat} (a : UInt8) (h : DkAt code pc [16, a]) : decode code pc = .ok (.bipush (Reader.signed 8 a.toNat), 2) := dk_of ((dk_bind (dk_u1 (h 0 _ rfl))).trans ((dk_bind (dk_map (dk_u1 (h 1 _ rfl)))).trans rfl))
theorem dk_17 {code : ByteArray} {pc : Nat} (a b : UInt8) (h : DkAt code pc [17, a, b]) : decode code pc = .ok (.sipush (Reader.signed 16 (a.toNat * 256 + b.toNat)), 3) := dk_of ((dk_bind (dk_u1 (h 0 _ rfl))).trans ((dk_bind (dk_map (dk_u2 (h 1 _ rfl) (h 2 _ rfl)))).trans rfl))
theorem dk_18 {code : ByteArray} {pc : Nat} (a : UInt8) (h : DkAt code pc [18, a]) : decode code pc = .ok (.ldc a.toNat, 2) := dk_of ((dk_bind (dk_u1 (h 0 _ rfl))).trans ((dk_bind (dk_u1 (h 1 _ rfl))).trans rfl))
theorem dk_20 {code : ByteArray} {pc : Nat} (a b : UInt8) (h : DkAt code pc [20, a, b]) : decode code pc = .ok (.ldc2_w (a.toNat * 256 + b.toNat), 3) := dk_of ((dk_bind (dk_u1 (h 0 _ rfl))).trans ((dk_bind (dk_u2 (h 1 _ rfl) (h 2 _ rfl))).trans rfl))
theorem dk_21 {code : ByteArray} {pc : Nat} (a : UInt8) (h : DkAt code pc [21, a]) : decode code pc = .ok (.iload a.toNat, 2) := dk_of ((dk_bind (dk_u1 (h 0 _ rfl))).trans ((dk_bind (dk_u1 (h 1 _ rfl))).trans rfl))
theorem dk_26 {code : ByteArray} {pc : Nat} (h : DkAt code pc [26]) : decode code pc = .ok (.iload_n 0, 1) := dk_of ((dk_bind (dk_u1 (h 0 _ rfl))).trans rfl)
theorem dk_27 {code : ByteArray} {pc : Nat} (h : DkAt code pc [27]) : decode code pc = .ok (.iload_n 1, 1) := dk_of ((dk_bind (dk_u1 (h 0 _ rfl))).trans rfl)
theorem dk_28 {code : ByteArray} {pc : Nat} (h : DkAt code pc [28]) : decode code pc = .ok (.iload_n 2, 1) := dk_of ((dk_bind (dk_u1 (h 0 _ rfl))).trans rfl)
theorem dk_29 {code : ByteArray} {pc : Nat} (h : DkAt code pc [29]) : decode code pc = .ok (.iload_n 3, 1) := dk_of ((dk_bind (dk_u1 (h 0 _ rfl))).trans rfl)
theorem dk_42 {code : ByteArray} {pc : Nat} (h : DkAt code pc [42]) : decode code pc = .ok (.aload_n 0, 1) := dk_of ((dk_bind (dk_u1 (h 0 _ rfl))).trans rfl)
theorem dk_43 {code : ByteArray} {pc : Nat} (h : DkAt code pc [43]) : decode code pc = .ok (.aload_n 1, 1) := dk_of ((dk_bind (dk_u1 (h 0 _ rfl))).trans rfl)
theorem dk_44 {code : ByteArray} {pc : Nat} (h : DkAt code pc [44]) : decode code pc = .ok (.aload_n 2, 1) := dk_of ((dk_bind (dk_u1 (h 0 _ rfl))).trans rfl)
theorem dk_46 {code : ByteArray} {pc : Nat} (h : DkAt code pc [46]) : decode code pc = .ok (.iaload, 1) := dk_of ((dk_bind (dk_u1 (h 0 _ rfl))).trans rfl)
theorem dk_51 {code : ByteArray} {pc : Nat} (h : DkAt code pc [51]) : decode code pc = .ok (.baload, 1) := dk_of ((dk_bind (dk_u1 (h 0 _ rfl))).trans rfl)
theorem dk_54 {code : ByteArray} {pc : Nat} (a : UInt8) (h : DkAt code pc [54, a]) : decode code pc = .ok (.istore a.toNat, 2) := dk_of ((dk_bind (dk_u1 (h 0 _ rfl))).trans ((dk_bind (dk_u1 (h 1 _ rfl))).trans rfl))
theorem dk_59 {code : ByteArray} {pc : Nat} (h : DkAt code pc [59]) : decode code pc = .ok (.istore_n 0, 1) := dk_of ((dk_bind (dk_u1 (h 0 _ rfl))).trans rfl)
theorem dk_60 {code : ByteArray} {pc : Nat} (h : DkAt code pc [60]) : decode code pc = .ok (.istore_n 1, 1) := dk_of ((dk_bind (dk_u1 (h 0 _ rfl))).trans rfl)
theorem dk_61 {code : ByteArray} {pc : Nat} (h : DkAt code pc [61]) : decode code pc = .ok (.istore_n 2, 1) := dk_of ((dk_bind (dk_u1 (h 0 _ rfl))).trans rfl)
theorem dk_62 {code : ByteArray} {pc : Nat} (h : DkAt code pc [62]) : decode code pc = .ok (.istore_n 3, 1) := dk_of ((dk_bind (dk_u1 (h 0 _ rfl))).trans rfl)
theorem dk_76 {code : ByteArray} {pc : Nat} (h : DkAt code pc [76]) : decode code pc = .ok (.astore_n 1, 1) := dk_of ((dk_bind (dk_u1 (h 0 _ rfl))).trans rfl)
theorem dk_77 {code : ByteArray} {pc : Nat} (h : DkAt code pc [77]) : decode code pc = .ok (.astore_n 2, 1) := dk_of ((dk_bind (dk_u1 (h 0 _ rfl))).trans rfl)
theorem dk_84 {code : ByteArray} {pc : Nat} (h : DkAt code pc [84]) : decode code pc = .ok (.bastore, 1) := dk_of ((dk_bind (dk_u1 (h 0 _ rfl))).trans rfl)
theorem dk_87 {code : ByteArray} {pc : Nat} (h : DkAt code pc [87]) : decode code pc = .ok (.pop, 1) := dk_of ((dk_bind (dk_u1 (h 0 _ rfl))).trans rfl)
theorem dk_89 {code : ByteArray} {pc : Nat} (h : DkAt code pc [89]) : decode code pc = .ok (.dup, 1) := dk_of ((dk_bind (dk_u1 (h 0 _ rfl))).trans rfl)
theorem dk_96 {code : ByteArray} {pc : Nat} (h : DkAt code pc [96]) : decode code pc = .ok (.iadd, 1) := dk_of ((dk_bind (dk_u1 (h 0 _ rfl))).trans rfl)
theorem dk_100 {code : ByteArray} {pc : Nat} (h : DkAt code pc [100]) : decode code pc = .ok (.isub, 1) := dk_of ((dk_bind (dk_u1 (h 0 _ rfl))).trans rfl)
theorem dk_104 {code : ByteArray} {pc : Nat} (h : DkAt code pc [104]) : decode code pc = .ok (.imul, 1) := dk_of ((dk_bind (dk_u1 (h 0 _ rfl))).trans rfl)
theorem dk_108 {code : ByteArray} {pc : Nat} (h : DkAt code pc [108]) : decode code pc = .ok (.idiv, 1) := dk_of ((dk_bind (dk_u1 (h 0 _ rfl))).trans rfl)
theorem dk_112 {code : ByteArray} {pc : Nat} (h : DkAt code pc [112]) : decode code pc = .ok (.irem, 1) := dk_of ((dk_bind (dk_u1 (h 0 _ rfl))).trans rfl)
theorem dk_116 {code : ByteArray} {pc : Nat} (h : DkAt code pc [116]) : decode code pc = .ok (.ineg, 1) := dk_of ((dk_bind (dk_u1 (h 0 _ rfl))).trans rfl)
theorem dk_120 {code : ByteArray} {pc : Nat} (h : DkAt code pc [120]) : decode code pc = .ok (.ishl, 1) := dk_of ((dk_bind (dk_u1 (h 0 _ rfl))).trans rfl)
theorem dk_122 {code : ByteArray} {pc : Nat} (h : DkAt code pc [122]) : decode code pc = .ok (.ishr, 1) := dk_of ((dk_bind (dk_u1 (h 0 _ rfl))).trans rfl)
theorem dk_124 {code : ByteArray} {pc : Nat} (h : DkAt code pc [124]) : decode code pc = .ok (.iushr, 1) := dk_of ((dk_bind (dk_u1 (h 0 _ rfl))).trans rfl)
theorem dk_126 {code : ByteArray} {pc : Nat} (h : DkAt code pc [126]) : decode code pc = .ok (.iand, 1) := dk_of ((dk_bind (dk_u1 (h 0 _ rfl))).trans rfl)
theorem dk_128 {code : ByteArray} {pc : Nat} (h : DkAt code pc [128]) : decode code pc = .ok (.ior, 1) := dk_of ((dk_bind (dk_u1 (h 0 _ rfl))).trans rfl)
theorem dk_132 {code : ByteArray} {pc : Nat} (a b : UInt8) (h : DkAt code pc [132, a, b]) : decode code pc = .ok (.iinc a.toNat (Reader.signed 8 b.toNat), 3) := dk_of ((dk_bind (dk_u1 (h 0 _ rfl))).trans ((dk_bind (dk_u1 (h 1 _ rfl))).trans ((dk_bind (dk_map (dk_u1 (h 2 _ rfl)))).trans rfl)))
theorem dk_133 {code : ByteArray} {pc : Nat} (h : DkAt code pc [133]) : decode code pc = .ok (.i2l, 1) := dk_of ((dk_bind (dk_u1 (h 0 _ rfl))).trans rfl)
theorem dk_145 {code : ByteArray} {pc : Nat} (h : DkAt code pc [145]) : decode code pc = .ok (.i2b, 1) := dk_of ((dk_bind (dk_u1 (h 0 _ rfl))).trans rfl)
theorem dk_148 {code : ByteArray} {pc : Nat} (h : DkAt code pc [148]) : decode code pc = .ok (.lcmp, 1) := dk_of ((dk_bind (dk_u1 (h 0 _ rfl))).trans rfl)
theorem dk_153 {code : ByteArray} {pc : Nat} (a b : UInt8) (h : DkAt code pc [153, a, b]) : decode code pc = .ok (.ifCond .eq (Reader.signed 16 (a.toNat * 256 + b.toNat)), 3) := dk_of ((dk_bind (dk_u1 (h 0 _ rfl))).trans ((dk_bind (dk_map (dk_u2 (h 1 _ rfl) (h 2 _ rfl)))).trans rfl))
theorem dk_154 {code : ByteArray} {pc : Nat} (a b : UInt8) (h : DkAt code pc [154, a, b]) : decode code pc = .ok (.ifCond .ne (Reader.signed 16 (a.toNat * 256 + b.toNat)), 3) := dk_of ((dk_bind (dk_u1 (h 0 _ rfl))).trans ((dk_bind (dk_map (dk_u2 (h 1 _ rfl) (h 2 _ rfl)))).trans rfl))
theorem dk_155 {code : ByteArray} {pc : Nat} (a b : UInt8) (h : DkAt code pc [155, a, b]) : decode code pc = .ok (.ifCond .lt (Reader.signed 16 (a.toNat * 256 + b.toNat)), 3) := dk_of ((dk_bind (dk_u1 (h 0 _ rfl))).trans ((dk_bind (dk_map (dk_u2 (h 1 _ rfl) (h 2 _ rfl)))).trans rfl))
theorem dk_156 {code : ByteArray} {pc : Nat} (a b : UInt8) (h : DkAt code pc [156, a, b]) : decode code pc = .ok (.ifCond .ge (Reader.signed 16 (a.toNat * 256 + b.toNat)), 3) := dk_of ((dk_bind (dk_u1 (h 0 _ rfl))).trans ((dk_bind (dk_map (dk_u2 (h 1 _ rfl) (h 2 _ rfl)))).trans rfl))
theorem dk_158 {code : ByteArray} {pc : Nat} (a b : UInt8) (h : DkAt code pc [158, a, b]) : decode code pc = .ok (.ifCond .le (Reader.signed 16 (a.toNat * 256 + b.toNat)), 3) := dk_of ((dk_bind (dk_u1 (h 0 _ rfl))).trans ((dk_bind (dk_map (dk_u2 (h 1 _ rfl) (h 2 _ rfl)))).trans rfl))
theorem dk_159 {code : ByteArray} {pc : Nat} (a b : UInt8) (h : DkAt code pc [159, a, b]) : decode code pc = .ok (.if_icmp .eq (Reader.signed 16 (a.toNat * 256 + b.toNat)), 3) := dk_of ((dk_bind (dk_u1 (h 0 _ rfl))).trans ((dk_bind (dk_map (dk_u2 (h 1 _ rfl) (h 2 _ rfl)))).trans rfl))
theorem dk_160 {code : ByteArray} {pc : Nat} (a b : UInt8) (h : DkAt code pc [160, a, b]) : decode code pc = .ok (.if_icmp .ne (Reader.signed 16 (a.toNat * 256 + b.toNat)), 3) := dk_of ((dk_bind (dk_u1 (h 0 _ rfl))).trans ((dk_bind (dk_map (dk_u2 (h 1 _ rfl) (h 2 _ rfl)))).trans rfl))
theorem dk_161 {code : ByteArray} {pc : Nat} (a b : UInt8) (h : DkAt code pc [161, a, b]) : decode code pc = .ok (.if_icmp .lt (Reader.signed 16 (a.toNat * 256 + b.toNat)), 3) := dk_of ((dk_bind (dk_u1 (h 0 _ rfl))).trans ((dk_bind (dk_map (dk_u2 (h 1 _ rfl) (h 2 _ rfl)))).trans rfl))
theorem dk_162 {code : ByteArray} {pc : Nat} (a b : UInt8) (h : DkAt code pc [162, a, b]) : decode code pc = .ok (.if_icmp .ge (Reader.signed 16 (a.toNat * 256 + b.toNat)), 3) := dk_of ((dk_bind (dk_u1 (h 0 _ rfl))).trans ((dk_bind (dk_map (dk_u2 (h 1 _ rfl) (h 2 _ rfl)))).trans rfl))
theorem dk_163 {code : ByteArray} {pc : Nat} (a b : UInt8) (h : DkAt code pc [163, a, b]) : decode code pc = .ok (.if_icmp .gt (Reader.signed 16 (a.toNat * 256 + b.toNat)), 3) := dk_of ((dk_bind (dk_u1 (h 0 _ rfl))).trans ((dk_bind (dk_map (dk_u2 (h 1 _ rfl) (h 2 _ rfl)))).trans rfl))
theorem dk_164 {code : ByteArray} {pc : Nat} (a b : UInt8) (h : DkAt code pc [164, a, b]) : decode code pc = .ok (.if_icmp .le (Reader.signed 16 (a.toNat * 256 + b.toNat)), 3) := dk_of ((dk_bind (dk_u1 (h 0 _ rfl))).trans ((dk_bind (dk_map (dk_u2 (h 1 _ rfl) (h 2 _ rfl)))).trans rfl))
theorem dk_167 {code : ByteArray} {pc : Nat} (a b : UInt8) (h : DkAt code pc [167, a, b]) : decode code pc = .ok (.goto (Reader.signed 16 (a.toNat * 256 + b.toNat)), 3) := dk_of ((dk_bind (dk_u1 (h 0 _ rfl))).trans ((dk_bind (dk_map (dk_u2 (h 1 _ rfl) (h 2 _ rfl)))).trans rfl))
theorem dk_172 {code : ByteArray} {pc : Nat} (h : DkAt code pc [172]) : decode code pc = .ok (.ireturn, 1) := dk_of ((dk_bind (dk_u1 (h 0 _ rfl))).trans rfl)
theorem dk_173 {code : ByteArray} {pc : Nat} (h : DkAt code pc [173]) : decode code pc = .ok (.lreturn, 1) := dk_of ((dk_bind (dk_u1 (h 0 _ rfl))).trans rfl)
theorem dk_176 {code : ByteArray} {pc : Nat} (h : DkAt code pc [176]) : decode code pc = .ok (.areturn, 1) := dk_of ((dk_bind (dk_u1 (h 0 _ rfl))).trans rfl)
theorem dk_177 {code : ByteArray} {pc : Nat} (h : DkAt code pc [177]) : decode code pc = .ok (.return_, 1) := dk_of ((dk_bind (dk_u1 (h 0 _ rfl))).trans rfl)
theorem dk_178 {code : ByteArray} {pc : Nat} (a b : UInt8) (h : DkAt code pc [178, a, b]) : decode code pc = .ok (.getstatic (a.toNat * 256 + b.toNat), 3) := dk_of ((dk_bind (dk_u1 (h 0 _ rfl))).trans ((dk_bind (dk_u2 (h 1 _ rfl) (h 2 _ rfl))).trans rfl))
theorem dk_180 {code : ByteArray} {pc : Nat} (a b : UInt8) (h : DkAt code pc [180, a, b]) : decode code pc = .ok (.getfield (a.toNat * 256 + b.toNat), 3) := dk_of ((dk_bind (dk_u1 (h 0 _ rfl))).trans ((dk_bind (dk_u2 (h 1 _ rfl) (h 2 _ rfl))).trans rfl))
theorem dk_181 {code : ByteArray} {pc : Nat} (a b : UInt8) (h : DkAt code pc [181, a, b]) : decode code pc = .ok (.putfield (a.toNat * 256 + b.toNat), 3) := dk_of ((dk_bind (dk_u1 (h 0 _ rfl))).trans ((dk_bind (dk_u2 (h 1 _ rfl) (h 2 _ rfl))).trans rfl))
theorem dk_182 {code : ByteArray} {pc : Nat} (a b : UInt8) (h : DkAt code pc [182, a, b]) : decode code pc = .ok (.invokevirtual (a.toNat * 256 + b.toNat), 3) := dk_of ((dk_bind (dk_u1 (h 0 _ rfl))).trans ((dk_bind (dk_u2 (h 1 _ rfl) (h 2 _ rfl))).trans rfl))
theorem dk_183 {code : ByteArray} {pc : Nat} (a b : UInt8) (h : DkAt code pc [183, a, b]) : decode code pc = .ok (.invokespecial (a.toNat * 256 + b.toNat), 3) := dk_of ((dk_bind (dk_u1 (h 0 _ rfl))).trans ((dk_bind (dk_u2 (h 1 _ rfl) (h 2 _ rfl))).trans rfl))
theorem dk_184 {code : ByteArray} {pc : Nat} (a b : UInt8) (h : DkAt code pc [184, a, b]) : decode code pc = .ok (.invokestatic (a.toNat * 256 + b.toNat), 3) := dk_of ((dk_bind (dk_u1 (h 0 _ rfl))).trans ((dk_bind (dk_u2 (h 1 _ rfl) (h 2 _ rfl))).trans rfl))
theorem dk_187 {code : ByteArray} {pc : Nat} (a b : UInt8) (h : DkAt code pc [187, a, b]) : decode code pc = .ok (.new (a.toNat * 256 + b.toNat), 3) := dk_of ((dk_bind (dk_u1 (h 0 _ rfl))).trans ((dk_bind (dk_u2 (h 1 _ rfl) (h 2 _ rfl))).trans rfl))
theorem dk_188_8 {code : ByteArray} {pc : Nat} (h : DkAt code pc [188, 8]) : decode code pc = .ok (.newarray .byte, 2) := dk_of ((dk_bind (dk_u1 (h 0 _ rfl))).trans ((dk_bind (dk_u1 (h 1 _ rfl))).trans rfl))
theorem dk_190 {code : ByteArray} {pc : Nat} (h : DkAt code pc [190]) : decode code pc = .ok (.arraylength, 1) := dk_of ((dk_bind (dk_u1 (h 0 _ rfl))).trans rfl)
theorem dk_191 {code : ByteArray} {pc : Nat} (h : DkAt code pc [191]) : decode code pc = .ok (.athrow, 1) := dk_of ((dk_bind (dk_u1 (h 0 _ rfl))).trans rfl)
end
section
/-! BitReader -/
set_option maxRecDepth 100000
def RX0 : String := "BitReader"
def TX0 : u_T := fun k => match k with
  | 0 => ("BitReader", "text", "[B", true)
  | 1 => ("BitReader", "size", "I", false)
  | _ => ("BitReader", "source", "LBitSource;", false)
def tyX0 : Nat → FieldType := fun k => match k with
  | 0 => .array .byte
  | 1 => .int
  | _ => .object "BitSource"
abbrev wsX00 : List Cond := u_ws RX0 TX0 3
theorem nmX0 : ∀ a, a < 3 → ∀ b, b < 3 → a ≠ b → (TX0 a).2.1 ≠ (TX0 b).2.1 := by decide +kernel
theorem tyX0_ok : ∀ k, k < 3 → parseFieldDescriptor (TX0 k).2.2.1 = some (tyX0 k) := by decide +kernel
abbrev cX0_init : ByteArray := prog_1_method_1_code
def yX0_init : MethodName := ⟨RX0, "<init>", "()V"⟩
def dkwX0_init_1 : List UInt8 := [181, 0, 18, 177]
abbrev dktX0_init_1 : List UInt8 := dkwX0_init_1 ++ []
def dkwX0_init_0 : List UInt8 := [42, 183, 0, 1, 42, 17, 16, 0, 188, 8, 181, 0, 7, 42, 187, 0, 13, 89, 3, 188, 8, 183, 0, 15]
abbrev dktX0_init_0 : List UInt8 := dkwX0_init_0 ++ dktX0_init_1
theorem dksX0_init_0 : cX0_init.data.toList.drop 0 = dktX0_init_0 := by decide +kernel
theorem dksX0_init_1 : cX0_init.data.toList.drop 24 = dktX0_init_1 := dk_seg dksX0_init_0 24 rfl rfl
theorem dX0_init_0 : decode cX0_init 0 = .ok (.aload_n 0, 1) := dk_42 (dk_at dksX0_init_0 0 rfl rfl)
theorem dX0_init_1 : decode cX0_init 1 = .ok (.invokespecial 1, 3) := dk_183 0 1 (dk_at dksX0_init_0 1 rfl rfl)
theorem dX0_init_4 : decode cX0_init 4 = .ok (.aload_n 0, 1) := dk_42 (dk_at dksX0_init_0 4 rfl rfl)
theorem dX0_init_5 : decode cX0_init 5 = .ok (.sipush 4096, 3) := dk_17 16 0 (dk_at dksX0_init_0 5 rfl rfl)
theorem dX0_init_8 : decode cX0_init 8 = .ok (.newarray .byte, 2) := dk_188_8 (dk_at dksX0_init_0 8 rfl rfl)
theorem dX0_init_10 : decode cX0_init 10 = .ok (.putfield 7, 3) := dk_181 0 7 (dk_at dksX0_init_0 10 rfl rfl)
theorem dX0_init_13 : decode cX0_init 13 = .ok (.aload_n 0, 1) := dk_42 (dk_at dksX0_init_0 13 rfl rfl)
theorem dX0_init_14 : decode cX0_init 14 = .ok (.new 13, 3) := dk_187 0 13 (dk_at dksX0_init_0 14 rfl rfl)
theorem dX0_init_17 : decode cX0_init 17 = .ok (.dup, 1) := dk_89 (dk_at dksX0_init_0 17 rfl rfl)
theorem dX0_init_18 : decode cX0_init 18 = .ok (.iconst 0, 1) := dk_3 (dk_at dksX0_init_0 18 rfl rfl)
theorem dX0_init_19 : decode cX0_init 19 = .ok (.newarray .byte, 2) := dk_188_8 (dk_at dksX0_init_0 19 rfl rfl)
theorem dX0_init_21 : decode cX0_init 21 = .ok (.invokespecial 15, 3) := dk_183 0 15 (dk_at dksX0_init_0 21 rfl rfl)
theorem dX0_init_24 : decode cX0_init 24 = .ok (.putfield 18, 3) := dk_181 0 18 (dk_at dksX0_init_1 0 rfl rfl)
theorem dX0_init_27 : decode cX0_init 27 = .ok (.return_, 1) := dk_177 (dk_at dksX0_init_1 3 rfl rfl)
abbrev cX0_put : ByteArray := prog_1_method_2_code
def yX0_put : MethodName := ⟨RX0, "put", "(IIII)Z"⟩
def dkwX0_put_3 : List UInt8 := [181, 0, 22, 4, 172]
abbrev dktX0_put_3 : List UInt8 := dkwX0_put_3 ++ []
def dkwX0_put_2 : List UInt8 := [182, 0, 26, 42, 42, 180, 0, 22, 16, 12, 96, 21, 4, 182, 0, 26, 42, 89, 180, 0, 22, 16, 16, 96]
abbrev dktX0_put_2 : List UInt8 := dkwX0_put_2 ++ dktX0_put_3
def dkwX0_put_1 : List UInt8 := [182, 0, 26, 42, 42, 180, 0, 22, 7, 96, 28, 182, 0, 26, 42, 42, 180, 0, 22, 16, 8, 96, 29]
abbrev dktX0_put_1 : List UInt8 := dkwX0_put_1 ++ dktX0_put_2
def dkwX0_put_0 : List UInt8 := [42, 180, 0, 22, 42, 180, 0, 7, 190, 16, 16, 100, 164, 0, 5, 3, 172, 42, 42, 180, 0, 22, 27]
abbrev dktX0_put_0 : List UInt8 := dkwX0_put_0 ++ dktX0_put_1
theorem dksX0_put_0 : cX0_put.data.toList.drop 0 = dktX0_put_0 := by decide +kernel
theorem dksX0_put_1 : cX0_put.data.toList.drop 23 = dktX0_put_1 := dk_seg dksX0_put_0 23 rfl rfl
theorem dksX0_put_2 : cX0_put.data.toList.drop 46 = dktX0_put_2 := dk_seg dksX0_put_1 23 rfl rfl
theorem dksX0_put_3 : cX0_put.data.toList.drop 70 = dktX0_put_3 := dk_seg dksX0_put_2 24 rfl rfl
theorem dX0_put_0 : decode cX0_put 0 = .ok (.aload_n 0, 1) := dk_42 (dk_at dksX0_put_0 0 rfl rfl)
theorem dX0_put_1 : decode cX0_put 1 = .ok (.getfield 22, 3) := dk_180 0 22 (dk_at dksX0_put_0 1 rfl rfl)
theorem dX0_put_4 : decode cX0_put 4 = .ok (.aload_n 0, 1) := dk_42 (dk_at dksX0_put_0 4 rfl rfl)
theorem dX0_put_5 : decode cX0_put 5 = .ok (.getfield 7, 3) := dk_180 0 7 (dk_at dksX0_put_0 5 rfl rfl)
theorem dX0_put_8 : decode cX0_put 8 = .ok (.arraylength, 1) := dk_190 (dk_at dksX0_put_0 8 rfl rfl)
theorem dX0_put_9 : decode cX0_put 9 = .ok (.bipush 16, 2) := dk_16 16 (dk_at dksX0_put_0 9 rfl rfl)
theorem dX0_put_11 : decode cX0_put 11 = .ok (.isub, 1) := dk_100 (dk_at dksX0_put_0 11 rfl rfl)
theorem dX0_put_12 : decode cX0_put 12 = .ok (.if_icmp .le 5, 3) := dk_164 0 5 (dk_at dksX0_put_0 12 rfl rfl)
theorem dX0_put_15 : decode cX0_put 15 = .ok (.iconst 0, 1) := dk_3 (dk_at dksX0_put_0 15 rfl rfl)
theorem dX0_put_16 : decode cX0_put 16 = .ok (.ireturn, 1) := dk_172 (dk_at dksX0_put_0 16 rfl rfl)
theorem dX0_put_17 : decode cX0_put 17 = .ok (.aload_n 0, 1) := dk_42 (dk_at dksX0_put_0 17 rfl rfl)
theorem dX0_put_18 : decode cX0_put 18 = .ok (.aload_n 0, 1) := dk_42 (dk_at dksX0_put_0 18 rfl rfl)
theorem dX0_put_19 : decode cX0_put 19 = .ok (.getfield 22, 3) := dk_180 0 22 (dk_at dksX0_put_0 19 rfl rfl)
theorem dX0_put_22 : decode cX0_put 22 = .ok (.iload_n 1, 1) := dk_27 (dk_at dksX0_put_0 22 rfl rfl)
theorem dX0_put_23 : decode cX0_put 23 = .ok (.invokevirtual 26, 3) := dk_182 0 26 (dk_at dksX0_put_1 0 rfl rfl)
theorem dX0_put_26 : decode cX0_put 26 = .ok (.aload_n 0, 1) := dk_42 (dk_at dksX0_put_1 3 rfl rfl)
theorem dX0_put_27 : decode cX0_put 27 = .ok (.aload_n 0, 1) := dk_42 (dk_at dksX0_put_1 4 rfl rfl)
theorem dX0_put_28 : decode cX0_put 28 = .ok (.getfield 22, 3) := dk_180 0 22 (dk_at dksX0_put_1 5 rfl rfl)
theorem dX0_put_31 : decode cX0_put 31 = .ok (.iconst 4, 1) := dk_7 (dk_at dksX0_put_1 8 rfl rfl)
theorem dX0_put_32 : decode cX0_put 32 = .ok (.iadd, 1) := dk_96 (dk_at dksX0_put_1 9 rfl rfl)
theorem dX0_put_33 : decode cX0_put 33 = .ok (.iload_n 2, 1) := dk_28 (dk_at dksX0_put_1 10 rfl rfl)
theorem dX0_put_34 : decode cX0_put 34 = .ok (.invokevirtual 26, 3) := dk_182 0 26 (dk_at dksX0_put_1 11 rfl rfl)
theorem dX0_put_37 : decode cX0_put 37 = .ok (.aload_n 0, 1) := dk_42 (dk_at dksX0_put_1 14 rfl rfl)
theorem dX0_put_38 : decode cX0_put 38 = .ok (.aload_n 0, 1) := dk_42 (dk_at dksX0_put_1 15 rfl rfl)
theorem dX0_put_39 : decode cX0_put 39 = .ok (.getfield 22, 3) := dk_180 0 22 (dk_at dksX0_put_1 16 rfl rfl)
theorem dX0_put_42 : decode cX0_put 42 = .ok (.bipush 8, 2) := dk_16 8 (dk_at dksX0_put_1 19 rfl rfl)
theorem dX0_put_44 : decode cX0_put 44 = .ok (.iadd, 1) := dk_96 (dk_at dksX0_put_1 21 rfl rfl)
theorem dX0_put_45 : decode cX0_put 45 = .ok (.iload_n 3, 1) := dk_29 (dk_at dksX0_put_1 22 rfl rfl)
theorem dX0_put_46 : decode cX0_put 46 = .ok (.invokevirtual 26, 3) := dk_182 0 26 (dk_at dksX0_put_2 0 rfl rfl)
theorem dX0_put_49 : decode cX0_put 49 = .ok (.aload_n 0, 1) := dk_42 (dk_at dksX0_put_2 3 rfl rfl)
theorem dX0_put_50 : decode cX0_put 50 = .ok (.aload_n 0, 1) := dk_42 (dk_at dksX0_put_2 4 rfl rfl)
theorem dX0_put_51 : decode cX0_put 51 = .ok (.getfield 22, 3) := dk_180 0 22 (dk_at dksX0_put_2 5 rfl rfl)
theorem dX0_put_54 : decode cX0_put 54 = .ok (.bipush 12, 2) := dk_16 12 (dk_at dksX0_put_2 8 rfl rfl)
theorem dX0_put_56 : decode cX0_put 56 = .ok (.iadd, 1) := dk_96 (dk_at dksX0_put_2 10 rfl rfl)
theorem dX0_put_57 : decode cX0_put 57 = .ok (.iload 4, 2) := dk_21 4 (dk_at dksX0_put_2 11 rfl rfl)
theorem dX0_put_59 : decode cX0_put 59 = .ok (.invokevirtual 26, 3) := dk_182 0 26 (dk_at dksX0_put_2 13 rfl rfl)
theorem dX0_put_62 : decode cX0_put 62 = .ok (.aload_n 0, 1) := dk_42 (dk_at dksX0_put_2 16 rfl rfl)
theorem dX0_put_63 : decode cX0_put 63 = .ok (.dup, 1) := dk_89 (dk_at dksX0_put_2 17 rfl rfl)
theorem dX0_put_64 : decode cX0_put 64 = .ok (.getfield 22, 3) := dk_180 0 22 (dk_at dksX0_put_2 18 rfl rfl)
theorem dX0_put_67 : decode cX0_put 67 = .ok (.bipush 16, 2) := dk_16 16 (dk_at dksX0_put_2 21 rfl rfl)
theorem dX0_put_69 : decode cX0_put 69 = .ok (.iadd, 1) := dk_96 (dk_at dksX0_put_2 23 rfl rfl)
theorem dX0_put_70 : decode cX0_put 70 = .ok (.putfield 22, 3) := dk_181 0 22 (dk_at dksX0_put_3 0 rfl rfl)
theorem dX0_put_73 : decode cX0_put 73 = .ok (.iconst 1, 1) := dk_4 (dk_at dksX0_put_3 3 rfl rfl)
theorem dX0_put_74 : decode cX0_put 74 = .ok (.ireturn, 1) := dk_172 (dk_at dksX0_put_3 4 rfl rfl)
abbrev cX0_word : ByteArray := prog_1_method_3_code
def yX0_word : MethodName := ⟨RX0, "word", "(II)V"⟩
def dkwX0_word_1 : List UInt8 := [42, 180, 0, 7, 27, 5, 96, 28, 16, 8, 122, 145, 84, 42, 180, 0, 7, 27, 6, 96, 28, 145, 84, 177]
abbrev dktX0_word_1 : List UInt8 := dkwX0_word_1 ++ []
def dkwX0_word_0 : List UInt8 := [42, 180, 0, 7, 27, 28, 16, 24, 122, 145, 84, 42, 180, 0, 7, 27, 4, 96, 28, 16, 16, 122, 145, 84]
abbrev dktX0_word_0 : List UInt8 := dkwX0_word_0 ++ dktX0_word_1
theorem dksX0_word_0 : cX0_word.data.toList.drop 0 = dktX0_word_0 := by decide +kernel
theorem dksX0_word_1 : cX0_word.data.toList.drop 24 = dktX0_word_1 := dk_seg dksX0_word_0 24 rfl rfl
theorem dX0_word_0 : decode cX0_word 0 = .ok (.aload_n 0, 1) := dk_42 (dk_at dksX0_word_0 0 rfl rfl)
theorem dX0_word_1 : decode cX0_word 1 = .ok (.getfield 7, 3) := dk_180 0 7 (dk_at dksX0_word_0 1 rfl rfl)
theorem dX0_word_4 : decode cX0_word 4 = .ok (.iload_n 1, 1) := dk_27 (dk_at dksX0_word_0 4 rfl rfl)
theorem dX0_word_5 : decode cX0_word 5 = .ok (.iload_n 2, 1) := dk_28 (dk_at dksX0_word_0 5 rfl rfl)
theorem dX0_word_6 : decode cX0_word 6 = .ok (.bipush 24, 2) := dk_16 24 (dk_at dksX0_word_0 6 rfl rfl)
theorem dX0_word_8 : decode cX0_word 8 = .ok (.ishr, 1) := dk_122 (dk_at dksX0_word_0 8 rfl rfl)
theorem dX0_word_9 : decode cX0_word 9 = .ok (.i2b, 1) := dk_145 (dk_at dksX0_word_0 9 rfl rfl)
theorem dX0_word_10 : decode cX0_word 10 = .ok (.bastore, 1) := dk_84 (dk_at dksX0_word_0 10 rfl rfl)
theorem dX0_word_11 : decode cX0_word 11 = .ok (.aload_n 0, 1) := dk_42 (dk_at dksX0_word_0 11 rfl rfl)
theorem dX0_word_12 : decode cX0_word 12 = .ok (.getfield 7, 3) := dk_180 0 7 (dk_at dksX0_word_0 12 rfl rfl)
theorem dX0_word_15 : decode cX0_word 15 = .ok (.iload_n 1, 1) := dk_27 (dk_at dksX0_word_0 15 rfl rfl)
theorem dX0_word_16 : decode cX0_word 16 = .ok (.iconst 1, 1) := dk_4 (dk_at dksX0_word_0 16 rfl rfl)
theorem dX0_word_17 : decode cX0_word 17 = .ok (.iadd, 1) := dk_96 (dk_at dksX0_word_0 17 rfl rfl)
theorem dX0_word_18 : decode cX0_word 18 = .ok (.iload_n 2, 1) := dk_28 (dk_at dksX0_word_0 18 rfl rfl)
theorem dX0_word_19 : decode cX0_word 19 = .ok (.bipush 16, 2) := dk_16 16 (dk_at dksX0_word_0 19 rfl rfl)
theorem dX0_word_21 : decode cX0_word 21 = .ok (.ishr, 1) := dk_122 (dk_at dksX0_word_0 21 rfl rfl)
theorem dX0_word_22 : decode cX0_word 22 = .ok (.i2b, 1) := dk_145 (dk_at dksX0_word_0 22 rfl rfl)
theorem dX0_word_23 : decode cX0_word 23 = .ok (.bastore, 1) := dk_84 (dk_at dksX0_word_0 23 rfl rfl)
theorem dX0_word_24 : decode cX0_word 24 = .ok (.aload_n 0, 1) := dk_42 (dk_at dksX0_word_1 0 rfl rfl)
theorem dX0_word_25 : decode cX0_word 25 = .ok (.getfield 7, 3) := dk_180 0 7 (dk_at dksX0_word_1 1 rfl rfl)
theorem dX0_word_28 : decode cX0_word 28 = .ok (.iload_n 1, 1) := dk_27 (dk_at dksX0_word_1 4 rfl rfl)
theorem dX0_word_29 : decode cX0_word 29 = .ok (.iconst 2, 1) := dk_5 (dk_at dksX0_word_1 5 rfl rfl)
theorem dX0_word_30 : decode cX0_word 30 = .ok (.iadd, 1) := dk_96 (dk_at dksX0_word_1 6 rfl rfl)
theorem dX0_word_31 : decode cX0_word 31 = .ok (.iload_n 2, 1) := dk_28 (dk_at dksX0_word_1 7 rfl rfl)
theorem dX0_word_32 : decode cX0_word 32 = .ok (.bipush 8, 2) := dk_16 8 (dk_at dksX0_word_1 8 rfl rfl)
theorem dX0_word_34 : decode cX0_word 34 = .ok (.ishr, 1) := dk_122 (dk_at dksX0_word_1 10 rfl rfl)
theorem dX0_word_35 : decode cX0_word 35 = .ok (.i2b, 1) := dk_145 (dk_at dksX0_word_1 11 rfl rfl)
theorem dX0_word_36 : decode cX0_word 36 = .ok (.bastore, 1) := dk_84 (dk_at dksX0_word_1 12 rfl rfl)
theorem dX0_word_37 : decode cX0_word 37 = .ok (.aload_n 0, 1) := dk_42 (dk_at dksX0_word_1 13 rfl rfl)
theorem dX0_word_38 : decode cX0_word 38 = .ok (.getfield 7, 3) := dk_180 0 7 (dk_at dksX0_word_1 14 rfl rfl)
theorem dX0_word_41 : decode cX0_word 41 = .ok (.iload_n 1, 1) := dk_27 (dk_at dksX0_word_1 17 rfl rfl)
theorem dX0_word_42 : decode cX0_word 42 = .ok (.iconst 3, 1) := dk_6 (dk_at dksX0_word_1 18 rfl rfl)
theorem dX0_word_43 : decode cX0_word 43 = .ok (.iadd, 1) := dk_96 (dk_at dksX0_word_1 19 rfl rfl)
theorem dX0_word_44 : decode cX0_word 44 = .ok (.iload_n 2, 1) := dk_28 (dk_at dksX0_word_1 20 rfl rfl)
theorem dX0_word_45 : decode cX0_word 45 = .ok (.i2b, 1) := dk_145 (dk_at dksX0_word_1 21 rfl rfl)
theorem dX0_word_46 : decode cX0_word 46 = .ok (.bastore, 1) := dk_84 (dk_at dksX0_word_1 22 rfl rfl)
theorem dX0_word_47 : decode cX0_word 47 = .ok (.return_, 1) := dk_177 (dk_at dksX0_word_1 23 rfl rfl)
abbrev cX0_trim : ByteArray := prog_1_method_4_code
def yX0_trim : MethodName := ⟨RX0, "trim", "(I)V"⟩
def dkwX0_trim_0 : List UInt8 := [42, 42, 27, 182, 0, 30, 181, 0, 22, 177]
abbrev dktX0_trim_0 : List UInt8 := dkwX0_trim_0 ++ []
theorem dksX0_trim_0 : cX0_trim.data.toList.drop 0 = dktX0_trim_0 := by decide +kernel
theorem dX0_trim_0 : decode cX0_trim 0 = .ok (.aload_n 0, 1) := dk_42 (dk_at dksX0_trim_0 0 rfl rfl)
theorem dX0_trim_1 : decode cX0_trim 1 = .ok (.aload_n 0, 1) := dk_42 (dk_at dksX0_trim_0 1 rfl rfl)
theorem dX0_trim_2 : decode cX0_trim 2 = .ok (.iload_n 1, 1) := dk_27 (dk_at dksX0_trim_0 2 rfl rfl)
theorem dX0_trim_3 : decode cX0_trim 3 = .ok (.invokevirtual 30, 3) := dk_182 0 30 (dk_at dksX0_trim_0 3 rfl rfl)
theorem dX0_trim_6 : decode cX0_trim 6 = .ok (.putfield 22, 3) := dk_181 0 22 (dk_at dksX0_trim_0 6 rfl rfl)
theorem dX0_trim_9 : decode cX0_trim 9 = .ok (.return_, 1) := dk_177 (dk_at dksX0_trim_0 9 rfl rfl)
abbrev cX0_from : ByteArray := prog_1_method_6_code
def yX0_from : MethodName := ⟨RX0, "from", "(I)I"⟩
def dkwX0_from_0 : List UInt8 := [27, 18, 34, 126, 42, 180, 0, 22, 4, 96, 112, 172]
abbrev dktX0_from_0 : List UInt8 := dkwX0_from_0 ++ []
theorem dksX0_from_0 : cX0_from.data.toList.drop 0 = dktX0_from_0 := by decide +kernel
theorem dX0_from_0 : decode cX0_from 0 = .ok (.iload_n 1, 1) := dk_27 (dk_at dksX0_from_0 0 rfl rfl)
theorem dX0_from_1 : decode cX0_from 1 = .ok (.ldc 34, 2) := dk_18 34 (dk_at dksX0_from_0 1 rfl rfl)
theorem dX0_from_3 : decode cX0_from 3 = .ok (.iand, 1) := dk_126 (dk_at dksX0_from_0 3 rfl rfl)
theorem dX0_from_4 : decode cX0_from 4 = .ok (.aload_n 0, 1) := dk_42 (dk_at dksX0_from_0 4 rfl rfl)
theorem dX0_from_5 : decode cX0_from 5 = .ok (.getfield 22, 3) := dk_180 0 22 (dk_at dksX0_from_0 5 rfl rfl)
theorem dX0_from_8 : decode cX0_from 8 = .ok (.iconst 1, 1) := dk_4 (dk_at dksX0_from_0 8 rfl rfl)
theorem dX0_from_9 : decode cX0_from 9 = .ok (.iadd, 1) := dk_96 (dk_at dksX0_from_0 9 rfl rfl)
theorem dX0_from_10 : decode cX0_from 10 = .ok (.irem, 1) := dk_112 (dk_at dksX0_from_0 10 rfl rfl)
theorem dX0_from_11 : decode cX0_from 11 = .ok (.ireturn, 1) := dk_172 (dk_at dksX0_from_0 11 rfl rfl)
abbrev cX0_size : ByteArray := prog_1_method_5_code
def yX0_size : MethodName := ⟨RX0, "size", "()I"⟩
theorem dX0_size_0 : decode cX0_size 0 = .ok (.aload_n 0, 1) := by decide +kernel
theorem dX0_size_1 : decode cX0_size 1 = .ok (.getfield 22, 3) := by decide +kernel
theorem dX0_size_4 : decode cX0_size 4 = .ok (.ireturn, 1) := by decide +kernel
abbrev cX0_begin : ByteArray := prog_1_method_8_code
def yX0_begin : MethodName := ⟨RX0, "begin", "()V"⟩
def dkwX0_begin_1 : List UInt8 := [51, 84, 132, 2, 1, 167, 255, 236, 42, 187, 0, 13, 89, 43, 183, 0, 15, 181, 0, 18, 177]
abbrev dktX0_begin_1 : List UInt8 := dkwX0_begin_1 ++ []
def dkwX0_begin_0 : List UInt8 := [42, 180, 0, 22, 188, 8, 76, 3, 61, 28, 42, 180, 0, 22, 162, 0, 18, 43, 28, 42, 180, 0, 7, 28]
abbrev dktX0_begin_0 : List UInt8 := dkwX0_begin_0 ++ dktX0_begin_1
theorem dksX0_begin_0 : cX0_begin.data.toList.drop 0 = dktX0_begin_0 := by decide +kernel
theorem dksX0_begin_1 : cX0_begin.data.toList.drop 24 = dktX0_begin_1 := dk_seg dksX0_begin_0 24 rfl rfl
theorem dX0_begin_0 : decode cX0_begin 0 = .ok (.aload_n 0, 1) := dk_42 (dk_at dksX0_begin_0 0 rfl rfl)
theorem dX0_begin_1 : decode cX0_begin 1 = .ok (.getfield 22, 3) := dk_180 0 22 (dk_at dksX0_begin_0 1 rfl rfl)
theorem dX0_begin_4 : decode cX0_begin 4 = .ok (.newarray .byte, 2) := dk_188_8 (dk_at dksX0_begin_0 4 rfl rfl)
theorem dX0_begin_6 : decode cX0_begin 6 = .ok (.astore_n 1, 1) := dk_76 (dk_at dksX0_begin_0 6 rfl rfl)
theorem dX0_begin_7 : decode cX0_begin 7 = .ok (.iconst 0, 1) := dk_3 (dk_at dksX0_begin_0 7 rfl rfl)
theorem dX0_begin_8 : decode cX0_begin 8 = .ok (.istore_n 2, 1) := dk_61 (dk_at dksX0_begin_0 8 rfl rfl)
theorem dX0_begin_9 : decode cX0_begin 9 = .ok (.iload_n 2, 1) := dk_28 (dk_at dksX0_begin_0 9 rfl rfl)
theorem dX0_begin_10 : decode cX0_begin 10 = .ok (.aload_n 0, 1) := dk_42 (dk_at dksX0_begin_0 10 rfl rfl)
theorem dX0_begin_11 : decode cX0_begin 11 = .ok (.getfield 22, 3) := dk_180 0 22 (dk_at dksX0_begin_0 11 rfl rfl)
theorem dX0_begin_14 : decode cX0_begin 14 = .ok (.if_icmp .ge 18, 3) := dk_162 0 18 (dk_at dksX0_begin_0 14 rfl rfl)
theorem dX0_begin_17 : decode cX0_begin 17 = .ok (.aload_n 1, 1) := dk_43 (dk_at dksX0_begin_0 17 rfl rfl)
theorem dX0_begin_18 : decode cX0_begin 18 = .ok (.iload_n 2, 1) := dk_28 (dk_at dksX0_begin_0 18 rfl rfl)
theorem dX0_begin_19 : decode cX0_begin 19 = .ok (.aload_n 0, 1) := dk_42 (dk_at dksX0_begin_0 19 rfl rfl)
theorem dX0_begin_20 : decode cX0_begin 20 = .ok (.getfield 7, 3) := dk_180 0 7 (dk_at dksX0_begin_0 20 rfl rfl)
theorem dX0_begin_23 : decode cX0_begin 23 = .ok (.iload_n 2, 1) := dk_28 (dk_at dksX0_begin_0 23 rfl rfl)
theorem dX0_begin_24 : decode cX0_begin 24 = .ok (.baload, 1) := dk_51 (dk_at dksX0_begin_1 0 rfl rfl)
theorem dX0_begin_25 : decode cX0_begin 25 = .ok (.bastore, 1) := dk_84 (dk_at dksX0_begin_1 1 rfl rfl)
theorem dX0_begin_26 : decode cX0_begin 26 = .ok (.iinc 2 1, 3) := dk_132 2 1 (dk_at dksX0_begin_1 2 rfl rfl)
theorem dX0_begin_29 : decode cX0_begin 29 = .ok (.goto (-20), 3) := dk_167 255 236 (dk_at dksX0_begin_1 5 rfl rfl)
theorem dX0_begin_32 : decode cX0_begin 32 = .ok (.aload_n 0, 1) := dk_42 (dk_at dksX0_begin_1 8 rfl rfl)
theorem dX0_begin_33 : decode cX0_begin 33 = .ok (.new 13, 3) := dk_187 0 13 (dk_at dksX0_begin_1 9 rfl rfl)
theorem dX0_begin_36 : decode cX0_begin 36 = .ok (.dup, 1) := dk_89 (dk_at dksX0_begin_1 12 rfl rfl)
theorem dX0_begin_37 : decode cX0_begin 37 = .ok (.aload_n 1, 1) := dk_43 (dk_at dksX0_begin_1 13 rfl rfl)
theorem dX0_begin_38 : decode cX0_begin 38 = .ok (.invokespecial 15, 3) := dk_183 0 15 (dk_at dksX0_begin_1 14 rfl rfl)
theorem dX0_begin_41 : decode cX0_begin 41 = .ok (.putfield 18, 3) := dk_181 0 18 (dk_at dksX0_begin_1 17 rfl rfl)
theorem dX0_begin_44 : decode cX0_begin 44 = .ok (.return_, 1) := dk_177 (dk_at dksX0_begin_1 20 rfl rfl)
abbrev cX0_left : ByteArray := prog_1_method_9_code
def yX0_left : MethodName := ⟨RX0, "left", "()I"⟩
def dkwX0_left_0 : List UInt8 := [42, 180, 0, 18, 182, 0, 35, 172]
abbrev dktX0_left_0 : List UInt8 := dkwX0_left_0 ++ []
theorem dksX0_left_0 : cX0_left.data.toList.drop 0 = dktX0_left_0 := by decide +kernel
theorem dX0_left_0 : decode cX0_left 0 = .ok (.aload_n 0, 1) := dk_42 (dk_at dksX0_left_0 0 rfl rfl)
theorem dX0_left_1 : decode cX0_left 1 = .ok (.getfield 18, 3) := dk_180 0 18 (dk_at dksX0_left_0 1 rfl rfl)
theorem dX0_left_4 : decode cX0_left 4 = .ok (.invokevirtual 35, 3) := dk_182 0 35 (dk_at dksX0_left_0 4 rfl rfl)
theorem dX0_left_7 : decode cX0_left 7 = .ok (.ireturn, 1) := dk_172 (dk_at dksX0_left_0 7 rfl rfl)
abbrev cX0_read : ByteArray := prog_1_method_10_code
def yX0_read : MethodName := ⟨RX0, "read", "(I)J"⟩
def dkwX0_read_1 : List UInt8 := [42, 180, 0, 18, 28, 182, 0, 41, 133, 173]
abbrev dktX0_read_1 : List UInt8 := dkwX0_read_1 ++ []
def dkwX0_read_0 : List UInt8 := [4, 27, 16, 31, 126, 96, 61, 28, 42, 180, 0, 18, 182, 0, 35, 164, 0, 9, 20, 0, 39, 167, 0, 12]
abbrev dktX0_read_0 : List UInt8 := dkwX0_read_0 ++ dktX0_read_1
theorem dksX0_read_0 : cX0_read.data.toList.drop 0 = dktX0_read_0 := by decide +kernel
theorem dksX0_read_1 : cX0_read.data.toList.drop 24 = dktX0_read_1 := dk_seg dksX0_read_0 24 rfl rfl
theorem dX0_read_0 : decode cX0_read 0 = .ok (.iconst 1, 1) := dk_4 (dk_at dksX0_read_0 0 rfl rfl)
theorem dX0_read_1 : decode cX0_read 1 = .ok (.iload_n 1, 1) := dk_27 (dk_at dksX0_read_0 1 rfl rfl)
theorem dX0_read_2 : decode cX0_read 2 = .ok (.bipush 31, 2) := dk_16 31 (dk_at dksX0_read_0 2 rfl rfl)
theorem dX0_read_4 : decode cX0_read 4 = .ok (.iand, 1) := dk_126 (dk_at dksX0_read_0 4 rfl rfl)
theorem dX0_read_5 : decode cX0_read 5 = .ok (.iadd, 1) := dk_96 (dk_at dksX0_read_0 5 rfl rfl)
theorem dX0_read_6 : decode cX0_read 6 = .ok (.istore_n 2, 1) := dk_61 (dk_at dksX0_read_0 6 rfl rfl)
theorem dX0_read_7 : decode cX0_read 7 = .ok (.iload_n 2, 1) := dk_28 (dk_at dksX0_read_0 7 rfl rfl)
theorem dX0_read_8 : decode cX0_read 8 = .ok (.aload_n 0, 1) := dk_42 (dk_at dksX0_read_0 8 rfl rfl)
theorem dX0_read_9 : decode cX0_read 9 = .ok (.getfield 18, 3) := dk_180 0 18 (dk_at dksX0_read_0 9 rfl rfl)
theorem dX0_read_12 : decode cX0_read 12 = .ok (.invokevirtual 35, 3) := dk_182 0 35 (dk_at dksX0_read_0 12 rfl rfl)
theorem dX0_read_15 : decode cX0_read 15 = .ok (.if_icmp .le 9, 3) := dk_164 0 9 (dk_at dksX0_read_0 15 rfl rfl)
theorem dX0_read_18 : decode cX0_read 18 = .ok (.ldc2_w 39, 3) := dk_20 0 39 (dk_at dksX0_read_0 18 rfl rfl)
theorem dX0_read_21 : decode cX0_read 21 = .ok (.goto 12, 3) := dk_167 0 12 (dk_at dksX0_read_0 21 rfl rfl)
theorem dX0_read_24 : decode cX0_read 24 = .ok (.aload_n 0, 1) := dk_42 (dk_at dksX0_read_1 0 rfl rfl)
theorem dX0_read_25 : decode cX0_read 25 = .ok (.getfield 18, 3) := dk_180 0 18 (dk_at dksX0_read_1 1 rfl rfl)
theorem dX0_read_28 : decode cX0_read 28 = .ok (.iload_n 2, 1) := dk_28 (dk_at dksX0_read_1 4 rfl rfl)
theorem dX0_read_29 : decode cX0_read 29 = .ok (.invokevirtual 41, 3) := dk_182 0 41 (dk_at dksX0_read_1 5 rfl rfl)
theorem dX0_read_32 : decode cX0_read 32 = .ok (.i2l, 1) := dk_133 (dk_at dksX0_read_1 8 rfl rfl)
theorem dX0_read_33 : decode cX0_read 33 = .ok (.lreturn, 1) := dk_173 (dk_at dksX0_read_1 9 rfl rfl)
abbrev cX0_octet : ByteArray := prog_1_method_11_code
def yX0_octet : MethodName := ⟨RX0, "octet", "()I"⟩
def dkwX0_octet_0 : List UInt8 := [42, 180, 0, 18, 182, 0, 44, 172]
abbrev dktX0_octet_0 : List UInt8 := dkwX0_octet_0 ++ []
theorem dksX0_octet_0 : cX0_octet.data.toList.drop 0 = dktX0_octet_0 := by decide +kernel
theorem dX0_octet_0 : decode cX0_octet 0 = .ok (.aload_n 0, 1) := dk_42 (dk_at dksX0_octet_0 0 rfl rfl)
theorem dX0_octet_1 : decode cX0_octet 1 = .ok (.getfield 18, 3) := dk_180 0 18 (dk_at dksX0_octet_0 1 rfl rfl)
theorem dX0_octet_4 : decode cX0_octet 4 = .ok (.invokevirtual 44, 3) := dk_182 0 44 (dk_at dksX0_octet_0 4 rfl rfl)
theorem dX0_octet_7 : decode cX0_octet 7 = .ok (.ireturn, 1) := dk_172 (dk_at dksX0_octet_0 7 rfl rfl)
abbrev cX0_bit : ByteArray := prog_1_method_12_code
def yX0_bit : MethodName := ⟨RX0, "bit", "()I"⟩
def dkwX0_bit_0 : List UInt8 := [42, 180, 0, 18, 182, 0, 47, 172]
abbrev dktX0_bit_0 : List UInt8 := dkwX0_bit_0 ++ []
theorem dksX0_bit_0 : cX0_bit.data.toList.drop 0 = dktX0_bit_0 := by decide +kernel
theorem dX0_bit_0 : decode cX0_bit 0 = .ok (.aload_n 0, 1) := dk_42 (dk_at dksX0_bit_0 0 rfl rfl)
theorem dX0_bit_1 : decode cX0_bit 1 = .ok (.getfield 18, 3) := dk_180 0 18 (dk_at dksX0_bit_0 1 rfl rfl)
theorem dX0_bit_4 : decode cX0_bit 4 = .ok (.invokevirtual 47, 3) := dk_182 0 47 (dk_at dksX0_bit_0 4 rfl rfl)
theorem dX0_bit_7 : decode cX0_bit 7 = .ok (.ireturn, 1) := dk_172 (dk_at dksX0_bit_0 7 rfl rfl)
theorem q5 : (Jvm.Cond.initialized "BitReader") ∈ lw_all := lw_g (lw_at lw_m1 1 rfl) rfl
theorem q18 : (Jvm.Cond.instantiable "BitReader" (3 : Nat)) ∈ lw_all := lw_g (lw_at lw_m1 14 rfl) rfl
theorem q20 : (Jvm.Cond.instanceMethod ({ cls := "BitReader", name := "<init>", desc := "()V" } : Jvm.MethodName)) ∈ lw_all := lw_g (lw_at lw_m1 16 rfl) rfl
theorem q21 : (Jvm.Cond.code ({ cls := "BitReader", name := "<init>", desc := "()V" } : Jvm.MethodName) prog_1_method_1_code (1 : Nat) (Option.none : Option Jvm.ClassFile.FieldType)) ∈ lw_all := lw_g (lw_at lw_m1 17 rfl) rfl
theorem q22 : (Jvm.Cond.methodLink "BitReader" (1 : Nat) ({ cls := "java/lang/Object", name := "<init>", desc := "()V" } : Jvm.MethodName)) ∈ lw_all := lw_g (lw_at lw_m1 18 rfl) rfl
theorem q25 : (Jvm.Cond.classLink "BitReader" (13 : Nat) "BitSource") ∈ lw_all := lw_g (lw_at lw_m1 21 rfl) rfl
theorem q27 : (Jvm.Cond.methodLink "BitReader" (15 : Nat) ({ cls := "BitSource", name := "<init>", desc := "([B)V" } : Jvm.MethodName)) ∈ lw_all := lw_g (lw_at lw_m1 23 rfl) rfl
theorem q42 : (Jvm.Cond.fieldLink "BitReader" (7 : Nat) "BitReader" "text" "[B") ∈ lw_all := lw_g (lw_at lw_m1 38 rfl) rfl
theorem q43 : (Jvm.Cond.fieldLink "BitReader" (22 : Nat) "BitReader" "size" "I") ∈ lw_all := lw_g (lw_at lw_m1 39 rfl) rfl
theorem q44 : (Jvm.Cond.fieldLink "BitReader" (18 : Nat) "BitReader" "source" "LBitSource;") ∈ lw_all := lw_g (lw_at lw_m1 40 rfl) rfl
theorem q45 : (Jvm.Cond.laysFinal "BitReader" "BitReader" "text" "[B") ∈ lw_all := lw_g (lw_at lw_m1 41 rfl) rfl
theorem q46 : (Jvm.Cond.soleField "BitReader" "text") ∈ lw_all := lw_g (lw_at lw_m1 42 rfl) rfl
theorem q47 : (Jvm.Cond.lays "BitReader" "BitReader" "size" "I") ∈ lw_all := lw_g (lw_at lw_m1 43 rfl) rfl
theorem q48 : (Jvm.Cond.soleField "BitReader" "size") ∈ lw_all := lw_g (lw_at lw_m1 44 rfl) rfl
theorem q49 : (Jvm.Cond.lays "BitReader" "BitReader" "source" "LBitSource;") ∈ lw_all := lw_g (lw_at lw_m1 45 rfl) rfl
theorem q50 : (Jvm.Cond.soleField "BitReader" "source") ∈ lw_all := lw_g (lw_at lw_m1 46 rfl) rfl
theorem q51 : (Jvm.Cond.superclass "BitReader" "java/lang/Object") ∈ lw_all := lw_g (lw_at lw_m1 47 rfl) rfl
theorem q53 : (Jvm.Cond.instanceMethod ({ cls := "BitReader", name := "put", desc := "(IIII)Z" } : Jvm.MethodName)) ∈ lw_all := lw_g (lw_at lw_m1 49 rfl) rfl
theorem q54 : (Jvm.Cond.selects "BitReader" ({ cls := "BitReader", name := "put", desc := "(IIII)Z" } : Jvm.MethodName) ({ cls := "BitReader", name := "put", desc := "(IIII)Z" } : Jvm.MethodName)) ∈ lw_all := lw_g (lw_at lw_m1 50 rfl) rfl
theorem q55 : (Jvm.Cond.code ({ cls := "BitReader", name := "put", desc := "(IIII)Z" } : Jvm.MethodName) prog_1_method_2_code (5 : Nat) (Option.some Jvm.ClassFile.FieldType.boolean)) ∈ lw_all := lw_g (lw_at lw_m1 51 rfl) rfl
theorem q56 : (Jvm.Cond.methodLink "BitReader" (26 : Nat) ({ cls := "BitReader", name := "word", desc := "(II)V" } : Jvm.MethodName)) ∈ lw_all := lw_g (lw_at lw_m1 52 rfl) rfl
theorem q57 : (Jvm.Cond.privateMethod ({ cls := "BitReader", name := "word", desc := "(II)V" } : Jvm.MethodName)) ∈ lw_tbl := lw_at lw_m1 53 rfl
theorem q58 : (Jvm.Cond.instanceMethod ({ cls := "BitReader", name := "word", desc := "(II)V" } : Jvm.MethodName)) ∈ lw_all := lw_g (lw_at lw_m1 54 rfl) rfl
theorem q59 : (Jvm.Cond.code ({ cls := "BitReader", name := "word", desc := "(II)V" } : Jvm.MethodName) prog_1_method_3_code (3 : Nat) (Option.none : Option Jvm.ClassFile.FieldType)) ∈ lw_all := lw_g (lw_at lw_m1 55 rfl) rfl
theorem q61 : (Jvm.Cond.instanceMethod ({ cls := "BitReader", name := "trim", desc := "(I)V" } : Jvm.MethodName)) ∈ lw_all := lw_g (lw_at lw_m1 57 rfl) rfl
theorem q62 : (Jvm.Cond.selects "BitReader" ({ cls := "BitReader", name := "trim", desc := "(I)V" } : Jvm.MethodName) ({ cls := "BitReader", name := "trim", desc := "(I)V" } : Jvm.MethodName)) ∈ lw_all := lw_g (lw_at lw_m1 58 rfl) rfl
theorem q63 : (Jvm.Cond.code ({ cls := "BitReader", name := "trim", desc := "(I)V" } : Jvm.MethodName) prog_1_method_4_code (2 : Nat) (Option.none : Option Jvm.ClassFile.FieldType)) ∈ lw_all := lw_g (lw_at lw_m1 59 rfl) rfl
theorem q64 : (Jvm.Cond.methodLink "BitReader" (30 : Nat) ({ cls := "BitReader", name := "from", desc := "(I)I" } : Jvm.MethodName)) ∈ lw_all := lw_g (lw_at lw_m1 60 rfl) rfl
theorem q65 : (Jvm.Cond.privateMethod ({ cls := "BitReader", name := "from", desc := "(I)I" } : Jvm.MethodName)) ∈ lw_tbl := lw_at lw_m1 61 rfl
theorem q66 : (Jvm.Cond.instanceMethod ({ cls := "BitReader", name := "from", desc := "(I)I" } : Jvm.MethodName)) ∈ lw_all := lw_g (lw_at lw_m1 62 rfl) rfl
theorem q67 : (Jvm.Cond.code ({ cls := "BitReader", name := "from", desc := "(I)I" } : Jvm.MethodName) prog_1_method_6_code (2 : Nat) (Option.some Jvm.ClassFile.FieldType.int)) ∈ lw_all := lw_g (lw_at lw_m1 63 rfl) rfl
theorem q68 : (Jvm.Cond.constant "BitReader" (34 : Nat) (2147483647 : Int32)) ∈ lw_all := lw_g (lw_at lw_m1 64 rfl) rfl
theorem q70 : (Jvm.Cond.instanceMethod ({ cls := "BitReader", name := "size", desc := "()I" } : Jvm.MethodName)) ∈ lw_all := lw_g (lw_at lw_m1 66 rfl) rfl
theorem q71 : (Jvm.Cond.selects "BitReader" ({ cls := "BitReader", name := "size", desc := "()I" } : Jvm.MethodName) ({ cls := "BitReader", name := "size", desc := "()I" } : Jvm.MethodName)) ∈ lw_all := lw_g (lw_at lw_m1 67 rfl) rfl
theorem q72 : (Jvm.Cond.code ({ cls := "BitReader", name := "size", desc := "()I" } : Jvm.MethodName) prog_1_method_5_code (1 : Nat) (Option.some Jvm.ClassFile.FieldType.int)) ∈ lw_all := lw_g (lw_at lw_m1 68 rfl) rfl
theorem q74 : (Jvm.Cond.instanceMethod ({ cls := "BitReader", name := "begin", desc := "()V" } : Jvm.MethodName)) ∈ lw_all := lw_g (lw_at lw_m1 70 rfl) rfl
theorem q75 : (Jvm.Cond.selects "BitReader" ({ cls := "BitReader", name := "begin", desc := "()V" } : Jvm.MethodName) ({ cls := "BitReader", name := "begin", desc := "()V" } : Jvm.MethodName)) ∈ lw_all := lw_g (lw_at lw_m1 71 rfl) rfl
theorem q76 : (Jvm.Cond.code ({ cls := "BitReader", name := "begin", desc := "()V" } : Jvm.MethodName) prog_1_method_8_code (3 : Nat) (Option.none : Option Jvm.ClassFile.FieldType)) ∈ lw_all := lw_g (lw_at lw_m1 72 rfl) rfl
theorem q78 : (Jvm.Cond.instanceMethod ({ cls := "BitReader", name := "left", desc := "()I" } : Jvm.MethodName)) ∈ lw_all := lw_g (lw_at lw_m1 74 rfl) rfl
theorem q79 : (Jvm.Cond.selects "BitReader" ({ cls := "BitReader", name := "left", desc := "()I" } : Jvm.MethodName) ({ cls := "BitReader", name := "left", desc := "()I" } : Jvm.MethodName)) ∈ lw_all := lw_g (lw_at lw_m1 75 rfl) rfl
theorem q80 : (Jvm.Cond.code ({ cls := "BitReader", name := "left", desc := "()I" } : Jvm.MethodName) prog_1_method_9_code (1 : Nat) (Option.some Jvm.ClassFile.FieldType.int)) ∈ lw_all := lw_g (lw_at lw_m1 76 rfl) rfl
theorem q81 : (Jvm.Cond.methodLink "BitReader" (35 : Nat) ({ cls := "BitSource", name := "available", desc := "()I" } : Jvm.MethodName)) ∈ lw_all := lw_g (lw_at lw_m1 77 rfl) rfl
theorem q86 : (Jvm.Cond.instanceMethod ({ cls := "BitReader", name := "read", desc := "(I)J" } : Jvm.MethodName)) ∈ lw_all := lw_g (lw_at lw_m1 82 rfl) rfl
theorem q87 : (Jvm.Cond.selects "BitReader" ({ cls := "BitReader", name := "read", desc := "(I)J" } : Jvm.MethodName) ({ cls := "BitReader", name := "read", desc := "(I)J" } : Jvm.MethodName)) ∈ lw_all := lw_g (lw_at lw_m1 83 rfl) rfl
theorem q88 : (Jvm.Cond.code ({ cls := "BitReader", name := "read", desc := "(I)J" } : Jvm.MethodName) prog_1_method_10_code (3 : Nat) (Option.some Jvm.ClassFile.FieldType.long)) ∈ lw_all := lw_g (lw_at lw_m1 84 rfl) rfl
theorem q89 : (Jvm.Cond.constantLong "BitReader" (39 : Nat) (4294967296 : Int64)) ∈ lw_all := lw_g (lw_at lw_m1 85 rfl) rfl
theorem q90 : (Jvm.Cond.methodLink "BitReader" (41 : Nat) ({ cls := "BitSource", name := "readBits", desc := "(I)I" } : Jvm.MethodName)) ∈ lw_all := lw_g (lw_at lw_m1 86 rfl) rfl
theorem q215 : (Jvm.Cond.instanceMethod ({ cls := "BitReader", name := "octet", desc := "()I" } : Jvm.MethodName)) ∈ lw_all := lw_g (lw_at lw_m1 211 rfl) rfl
theorem q216 : (Jvm.Cond.selects "BitReader" ({ cls := "BitReader", name := "octet", desc := "()I" } : Jvm.MethodName) ({ cls := "BitReader", name := "octet", desc := "()I" } : Jvm.MethodName)) ∈ lw_all := lw_g (lw_at lw_m1 212 rfl) rfl
theorem q217 : (Jvm.Cond.code ({ cls := "BitReader", name := "octet", desc := "()I" } : Jvm.MethodName) prog_1_method_11_code (1 : Nat) (Option.some Jvm.ClassFile.FieldType.int)) ∈ lw_all := lw_g (lw_at lw_m1 213 rfl) rfl
theorem q218 : (Jvm.Cond.methodLink "BitReader" (44 : Nat) ({ cls := "BitSource", name := "getByteOffset", desc := "()I" } : Jvm.MethodName)) ∈ lw_all := lw_g (lw_at lw_m1 214 rfl) rfl
theorem q223 : (Jvm.Cond.instanceMethod ({ cls := "BitReader", name := "bit", desc := "()I" } : Jvm.MethodName)) ∈ lw_all := lw_g (lw_at lw_m1 219 rfl) rfl
theorem q224 : (Jvm.Cond.selects "BitReader" ({ cls := "BitReader", name := "bit", desc := "()I" } : Jvm.MethodName) ({ cls := "BitReader", name := "bit", desc := "()I" } : Jvm.MethodName)) ∈ lw_all := lw_g (lw_at lw_m1 220 rfl) rfl
theorem q225 : (Jvm.Cond.code ({ cls := "BitReader", name := "bit", desc := "()I" } : Jvm.MethodName) prog_1_method_12_code (1 : Nat) (Option.some Jvm.ClassFile.FieldType.int)) ∈ lw_all := lw_g (lw_at lw_m1 221 rfl) rfl
theorem q226 : (Jvm.Cond.methodLink "BitReader" (47 : Nat) ({ cls := "BitSource", name := "getBitOffset", desc := "()I" } : Jvm.MethodName)) ∈ lw_all := lw_g (lw_at lw_m1 222 rfl) rfl
theorem in_X0 : ∀ w ∈ wsX00, w ∈ lw_all := lw_in wsX00 [45, 47, 49] (by decide +kernel) (by decide +kernel)
end
section
/-! BitSource -/
set_option maxRecDepth 100000
def RX1 : String := "BitSource"
def TX1 : u_T := fun k => match k with
  | 0 => ("BitSource", "bytes", "[B", true)
  | 1 => ("BitSource", "byteOffset", "I", false)
  | _ => ("BitSource", "bitOffset", "I", false)
def tyX1 : Nat → FieldType := fun k => match k with
  | 0 => .array .byte
  | 1 => .int
  | _ => .int
abbrev wsX10 : List Cond := u_ws RX1 TX1 3
theorem nmX1 : ∀ a, a < 3 → ∀ b, b < 3 → a ≠ b → (TX1 a).2.1 ≠ (TX1 b).2.1 := by decide +kernel
theorem tyX1_ok : ∀ k, k < 3 → parseFieldDescriptor (TX1 k).2.2.1 = some (tyX1 k) := by decide +kernel
abbrev cX1_init : ByteArray := prog_4_method_1_code
def yX1_init : MethodName := ⟨RX1, "<init>", "([B)V"⟩
def dkwX1_init_0 : List UInt8 := [42, 183, 0, 1, 42, 43, 181, 0, 7, 177]
abbrev dktX1_init_0 : List UInt8 := dkwX1_init_0 ++ []
theorem dksX1_init_0 : cX1_init.data.toList.drop 0 = dktX1_init_0 := by decide +kernel
theorem dX1_init_0 : decode cX1_init 0 = .ok (.aload_n 0, 1) := dk_42 (dk_at dksX1_init_0 0 rfl rfl)
theorem dX1_init_1 : decode cX1_init 1 = .ok (.invokespecial 1, 3) := dk_183 0 1 (dk_at dksX1_init_0 1 rfl rfl)
theorem dX1_init_4 : decode cX1_init 4 = .ok (.aload_n 0, 1) := dk_42 (dk_at dksX1_init_0 4 rfl rfl)
theorem dX1_init_5 : decode cX1_init 5 = .ok (.aload_n 1, 1) := dk_43 (dk_at dksX1_init_0 5 rfl rfl)
theorem dX1_init_6 : decode cX1_init 6 = .ok (.putfield 7, 3) := dk_181 0 7 (dk_at dksX1_init_0 6 rfl rfl)
theorem dX1_init_9 : decode cX1_init 9 = .ok (.return_, 1) := dk_177 (dk_at dksX1_init_0 9 rfl rfl)
abbrev cX1_available : ByteArray := prog_4_method_5_code
def yX1_available : MethodName := ⟨RX1, "available", "()I"⟩
def dkwX1_available_0 : List UInt8 := [16, 8, 42, 180, 0, 7, 190, 42, 180, 0, 17, 100, 104, 42, 180, 0, 13, 100, 172]
abbrev dktX1_available_0 : List UInt8 := dkwX1_available_0 ++ []
theorem dksX1_available_0 : cX1_available.data.toList.drop 0 = dktX1_available_0 := by decide +kernel
theorem dX1_available_0 : decode cX1_available 0 = .ok (.bipush 8, 2) := dk_16 8 (dk_at dksX1_available_0 0 rfl rfl)
theorem dX1_available_2 : decode cX1_available 2 = .ok (.aload_n 0, 1) := dk_42 (dk_at dksX1_available_0 2 rfl rfl)
theorem dX1_available_3 : decode cX1_available 3 = .ok (.getfield 7, 3) := dk_180 0 7 (dk_at dksX1_available_0 3 rfl rfl)
theorem dX1_available_6 : decode cX1_available 6 = .ok (.arraylength, 1) := dk_190 (dk_at dksX1_available_0 6 rfl rfl)
theorem dX1_available_7 : decode cX1_available 7 = .ok (.aload_n 0, 1) := dk_42 (dk_at dksX1_available_0 7 rfl rfl)
theorem dX1_available_8 : decode cX1_available 8 = .ok (.getfield 17, 3) := dk_180 0 17 (dk_at dksX1_available_0 8 rfl rfl)
theorem dX1_available_11 : decode cX1_available 11 = .ok (.isub, 1) := dk_100 (dk_at dksX1_available_0 11 rfl rfl)
theorem dX1_available_12 : decode cX1_available 12 = .ok (.imul, 1) := dk_104 (dk_at dksX1_available_0 12 rfl rfl)
theorem dX1_available_13 : decode cX1_available 13 = .ok (.aload_n 0, 1) := dk_42 (dk_at dksX1_available_0 13 rfl rfl)
theorem dX1_available_14 : decode cX1_available 14 = .ok (.getfield 13, 3) := dk_180 0 13 (dk_at dksX1_available_0 14 rfl rfl)
theorem dX1_available_17 : decode cX1_available 17 = .ok (.isub, 1) := dk_100 (dk_at dksX1_available_0 17 rfl rfl)
theorem dX1_available_18 : decode cX1_available 18 = .ok (.ireturn, 1) := dk_172 (dk_at dksX1_available_0 18 rfl rfl)
abbrev cX1_readBits : ByteArray := prog_4_method_4_code
def yX1_readBits : MethodName := ⟨RX1, "readBits", "(I)I"⟩
def dkwX1_readBits_9 : List UInt8 := [89, 180, 0, 13, 27, 96, 181, 0, 13, 28, 172]
abbrev dktX1_readBits_9 : List UInt8 := dkwX1_readBits_9 ++ []
def dkwX1_readBits_8 : List UInt8 := [29, 120, 54, 4, 28, 27, 120, 42, 180, 0, 7, 42, 180, 0, 17, 51, 21, 4, 126, 29, 122, 128, 61, 42]
abbrev dktX1_readBits_8 : List UInt8 := dkwX1_readBits_8 ++ dktX1_readBits_9
def dkwX1_readBits_7 : List UInt8 := [96, 181, 0, 17, 132, 1, 248, 167, 255, 218, 27, 158, 0, 46, 16, 8, 27, 100, 62, 17, 0, 255, 29, 122]
abbrev dktX1_readBits_7 : List UInt8 := dkwX1_readBits_7 ++ dktX1_readBits_8
def dkwX1_readBits_6 : List UInt8 := [16, 8, 120, 42, 180, 0, 7, 42, 180, 0, 17, 51, 17, 0, 255, 126, 128, 61, 42, 89, 180, 0, 17, 4]
abbrev dktX1_readBits_6 : List UInt8 := dkwX1_readBits_6 ++ dktX1_readBits_7
def dkwX1_readBits_5 : List UInt8 := [181, 0, 13, 42, 89, 180, 0, 17, 4, 96, 181, 0, 17, 27, 158, 0, 91, 27, 16, 8, 161, 0, 38, 28]
abbrev dktX1_readBits_5 : List UInt8 := dkwX1_readBits_5 ++ dktX1_readBits_6
def dkwX1_readBits_4 : List UInt8 := [42, 89, 180, 0, 13, 21, 4, 96, 181, 0, 13, 42, 180, 0, 13, 16, 8, 160, 0, 18, 42, 3]
abbrev dktX1_readBits_4 : List UInt8 := dkwX1_readBits_4 ++ dktX1_readBits_5
def dkwX1_readBits_3 : List UInt8 := [120, 54, 6, 42, 180, 0, 7, 42, 180, 0, 17, 51, 21, 6, 126, 21, 5, 122, 61, 27, 21, 4, 100, 60]
abbrev dktX1_readBits_3 : List UInt8 := dkwX1_readBits_3 ++ dktX1_readBits_4
def dkwX1_readBits_2 : List UInt8 := [27, 29, 184, 0, 35, 54, 4, 29, 21, 4, 100, 54, 5, 17, 0, 255, 16, 8, 21, 4, 100, 122, 21, 5]
abbrev dktX1_readBits_2 : List UInt8 := dkwX1_readBits_2 ++ dktX1_readBits_3
def dkwX1_readBits_1 : List UInt8 := [184, 0, 26, 183, 0, 32, 191, 3, 61, 42, 180, 0, 13, 158, 0, 94, 16, 8, 42, 180, 0, 13, 100, 62]
abbrev dktX1_readBits_1 : List UInt8 := dkwX1_readBits_1 ++ dktX1_readBits_2
def dkwX1_readBits_0 : List UInt8 := [27, 4, 161, 0, 17, 27, 16, 32, 163, 0, 11, 27, 42, 182, 0, 20, 164, 0, 15, 187, 0, 24, 89, 27]
abbrev dktX1_readBits_0 : List UInt8 := dkwX1_readBits_0 ++ dktX1_readBits_1
theorem dksX1_readBits_0 : cX1_readBits.data.toList.drop 0 = dktX1_readBits_0 := by decide +kernel
theorem dksX1_readBits_1 : cX1_readBits.data.toList.drop 24 = dktX1_readBits_1 := dk_seg dksX1_readBits_0 24 rfl rfl
theorem dksX1_readBits_2 : cX1_readBits.data.toList.drop 48 = dktX1_readBits_2 := dk_seg dksX1_readBits_1 24 rfl rfl
theorem dksX1_readBits_3 : cX1_readBits.data.toList.drop 72 = dktX1_readBits_3 := dk_seg dksX1_readBits_2 24 rfl rfl
theorem dksX1_readBits_4 : cX1_readBits.data.toList.drop 96 = dktX1_readBits_4 := dk_seg dksX1_readBits_3 24 rfl rfl
theorem dksX1_readBits_5 : cX1_readBits.data.toList.drop 118 = dktX1_readBits_5 := dk_seg dksX1_readBits_4 22 rfl rfl
theorem dksX1_readBits_6 : cX1_readBits.data.toList.drop 142 = dktX1_readBits_6 := dk_seg dksX1_readBits_5 24 rfl rfl
theorem dksX1_readBits_7 : cX1_readBits.data.toList.drop 166 = dktX1_readBits_7 := dk_seg dksX1_readBits_6 24 rfl rfl
theorem dksX1_readBits_8 : cX1_readBits.data.toList.drop 190 = dktX1_readBits_8 := dk_seg dksX1_readBits_7 24 rfl rfl
theorem dksX1_readBits_9 : cX1_readBits.data.toList.drop 214 = dktX1_readBits_9 := dk_seg dksX1_readBits_8 24 rfl rfl
theorem dX1_readBits_0 : decode cX1_readBits 0 = .ok (.iload_n 1, 1) := dk_27 (dk_at dksX1_readBits_0 0 rfl rfl)
theorem dX1_readBits_1 : decode cX1_readBits 1 = .ok (.iconst 1, 1) := dk_4 (dk_at dksX1_readBits_0 1 rfl rfl)
theorem dX1_readBits_2 : decode cX1_readBits 2 = .ok (.if_icmp .lt 17, 3) := dk_161 0 17 (dk_at dksX1_readBits_0 2 rfl rfl)
theorem dX1_readBits_5 : decode cX1_readBits 5 = .ok (.iload_n 1, 1) := dk_27 (dk_at dksX1_readBits_0 5 rfl rfl)
theorem dX1_readBits_6 : decode cX1_readBits 6 = .ok (.bipush 32, 2) := dk_16 32 (dk_at dksX1_readBits_0 6 rfl rfl)
theorem dX1_readBits_8 : decode cX1_readBits 8 = .ok (.if_icmp .gt 11, 3) := dk_163 0 11 (dk_at dksX1_readBits_0 8 rfl rfl)
theorem dX1_readBits_11 : decode cX1_readBits 11 = .ok (.iload_n 1, 1) := dk_27 (dk_at dksX1_readBits_0 11 rfl rfl)
theorem dX1_readBits_12 : decode cX1_readBits 12 = .ok (.aload_n 0, 1) := dk_42 (dk_at dksX1_readBits_0 12 rfl rfl)
theorem dX1_readBits_13 : decode cX1_readBits 13 = .ok (.invokevirtual 20, 3) := dk_182 0 20 (dk_at dksX1_readBits_0 13 rfl rfl)
theorem dX1_readBits_16 : decode cX1_readBits 16 = .ok (.if_icmp .le 15, 3) := dk_164 0 15 (dk_at dksX1_readBits_0 16 rfl rfl)
theorem dX1_readBits_19 : decode cX1_readBits 19 = .ok (.new 24, 3) := dk_187 0 24 (dk_at dksX1_readBits_0 19 rfl rfl)
theorem dX1_readBits_22 : decode cX1_readBits 22 = .ok (.dup, 1) := dk_89 (dk_at dksX1_readBits_0 22 rfl rfl)
theorem dX1_readBits_23 : decode cX1_readBits 23 = .ok (.iload_n 1, 1) := dk_27 (dk_at dksX1_readBits_0 23 rfl rfl)
theorem dX1_readBits_24 : decode cX1_readBits 24 = .ok (.invokestatic 26, 3) := dk_184 0 26 (dk_at dksX1_readBits_1 0 rfl rfl)
theorem dX1_readBits_27 : decode cX1_readBits 27 = .ok (.invokespecial 32, 3) := dk_183 0 32 (dk_at dksX1_readBits_1 3 rfl rfl)
theorem dX1_readBits_30 : decode cX1_readBits 30 = .ok (.athrow, 1) := dk_191 (dk_at dksX1_readBits_1 6 rfl rfl)
theorem dX1_readBits_31 : decode cX1_readBits 31 = .ok (.iconst 0, 1) := dk_3 (dk_at dksX1_readBits_1 7 rfl rfl)
theorem dX1_readBits_32 : decode cX1_readBits 32 = .ok (.istore_n 2, 1) := dk_61 (dk_at dksX1_readBits_1 8 rfl rfl)
theorem dX1_readBits_33 : decode cX1_readBits 33 = .ok (.aload_n 0, 1) := dk_42 (dk_at dksX1_readBits_1 9 rfl rfl)
theorem dX1_readBits_34 : decode cX1_readBits 34 = .ok (.getfield 13, 3) := dk_180 0 13 (dk_at dksX1_readBits_1 10 rfl rfl)
theorem dX1_readBits_37 : decode cX1_readBits 37 = .ok (.ifCond .le 94, 3) := dk_158 0 94 (dk_at dksX1_readBits_1 13 rfl rfl)
theorem dX1_readBits_40 : decode cX1_readBits 40 = .ok (.bipush 8, 2) := dk_16 8 (dk_at dksX1_readBits_1 16 rfl rfl)
theorem dX1_readBits_42 : decode cX1_readBits 42 = .ok (.aload_n 0, 1) := dk_42 (dk_at dksX1_readBits_1 18 rfl rfl)
theorem dX1_readBits_43 : decode cX1_readBits 43 = .ok (.getfield 13, 3) := dk_180 0 13 (dk_at dksX1_readBits_1 19 rfl rfl)
theorem dX1_readBits_46 : decode cX1_readBits 46 = .ok (.isub, 1) := dk_100 (dk_at dksX1_readBits_1 22 rfl rfl)
theorem dX1_readBits_47 : decode cX1_readBits 47 = .ok (.istore_n 3, 1) := dk_62 (dk_at dksX1_readBits_1 23 rfl rfl)
theorem dX1_readBits_48 : decode cX1_readBits 48 = .ok (.iload_n 1, 1) := dk_27 (dk_at dksX1_readBits_2 0 rfl rfl)
theorem dX1_readBits_49 : decode cX1_readBits 49 = .ok (.iload_n 3, 1) := dk_29 (dk_at dksX1_readBits_2 1 rfl rfl)
theorem dX1_readBits_50 : decode cX1_readBits 50 = .ok (.invokestatic 35, 3) := dk_184 0 35 (dk_at dksX1_readBits_2 2 rfl rfl)
theorem dX1_readBits_53 : decode cX1_readBits 53 = .ok (.istore 4, 2) := dk_54 4 (dk_at dksX1_readBits_2 5 rfl rfl)
theorem dX1_readBits_55 : decode cX1_readBits 55 = .ok (.iload_n 3, 1) := dk_29 (dk_at dksX1_readBits_2 7 rfl rfl)
theorem dX1_readBits_56 : decode cX1_readBits 56 = .ok (.iload 4, 2) := dk_21 4 (dk_at dksX1_readBits_2 8 rfl rfl)
theorem dX1_readBits_58 : decode cX1_readBits 58 = .ok (.isub, 1) := dk_100 (dk_at dksX1_readBits_2 10 rfl rfl)
theorem dX1_readBits_59 : decode cX1_readBits 59 = .ok (.istore 5, 2) := dk_54 5 (dk_at dksX1_readBits_2 11 rfl rfl)
theorem dX1_readBits_61 : decode cX1_readBits 61 = .ok (.sipush 255, 3) := dk_17 0 255 (dk_at dksX1_readBits_2 13 rfl rfl)
theorem dX1_readBits_64 : decode cX1_readBits 64 = .ok (.bipush 8, 2) := dk_16 8 (dk_at dksX1_readBits_2 16 rfl rfl)
theorem dX1_readBits_66 : decode cX1_readBits 66 = .ok (.iload 4, 2) := dk_21 4 (dk_at dksX1_readBits_2 18 rfl rfl)
theorem dX1_readBits_68 : decode cX1_readBits 68 = .ok (.isub, 1) := dk_100 (dk_at dksX1_readBits_2 20 rfl rfl)
theorem dX1_readBits_69 : decode cX1_readBits 69 = .ok (.ishr, 1) := dk_122 (dk_at dksX1_readBits_2 21 rfl rfl)
theorem dX1_readBits_70 : decode cX1_readBits 70 = .ok (.iload 5, 2) := dk_21 5 (dk_at dksX1_readBits_2 22 rfl rfl)
theorem dX1_readBits_72 : decode cX1_readBits 72 = .ok (.ishl, 1) := dk_120 (dk_at dksX1_readBits_3 0 rfl rfl)
theorem dX1_readBits_73 : decode cX1_readBits 73 = .ok (.istore 6, 2) := dk_54 6 (dk_at dksX1_readBits_3 1 rfl rfl)
theorem dX1_readBits_75 : decode cX1_readBits 75 = .ok (.aload_n 0, 1) := dk_42 (dk_at dksX1_readBits_3 3 rfl rfl)
theorem dX1_readBits_76 : decode cX1_readBits 76 = .ok (.getfield 7, 3) := dk_180 0 7 (dk_at dksX1_readBits_3 4 rfl rfl)
theorem dX1_readBits_79 : decode cX1_readBits 79 = .ok (.aload_n 0, 1) := dk_42 (dk_at dksX1_readBits_3 7 rfl rfl)
theorem dX1_readBits_80 : decode cX1_readBits 80 = .ok (.getfield 17, 3) := dk_180 0 17 (dk_at dksX1_readBits_3 8 rfl rfl)
theorem dX1_readBits_83 : decode cX1_readBits 83 = .ok (.baload, 1) := dk_51 (dk_at dksX1_readBits_3 11 rfl rfl)
theorem dX1_readBits_84 : decode cX1_readBits 84 = .ok (.iload 6, 2) := dk_21 6 (dk_at dksX1_readBits_3 12 rfl rfl)
theorem dX1_readBits_86 : decode cX1_readBits 86 = .ok (.iand, 1) := dk_126 (dk_at dksX1_readBits_3 14 rfl rfl)
theorem dX1_readBits_87 : decode cX1_readBits 87 = .ok (.iload 5, 2) := dk_21 5 (dk_at dksX1_readBits_3 15 rfl rfl)
theorem dX1_readBits_89 : decode cX1_readBits 89 = .ok (.ishr, 1) := dk_122 (dk_at dksX1_readBits_3 17 rfl rfl)
theorem dX1_readBits_90 : decode cX1_readBits 90 = .ok (.istore_n 2, 1) := dk_61 (dk_at dksX1_readBits_3 18 rfl rfl)
theorem dX1_readBits_91 : decode cX1_readBits 91 = .ok (.iload_n 1, 1) := dk_27 (dk_at dksX1_readBits_3 19 rfl rfl)
theorem dX1_readBits_92 : decode cX1_readBits 92 = .ok (.iload 4, 2) := dk_21 4 (dk_at dksX1_readBits_3 20 rfl rfl)
theorem dX1_readBits_94 : decode cX1_readBits 94 = .ok (.isub, 1) := dk_100 (dk_at dksX1_readBits_3 22 rfl rfl)
theorem dX1_readBits_95 : decode cX1_readBits 95 = .ok (.istore_n 1, 1) := dk_60 (dk_at dksX1_readBits_3 23 rfl rfl)
theorem dX1_readBits_96 : decode cX1_readBits 96 = .ok (.aload_n 0, 1) := dk_42 (dk_at dksX1_readBits_4 0 rfl rfl)
theorem dX1_readBits_97 : decode cX1_readBits 97 = .ok (.dup, 1) := dk_89 (dk_at dksX1_readBits_4 1 rfl rfl)
theorem dX1_readBits_98 : decode cX1_readBits 98 = .ok (.getfield 13, 3) := dk_180 0 13 (dk_at dksX1_readBits_4 2 rfl rfl)
theorem dX1_readBits_101 : decode cX1_readBits 101 = .ok (.iload 4, 2) := dk_21 4 (dk_at dksX1_readBits_4 5 rfl rfl)
theorem dX1_readBits_103 : decode cX1_readBits 103 = .ok (.iadd, 1) := dk_96 (dk_at dksX1_readBits_4 7 rfl rfl)
theorem dX1_readBits_104 : decode cX1_readBits 104 = .ok (.putfield 13, 3) := dk_181 0 13 (dk_at dksX1_readBits_4 8 rfl rfl)
theorem dX1_readBits_107 : decode cX1_readBits 107 = .ok (.aload_n 0, 1) := dk_42 (dk_at dksX1_readBits_4 11 rfl rfl)
theorem dX1_readBits_108 : decode cX1_readBits 108 = .ok (.getfield 13, 3) := dk_180 0 13 (dk_at dksX1_readBits_4 12 rfl rfl)
theorem dX1_readBits_111 : decode cX1_readBits 111 = .ok (.bipush 8, 2) := dk_16 8 (dk_at dksX1_readBits_4 15 rfl rfl)
theorem dX1_readBits_113 : decode cX1_readBits 113 = .ok (.if_icmp .ne 18, 3) := dk_160 0 18 (dk_at dksX1_readBits_4 17 rfl rfl)
theorem dX1_readBits_116 : decode cX1_readBits 116 = .ok (.aload_n 0, 1) := dk_42 (dk_at dksX1_readBits_4 20 rfl rfl)
theorem dX1_readBits_117 : decode cX1_readBits 117 = .ok (.iconst 0, 1) := dk_3 (dk_at dksX1_readBits_4 21 rfl rfl)
theorem dX1_readBits_118 : decode cX1_readBits 118 = .ok (.putfield 13, 3) := dk_181 0 13 (dk_at dksX1_readBits_5 0 rfl rfl)
theorem dX1_readBits_121 : decode cX1_readBits 121 = .ok (.aload_n 0, 1) := dk_42 (dk_at dksX1_readBits_5 3 rfl rfl)
theorem dX1_readBits_122 : decode cX1_readBits 122 = .ok (.dup, 1) := dk_89 (dk_at dksX1_readBits_5 4 rfl rfl)
theorem dX1_readBits_123 : decode cX1_readBits 123 = .ok (.getfield 17, 3) := dk_180 0 17 (dk_at dksX1_readBits_5 5 rfl rfl)
theorem dX1_readBits_126 : decode cX1_readBits 126 = .ok (.iconst 1, 1) := dk_4 (dk_at dksX1_readBits_5 8 rfl rfl)
theorem dX1_readBits_127 : decode cX1_readBits 127 = .ok (.iadd, 1) := dk_96 (dk_at dksX1_readBits_5 9 rfl rfl)
theorem dX1_readBits_128 : decode cX1_readBits 128 = .ok (.putfield 17, 3) := dk_181 0 17 (dk_at dksX1_readBits_5 10 rfl rfl)
theorem dX1_readBits_131 : decode cX1_readBits 131 = .ok (.iload_n 1, 1) := dk_27 (dk_at dksX1_readBits_5 13 rfl rfl)
theorem dX1_readBits_132 : decode cX1_readBits 132 = .ok (.ifCond .le 91, 3) := dk_158 0 91 (dk_at dksX1_readBits_5 14 rfl rfl)
theorem dX1_readBits_135 : decode cX1_readBits 135 = .ok (.iload_n 1, 1) := dk_27 (dk_at dksX1_readBits_5 17 rfl rfl)
theorem dX1_readBits_136 : decode cX1_readBits 136 = .ok (.bipush 8, 2) := dk_16 8 (dk_at dksX1_readBits_5 18 rfl rfl)
theorem dX1_readBits_138 : decode cX1_readBits 138 = .ok (.if_icmp .lt 38, 3) := dk_161 0 38 (dk_at dksX1_readBits_5 20 rfl rfl)
theorem dX1_readBits_141 : decode cX1_readBits 141 = .ok (.iload_n 2, 1) := dk_28 (dk_at dksX1_readBits_5 23 rfl rfl)
theorem dX1_readBits_142 : decode cX1_readBits 142 = .ok (.bipush 8, 2) := dk_16 8 (dk_at dksX1_readBits_6 0 rfl rfl)
theorem dX1_readBits_144 : decode cX1_readBits 144 = .ok (.ishl, 1) := dk_120 (dk_at dksX1_readBits_6 2 rfl rfl)
theorem dX1_readBits_145 : decode cX1_readBits 145 = .ok (.aload_n 0, 1) := dk_42 (dk_at dksX1_readBits_6 3 rfl rfl)
theorem dX1_readBits_146 : decode cX1_readBits 146 = .ok (.getfield 7, 3) := dk_180 0 7 (dk_at dksX1_readBits_6 4 rfl rfl)
theorem dX1_readBits_149 : decode cX1_readBits 149 = .ok (.aload_n 0, 1) := dk_42 (dk_at dksX1_readBits_6 7 rfl rfl)
theorem dX1_readBits_150 : decode cX1_readBits 150 = .ok (.getfield 17, 3) := dk_180 0 17 (dk_at dksX1_readBits_6 8 rfl rfl)
theorem dX1_readBits_153 : decode cX1_readBits 153 = .ok (.baload, 1) := dk_51 (dk_at dksX1_readBits_6 11 rfl rfl)
theorem dX1_readBits_154 : decode cX1_readBits 154 = .ok (.sipush 255, 3) := dk_17 0 255 (dk_at dksX1_readBits_6 12 rfl rfl)
theorem dX1_readBits_157 : decode cX1_readBits 157 = .ok (.iand, 1) := dk_126 (dk_at dksX1_readBits_6 15 rfl rfl)
theorem dX1_readBits_158 : decode cX1_readBits 158 = .ok (.ior, 1) := dk_128 (dk_at dksX1_readBits_6 16 rfl rfl)
theorem dX1_readBits_159 : decode cX1_readBits 159 = .ok (.istore_n 2, 1) := dk_61 (dk_at dksX1_readBits_6 17 rfl rfl)
theorem dX1_readBits_160 : decode cX1_readBits 160 = .ok (.aload_n 0, 1) := dk_42 (dk_at dksX1_readBits_6 18 rfl rfl)
theorem dX1_readBits_161 : decode cX1_readBits 161 = .ok (.dup, 1) := dk_89 (dk_at dksX1_readBits_6 19 rfl rfl)
theorem dX1_readBits_162 : decode cX1_readBits 162 = .ok (.getfield 17, 3) := dk_180 0 17 (dk_at dksX1_readBits_6 20 rfl rfl)
theorem dX1_readBits_165 : decode cX1_readBits 165 = .ok (.iconst 1, 1) := dk_4 (dk_at dksX1_readBits_6 23 rfl rfl)
theorem dX1_readBits_166 : decode cX1_readBits 166 = .ok (.iadd, 1) := dk_96 (dk_at dksX1_readBits_7 0 rfl rfl)
theorem dX1_readBits_167 : decode cX1_readBits 167 = .ok (.putfield 17, 3) := dk_181 0 17 (dk_at dksX1_readBits_7 1 rfl rfl)
theorem dX1_readBits_170 : decode cX1_readBits 170 = .ok (.iinc 1 (-8), 3) := dk_132 1 248 (dk_at dksX1_readBits_7 4 rfl rfl)
theorem dX1_readBits_173 : decode cX1_readBits 173 = .ok (.goto (-38), 3) := dk_167 255 218 (dk_at dksX1_readBits_7 7 rfl rfl)
theorem dX1_readBits_176 : decode cX1_readBits 176 = .ok (.iload_n 1, 1) := dk_27 (dk_at dksX1_readBits_7 10 rfl rfl)
theorem dX1_readBits_177 : decode cX1_readBits 177 = .ok (.ifCond .le 46, 3) := dk_158 0 46 (dk_at dksX1_readBits_7 11 rfl rfl)
theorem dX1_readBits_180 : decode cX1_readBits 180 = .ok (.bipush 8, 2) := dk_16 8 (dk_at dksX1_readBits_7 14 rfl rfl)
theorem dX1_readBits_182 : decode cX1_readBits 182 = .ok (.iload_n 1, 1) := dk_27 (dk_at dksX1_readBits_7 16 rfl rfl)
theorem dX1_readBits_183 : decode cX1_readBits 183 = .ok (.isub, 1) := dk_100 (dk_at dksX1_readBits_7 17 rfl rfl)
theorem dX1_readBits_184 : decode cX1_readBits 184 = .ok (.istore_n 3, 1) := dk_62 (dk_at dksX1_readBits_7 18 rfl rfl)
theorem dX1_readBits_185 : decode cX1_readBits 185 = .ok (.sipush 255, 3) := dk_17 0 255 (dk_at dksX1_readBits_7 19 rfl rfl)
theorem dX1_readBits_188 : decode cX1_readBits 188 = .ok (.iload_n 3, 1) := dk_29 (dk_at dksX1_readBits_7 22 rfl rfl)
theorem dX1_readBits_189 : decode cX1_readBits 189 = .ok (.ishr, 1) := dk_122 (dk_at dksX1_readBits_7 23 rfl rfl)
theorem dX1_readBits_190 : decode cX1_readBits 190 = .ok (.iload_n 3, 1) := dk_29 (dk_at dksX1_readBits_8 0 rfl rfl)
theorem dX1_readBits_191 : decode cX1_readBits 191 = .ok (.ishl, 1) := dk_120 (dk_at dksX1_readBits_8 1 rfl rfl)
theorem dX1_readBits_192 : decode cX1_readBits 192 = .ok (.istore 4, 2) := dk_54 4 (dk_at dksX1_readBits_8 2 rfl rfl)
theorem dX1_readBits_194 : decode cX1_readBits 194 = .ok (.iload_n 2, 1) := dk_28 (dk_at dksX1_readBits_8 4 rfl rfl)
theorem dX1_readBits_195 : decode cX1_readBits 195 = .ok (.iload_n 1, 1) := dk_27 (dk_at dksX1_readBits_8 5 rfl rfl)
theorem dX1_readBits_196 : decode cX1_readBits 196 = .ok (.ishl, 1) := dk_120 (dk_at dksX1_readBits_8 6 rfl rfl)
theorem dX1_readBits_197 : decode cX1_readBits 197 = .ok (.aload_n 0, 1) := dk_42 (dk_at dksX1_readBits_8 7 rfl rfl)
theorem dX1_readBits_198 : decode cX1_readBits 198 = .ok (.getfield 7, 3) := dk_180 0 7 (dk_at dksX1_readBits_8 8 rfl rfl)
theorem dX1_readBits_201 : decode cX1_readBits 201 = .ok (.aload_n 0, 1) := dk_42 (dk_at dksX1_readBits_8 11 rfl rfl)
theorem dX1_readBits_202 : decode cX1_readBits 202 = .ok (.getfield 17, 3) := dk_180 0 17 (dk_at dksX1_readBits_8 12 rfl rfl)
theorem dX1_readBits_205 : decode cX1_readBits 205 = .ok (.baload, 1) := dk_51 (dk_at dksX1_readBits_8 15 rfl rfl)
theorem dX1_readBits_206 : decode cX1_readBits 206 = .ok (.iload 4, 2) := dk_21 4 (dk_at dksX1_readBits_8 16 rfl rfl)
theorem dX1_readBits_208 : decode cX1_readBits 208 = .ok (.iand, 1) := dk_126 (dk_at dksX1_readBits_8 18 rfl rfl)
theorem dX1_readBits_209 : decode cX1_readBits 209 = .ok (.iload_n 3, 1) := dk_29 (dk_at dksX1_readBits_8 19 rfl rfl)
theorem dX1_readBits_210 : decode cX1_readBits 210 = .ok (.ishr, 1) := dk_122 (dk_at dksX1_readBits_8 20 rfl rfl)
theorem dX1_readBits_211 : decode cX1_readBits 211 = .ok (.ior, 1) := dk_128 (dk_at dksX1_readBits_8 21 rfl rfl)
theorem dX1_readBits_212 : decode cX1_readBits 212 = .ok (.istore_n 2, 1) := dk_61 (dk_at dksX1_readBits_8 22 rfl rfl)
theorem dX1_readBits_213 : decode cX1_readBits 213 = .ok (.aload_n 0, 1) := dk_42 (dk_at dksX1_readBits_8 23 rfl rfl)
theorem dX1_readBits_214 : decode cX1_readBits 214 = .ok (.dup, 1) := dk_89 (dk_at dksX1_readBits_9 0 rfl rfl)
theorem dX1_readBits_215 : decode cX1_readBits 215 = .ok (.getfield 13, 3) := dk_180 0 13 (dk_at dksX1_readBits_9 1 rfl rfl)
theorem dX1_readBits_218 : decode cX1_readBits 218 = .ok (.iload_n 1, 1) := dk_27 (dk_at dksX1_readBits_9 4 rfl rfl)
theorem dX1_readBits_219 : decode cX1_readBits 219 = .ok (.iadd, 1) := dk_96 (dk_at dksX1_readBits_9 5 rfl rfl)
theorem dX1_readBits_220 : decode cX1_readBits 220 = .ok (.putfield 13, 3) := dk_181 0 13 (dk_at dksX1_readBits_9 6 rfl rfl)
theorem dX1_readBits_223 : decode cX1_readBits 223 = .ok (.iload_n 2, 1) := dk_28 (dk_at dksX1_readBits_9 9 rfl rfl)
theorem dX1_readBits_224 : decode cX1_readBits 224 = .ok (.ireturn, 1) := dk_172 (dk_at dksX1_readBits_9 10 rfl rfl)
abbrev cX1_getByteOffset : ByteArray := prog_4_method_3_code
def yX1_getByteOffset : MethodName := ⟨RX1, "getByteOffset", "()I"⟩
theorem dX1_getByteOffset_0 : decode cX1_getByteOffset 0 = .ok (.aload_n 0, 1) := by decide +kernel
theorem dX1_getByteOffset_1 : decode cX1_getByteOffset 1 = .ok (.getfield 17, 3) := by decide +kernel
theorem dX1_getByteOffset_4 : decode cX1_getByteOffset 4 = .ok (.ireturn, 1) := by decide +kernel
abbrev cX1_getBitOffset : ByteArray := prog_4_method_2_code
def yX1_getBitOffset : MethodName := ⟨RX1, "getBitOffset", "()I"⟩
theorem dX1_getBitOffset_0 : decode cX1_getBitOffset 0 = .ok (.aload_n 0, 1) := by decide +kernel
theorem dX1_getBitOffset_1 : decode cX1_getBitOffset 1 = .ok (.getfield 13, 3) := by decide +kernel
theorem dX1_getBitOffset_4 : decode cX1_getBitOffset 4 = .ok (.ireturn, 1) := by decide +kernel
theorem q6 : (Jvm.Cond.initialized "BitSource") ∈ lw_all := lw_g (lw_at lw_m1 2 rfl) rfl
theorem q26 : (Jvm.Cond.instantiable "BitSource" (3 : Nat)) ∈ lw_all := lw_g (lw_at lw_m1 22 rfl) rfl
theorem q28 : (Jvm.Cond.instanceMethod ({ cls := "BitSource", name := "<init>", desc := "([B)V" } : Jvm.MethodName)) ∈ lw_all := lw_g (lw_at lw_m1 24 rfl) rfl
theorem q29 : (Jvm.Cond.code ({ cls := "BitSource", name := "<init>", desc := "([B)V" } : Jvm.MethodName) prog_4_method_1_code (2 : Nat) (Option.none : Option Jvm.ClassFile.FieldType)) ∈ lw_all := lw_g (lw_at lw_m1 25 rfl) rfl
theorem q30 : (Jvm.Cond.methodLink "BitSource" (1 : Nat) ({ cls := "java/lang/Object", name := "<init>", desc := "()V" } : Jvm.MethodName)) ∈ lw_all := lw_g (lw_at lw_m1 26 rfl) rfl
theorem q31 : (Jvm.Cond.fieldLink "BitSource" (7 : Nat) "BitSource" "bytes" "[B") ∈ lw_all := lw_g (lw_at lw_m1 27 rfl) rfl
theorem q32 : (Jvm.Cond.fieldLink "BitSource" (17 : Nat) "BitSource" "byteOffset" "I") ∈ lw_all := lw_g (lw_at lw_m1 28 rfl) rfl
theorem q33 : (Jvm.Cond.fieldLink "BitSource" (13 : Nat) "BitSource" "bitOffset" "I") ∈ lw_all := lw_g (lw_at lw_m1 29 rfl) rfl
theorem q34 : (Jvm.Cond.laysFinal "BitSource" "BitSource" "bytes" "[B") ∈ lw_all := lw_g (lw_at lw_m1 30 rfl) rfl
theorem q35 : (Jvm.Cond.soleField "BitSource" "bytes") ∈ lw_all := lw_g (lw_at lw_m1 31 rfl) rfl
theorem q36 : (Jvm.Cond.lays "BitSource" "BitSource" "byteOffset" "I") ∈ lw_all := lw_g (lw_at lw_m1 32 rfl) rfl
theorem q37 : (Jvm.Cond.soleField "BitSource" "byteOffset") ∈ lw_all := lw_g (lw_at lw_m1 33 rfl) rfl
theorem q38 : (Jvm.Cond.lays "BitSource" "BitSource" "bitOffset" "I") ∈ lw_all := lw_g (lw_at lw_m1 34 rfl) rfl
theorem q39 : (Jvm.Cond.soleField "BitSource" "bitOffset") ∈ lw_all := lw_g (lw_at lw_m1 35 rfl) rfl
theorem q40 : (Jvm.Cond.superclass "BitSource" "java/lang/Object") ∈ lw_all := lw_g (lw_at lw_m1 36 rfl) rfl
theorem q82 : (Jvm.Cond.instanceMethod ({ cls := "BitSource", name := "available", desc := "()I" } : Jvm.MethodName)) ∈ lw_all := lw_g (lw_at lw_m1 78 rfl) rfl
theorem q83 : (Jvm.Cond.selects "BitSource" ({ cls := "BitSource", name := "available", desc := "()I" } : Jvm.MethodName) ({ cls := "BitSource", name := "available", desc := "()I" } : Jvm.MethodName)) ∈ lw_all := lw_g (lw_at lw_m1 79 rfl) rfl
theorem q84 : (Jvm.Cond.code ({ cls := "BitSource", name := "available", desc := "()I" } : Jvm.MethodName) prog_4_method_5_code (1 : Nat) (Option.some Jvm.ClassFile.FieldType.int)) ∈ lw_all := lw_g (lw_at lw_m1 80 rfl) rfl
theorem q91 : (Jvm.Cond.instanceMethod ({ cls := "BitSource", name := "readBits", desc := "(I)I" } : Jvm.MethodName)) ∈ lw_all := lw_g (lw_at lw_m1 87 rfl) rfl
theorem q92 : (Jvm.Cond.selects "BitSource" ({ cls := "BitSource", name := "readBits", desc := "(I)I" } : Jvm.MethodName) ({ cls := "BitSource", name := "readBits", desc := "(I)I" } : Jvm.MethodName)) ∈ lw_all := lw_g (lw_at lw_m1 88 rfl) rfl
theorem q93 : (Jvm.Cond.code ({ cls := "BitSource", name := "readBits", desc := "(I)I" } : Jvm.MethodName) prog_4_method_4_code (7 : Nat) (Option.some Jvm.ClassFile.FieldType.int)) ∈ lw_all := lw_g (lw_at lw_m1 89 rfl) rfl
theorem q94 : (Jvm.Cond.methodLink "BitSource" (20 : Nat) ({ cls := "BitSource", name := "available", desc := "()I" } : Jvm.MethodName)) ∈ lw_all := lw_g (lw_at lw_m1 90 rfl) rfl
theorem q95 : (Jvm.Cond.classLink "BitSource" (24 : Nat) "java/lang/IllegalArgumentException") ∈ lw_all := lw_g (lw_at lw_m1 91 rfl) rfl
theorem q134 : (Jvm.Cond.methodLink "BitSource" (26 : Nat) ({ cls := "java/lang/String", name := "valueOf", desc := "(I)Ljava/lang/String;" } : Jvm.MethodName)) ∈ lw_all := lw_g (lw_at lw_m1 130 rfl) rfl
theorem q186 : (Jvm.Cond.methodLink "BitSource" (32 : Nat) ({ cls := "java/lang/IllegalArgumentException", name := "<init>", desc := "(Ljava/lang/String;)V" } : Jvm.MethodName)) ∈ lw_all := lw_g (lw_at lw_m1 182 rfl) rfl
theorem q211 : (Jvm.Cond.methodLink "BitSource" (35 : Nat) ({ cls := "java/lang/Math", name := "min", desc := "(II)I" } : Jvm.MethodName)) ∈ lw_all := lw_g (lw_at lw_m1 207 rfl) rfl
theorem q219 : (Jvm.Cond.instanceMethod ({ cls := "BitSource", name := "getByteOffset", desc := "()I" } : Jvm.MethodName)) ∈ lw_all := lw_g (lw_at lw_m1 215 rfl) rfl
theorem q220 : (Jvm.Cond.selects "BitSource" ({ cls := "BitSource", name := "getByteOffset", desc := "()I" } : Jvm.MethodName) ({ cls := "BitSource", name := "getByteOffset", desc := "()I" } : Jvm.MethodName)) ∈ lw_all := lw_g (lw_at lw_m1 216 rfl) rfl
theorem q221 : (Jvm.Cond.code ({ cls := "BitSource", name := "getByteOffset", desc := "()I" } : Jvm.MethodName) prog_4_method_3_code (1 : Nat) (Option.some Jvm.ClassFile.FieldType.int)) ∈ lw_all := lw_g (lw_at lw_m1 217 rfl) rfl
theorem q227 : (Jvm.Cond.instanceMethod ({ cls := "BitSource", name := "getBitOffset", desc := "()I" } : Jvm.MethodName)) ∈ lw_all := lw_g (lw_at lw_m1 223 rfl) rfl
theorem q228 : (Jvm.Cond.selects "BitSource" ({ cls := "BitSource", name := "getBitOffset", desc := "()I" } : Jvm.MethodName) ({ cls := "BitSource", name := "getBitOffset", desc := "()I" } : Jvm.MethodName)) ∈ lw_all := lw_g (lw_at lw_m1 224 rfl) rfl
theorem q229 : (Jvm.Cond.code ({ cls := "BitSource", name := "getBitOffset", desc := "()I" } : Jvm.MethodName) prog_4_method_2_code (1 : Nat) (Option.some Jvm.ClassFile.FieldType.int)) ∈ lw_all := lw_g (lw_at lw_m1 225 rfl) rfl
theorem in_X1 : ∀ w ∈ wsX10, w ∈ lw_all := lw_in wsX10 [34, 36, 38] (by decide +kernel) (by decide +kernel)
end
section
/-! BitReaderModel -/
set_option maxRecDepth 100000
def RX2 : String := "BitReaderModel"
def TX2 : u_T := fun k => match k with
  | 0 => ("BitReaderModel", "text", "[B", true)
  | 1 => ("BitReaderModel", "size", "I", false)
  | 2 => ("BitReaderModel", "held", "[B", true)
  | 3 => ("BitReaderModel", "end", "I", false)
  | _ => ("BitReaderModel", "at", "I", false)
def tyX2 : Nat → FieldType := fun k => match k with
  | 0 => .array .byte
  | 1 => .int
  | 2 => .array .byte
  | 3 => .int
  | _ => .int
abbrev wsX20 : List Cond := u_ws RX2 TX2 5
theorem nmX2 : ∀ a, a < 5 → ∀ b, b < 5 → a ≠ b → (TX2 a).2.1 ≠ (TX2 b).2.1 := by decide +kernel
theorem tyX2_ok : ∀ k, k < 5 → parseFieldDescriptor (TX2 k).2.2.1 = some (tyX2 k) := by decide +kernel
abbrev cX2_init : ByteArray := prog_3_method_1_code
def yX2_init : MethodName := ⟨RX2, "<init>", "()V"⟩
def dkwX2_init_0 : List UInt8 := [42, 183, 0, 1, 42, 17, 16, 0, 188, 8, 181, 0, 7, 42, 17, 16, 0, 188, 8, 181, 0, 13, 177]
abbrev dktX2_init_0 : List UInt8 := dkwX2_init_0 ++ []
theorem dksX2_init_0 : cX2_init.data.toList.drop 0 = dktX2_init_0 := by decide +kernel
theorem dX2_init_0 : decode cX2_init 0 = .ok (.aload_n 0, 1) := dk_42 (dk_at dksX2_init_0 0 rfl rfl)
theorem dX2_init_1 : decode cX2_init 1 = .ok (.invokespecial 1, 3) := dk_183 0 1 (dk_at dksX2_init_0 1 rfl rfl)
theorem dX2_init_4 : decode cX2_init 4 = .ok (.aload_n 0, 1) := dk_42 (dk_at dksX2_init_0 4 rfl rfl)
theorem dX2_init_5 : decode cX2_init 5 = .ok (.sipush 4096, 3) := dk_17 16 0 (dk_at dksX2_init_0 5 rfl rfl)
theorem dX2_init_8 : decode cX2_init 8 = .ok (.newarray .byte, 2) := dk_188_8 (dk_at dksX2_init_0 8 rfl rfl)
theorem dX2_init_10 : decode cX2_init 10 = .ok (.putfield 7, 3) := dk_181 0 7 (dk_at dksX2_init_0 10 rfl rfl)
theorem dX2_init_13 : decode cX2_init 13 = .ok (.aload_n 0, 1) := dk_42 (dk_at dksX2_init_0 13 rfl rfl)
theorem dX2_init_14 : decode cX2_init 14 = .ok (.sipush 4096, 3) := dk_17 16 0 (dk_at dksX2_init_0 14 rfl rfl)
theorem dX2_init_17 : decode cX2_init 17 = .ok (.newarray .byte, 2) := dk_188_8 (dk_at dksX2_init_0 17 rfl rfl)
theorem dX2_init_19 : decode cX2_init 19 = .ok (.putfield 13, 3) := dk_181 0 13 (dk_at dksX2_init_0 19 rfl rfl)
theorem dX2_init_22 : decode cX2_init 22 = .ok (.return_, 1) := dk_177 (dk_at dksX2_init_0 22 rfl rfl)
abbrev cX2_put : ByteArray := prog_3_method_2_code
def yX2_put : MethodName := ⟨RX2, "put", "(IIII)Z"⟩
def dkwX2_put_4 : List UInt8 := [42, 42, 180, 0, 16, 16, 16, 96, 181, 0, 16, 4, 172]
abbrev dktX2_put_4 : List UInt8 := dkwX2_put_4 ++ []
def dkwX2_put_3 : List UInt8 := [21, 5, 96, 21, 6, 16, 24, 16, 8, 21, 5, 6, 126, 104, 100, 124, 145, 84, 132, 5, 1, 167, 255, 184]
abbrev dktX2_put_3 : List UInt8 := dkwX2_put_3 ++ dktX2_put_4
def dkwX2_put_2 : List UInt8 := [21, 5, 16, 12, 162, 0, 7, 29, 167, 0, 5, 21, 4, 54, 6, 42, 180, 0, 7, 42, 180, 0, 16]
abbrev dktX2_put_2 : List UInt8 := dkwX2_put_2 ++ dktX2_put_3
def dkwX2_put_1 : List UInt8 := [162, 0, 71, 21, 5, 7, 162, 0, 7, 27, 167, 0, 27, 21, 5, 16, 8, 162, 0, 7, 28, 167, 0, 16]
abbrev dktX2_put_1 : List UInt8 := dkwX2_put_1 ++ dktX2_put_2
def dkwX2_put_0 : List UInt8 := [42, 180, 0, 16, 16, 16, 96, 17, 16, 0, 164, 0, 5, 3, 172, 3, 54, 5, 21, 5, 16, 16]
abbrev dktX2_put_0 : List UInt8 := dkwX2_put_0 ++ dktX2_put_1
theorem dksX2_put_0 : cX2_put.data.toList.drop 0 = dktX2_put_0 := by decide +kernel
theorem dksX2_put_1 : cX2_put.data.toList.drop 22 = dktX2_put_1 := dk_seg dksX2_put_0 22 rfl rfl
theorem dksX2_put_2 : cX2_put.data.toList.drop 46 = dktX2_put_2 := dk_seg dksX2_put_1 24 rfl rfl
theorem dksX2_put_3 : cX2_put.data.toList.drop 69 = dktX2_put_3 := dk_seg dksX2_put_2 23 rfl rfl
theorem dksX2_put_4 : cX2_put.data.toList.drop 93 = dktX2_put_4 := dk_seg dksX2_put_3 24 rfl rfl
theorem dX2_put_0 : decode cX2_put 0 = .ok (.aload_n 0, 1) := dk_42 (dk_at dksX2_put_0 0 rfl rfl)
theorem dX2_put_1 : decode cX2_put 1 = .ok (.getfield 16, 3) := dk_180 0 16 (dk_at dksX2_put_0 1 rfl rfl)
theorem dX2_put_4 : decode cX2_put 4 = .ok (.bipush 16, 2) := dk_16 16 (dk_at dksX2_put_0 4 rfl rfl)
theorem dX2_put_6 : decode cX2_put 6 = .ok (.iadd, 1) := dk_96 (dk_at dksX2_put_0 6 rfl rfl)
theorem dX2_put_7 : decode cX2_put 7 = .ok (.sipush 4096, 3) := dk_17 16 0 (dk_at dksX2_put_0 7 rfl rfl)
theorem dX2_put_10 : decode cX2_put 10 = .ok (.if_icmp .le 5, 3) := dk_164 0 5 (dk_at dksX2_put_0 10 rfl rfl)
theorem dX2_put_13 : decode cX2_put 13 = .ok (.iconst 0, 1) := dk_3 (dk_at dksX2_put_0 13 rfl rfl)
theorem dX2_put_14 : decode cX2_put 14 = .ok (.ireturn, 1) := dk_172 (dk_at dksX2_put_0 14 rfl rfl)
theorem dX2_put_15 : decode cX2_put 15 = .ok (.iconst 0, 1) := dk_3 (dk_at dksX2_put_0 15 rfl rfl)
theorem dX2_put_16 : decode cX2_put 16 = .ok (.istore 5, 2) := dk_54 5 (dk_at dksX2_put_0 16 rfl rfl)
theorem dX2_put_18 : decode cX2_put 18 = .ok (.iload 5, 2) := dk_21 5 (dk_at dksX2_put_0 18 rfl rfl)
theorem dX2_put_20 : decode cX2_put 20 = .ok (.bipush 16, 2) := dk_16 16 (dk_at dksX2_put_0 20 rfl rfl)
theorem dX2_put_22 : decode cX2_put 22 = .ok (.if_icmp .ge 71, 3) := dk_162 0 71 (dk_at dksX2_put_1 0 rfl rfl)
theorem dX2_put_25 : decode cX2_put 25 = .ok (.iload 5, 2) := dk_21 5 (dk_at dksX2_put_1 3 rfl rfl)
theorem dX2_put_27 : decode cX2_put 27 = .ok (.iconst 4, 1) := dk_7 (dk_at dksX2_put_1 5 rfl rfl)
theorem dX2_put_28 : decode cX2_put 28 = .ok (.if_icmp .ge 7, 3) := dk_162 0 7 (dk_at dksX2_put_1 6 rfl rfl)
theorem dX2_put_31 : decode cX2_put 31 = .ok (.iload_n 1, 1) := dk_27 (dk_at dksX2_put_1 9 rfl rfl)
theorem dX2_put_32 : decode cX2_put 32 = .ok (.goto 27, 3) := dk_167 0 27 (dk_at dksX2_put_1 10 rfl rfl)
theorem dX2_put_35 : decode cX2_put 35 = .ok (.iload 5, 2) := dk_21 5 (dk_at dksX2_put_1 13 rfl rfl)
theorem dX2_put_37 : decode cX2_put 37 = .ok (.bipush 8, 2) := dk_16 8 (dk_at dksX2_put_1 15 rfl rfl)
theorem dX2_put_39 : decode cX2_put 39 = .ok (.if_icmp .ge 7, 3) := dk_162 0 7 (dk_at dksX2_put_1 17 rfl rfl)
theorem dX2_put_42 : decode cX2_put 42 = .ok (.iload_n 2, 1) := dk_28 (dk_at dksX2_put_1 20 rfl rfl)
theorem dX2_put_43 : decode cX2_put 43 = .ok (.goto 16, 3) := dk_167 0 16 (dk_at dksX2_put_1 21 rfl rfl)
theorem dX2_put_46 : decode cX2_put 46 = .ok (.iload 5, 2) := dk_21 5 (dk_at dksX2_put_2 0 rfl rfl)
theorem dX2_put_48 : decode cX2_put 48 = .ok (.bipush 12, 2) := dk_16 12 (dk_at dksX2_put_2 2 rfl rfl)
theorem dX2_put_50 : decode cX2_put 50 = .ok (.if_icmp .ge 7, 3) := dk_162 0 7 (dk_at dksX2_put_2 4 rfl rfl)
theorem dX2_put_53 : decode cX2_put 53 = .ok (.iload_n 3, 1) := dk_29 (dk_at dksX2_put_2 7 rfl rfl)
theorem dX2_put_54 : decode cX2_put 54 = .ok (.goto 5, 3) := dk_167 0 5 (dk_at dksX2_put_2 8 rfl rfl)
theorem dX2_put_57 : decode cX2_put 57 = .ok (.iload 4, 2) := dk_21 4 (dk_at dksX2_put_2 11 rfl rfl)
theorem dX2_put_59 : decode cX2_put 59 = .ok (.istore 6, 2) := dk_54 6 (dk_at dksX2_put_2 13 rfl rfl)
theorem dX2_put_61 : decode cX2_put 61 = .ok (.aload_n 0, 1) := dk_42 (dk_at dksX2_put_2 15 rfl rfl)
theorem dX2_put_62 : decode cX2_put 62 = .ok (.getfield 7, 3) := dk_180 0 7 (dk_at dksX2_put_2 16 rfl rfl)
theorem dX2_put_65 : decode cX2_put 65 = .ok (.aload_n 0, 1) := dk_42 (dk_at dksX2_put_2 19 rfl rfl)
theorem dX2_put_66 : decode cX2_put 66 = .ok (.getfield 16, 3) := dk_180 0 16 (dk_at dksX2_put_2 20 rfl rfl)
theorem dX2_put_69 : decode cX2_put 69 = .ok (.iload 5, 2) := dk_21 5 (dk_at dksX2_put_3 0 rfl rfl)
theorem dX2_put_71 : decode cX2_put 71 = .ok (.iadd, 1) := dk_96 (dk_at dksX2_put_3 2 rfl rfl)
theorem dX2_put_72 : decode cX2_put 72 = .ok (.iload 6, 2) := dk_21 6 (dk_at dksX2_put_3 3 rfl rfl)
theorem dX2_put_74 : decode cX2_put 74 = .ok (.bipush 24, 2) := dk_16 24 (dk_at dksX2_put_3 5 rfl rfl)
theorem dX2_put_76 : decode cX2_put 76 = .ok (.bipush 8, 2) := dk_16 8 (dk_at dksX2_put_3 7 rfl rfl)
theorem dX2_put_78 : decode cX2_put 78 = .ok (.iload 5, 2) := dk_21 5 (dk_at dksX2_put_3 9 rfl rfl)
theorem dX2_put_80 : decode cX2_put 80 = .ok (.iconst 3, 1) := dk_6 (dk_at dksX2_put_3 11 rfl rfl)
theorem dX2_put_81 : decode cX2_put 81 = .ok (.iand, 1) := dk_126 (dk_at dksX2_put_3 12 rfl rfl)
theorem dX2_put_82 : decode cX2_put 82 = .ok (.imul, 1) := dk_104 (dk_at dksX2_put_3 13 rfl rfl)
theorem dX2_put_83 : decode cX2_put 83 = .ok (.isub, 1) := dk_100 (dk_at dksX2_put_3 14 rfl rfl)
theorem dX2_put_84 : decode cX2_put 84 = .ok (.iushr, 1) := dk_124 (dk_at dksX2_put_3 15 rfl rfl)
theorem dX2_put_85 : decode cX2_put 85 = .ok (.i2b, 1) := dk_145 (dk_at dksX2_put_3 16 rfl rfl)
theorem dX2_put_86 : decode cX2_put 86 = .ok (.bastore, 1) := dk_84 (dk_at dksX2_put_3 17 rfl rfl)
theorem dX2_put_87 : decode cX2_put 87 = .ok (.iinc 5 1, 3) := dk_132 5 1 (dk_at dksX2_put_3 18 rfl rfl)
theorem dX2_put_90 : decode cX2_put 90 = .ok (.goto (-72), 3) := dk_167 255 184 (dk_at dksX2_put_3 21 rfl rfl)
theorem dX2_put_93 : decode cX2_put 93 = .ok (.aload_n 0, 1) := dk_42 (dk_at dksX2_put_4 0 rfl rfl)
theorem dX2_put_94 : decode cX2_put 94 = .ok (.aload_n 0, 1) := dk_42 (dk_at dksX2_put_4 1 rfl rfl)
theorem dX2_put_95 : decode cX2_put 95 = .ok (.getfield 16, 3) := dk_180 0 16 (dk_at dksX2_put_4 2 rfl rfl)
theorem dX2_put_98 : decode cX2_put 98 = .ok (.bipush 16, 2) := dk_16 16 (dk_at dksX2_put_4 5 rfl rfl)
theorem dX2_put_100 : decode cX2_put 100 = .ok (.iadd, 1) := dk_96 (dk_at dksX2_put_4 7 rfl rfl)
theorem dX2_put_101 : decode cX2_put 101 = .ok (.putfield 16, 3) := dk_181 0 16 (dk_at dksX2_put_4 8 rfl rfl)
theorem dX2_put_104 : decode cX2_put 104 = .ok (.iconst 1, 1) := dk_4 (dk_at dksX2_put_4 11 rfl rfl)
theorem dX2_put_105 : decode cX2_put 105 = .ok (.ireturn, 1) := dk_172 (dk_at dksX2_put_4 12 rfl rfl)
abbrev cX2_trim : ByteArray := prog_3_method_3_code
def yX2_trim : MethodName := ⟨RX2, "trim", "(I)V"⟩
def dkwX2_trim_0 : List UInt8 := [42, 42, 27, 182, 0, 20, 181, 0, 16, 177]
abbrev dktX2_trim_0 : List UInt8 := dkwX2_trim_0 ++ []
theorem dksX2_trim_0 : cX2_trim.data.toList.drop 0 = dktX2_trim_0 := by decide +kernel
theorem dX2_trim_0 : decode cX2_trim 0 = .ok (.aload_n 0, 1) := dk_42 (dk_at dksX2_trim_0 0 rfl rfl)
theorem dX2_trim_1 : decode cX2_trim 1 = .ok (.aload_n 0, 1) := dk_42 (dk_at dksX2_trim_0 1 rfl rfl)
theorem dX2_trim_2 : decode cX2_trim 2 = .ok (.iload_n 1, 1) := dk_27 (dk_at dksX2_trim_0 2 rfl rfl)
theorem dX2_trim_3 : decode cX2_trim 3 = .ok (.invokevirtual 20, 3) := dk_182 0 20 (dk_at dksX2_trim_0 3 rfl rfl)
theorem dX2_trim_6 : decode cX2_trim 6 = .ok (.putfield 16, 3) := dk_181 0 16 (dk_at dksX2_trim_0 6 rfl rfl)
theorem dX2_trim_9 : decode cX2_trim 9 = .ok (.return_, 1) := dk_177 (dk_at dksX2_trim_0 9 rfl rfl)
abbrev cX2_first : ByteArray := prog_3_method_5_code
def yX2_first : MethodName := ⟨RX2, "first", "(I)I"⟩
def dkwX2_first_0 : List UInt8 := [27, 18, 24, 126, 42, 180, 0, 16, 4, 96, 112, 172]
abbrev dktX2_first_0 : List UInt8 := dkwX2_first_0 ++ []
theorem dksX2_first_0 : cX2_first.data.toList.drop 0 = dktX2_first_0 := by decide +kernel
theorem dX2_first_0 : decode cX2_first 0 = .ok (.iload_n 1, 1) := dk_27 (dk_at dksX2_first_0 0 rfl rfl)
theorem dX2_first_1 : decode cX2_first 1 = .ok (.ldc 24, 2) := dk_18 24 (dk_at dksX2_first_0 1 rfl rfl)
theorem dX2_first_3 : decode cX2_first 3 = .ok (.iand, 1) := dk_126 (dk_at dksX2_first_0 3 rfl rfl)
theorem dX2_first_4 : decode cX2_first 4 = .ok (.aload_n 0, 1) := dk_42 (dk_at dksX2_first_0 4 rfl rfl)
theorem dX2_first_5 : decode cX2_first 5 = .ok (.getfield 16, 3) := dk_180 0 16 (dk_at dksX2_first_0 5 rfl rfl)
theorem dX2_first_8 : decode cX2_first 8 = .ok (.iconst 1, 1) := dk_4 (dk_at dksX2_first_0 8 rfl rfl)
theorem dX2_first_9 : decode cX2_first 9 = .ok (.iadd, 1) := dk_96 (dk_at dksX2_first_0 9 rfl rfl)
theorem dX2_first_10 : decode cX2_first 10 = .ok (.irem, 1) := dk_112 (dk_at dksX2_first_0 10 rfl rfl)
theorem dX2_first_11 : decode cX2_first 11 = .ok (.ireturn, 1) := dk_172 (dk_at dksX2_first_0 11 rfl rfl)
abbrev cX2_size : ByteArray := prog_3_method_4_code
def yX2_size : MethodName := ⟨RX2, "size", "()I"⟩
theorem dX2_size_0 : decode cX2_size 0 = .ok (.aload_n 0, 1) := by decide +kernel
theorem dX2_size_1 : decode cX2_size 1 = .ok (.getfield 16, 3) := by decide +kernel
theorem dX2_size_4 : decode cX2_size 4 = .ok (.ireturn, 1) := by decide +kernel
abbrev cX2_begin : ByteArray := prog_3_method_7_code
def yX2_begin : MethodName := ⟨RX2, "begin", "()V"⟩
def dkwX2_begin_1 : List UInt8 := [132, 1, 1, 167, 255, 233, 42, 16, 8, 42, 180, 0, 16, 104, 181, 0, 25, 42, 3, 181, 0, 28, 177]
abbrev dktX2_begin_1 : List UInt8 := dkwX2_begin_1 ++ []
def dkwX2_begin_0 : List UInt8 := [3, 60, 27, 42, 180, 0, 16, 162, 0, 21, 42, 180, 0, 13, 27, 42, 180, 0, 7, 27, 51, 84]
abbrev dktX2_begin_0 : List UInt8 := dkwX2_begin_0 ++ dktX2_begin_1
theorem dksX2_begin_0 : cX2_begin.data.toList.drop 0 = dktX2_begin_0 := by decide +kernel
theorem dksX2_begin_1 : cX2_begin.data.toList.drop 22 = dktX2_begin_1 := dk_seg dksX2_begin_0 22 rfl rfl
theorem dX2_begin_0 : decode cX2_begin 0 = .ok (.iconst 0, 1) := dk_3 (dk_at dksX2_begin_0 0 rfl rfl)
theorem dX2_begin_1 : decode cX2_begin 1 = .ok (.istore_n 1, 1) := dk_60 (dk_at dksX2_begin_0 1 rfl rfl)
theorem dX2_begin_2 : decode cX2_begin 2 = .ok (.iload_n 1, 1) := dk_27 (dk_at dksX2_begin_0 2 rfl rfl)
theorem dX2_begin_3 : decode cX2_begin 3 = .ok (.aload_n 0, 1) := dk_42 (dk_at dksX2_begin_0 3 rfl rfl)
theorem dX2_begin_4 : decode cX2_begin 4 = .ok (.getfield 16, 3) := dk_180 0 16 (dk_at dksX2_begin_0 4 rfl rfl)
theorem dX2_begin_7 : decode cX2_begin 7 = .ok (.if_icmp .ge 21, 3) := dk_162 0 21 (dk_at dksX2_begin_0 7 rfl rfl)
theorem dX2_begin_10 : decode cX2_begin 10 = .ok (.aload_n 0, 1) := dk_42 (dk_at dksX2_begin_0 10 rfl rfl)
theorem dX2_begin_11 : decode cX2_begin 11 = .ok (.getfield 13, 3) := dk_180 0 13 (dk_at dksX2_begin_0 11 rfl rfl)
theorem dX2_begin_14 : decode cX2_begin 14 = .ok (.iload_n 1, 1) := dk_27 (dk_at dksX2_begin_0 14 rfl rfl)
theorem dX2_begin_15 : decode cX2_begin 15 = .ok (.aload_n 0, 1) := dk_42 (dk_at dksX2_begin_0 15 rfl rfl)
theorem dX2_begin_16 : decode cX2_begin 16 = .ok (.getfield 7, 3) := dk_180 0 7 (dk_at dksX2_begin_0 16 rfl rfl)
theorem dX2_begin_19 : decode cX2_begin 19 = .ok (.iload_n 1, 1) := dk_27 (dk_at dksX2_begin_0 19 rfl rfl)
theorem dX2_begin_20 : decode cX2_begin 20 = .ok (.baload, 1) := dk_51 (dk_at dksX2_begin_0 20 rfl rfl)
theorem dX2_begin_21 : decode cX2_begin 21 = .ok (.bastore, 1) := dk_84 (dk_at dksX2_begin_0 21 rfl rfl)
theorem dX2_begin_22 : decode cX2_begin 22 = .ok (.iinc 1 1, 3) := dk_132 1 1 (dk_at dksX2_begin_1 0 rfl rfl)
theorem dX2_begin_25 : decode cX2_begin 25 = .ok (.goto (-23), 3) := dk_167 255 233 (dk_at dksX2_begin_1 3 rfl rfl)
theorem dX2_begin_28 : decode cX2_begin 28 = .ok (.aload_n 0, 1) := dk_42 (dk_at dksX2_begin_1 6 rfl rfl)
theorem dX2_begin_29 : decode cX2_begin 29 = .ok (.bipush 8, 2) := dk_16 8 (dk_at dksX2_begin_1 7 rfl rfl)
theorem dX2_begin_31 : decode cX2_begin 31 = .ok (.aload_n 0, 1) := dk_42 (dk_at dksX2_begin_1 9 rfl rfl)
theorem dX2_begin_32 : decode cX2_begin 32 = .ok (.getfield 16, 3) := dk_180 0 16 (dk_at dksX2_begin_1 10 rfl rfl)
theorem dX2_begin_35 : decode cX2_begin 35 = .ok (.imul, 1) := dk_104 (dk_at dksX2_begin_1 13 rfl rfl)
theorem dX2_begin_36 : decode cX2_begin 36 = .ok (.putfield 25, 3) := dk_181 0 25 (dk_at dksX2_begin_1 14 rfl rfl)
theorem dX2_begin_39 : decode cX2_begin 39 = .ok (.aload_n 0, 1) := dk_42 (dk_at dksX2_begin_1 17 rfl rfl)
theorem dX2_begin_40 : decode cX2_begin 40 = .ok (.iconst 0, 1) := dk_3 (dk_at dksX2_begin_1 18 rfl rfl)
theorem dX2_begin_41 : decode cX2_begin 41 = .ok (.putfield 28, 3) := dk_181 0 28 (dk_at dksX2_begin_1 19 rfl rfl)
theorem dX2_begin_44 : decode cX2_begin 44 = .ok (.return_, 1) := dk_177 (dk_at dksX2_begin_1 22 rfl rfl)
abbrev cX2_left : ByteArray := prog_3_method_8_code
def yX2_left : MethodName := ⟨RX2, "left", "()I"⟩
def dkwX2_left_0 : List UInt8 := [42, 180, 0, 25, 42, 180, 0, 28, 100, 172]
abbrev dktX2_left_0 : List UInt8 := dkwX2_left_0 ++ []
theorem dksX2_left_0 : cX2_left.data.toList.drop 0 = dktX2_left_0 := by decide +kernel
theorem dX2_left_0 : decode cX2_left 0 = .ok (.aload_n 0, 1) := dk_42 (dk_at dksX2_left_0 0 rfl rfl)
theorem dX2_left_1 : decode cX2_left 1 = .ok (.getfield 25, 3) := dk_180 0 25 (dk_at dksX2_left_0 1 rfl rfl)
theorem dX2_left_4 : decode cX2_left 4 = .ok (.aload_n 0, 1) := dk_42 (dk_at dksX2_left_0 4 rfl rfl)
theorem dX2_left_5 : decode cX2_left 5 = .ok (.getfield 28, 3) := dk_180 0 28 (dk_at dksX2_left_0 5 rfl rfl)
theorem dX2_left_8 : decode cX2_left 8 = .ok (.isub, 1) := dk_100 (dk_at dksX2_left_0 8 rfl rfl)
theorem dX2_left_9 : decode cX2_left 9 = .ok (.ireturn, 1) := dk_172 (dk_at dksX2_left_0 9 rfl rfl)
abbrev cX2_read : ByteArray := prog_3_method_9_code
def yX2_read : MethodName := ⟨RX2, "read", "(I)J"⟩
def dkwX2_read_3 : List UInt8 := [181, 0, 28, 132, 4, 1, 167, 255, 208, 29, 133, 173]
abbrev dktX2_read_3 : List UInt8 := dkwX2_read_3 ++ []
def dkwX2_read_2 : List UInt8 := [51, 16, 7, 42, 180, 0, 28, 16, 7, 126, 100, 122, 4, 126, 128, 62, 42, 42, 180, 0, 28, 4, 96]
abbrev dktX2_read_2 : List UInt8 := dkwX2_read_2 ++ dktX2_read_3
def dkwX2_read_1 : List UInt8 := [3, 62, 3, 54, 4, 21, 4, 28, 162, 0, 48, 29, 4, 120, 42, 180, 0, 13, 42, 180, 0, 28, 6, 122]
abbrev dktX2_read_1 : List UInt8 := dkwX2_read_1 ++ dktX2_read_2
def dkwX2_read_0 : List UInt8 := [4, 27, 16, 31, 126, 96, 61, 28, 42, 180, 0, 25, 42, 180, 0, 28, 100, 164, 0, 7, 20, 0, 31, 173]
abbrev dktX2_read_0 : List UInt8 := dkwX2_read_0 ++ dktX2_read_1
theorem dksX2_read_0 : cX2_read.data.toList.drop 0 = dktX2_read_0 := by decide +kernel
theorem dksX2_read_1 : cX2_read.data.toList.drop 24 = dktX2_read_1 := dk_seg dksX2_read_0 24 rfl rfl
theorem dksX2_read_2 : cX2_read.data.toList.drop 48 = dktX2_read_2 := dk_seg dksX2_read_1 24 rfl rfl
theorem dksX2_read_3 : cX2_read.data.toList.drop 71 = dktX2_read_3 := dk_seg dksX2_read_2 23 rfl rfl
theorem dX2_read_0 : decode cX2_read 0 = .ok (.iconst 1, 1) := dk_4 (dk_at dksX2_read_0 0 rfl rfl)
theorem dX2_read_1 : decode cX2_read 1 = .ok (.iload_n 1, 1) := dk_27 (dk_at dksX2_read_0 1 rfl rfl)
theorem dX2_read_2 : decode cX2_read 2 = .ok (.bipush 31, 2) := dk_16 31 (dk_at dksX2_read_0 2 rfl rfl)
theorem dX2_read_4 : decode cX2_read 4 = .ok (.iand, 1) := dk_126 (dk_at dksX2_read_0 4 rfl rfl)
theorem dX2_read_5 : decode cX2_read 5 = .ok (.iadd, 1) := dk_96 (dk_at dksX2_read_0 5 rfl rfl)
theorem dX2_read_6 : decode cX2_read 6 = .ok (.istore_n 2, 1) := dk_61 (dk_at dksX2_read_0 6 rfl rfl)
theorem dX2_read_7 : decode cX2_read 7 = .ok (.iload_n 2, 1) := dk_28 (dk_at dksX2_read_0 7 rfl rfl)
theorem dX2_read_8 : decode cX2_read 8 = .ok (.aload_n 0, 1) := dk_42 (dk_at dksX2_read_0 8 rfl rfl)
theorem dX2_read_9 : decode cX2_read 9 = .ok (.getfield 25, 3) := dk_180 0 25 (dk_at dksX2_read_0 9 rfl rfl)
theorem dX2_read_12 : decode cX2_read 12 = .ok (.aload_n 0, 1) := dk_42 (dk_at dksX2_read_0 12 rfl rfl)
theorem dX2_read_13 : decode cX2_read 13 = .ok (.getfield 28, 3) := dk_180 0 28 (dk_at dksX2_read_0 13 rfl rfl)
theorem dX2_read_16 : decode cX2_read 16 = .ok (.isub, 1) := dk_100 (dk_at dksX2_read_0 16 rfl rfl)
theorem dX2_read_17 : decode cX2_read 17 = .ok (.if_icmp .le 7, 3) := dk_164 0 7 (dk_at dksX2_read_0 17 rfl rfl)
theorem dX2_read_20 : decode cX2_read 20 = .ok (.ldc2_w 31, 3) := dk_20 0 31 (dk_at dksX2_read_0 20 rfl rfl)
theorem dX2_read_23 : decode cX2_read 23 = .ok (.lreturn, 1) := dk_173 (dk_at dksX2_read_0 23 rfl rfl)
theorem dX2_read_24 : decode cX2_read 24 = .ok (.iconst 0, 1) := dk_3 (dk_at dksX2_read_1 0 rfl rfl)
theorem dX2_read_25 : decode cX2_read 25 = .ok (.istore_n 3, 1) := dk_62 (dk_at dksX2_read_1 1 rfl rfl)
theorem dX2_read_26 : decode cX2_read 26 = .ok (.iconst 0, 1) := dk_3 (dk_at dksX2_read_1 2 rfl rfl)
theorem dX2_read_27 : decode cX2_read 27 = .ok (.istore 4, 2) := dk_54 4 (dk_at dksX2_read_1 3 rfl rfl)
theorem dX2_read_29 : decode cX2_read 29 = .ok (.iload 4, 2) := dk_21 4 (dk_at dksX2_read_1 5 rfl rfl)
theorem dX2_read_31 : decode cX2_read 31 = .ok (.iload_n 2, 1) := dk_28 (dk_at dksX2_read_1 7 rfl rfl)
theorem dX2_read_32 : decode cX2_read 32 = .ok (.if_icmp .ge 48, 3) := dk_162 0 48 (dk_at dksX2_read_1 8 rfl rfl)
theorem dX2_read_35 : decode cX2_read 35 = .ok (.iload_n 3, 1) := dk_29 (dk_at dksX2_read_1 11 rfl rfl)
theorem dX2_read_36 : decode cX2_read 36 = .ok (.iconst 1, 1) := dk_4 (dk_at dksX2_read_1 12 rfl rfl)
theorem dX2_read_37 : decode cX2_read 37 = .ok (.ishl, 1) := dk_120 (dk_at dksX2_read_1 13 rfl rfl)
theorem dX2_read_38 : decode cX2_read 38 = .ok (.aload_n 0, 1) := dk_42 (dk_at dksX2_read_1 14 rfl rfl)
theorem dX2_read_39 : decode cX2_read 39 = .ok (.getfield 13, 3) := dk_180 0 13 (dk_at dksX2_read_1 15 rfl rfl)
theorem dX2_read_42 : decode cX2_read 42 = .ok (.aload_n 0, 1) := dk_42 (dk_at dksX2_read_1 18 rfl rfl)
theorem dX2_read_43 : decode cX2_read 43 = .ok (.getfield 28, 3) := dk_180 0 28 (dk_at dksX2_read_1 19 rfl rfl)
theorem dX2_read_46 : decode cX2_read 46 = .ok (.iconst 3, 1) := dk_6 (dk_at dksX2_read_1 22 rfl rfl)
theorem dX2_read_47 : decode cX2_read 47 = .ok (.ishr, 1) := dk_122 (dk_at dksX2_read_1 23 rfl rfl)
theorem dX2_read_48 : decode cX2_read 48 = .ok (.baload, 1) := dk_51 (dk_at dksX2_read_2 0 rfl rfl)
theorem dX2_read_49 : decode cX2_read 49 = .ok (.bipush 7, 2) := dk_16 7 (dk_at dksX2_read_2 1 rfl rfl)
theorem dX2_read_51 : decode cX2_read 51 = .ok (.aload_n 0, 1) := dk_42 (dk_at dksX2_read_2 3 rfl rfl)
theorem dX2_read_52 : decode cX2_read 52 = .ok (.getfield 28, 3) := dk_180 0 28 (dk_at dksX2_read_2 4 rfl rfl)
theorem dX2_read_55 : decode cX2_read 55 = .ok (.bipush 7, 2) := dk_16 7 (dk_at dksX2_read_2 7 rfl rfl)
theorem dX2_read_57 : decode cX2_read 57 = .ok (.iand, 1) := dk_126 (dk_at dksX2_read_2 9 rfl rfl)
theorem dX2_read_58 : decode cX2_read 58 = .ok (.isub, 1) := dk_100 (dk_at dksX2_read_2 10 rfl rfl)
theorem dX2_read_59 : decode cX2_read 59 = .ok (.ishr, 1) := dk_122 (dk_at dksX2_read_2 11 rfl rfl)
theorem dX2_read_60 : decode cX2_read 60 = .ok (.iconst 1, 1) := dk_4 (dk_at dksX2_read_2 12 rfl rfl)
theorem dX2_read_61 : decode cX2_read 61 = .ok (.iand, 1) := dk_126 (dk_at dksX2_read_2 13 rfl rfl)
theorem dX2_read_62 : decode cX2_read 62 = .ok (.ior, 1) := dk_128 (dk_at dksX2_read_2 14 rfl rfl)
theorem dX2_read_63 : decode cX2_read 63 = .ok (.istore_n 3, 1) := dk_62 (dk_at dksX2_read_2 15 rfl rfl)
theorem dX2_read_64 : decode cX2_read 64 = .ok (.aload_n 0, 1) := dk_42 (dk_at dksX2_read_2 16 rfl rfl)
theorem dX2_read_65 : decode cX2_read 65 = .ok (.aload_n 0, 1) := dk_42 (dk_at dksX2_read_2 17 rfl rfl)
theorem dX2_read_66 : decode cX2_read 66 = .ok (.getfield 28, 3) := dk_180 0 28 (dk_at dksX2_read_2 18 rfl rfl)
theorem dX2_read_69 : decode cX2_read 69 = .ok (.iconst 1, 1) := dk_4 (dk_at dksX2_read_2 21 rfl rfl)
theorem dX2_read_70 : decode cX2_read 70 = .ok (.iadd, 1) := dk_96 (dk_at dksX2_read_2 22 rfl rfl)
theorem dX2_read_71 : decode cX2_read 71 = .ok (.putfield 28, 3) := dk_181 0 28 (dk_at dksX2_read_3 0 rfl rfl)
theorem dX2_read_74 : decode cX2_read 74 = .ok (.iinc 4 1, 3) := dk_132 4 1 (dk_at dksX2_read_3 3 rfl rfl)
theorem dX2_read_77 : decode cX2_read 77 = .ok (.goto (-48), 3) := dk_167 255 208 (dk_at dksX2_read_3 6 rfl rfl)
theorem dX2_read_80 : decode cX2_read 80 = .ok (.iload_n 3, 1) := dk_29 (dk_at dksX2_read_3 9 rfl rfl)
theorem dX2_read_81 : decode cX2_read 81 = .ok (.i2l, 1) := dk_133 (dk_at dksX2_read_3 10 rfl rfl)
theorem dX2_read_82 : decode cX2_read 82 = .ok (.lreturn, 1) := dk_173 (dk_at dksX2_read_3 11 rfl rfl)
abbrev cX2_octet : ByteArray := prog_3_method_10_code
def yX2_octet : MethodName := ⟨RX2, "octet", "()I"⟩
def dkwX2_octet_0 : List UInt8 := [42, 180, 0, 28, 6, 122, 172]
abbrev dktX2_octet_0 : List UInt8 := dkwX2_octet_0 ++ []
theorem dksX2_octet_0 : cX2_octet.data.toList.drop 0 = dktX2_octet_0 := by decide +kernel
theorem dX2_octet_0 : decode cX2_octet 0 = .ok (.aload_n 0, 1) := dk_42 (dk_at dksX2_octet_0 0 rfl rfl)
theorem dX2_octet_1 : decode cX2_octet 1 = .ok (.getfield 28, 3) := dk_180 0 28 (dk_at dksX2_octet_0 1 rfl rfl)
theorem dX2_octet_4 : decode cX2_octet 4 = .ok (.iconst 3, 1) := dk_6 (dk_at dksX2_octet_0 4 rfl rfl)
theorem dX2_octet_5 : decode cX2_octet 5 = .ok (.ishr, 1) := dk_122 (dk_at dksX2_octet_0 5 rfl rfl)
theorem dX2_octet_6 : decode cX2_octet 6 = .ok (.ireturn, 1) := dk_172 (dk_at dksX2_octet_0 6 rfl rfl)
abbrev cX2_bit : ByteArray := prog_3_method_11_code
def yX2_bit : MethodName := ⟨RX2, "bit", "()I"⟩
def dkwX2_bit_0 : List UInt8 := [42, 180, 0, 28, 16, 7, 126, 172]
abbrev dktX2_bit_0 : List UInt8 := dkwX2_bit_0 ++ []
theorem dksX2_bit_0 : cX2_bit.data.toList.drop 0 = dktX2_bit_0 := by decide +kernel
theorem dX2_bit_0 : decode cX2_bit 0 = .ok (.aload_n 0, 1) := dk_42 (dk_at dksX2_bit_0 0 rfl rfl)
theorem dX2_bit_1 : decode cX2_bit 1 = .ok (.getfield 28, 3) := dk_180 0 28 (dk_at dksX2_bit_0 1 rfl rfl)
theorem dX2_bit_4 : decode cX2_bit 4 = .ok (.bipush 7, 2) := dk_16 7 (dk_at dksX2_bit_0 4 rfl rfl)
theorem dX2_bit_6 : decode cX2_bit 6 = .ok (.iand, 1) := dk_126 (dk_at dksX2_bit_0 6 rfl rfl)
theorem dX2_bit_7 : decode cX2_bit 7 = .ok (.ireturn, 1) := dk_172 (dk_at dksX2_bit_0 7 rfl rfl)
theorem q7 : (Jvm.Cond.initialized "BitReaderModel") ∈ lw_all := lw_g (lw_at lw_m1 3 rfl) rfl
theorem q231 : (Jvm.Cond.instantiable "BitReaderModel" (5 : Nat)) ∈ lw_all := lw_g (lw_at lw_m1 227 rfl) rfl
theorem q233 : (Jvm.Cond.instanceMethod ({ cls := "BitReaderModel", name := "<init>", desc := "()V" } : Jvm.MethodName)) ∈ lw_all := lw_g (lw_at lw_m1 229 rfl) rfl
theorem q234 : (Jvm.Cond.code ({ cls := "BitReaderModel", name := "<init>", desc := "()V" } : Jvm.MethodName) prog_3_method_1_code (1 : Nat) (Option.none : Option Jvm.ClassFile.FieldType)) ∈ lw_all := lw_g (lw_at lw_m1 230 rfl) rfl
theorem q235 : (Jvm.Cond.methodLink "BitReaderModel" (1 : Nat) ({ cls := "java/lang/Object", name := "<init>", desc := "()V" } : Jvm.MethodName)) ∈ lw_all := lw_g (lw_at lw_m1 231 rfl) rfl
theorem q236 : (Jvm.Cond.fieldLink "BitReaderModel" (7 : Nat) "BitReaderModel" "text" "[B") ∈ lw_all := lw_g (lw_at lw_m1 232 rfl) rfl
theorem q237 : (Jvm.Cond.fieldLink "BitReaderModel" (16 : Nat) "BitReaderModel" "size" "I") ∈ lw_all := lw_g (lw_at lw_m1 233 rfl) rfl
theorem q238 : (Jvm.Cond.fieldLink "BitReaderModel" (13 : Nat) "BitReaderModel" "held" "[B") ∈ lw_all := lw_g (lw_at lw_m1 234 rfl) rfl
theorem q239 : (Jvm.Cond.fieldLink "BitReaderModel" (25 : Nat) "BitReaderModel" "end" "I") ∈ lw_all := lw_g (lw_at lw_m1 235 rfl) rfl
theorem q240 : (Jvm.Cond.fieldLink "BitReaderModel" (28 : Nat) "BitReaderModel" "at" "I") ∈ lw_all := lw_g (lw_at lw_m1 236 rfl) rfl
theorem q241 : (Jvm.Cond.laysFinal "BitReaderModel" "BitReaderModel" "text" "[B") ∈ lw_all := lw_g (lw_at lw_m1 237 rfl) rfl
theorem q242 : (Jvm.Cond.soleField "BitReaderModel" "text") ∈ lw_all := lw_g (lw_at lw_m1 238 rfl) rfl
theorem q243 : (Jvm.Cond.lays "BitReaderModel" "BitReaderModel" "size" "I") ∈ lw_all := lw_g (lw_at lw_m1 239 rfl) rfl
theorem q244 : (Jvm.Cond.soleField "BitReaderModel" "size") ∈ lw_all := lw_g (lw_at lw_m2 0 rfl) rfl
theorem q245 : (Jvm.Cond.laysFinal "BitReaderModel" "BitReaderModel" "held" "[B") ∈ lw_all := lw_g (lw_at lw_m2 1 rfl) rfl
theorem q246 : (Jvm.Cond.soleField "BitReaderModel" "held") ∈ lw_all := lw_g (lw_at lw_m2 2 rfl) rfl
theorem q247 : (Jvm.Cond.lays "BitReaderModel" "BitReaderModel" "end" "I") ∈ lw_all := lw_g (lw_at lw_m2 3 rfl) rfl
theorem q248 : (Jvm.Cond.soleField "BitReaderModel" "end") ∈ lw_all := lw_g (lw_at lw_m2 4 rfl) rfl
theorem q249 : (Jvm.Cond.lays "BitReaderModel" "BitReaderModel" "at" "I") ∈ lw_all := lw_g (lw_at lw_m2 5 rfl) rfl
theorem q250 : (Jvm.Cond.soleField "BitReaderModel" "at") ∈ lw_all := lw_g (lw_at lw_m2 6 rfl) rfl
theorem q251 : (Jvm.Cond.superclass "BitReaderModel" "java/lang/Object") ∈ lw_all := lw_g (lw_at lw_m2 7 rfl) rfl
theorem q253 : (Jvm.Cond.instanceMethod ({ cls := "BitReaderModel", name := "put", desc := "(IIII)Z" } : Jvm.MethodName)) ∈ lw_all := lw_g (lw_at lw_m2 9 rfl) rfl
theorem q254 : (Jvm.Cond.selects "BitReaderModel" ({ cls := "BitReaderModel", name := "put", desc := "(IIII)Z" } : Jvm.MethodName) ({ cls := "BitReaderModel", name := "put", desc := "(IIII)Z" } : Jvm.MethodName)) ∈ lw_all := lw_g (lw_at lw_m2 10 rfl) rfl
theorem q255 : (Jvm.Cond.code ({ cls := "BitReaderModel", name := "put", desc := "(IIII)Z" } : Jvm.MethodName) prog_3_method_2_code (7 : Nat) (Option.some Jvm.ClassFile.FieldType.boolean)) ∈ lw_all := lw_g (lw_at lw_m2 11 rfl) rfl
theorem q257 : (Jvm.Cond.instanceMethod ({ cls := "BitReaderModel", name := "trim", desc := "(I)V" } : Jvm.MethodName)) ∈ lw_all := lw_g (lw_at lw_m2 13 rfl) rfl
theorem q258 : (Jvm.Cond.selects "BitReaderModel" ({ cls := "BitReaderModel", name := "trim", desc := "(I)V" } : Jvm.MethodName) ({ cls := "BitReaderModel", name := "trim", desc := "(I)V" } : Jvm.MethodName)) ∈ lw_all := lw_g (lw_at lw_m2 14 rfl) rfl
theorem q259 : (Jvm.Cond.code ({ cls := "BitReaderModel", name := "trim", desc := "(I)V" } : Jvm.MethodName) prog_3_method_3_code (2 : Nat) (Option.none : Option Jvm.ClassFile.FieldType)) ∈ lw_all := lw_g (lw_at lw_m2 15 rfl) rfl
theorem q260 : (Jvm.Cond.methodLink "BitReaderModel" (20 : Nat) ({ cls := "BitReaderModel", name := "first", desc := "(I)I" } : Jvm.MethodName)) ∈ lw_all := lw_g (lw_at lw_m2 16 rfl) rfl
theorem q261 : (Jvm.Cond.privateMethod ({ cls := "BitReaderModel", name := "first", desc := "(I)I" } : Jvm.MethodName)) ∈ lw_tbl := lw_at lw_m2 17 rfl
theorem q262 : (Jvm.Cond.instanceMethod ({ cls := "BitReaderModel", name := "first", desc := "(I)I" } : Jvm.MethodName)) ∈ lw_all := lw_g (lw_at lw_m2 18 rfl) rfl
theorem q263 : (Jvm.Cond.code ({ cls := "BitReaderModel", name := "first", desc := "(I)I" } : Jvm.MethodName) prog_3_method_5_code (2 : Nat) (Option.some Jvm.ClassFile.FieldType.int)) ∈ lw_all := lw_g (lw_at lw_m2 19 rfl) rfl
theorem q264 : (Jvm.Cond.constant "BitReaderModel" (24 : Nat) (2147483647 : Int32)) ∈ lw_all := lw_g (lw_at lw_m2 20 rfl) rfl
theorem q266 : (Jvm.Cond.instanceMethod ({ cls := "BitReaderModel", name := "size", desc := "()I" } : Jvm.MethodName)) ∈ lw_all := lw_g (lw_at lw_m2 22 rfl) rfl
theorem q267 : (Jvm.Cond.selects "BitReaderModel" ({ cls := "BitReaderModel", name := "size", desc := "()I" } : Jvm.MethodName) ({ cls := "BitReaderModel", name := "size", desc := "()I" } : Jvm.MethodName)) ∈ lw_all := lw_g (lw_at lw_m2 23 rfl) rfl
theorem q268 : (Jvm.Cond.code ({ cls := "BitReaderModel", name := "size", desc := "()I" } : Jvm.MethodName) prog_3_method_4_code (1 : Nat) (Option.some Jvm.ClassFile.FieldType.int)) ∈ lw_all := lw_g (lw_at lw_m2 24 rfl) rfl
theorem q270 : (Jvm.Cond.instanceMethod ({ cls := "BitReaderModel", name := "begin", desc := "()V" } : Jvm.MethodName)) ∈ lw_all := lw_g (lw_at lw_m2 26 rfl) rfl
theorem q271 : (Jvm.Cond.selects "BitReaderModel" ({ cls := "BitReaderModel", name := "begin", desc := "()V" } : Jvm.MethodName) ({ cls := "BitReaderModel", name := "begin", desc := "()V" } : Jvm.MethodName)) ∈ lw_all := lw_g (lw_at lw_m2 27 rfl) rfl
theorem q272 : (Jvm.Cond.code ({ cls := "BitReaderModel", name := "begin", desc := "()V" } : Jvm.MethodName) prog_3_method_7_code (2 : Nat) (Option.none : Option Jvm.ClassFile.FieldType)) ∈ lw_all := lw_g (lw_at lw_m2 28 rfl) rfl
theorem q274 : (Jvm.Cond.instanceMethod ({ cls := "BitReaderModel", name := "left", desc := "()I" } : Jvm.MethodName)) ∈ lw_all := lw_g (lw_at lw_m2 30 rfl) rfl
theorem q275 : (Jvm.Cond.selects "BitReaderModel" ({ cls := "BitReaderModel", name := "left", desc := "()I" } : Jvm.MethodName) ({ cls := "BitReaderModel", name := "left", desc := "()I" } : Jvm.MethodName)) ∈ lw_all := lw_g (lw_at lw_m2 31 rfl) rfl
theorem q276 : (Jvm.Cond.code ({ cls := "BitReaderModel", name := "left", desc := "()I" } : Jvm.MethodName) prog_3_method_8_code (1 : Nat) (Option.some Jvm.ClassFile.FieldType.int)) ∈ lw_all := lw_g (lw_at lw_m2 32 rfl) rfl
theorem q278 : (Jvm.Cond.instanceMethod ({ cls := "BitReaderModel", name := "read", desc := "(I)J" } : Jvm.MethodName)) ∈ lw_all := lw_g (lw_at lw_m2 34 rfl) rfl
theorem q279 : (Jvm.Cond.selects "BitReaderModel" ({ cls := "BitReaderModel", name := "read", desc := "(I)J" } : Jvm.MethodName) ({ cls := "BitReaderModel", name := "read", desc := "(I)J" } : Jvm.MethodName)) ∈ lw_all := lw_g (lw_at lw_m2 35 rfl) rfl
theorem q280 : (Jvm.Cond.code ({ cls := "BitReaderModel", name := "read", desc := "(I)J" } : Jvm.MethodName) prog_3_method_9_code (5 : Nat) (Option.some Jvm.ClassFile.FieldType.long)) ∈ lw_all := lw_g (lw_at lw_m2 36 rfl) rfl
theorem q281 : (Jvm.Cond.constantLong "BitReaderModel" (31 : Nat) (4294967296 : Int64)) ∈ lw_all := lw_g (lw_at lw_m2 37 rfl) rfl
theorem q283 : (Jvm.Cond.instanceMethod ({ cls := "BitReaderModel", name := "octet", desc := "()I" } : Jvm.MethodName)) ∈ lw_all := lw_g (lw_at lw_m2 39 rfl) rfl
theorem q284 : (Jvm.Cond.selects "BitReaderModel" ({ cls := "BitReaderModel", name := "octet", desc := "()I" } : Jvm.MethodName) ({ cls := "BitReaderModel", name := "octet", desc := "()I" } : Jvm.MethodName)) ∈ lw_all := lw_g (lw_at lw_m2 40 rfl) rfl
theorem q285 : (Jvm.Cond.code ({ cls := "BitReaderModel", name := "octet", desc := "()I" } : Jvm.MethodName) prog_3_method_10_code (1 : Nat) (Option.some Jvm.ClassFile.FieldType.int)) ∈ lw_all := lw_g (lw_at lw_m2 41 rfl) rfl
theorem q287 : (Jvm.Cond.instanceMethod ({ cls := "BitReaderModel", name := "bit", desc := "()I" } : Jvm.MethodName)) ∈ lw_all := lw_g (lw_at lw_m2 43 rfl) rfl
theorem q288 : (Jvm.Cond.selects "BitReaderModel" ({ cls := "BitReaderModel", name := "bit", desc := "()I" } : Jvm.MethodName) ({ cls := "BitReaderModel", name := "bit", desc := "()I" } : Jvm.MethodName)) ∈ lw_all := lw_g (lw_at lw_m2 44 rfl) rfl
theorem q289 : (Jvm.Cond.code ({ cls := "BitReaderModel", name := "bit", desc := "()I" } : Jvm.MethodName) prog_3_method_11_code (1 : Nat) (Option.some Jvm.ClassFile.FieldType.int)) ∈ lw_all := lw_g (lw_at lw_m2 45 rfl) rfl
theorem in_X2 : ∀ w ∈ wsX20, w ∈ lw_all := lw_in wsX20 [241, 243, 245, 247, 249] (by decide +kernel) (by decide +kernel)
end
section
/-! java/lang/Math -/
set_option maxRecDepth 100000
def RJ7 : String := "java/lang/Math"
abbrev cJ7_min : ByteArray := prog_8_method_69_code
def yJ7_min : MethodName := ⟨RJ7, "min", "(II)I"⟩
def dkwJ7_min_0 : List UInt8 := [26, 27, 163, 0, 7, 26, 167, 0, 4, 27, 172]
abbrev dktJ7_min_0 : List UInt8 := dkwJ7_min_0 ++ []
theorem dksJ7_min_0 : cJ7_min.data.toList.drop 0 = dktJ7_min_0 := by decide +kernel
theorem dJ7_min_0 : decode cJ7_min 0 = .ok (.iload_n 0, 1) := dk_26 (dk_at dksJ7_min_0 0 rfl rfl)
theorem dJ7_min_1 : decode cJ7_min 1 = .ok (.iload_n 1, 1) := dk_27 (dk_at dksJ7_min_0 1 rfl rfl)
theorem dJ7_min_2 : decode cJ7_min 2 = .ok (.if_icmp .gt 7, 3) := dk_163 0 7 (dk_at dksJ7_min_0 2 rfl rfl)
theorem dJ7_min_5 : decode cJ7_min 5 = .ok (.iload_n 0, 1) := dk_26 (dk_at dksJ7_min_0 5 rfl rfl)
theorem dJ7_min_6 : decode cJ7_min 6 = .ok (.goto 4, 3) := dk_167 0 4 (dk_at dksJ7_min_0 6 rfl rfl)
theorem dJ7_min_9 : decode cJ7_min 9 = .ok (.iload_n 1, 1) := dk_27 (dk_at dksJ7_min_0 9 rfl rfl)
theorem dJ7_min_10 : decode cJ7_min 10 = .ok (.ireturn, 1) := dk_172 (dk_at dksJ7_min_0 10 rfl rfl)
theorem q16 : (Jvm.Cond.initialized "java/lang/Math") ∈ lw_all := lw_g (lw_at lw_m1 12 rfl) rfl
theorem q212 : (Jvm.Cond.static ({ cls := "java/lang/Math", name := "min", desc := "(II)I" } : Jvm.MethodName)) ∈ lw_all := lw_g (lw_at lw_m1 208 rfl) rfl
theorem q213 : (Jvm.Cond.code ({ cls := "java/lang/Math", name := "min", desc := "(II)I" } : Jvm.MethodName) prog_8_method_69_code (2 : Nat) (Option.some Jvm.ClassFile.FieldType.int)) ∈ lw_all := lw_g (lw_at lw_m1 209 rfl) rfl
/-! java/lang/Object -/
set_option maxRecDepth 100000
def RJ8 : String := "java/lang/Object"
abbrev cJ8_init : ByteArray := object_method_1_code
def yJ8_init : MethodName := ⟨RJ8, "<init>", "()V"⟩
theorem dJ8_init_0 : decode cJ8_init 0 = .ok (.return_, 1) := by decide +kernel
theorem q23 : (Jvm.Cond.instanceMethod ({ cls := "java/lang/Object", name := "<init>", desc := "()V" } : Jvm.MethodName)) ∈ lw_all := lw_g (lw_at lw_m1 19 rfl) rfl
theorem q24 : (Jvm.Cond.code ({ cls := "java/lang/Object", name := "<init>", desc := "()V" } : Jvm.MethodName) object_method_1_code (1 : Nat) (Option.none : Option Jvm.ClassFile.FieldType)) ∈ lw_all := lw_g (lw_at lw_m1 20 rfl) rfl
theorem q4 : (Jvm.Cond.initialized "BitReaderLaw") ∈ lw_all := lw_g (lw_at lw_m1 0 rfl) rfl
set_option maxRecDepth 100000
theorem q17 : (Jvm.Cond.classLink "BitReaderLaw" (7 : Nat) "BitReader") ∈ lw_all := lw_g (lw_at lw_m1 13 rfl) rfl
theorem q19 : (Jvm.Cond.methodLink "BitReaderLaw" (9 : Nat) ({ cls := "BitReader", name := "<init>", desc := "()V" } : Jvm.MethodName)) ∈ lw_all := lw_g (lw_at lw_m1 15 rfl) rfl
theorem q52 : (Jvm.Cond.methodLink "BitReaderLaw" (13 : Nat) ({ cls := "BitReader", name := "put", desc := "(IIII)Z" } : Jvm.MethodName)) ∈ lw_all := lw_g (lw_at lw_m1 48 rfl) rfl
theorem q60 : (Jvm.Cond.methodLink "BitReaderLaw" (18 : Nat) ({ cls := "BitReader", name := "trim", desc := "(I)V" } : Jvm.MethodName)) ∈ lw_all := lw_g (lw_at lw_m1 56 rfl) rfl
theorem q69 : (Jvm.Cond.methodLink "BitReaderLaw" (23 : Nat) ({ cls := "BitReader", name := "size", desc := "()I" } : Jvm.MethodName)) ∈ lw_all := lw_g (lw_at lw_m1 65 rfl) rfl
theorem q73 : (Jvm.Cond.methodLink "BitReaderLaw" (28 : Nat) ({ cls := "BitReader", name := "begin", desc := "()V" } : Jvm.MethodName)) ∈ lw_all := lw_g (lw_at lw_m1 69 rfl) rfl
theorem q77 : (Jvm.Cond.methodLink "BitReaderLaw" (32 : Nat) ({ cls := "BitReader", name := "left", desc := "()I" } : Jvm.MethodName)) ∈ lw_all := lw_g (lw_at lw_m1 73 rfl) rfl
theorem q85 : (Jvm.Cond.methodLink "BitReaderLaw" (36 : Nat) ({ cls := "BitReader", name := "read", desc := "(I)J" } : Jvm.MethodName)) ∈ lw_all := lw_g (lw_at lw_m1 81 rfl) rfl
theorem q214 : (Jvm.Cond.methodLink "BitReaderLaw" (41 : Nat) ({ cls := "BitReader", name := "octet", desc := "()I" } : Jvm.MethodName)) ∈ lw_all := lw_g (lw_at lw_m1 210 rfl) rfl
theorem q222 : (Jvm.Cond.methodLink "BitReaderLaw" (45 : Nat) ({ cls := "BitReader", name := "bit", desc := "()I" } : Jvm.MethodName)) ∈ lw_all := lw_g (lw_at lw_m1 218 rfl) rfl
theorem q230 : (Jvm.Cond.classLink "BitReaderLaw" (10 : Nat) "BitReaderModel") ∈ lw_all := lw_g (lw_at lw_m1 226 rfl) rfl
theorem q232 : (Jvm.Cond.methodLink "BitReaderLaw" (12 : Nat) ({ cls := "BitReaderModel", name := "<init>", desc := "()V" } : Jvm.MethodName)) ∈ lw_all := lw_g (lw_at lw_m1 228 rfl) rfl
theorem q252 : (Jvm.Cond.methodLink "BitReaderLaw" (17 : Nat) ({ cls := "BitReaderModel", name := "put", desc := "(IIII)Z" } : Jvm.MethodName)) ∈ lw_all := lw_g (lw_at lw_m2 8 rfl) rfl
theorem q256 : (Jvm.Cond.methodLink "BitReaderLaw" (22 : Nat) ({ cls := "BitReaderModel", name := "trim", desc := "(I)V" } : Jvm.MethodName)) ∈ lw_all := lw_g (lw_at lw_m2 12 rfl) rfl
theorem q265 : (Jvm.Cond.methodLink "BitReaderLaw" (27 : Nat) ({ cls := "BitReaderModel", name := "size", desc := "()I" } : Jvm.MethodName)) ∈ lw_all := lw_g (lw_at lw_m2 21 rfl) rfl
theorem q269 : (Jvm.Cond.methodLink "BitReaderLaw" (31 : Nat) ({ cls := "BitReaderModel", name := "begin", desc := "()V" } : Jvm.MethodName)) ∈ lw_all := lw_g (lw_at lw_m2 25 rfl) rfl
theorem q273 : (Jvm.Cond.methodLink "BitReaderLaw" (35 : Nat) ({ cls := "BitReaderModel", name := "left", desc := "()I" } : Jvm.MethodName)) ∈ lw_all := lw_g (lw_at lw_m2 29 rfl) rfl
theorem q277 : (Jvm.Cond.methodLink "BitReaderLaw" (40 : Nat) ({ cls := "BitReaderModel", name := "read", desc := "(I)J" } : Jvm.MethodName)) ∈ lw_all := lw_g (lw_at lw_m2 33 rfl) rfl
theorem q282 : (Jvm.Cond.methodLink "BitReaderLaw" (44 : Nat) ({ cls := "BitReaderModel", name := "octet", desc := "()I" } : Jvm.MethodName)) ∈ lw_all := lw_g (lw_at lw_m2 38 rfl) rfl
theorem q286 : (Jvm.Cond.methodLink "BitReaderLaw" (48 : Nat) ({ cls := "BitReaderModel", name := "bit", desc := "()I" } : Jvm.MethodName)) ∈ lw_all := lw_g (lw_at lw_m2 42 rfl) rfl
theorem q41 : (Jvm.Cond.arrayClass Jvm.ClassFile.FieldType.byte) ∈ lw_all := lw_g (lw_at lw_m1 37 rfl) rfl
set_option maxRecDepth 100000
/-! the law's own entry -/
set_option maxRecDepth 100000
abbrev cL_law : ByteArray := code
def dkwL_law_10 : List UInt8 := [167, 255, 30, 4, 172]
abbrev dktL_law_10 : List UInt8 := dkwL_law_10 ++ []
def dkwL_law_9 : List UInt8 := [182, 0, 44, 159, 0, 18, 3, 172, 43, 182, 0, 45, 44, 182, 0, 48, 159, 0, 5, 3, 172, 132, 3, 6]
abbrev dktL_law_9 : List UInt8 := dkwL_law_9 ++ dktL_law_10
def dkwL_law_8 : List UInt8 := [182, 0, 36, 44, 42, 29, 4, 96, 46, 182, 0, 40, 148, 153, 0, 31, 3, 172, 43, 182, 0, 41, 44]
abbrev dktL_law_8 : List UInt8 := dkwL_law_8 ++ dktL_law_9
def dkwL_law_7 : List UInt8 := [167, 0, 66, 43, 182, 0, 32, 44, 182, 0, 35, 159, 0, 55, 3, 172, 43, 42, 29, 4, 96, 46]
abbrev dktL_law_7 : List UInt8 := dkwL_law_7 ++ dktL_law_8
def dkwL_law_6 : List UInt8 := [167, 0, 90, 43, 182, 0, 23, 44, 182, 0, 27, 159, 0, 79, 3, 172, 43, 182, 0, 28, 44, 182, 0, 31]
abbrev dktL_law_6 : List UInt8 := dkwL_law_6 ++ dktL_law_7
def dkwL_law_5 : List UInt8 := [159, 0, 113, 3, 172, 43, 42, 29, 4, 96, 46, 182, 0, 18, 44, 42, 29, 4, 96, 46, 182, 0, 22]
abbrev dktL_law_5 : List UInt8 := dkwL_law_5 ++ dktL_law_6
def dkwL_law_4 : List UInt8 := [44, 42, 29, 4, 96, 46, 42, 29, 5, 96, 46, 42, 29, 6, 96, 46, 42, 29, 7, 96, 46, 182, 0, 17]
abbrev dktL_law_4 : List UInt8 := dkwL_law_4 ++ dktL_law_5
def dkwL_law_3 : List UInt8 := [43, 42, 29, 4, 96, 46, 42, 29, 5, 96, 46, 42, 29, 6, 96, 46, 42, 29, 7, 96, 46, 182, 0, 13]
abbrev dktL_law_3 : List UInt8 := dkwL_law_3 ++ dktL_law_4
def dkwL_law_2 : List UInt8 := [170, 0, 0, 0, 0, 0, 208, 0, 0, 0, 0, 0, 0, 0, 7, 0, 0, 0, 47, 0, 0, 0, 100, 0, 0, 0, 121, 0, 0, 0, 134, 0, 0, 0, 145, 0, 0, 0, 158, 0, 0, 0, 182, 0, 0, 0, 195]
abbrev dktL_law_2 : List UInt8 := dkwL_law_2 ++ dktL_law_3
def dkwL_law_1 : List UInt8 := [163, 0, 223, 42, 29, 46, 16, 15, 126]
abbrev dktL_law_1 : List UInt8 := dkwL_law_1 ++ dktL_law_2
def dkwL_law_0 : List UInt8 := [187, 0, 7, 89, 183, 0, 9, 76, 187, 0, 10, 89, 183, 0, 12, 77, 3, 62, 29, 42, 190, 16, 6, 100]
abbrev dktL_law_0 : List UInt8 := dkwL_law_0 ++ dktL_law_1
theorem dksL_law_0 : cL_law.data.toList.drop 0 = dktL_law_0 := by decide +kernel
theorem dksL_law_1 : cL_law.data.toList.drop 24 = dktL_law_1 := dk_seg dksL_law_0 24 rfl rfl
theorem dksL_law_2 : cL_law.data.toList.drop 33 = dktL_law_2 := dk_seg dksL_law_1 9 rfl rfl
theorem dksL_law_3 : cL_law.data.toList.drop 80 = dktL_law_3 := dk_seg dksL_law_2 47 rfl rfl
theorem dksL_law_4 : cL_law.data.toList.drop 104 = dktL_law_4 := dk_seg dksL_law_3 24 rfl rfl
theorem dksL_law_5 : cL_law.data.toList.drop 128 = dktL_law_5 := dk_seg dksL_law_4 24 rfl rfl
theorem dksL_law_6 : cL_law.data.toList.drop 151 = dktL_law_6 := dk_seg dksL_law_5 23 rfl rfl
theorem dksL_law_7 : cL_law.data.toList.drop 175 = dktL_law_7 := dk_seg dksL_law_6 24 rfl rfl
theorem dksL_law_8 : cL_law.data.toList.drop 197 = dktL_law_8 := dk_seg dksL_law_7 22 rfl rfl
theorem dksL_law_9 : cL_law.data.toList.drop 220 = dktL_law_9 := dk_seg dksL_law_8 23 rfl rfl
theorem dksL_law_10 : cL_law.data.toList.drop 244 = dktL_law_10 := dk_seg dksL_law_9 24 rfl rfl
theorem dL_law_0 : decode cL_law 0 = .ok (.new 7, 3) := dk_187 0 7 (dk_at dksL_law_0 0 rfl rfl)
theorem dL_law_3 : decode cL_law 3 = .ok (.dup, 1) := dk_89 (dk_at dksL_law_0 3 rfl rfl)
theorem dL_law_4 : decode cL_law 4 = .ok (.invokespecial 9, 3) := dk_183 0 9 (dk_at dksL_law_0 4 rfl rfl)
theorem dL_law_7 : decode cL_law 7 = .ok (.astore_n 1, 1) := dk_76 (dk_at dksL_law_0 7 rfl rfl)
theorem dL_law_8 : decode cL_law 8 = .ok (.new 10, 3) := dk_187 0 10 (dk_at dksL_law_0 8 rfl rfl)
theorem dL_law_11 : decode cL_law 11 = .ok (.dup, 1) := dk_89 (dk_at dksL_law_0 11 rfl rfl)
theorem dL_law_12 : decode cL_law 12 = .ok (.invokespecial 12, 3) := dk_183 0 12 (dk_at dksL_law_0 12 rfl rfl)
theorem dL_law_15 : decode cL_law 15 = .ok (.astore_n 2, 1) := dk_77 (dk_at dksL_law_0 15 rfl rfl)
theorem dL_law_16 : decode cL_law 16 = .ok (.iconst 0, 1) := dk_3 (dk_at dksL_law_0 16 rfl rfl)
theorem dL_law_17 : decode cL_law 17 = .ok (.istore_n 3, 1) := dk_62 (dk_at dksL_law_0 17 rfl rfl)
theorem dL_law_18 : decode cL_law 18 = .ok (.iload_n 3, 1) := dk_29 (dk_at dksL_law_0 18 rfl rfl)
theorem dL_law_19 : decode cL_law 19 = .ok (.aload_n 0, 1) := dk_42 (dk_at dksL_law_0 19 rfl rfl)
theorem dL_law_20 : decode cL_law 20 = .ok (.arraylength, 1) := dk_190 (dk_at dksL_law_0 20 rfl rfl)
theorem dL_law_21 : decode cL_law 21 = .ok (.bipush 6, 2) := dk_16 6 (dk_at dksL_law_0 21 rfl rfl)
theorem dL_law_23 : decode cL_law 23 = .ok (.isub, 1) := dk_100 (dk_at dksL_law_0 23 rfl rfl)
theorem dL_law_24 : decode cL_law 24 = .ok (.if_icmp .gt 223, 3) := dk_163 0 223 (dk_at dksL_law_1 0 rfl rfl)
theorem dL_law_27 : decode cL_law 27 = .ok (.aload_n 0, 1) := dk_42 (dk_at dksL_law_1 3 rfl rfl)
theorem dL_law_28 : decode cL_law 28 = .ok (.iload_n 3, 1) := dk_29 (dk_at dksL_law_1 4 rfl rfl)
theorem dL_law_29 : decode cL_law 29 = .ok (.iaload, 1) := dk_46 (dk_at dksL_law_1 5 rfl rfl)
theorem dL_law_30 : decode cL_law 30 = .ok (.bipush 15, 2) := dk_16 15 (dk_at dksL_law_1 6 rfl rfl)
theorem dL_law_32 : decode cL_law 32 = .ok (.iand, 1) := dk_126 (dk_at dksL_law_1 8 rfl rfl)
theorem dL_law_33 : decode cL_law 33 = .ok (.tableswitch 208 0 7 #[47, 100, 121, 134, 145, 158, 182, 195], 47) := by decide +kernel
theorem dL_law_80 : decode cL_law 80 = .ok (.aload_n 1, 1) := dk_43 (dk_at dksL_law_3 0 rfl rfl)
theorem dL_law_81 : decode cL_law 81 = .ok (.aload_n 0, 1) := dk_42 (dk_at dksL_law_3 1 rfl rfl)
theorem dL_law_82 : decode cL_law 82 = .ok (.iload_n 3, 1) := dk_29 (dk_at dksL_law_3 2 rfl rfl)
theorem dL_law_83 : decode cL_law 83 = .ok (.iconst 1, 1) := dk_4 (dk_at dksL_law_3 3 rfl rfl)
theorem dL_law_84 : decode cL_law 84 = .ok (.iadd, 1) := dk_96 (dk_at dksL_law_3 4 rfl rfl)
theorem dL_law_85 : decode cL_law 85 = .ok (.iaload, 1) := dk_46 (dk_at dksL_law_3 5 rfl rfl)
theorem dL_law_86 : decode cL_law 86 = .ok (.aload_n 0, 1) := dk_42 (dk_at dksL_law_3 6 rfl rfl)
theorem dL_law_87 : decode cL_law 87 = .ok (.iload_n 3, 1) := dk_29 (dk_at dksL_law_3 7 rfl rfl)
theorem dL_law_88 : decode cL_law 88 = .ok (.iconst 2, 1) := dk_5 (dk_at dksL_law_3 8 rfl rfl)
theorem dL_law_89 : decode cL_law 89 = .ok (.iadd, 1) := dk_96 (dk_at dksL_law_3 9 rfl rfl)
theorem dL_law_90 : decode cL_law 90 = .ok (.iaload, 1) := dk_46 (dk_at dksL_law_3 10 rfl rfl)
theorem dL_law_91 : decode cL_law 91 = .ok (.aload_n 0, 1) := dk_42 (dk_at dksL_law_3 11 rfl rfl)
theorem dL_law_92 : decode cL_law 92 = .ok (.iload_n 3, 1) := dk_29 (dk_at dksL_law_3 12 rfl rfl)
theorem dL_law_93 : decode cL_law 93 = .ok (.iconst 3, 1) := dk_6 (dk_at dksL_law_3 13 rfl rfl)
theorem dL_law_94 : decode cL_law 94 = .ok (.iadd, 1) := dk_96 (dk_at dksL_law_3 14 rfl rfl)
theorem dL_law_95 : decode cL_law 95 = .ok (.iaload, 1) := dk_46 (dk_at dksL_law_3 15 rfl rfl)
theorem dL_law_96 : decode cL_law 96 = .ok (.aload_n 0, 1) := dk_42 (dk_at dksL_law_3 16 rfl rfl)
theorem dL_law_97 : decode cL_law 97 = .ok (.iload_n 3, 1) := dk_29 (dk_at dksL_law_3 17 rfl rfl)
theorem dL_law_98 : decode cL_law 98 = .ok (.iconst 4, 1) := dk_7 (dk_at dksL_law_3 18 rfl rfl)
theorem dL_law_99 : decode cL_law 99 = .ok (.iadd, 1) := dk_96 (dk_at dksL_law_3 19 rfl rfl)
theorem dL_law_100 : decode cL_law 100 = .ok (.iaload, 1) := dk_46 (dk_at dksL_law_3 20 rfl rfl)
theorem dL_law_101 : decode cL_law 101 = .ok (.invokevirtual 13, 3) := dk_182 0 13 (dk_at dksL_law_3 21 rfl rfl)
theorem dL_law_104 : decode cL_law 104 = .ok (.aload_n 2, 1) := dk_44 (dk_at dksL_law_4 0 rfl rfl)
theorem dL_law_105 : decode cL_law 105 = .ok (.aload_n 0, 1) := dk_42 (dk_at dksL_law_4 1 rfl rfl)
theorem dL_law_106 : decode cL_law 106 = .ok (.iload_n 3, 1) := dk_29 (dk_at dksL_law_4 2 rfl rfl)
theorem dL_law_107 : decode cL_law 107 = .ok (.iconst 1, 1) := dk_4 (dk_at dksL_law_4 3 rfl rfl)
theorem dL_law_108 : decode cL_law 108 = .ok (.iadd, 1) := dk_96 (dk_at dksL_law_4 4 rfl rfl)
theorem dL_law_109 : decode cL_law 109 = .ok (.iaload, 1) := dk_46 (dk_at dksL_law_4 5 rfl rfl)
theorem dL_law_110 : decode cL_law 110 = .ok (.aload_n 0, 1) := dk_42 (dk_at dksL_law_4 6 rfl rfl)
theorem dL_law_111 : decode cL_law 111 = .ok (.iload_n 3, 1) := dk_29 (dk_at dksL_law_4 7 rfl rfl)
theorem dL_law_112 : decode cL_law 112 = .ok (.iconst 2, 1) := dk_5 (dk_at dksL_law_4 8 rfl rfl)
theorem dL_law_113 : decode cL_law 113 = .ok (.iadd, 1) := dk_96 (dk_at dksL_law_4 9 rfl rfl)
theorem dL_law_114 : decode cL_law 114 = .ok (.iaload, 1) := dk_46 (dk_at dksL_law_4 10 rfl rfl)
theorem dL_law_115 : decode cL_law 115 = .ok (.aload_n 0, 1) := dk_42 (dk_at dksL_law_4 11 rfl rfl)
theorem dL_law_116 : decode cL_law 116 = .ok (.iload_n 3, 1) := dk_29 (dk_at dksL_law_4 12 rfl rfl)
theorem dL_law_117 : decode cL_law 117 = .ok (.iconst 3, 1) := dk_6 (dk_at dksL_law_4 13 rfl rfl)
theorem dL_law_118 : decode cL_law 118 = .ok (.iadd, 1) := dk_96 (dk_at dksL_law_4 14 rfl rfl)
theorem dL_law_119 : decode cL_law 119 = .ok (.iaload, 1) := dk_46 (dk_at dksL_law_4 15 rfl rfl)
theorem dL_law_120 : decode cL_law 120 = .ok (.aload_n 0, 1) := dk_42 (dk_at dksL_law_4 16 rfl rfl)
theorem dL_law_121 : decode cL_law 121 = .ok (.iload_n 3, 1) := dk_29 (dk_at dksL_law_4 17 rfl rfl)
theorem dL_law_122 : decode cL_law 122 = .ok (.iconst 4, 1) := dk_7 (dk_at dksL_law_4 18 rfl rfl)
theorem dL_law_123 : decode cL_law 123 = .ok (.iadd, 1) := dk_96 (dk_at dksL_law_4 19 rfl rfl)
theorem dL_law_124 : decode cL_law 124 = .ok (.iaload, 1) := dk_46 (dk_at dksL_law_4 20 rfl rfl)
theorem dL_law_125 : decode cL_law 125 = .ok (.invokevirtual 17, 3) := dk_182 0 17 (dk_at dksL_law_4 21 rfl rfl)
theorem dL_law_128 : decode cL_law 128 = .ok (.if_icmp .eq 113, 3) := dk_159 0 113 (dk_at dksL_law_5 0 rfl rfl)
theorem dL_law_131 : decode cL_law 131 = .ok (.iconst 0, 1) := dk_3 (dk_at dksL_law_5 3 rfl rfl)
theorem dL_law_132 : decode cL_law 132 = .ok (.ireturn, 1) := dk_172 (dk_at dksL_law_5 4 rfl rfl)
theorem dL_law_133 : decode cL_law 133 = .ok (.aload_n 1, 1) := dk_43 (dk_at dksL_law_5 5 rfl rfl)
theorem dL_law_134 : decode cL_law 134 = .ok (.aload_n 0, 1) := dk_42 (dk_at dksL_law_5 6 rfl rfl)
theorem dL_law_135 : decode cL_law 135 = .ok (.iload_n 3, 1) := dk_29 (dk_at dksL_law_5 7 rfl rfl)
theorem dL_law_136 : decode cL_law 136 = .ok (.iconst 1, 1) := dk_4 (dk_at dksL_law_5 8 rfl rfl)
theorem dL_law_137 : decode cL_law 137 = .ok (.iadd, 1) := dk_96 (dk_at dksL_law_5 9 rfl rfl)
theorem dL_law_138 : decode cL_law 138 = .ok (.iaload, 1) := dk_46 (dk_at dksL_law_5 10 rfl rfl)
theorem dL_law_139 : decode cL_law 139 = .ok (.invokevirtual 18, 3) := dk_182 0 18 (dk_at dksL_law_5 11 rfl rfl)
theorem dL_law_142 : decode cL_law 142 = .ok (.aload_n 2, 1) := dk_44 (dk_at dksL_law_5 14 rfl rfl)
theorem dL_law_143 : decode cL_law 143 = .ok (.aload_n 0, 1) := dk_42 (dk_at dksL_law_5 15 rfl rfl)
theorem dL_law_144 : decode cL_law 144 = .ok (.iload_n 3, 1) := dk_29 (dk_at dksL_law_5 16 rfl rfl)
theorem dL_law_145 : decode cL_law 145 = .ok (.iconst 1, 1) := dk_4 (dk_at dksL_law_5 17 rfl rfl)
theorem dL_law_146 : decode cL_law 146 = .ok (.iadd, 1) := dk_96 (dk_at dksL_law_5 18 rfl rfl)
theorem dL_law_147 : decode cL_law 147 = .ok (.iaload, 1) := dk_46 (dk_at dksL_law_5 19 rfl rfl)
theorem dL_law_148 : decode cL_law 148 = .ok (.invokevirtual 22, 3) := dk_182 0 22 (dk_at dksL_law_5 20 rfl rfl)
theorem dL_law_151 : decode cL_law 151 = .ok (.goto 90, 3) := dk_167 0 90 (dk_at dksL_law_6 0 rfl rfl)
theorem dL_law_154 : decode cL_law 154 = .ok (.aload_n 1, 1) := dk_43 (dk_at dksL_law_6 3 rfl rfl)
theorem dL_law_155 : decode cL_law 155 = .ok (.invokevirtual 23, 3) := dk_182 0 23 (dk_at dksL_law_6 4 rfl rfl)
theorem dL_law_158 : decode cL_law 158 = .ok (.aload_n 2, 1) := dk_44 (dk_at dksL_law_6 7 rfl rfl)
theorem dL_law_159 : decode cL_law 159 = .ok (.invokevirtual 27, 3) := dk_182 0 27 (dk_at dksL_law_6 8 rfl rfl)
theorem dL_law_162 : decode cL_law 162 = .ok (.if_icmp .eq 79, 3) := dk_159 0 79 (dk_at dksL_law_6 11 rfl rfl)
theorem dL_law_165 : decode cL_law 165 = .ok (.iconst 0, 1) := dk_3 (dk_at dksL_law_6 14 rfl rfl)
theorem dL_law_166 : decode cL_law 166 = .ok (.ireturn, 1) := dk_172 (dk_at dksL_law_6 15 rfl rfl)
theorem dL_law_167 : decode cL_law 167 = .ok (.aload_n 1, 1) := dk_43 (dk_at dksL_law_6 16 rfl rfl)
theorem dL_law_168 : decode cL_law 168 = .ok (.invokevirtual 28, 3) := dk_182 0 28 (dk_at dksL_law_6 17 rfl rfl)
theorem dL_law_171 : decode cL_law 171 = .ok (.aload_n 2, 1) := dk_44 (dk_at dksL_law_6 20 rfl rfl)
theorem dL_law_172 : decode cL_law 172 = .ok (.invokevirtual 31, 3) := dk_182 0 31 (dk_at dksL_law_6 21 rfl rfl)
theorem dL_law_175 : decode cL_law 175 = .ok (.goto 66, 3) := dk_167 0 66 (dk_at dksL_law_7 0 rfl rfl)
theorem dL_law_178 : decode cL_law 178 = .ok (.aload_n 1, 1) := dk_43 (dk_at dksL_law_7 3 rfl rfl)
theorem dL_law_179 : decode cL_law 179 = .ok (.invokevirtual 32, 3) := dk_182 0 32 (dk_at dksL_law_7 4 rfl rfl)
theorem dL_law_182 : decode cL_law 182 = .ok (.aload_n 2, 1) := dk_44 (dk_at dksL_law_7 7 rfl rfl)
theorem dL_law_183 : decode cL_law 183 = .ok (.invokevirtual 35, 3) := dk_182 0 35 (dk_at dksL_law_7 8 rfl rfl)
theorem dL_law_186 : decode cL_law 186 = .ok (.if_icmp .eq 55, 3) := dk_159 0 55 (dk_at dksL_law_7 11 rfl rfl)
theorem dL_law_189 : decode cL_law 189 = .ok (.iconst 0, 1) := dk_3 (dk_at dksL_law_7 14 rfl rfl)
theorem dL_law_190 : decode cL_law 190 = .ok (.ireturn, 1) := dk_172 (dk_at dksL_law_7 15 rfl rfl)
theorem dL_law_191 : decode cL_law 191 = .ok (.aload_n 1, 1) := dk_43 (dk_at dksL_law_7 16 rfl rfl)
theorem dL_law_192 : decode cL_law 192 = .ok (.aload_n 0, 1) := dk_42 (dk_at dksL_law_7 17 rfl rfl)
theorem dL_law_193 : decode cL_law 193 = .ok (.iload_n 3, 1) := dk_29 (dk_at dksL_law_7 18 rfl rfl)
theorem dL_law_194 : decode cL_law 194 = .ok (.iconst 1, 1) := dk_4 (dk_at dksL_law_7 19 rfl rfl)
theorem dL_law_195 : decode cL_law 195 = .ok (.iadd, 1) := dk_96 (dk_at dksL_law_7 20 rfl rfl)
theorem dL_law_196 : decode cL_law 196 = .ok (.iaload, 1) := dk_46 (dk_at dksL_law_7 21 rfl rfl)
theorem dL_law_197 : decode cL_law 197 = .ok (.invokevirtual 36, 3) := dk_182 0 36 (dk_at dksL_law_8 0 rfl rfl)
theorem dL_law_200 : decode cL_law 200 = .ok (.aload_n 2, 1) := dk_44 (dk_at dksL_law_8 3 rfl rfl)
theorem dL_law_201 : decode cL_law 201 = .ok (.aload_n 0, 1) := dk_42 (dk_at dksL_law_8 4 rfl rfl)
theorem dL_law_202 : decode cL_law 202 = .ok (.iload_n 3, 1) := dk_29 (dk_at dksL_law_8 5 rfl rfl)
theorem dL_law_203 : decode cL_law 203 = .ok (.iconst 1, 1) := dk_4 (dk_at dksL_law_8 6 rfl rfl)
theorem dL_law_204 : decode cL_law 204 = .ok (.iadd, 1) := dk_96 (dk_at dksL_law_8 7 rfl rfl)
theorem dL_law_205 : decode cL_law 205 = .ok (.iaload, 1) := dk_46 (dk_at dksL_law_8 8 rfl rfl)
theorem dL_law_206 : decode cL_law 206 = .ok (.invokevirtual 40, 3) := dk_182 0 40 (dk_at dksL_law_8 9 rfl rfl)
theorem dL_law_209 : decode cL_law 209 = .ok (.lcmp, 1) := dk_148 (dk_at dksL_law_8 12 rfl rfl)
theorem dL_law_210 : decode cL_law 210 = .ok (.ifCond .eq 31, 3) := dk_153 0 31 (dk_at dksL_law_8 13 rfl rfl)
theorem dL_law_213 : decode cL_law 213 = .ok (.iconst 0, 1) := dk_3 (dk_at dksL_law_8 16 rfl rfl)
theorem dL_law_214 : decode cL_law 214 = .ok (.ireturn, 1) := dk_172 (dk_at dksL_law_8 17 rfl rfl)
theorem dL_law_215 : decode cL_law 215 = .ok (.aload_n 1, 1) := dk_43 (dk_at dksL_law_8 18 rfl rfl)
theorem dL_law_216 : decode cL_law 216 = .ok (.invokevirtual 41, 3) := dk_182 0 41 (dk_at dksL_law_8 19 rfl rfl)
theorem dL_law_219 : decode cL_law 219 = .ok (.aload_n 2, 1) := dk_44 (dk_at dksL_law_8 22 rfl rfl)
theorem dL_law_220 : decode cL_law 220 = .ok (.invokevirtual 44, 3) := dk_182 0 44 (dk_at dksL_law_9 0 rfl rfl)
theorem dL_law_223 : decode cL_law 223 = .ok (.if_icmp .eq 18, 3) := dk_159 0 18 (dk_at dksL_law_9 3 rfl rfl)
theorem dL_law_226 : decode cL_law 226 = .ok (.iconst 0, 1) := dk_3 (dk_at dksL_law_9 6 rfl rfl)
theorem dL_law_227 : decode cL_law 227 = .ok (.ireturn, 1) := dk_172 (dk_at dksL_law_9 7 rfl rfl)
theorem dL_law_228 : decode cL_law 228 = .ok (.aload_n 1, 1) := dk_43 (dk_at dksL_law_9 8 rfl rfl)
theorem dL_law_229 : decode cL_law 229 = .ok (.invokevirtual 45, 3) := dk_182 0 45 (dk_at dksL_law_9 9 rfl rfl)
theorem dL_law_232 : decode cL_law 232 = .ok (.aload_n 2, 1) := dk_44 (dk_at dksL_law_9 12 rfl rfl)
theorem dL_law_233 : decode cL_law 233 = .ok (.invokevirtual 48, 3) := dk_182 0 48 (dk_at dksL_law_9 13 rfl rfl)
theorem dL_law_236 : decode cL_law 236 = .ok (.if_icmp .eq 5, 3) := dk_159 0 5 (dk_at dksL_law_9 16 rfl rfl)
theorem dL_law_239 : decode cL_law 239 = .ok (.iconst 0, 1) := dk_3 (dk_at dksL_law_9 19 rfl rfl)
theorem dL_law_240 : decode cL_law 240 = .ok (.ireturn, 1) := dk_172 (dk_at dksL_law_9 20 rfl rfl)
theorem dL_law_241 : decode cL_law 241 = .ok (.iinc 3 6, 3) := dk_132 3 6 (dk_at dksL_law_9 21 rfl rfl)
theorem dL_law_244 : decode cL_law 244 = .ok (.goto (-226), 3) := dk_167 255 30 (dk_at dksL_law_10 0 rfl rfl)
theorem dL_law_247 : decode cL_law 247 = .ok (.iconst 1, 1) := dk_4 (dk_at dksL_law_10 3 rfl rfl)
theorem dL_law_248 : decode cL_law 248 = .ok (.ireturn, 1) := dk_172 (dk_at dksL_law_10 4 rfl rfl)
end
section
/-! ===== Int32 by its bits: bt x i ===== -/
def bt (x : Int32) (i : Nat) : Bool := x.toBitVec.getLsbD i
theorem b_ext {x y : Int32} (h : ∀ i, i < 32 → bt x i = bt y i) : x = y := Int32.toBitVec_inj.mp (BitVec.eq_of_getLsbD_eq (fun i hi => h i hi))
theorem b_or (x y : Int32) (i : Nat) : bt (x ||| y) i = (bt x i || bt y i) := by unfold bt; rw [Int32.toBitVec_or, BitVec.getLsbD_or]
theorem b_and (x y : Int32) (i : Nat) : bt (x &&& y) i = (bt x i && bt y i) := by unfold bt; rw [Int32.toBitVec_and, BitVec.getLsbD_and]
theorem b_xor (x y : Int32) (i : Nat) : bt (x ^^^ y) i = (bt x i ^^ bt y i) := by unfold bt; rw [Int32.toBitVec_xor, BitVec.getLsbD_xor]
theorem b_big {x : Int32} {i : Nat} (h : 32 ≤ i) : bt x i = false := BitVec.getLsbD_of_ge _ _ h
theorem b_255 (i : Nat) : bt 255 i = decide (i < 8) := by
  rcases Nat.lt_or_ge i 32 with h | h
  · exact (by decide +kernel : ∀ i, i < 32 → bt 255 i = decide (i < 8)) i h
  · rw [b_big h, decide_eq_false (by omega)]
theorem b_65535 (i : Nat) : bt 65535 i = decide (i < 16) := by
  rcases Nat.lt_or_ge i 32 with h | h
  · exact (by decide +kernel : ∀ i, i < 32 → bt 65535 i = decide (i < 16)) i h
  · rw [b_big h, decide_eq_false (by omega)]
theorem b_m1 : ∀ i, i < 32 → bt (-1) i = true := by decide +kernel
theorem b_0 (i : Nat) : bt 0 i = false := BitVec.getLsbD_zero
theorem s_l : ∀ n, n < 32 → ((nI n &&& 31).toBitVec.smod 32).toNat = n := by decide +kernel
theorem s_u : ∀ n, n < 32 → (((nI n).toUInt32 &&& Int32.toUInt32 31).toBitVec % 32).toNat = n := by decide +kernel
theorem b_shl (n : Nat) (hn : n < 32) (x : Int32) {i : Nat} (hi : i < 32) : bt (x <<< (nI n &&& 31)) i = (decide (n ≤ i) && bt x (i - n)) := by
  unfold bt
  rw [Int32.toBitVec_shiftLeft]
  show (x.toBitVec <<< ((nI n &&& 31).toBitVec.smod 32).toNat).getLsbD i = _
  rw [s_l n hn, BitVec.getLsbD_shiftLeft]
  rcases Nat.lt_or_ge i n with h | h
  · simp [h, Nat.not_le.mpr h]
  · simp [hi, h, Nat.not_lt.mpr h]
theorem b_ushr (n : Nat) (hn : n < 32) (x : Int32) (i : Nat) : bt ((x.toUInt32 >>> ((nI n).toUInt32 &&& Int32.toUInt32 31)).toInt32) i = bt x (n + i) := by
  show (x.toUInt32 >>> ((nI n).toUInt32 &&& Int32.toUInt32 31)).toBitVec.getLsbD i = x.toUInt32.toBitVec.getLsbD (n + i)
  rw [UInt32.toBitVec_shiftRight]
  show (x.toUInt32.toBitVec >>> (((nI n).toUInt32 &&& Int32.toUInt32 31).toBitVec % 32).toNat).getLsbD i = _
  rw [s_u n hn, BitVec.getLsbD_ushiftRight]
theorem b_sshr (n : Nat) (hn : n < 32) (x : Int32) {i : Nat} (hi : i < 32) : bt (x >>> (nI n &&& 31)) i = if n + i < 32 then bt x (n + i) else bt x 31 := by
  unfold bt
  rw [Int32.toBitVec_shiftRight]
  show (x.toBitVec.sshiftRight ((nI n &&& 31).toBitVec.smod 32).toNat).getLsbD i = _
  rw [s_l n hn, BitVec.getLsbD_sshiftRight, BitVec.msb_eq_getLsbD_last]
  simp [hi]
theorem b_shl8 (x : Int32) {i : Nat} (hi : i < 32) : bt (x <<< ((8 : Int32) &&& 31)) i = (decide (8 ≤ i) && bt x (i - 8)) := b_shl 8 (by omega) x hi
theorem b_shl16 (x : Int32) {i : Nat} (hi : i < 32) : bt (x <<< ((16 : Int32) &&& 31)) i = (decide (16 ≤ i) && bt x (i - 16)) := b_shl 16 (by omega) x hi
theorem b_shl24 (x : Int32) {i : Nat} (hi : i < 32) : bt (x <<< ((24 : Int32) &&& 31)) i = (decide (24 ≤ i) && bt x (i - 24)) := b_shl 24 (by omega) x hi
theorem b_sshr8 (x : Int32) {i : Nat} (hi : i < 32) : bt (x >>> ((8 : Int32) &&& 31)) i = if 8 + i < 32 then bt x (8 + i) else bt x 31 := b_sshr 8 (by omega) x hi
/-! ===== pure rows of this claim ===== -/
/-- bit p of the row of bytes g, the first one the highest of byte 0 -/
def br_at (g : Nat → Int32) (p : Nat) : Bool := bt (g (p / 8)) (7 - p % 8)
/-- v holds the k bits of g from bit p on, the last one lowest -/
def br_Rd (g : Nat → Int32) (p k : Nat) (v : Int32) : Prop := ∀ i, i < 32 → bt v i = (decide (i < k) && br_at g (p + (k - 1 - i)))
theorem br_Rd_0 (g : Nat → Int32) (p : Nat) : br_Rd g p 0 0 := by
  intro i _
  rw [b_0]
  simp
theorem br_Rd_eq {g h : Nat → Int32} {p k n : Nat} {v w : Int32} (hv : br_Rd g p k v) (hw : br_Rd h p k w) (hg : ∀ j, j < n → g j = h j) (hn : p + k ≤ 8 * n) : v = w := by
  refine b_ext fun i hi => ?_
  rw [hv i hi, hw i hi]
  by_cases h1 : i < k
  · have h2 : (p + (k - 1 - i)) / 8 < n := by omega
    unfold br_at
    rw [hg _ h2]
  · simp [h1]
theorem br_b1 (i : Nat) : bt 1 i = decide (i = 0) := by
  rcases Nat.lt_or_ge i 32 with h | h
  · exact (by decide +kernel : ∀ i, i < 32 → bt 1 i = decide (i = 0)) i h
  · rw [b_big h, decide_eq_false (by omega)]
/-- one bit more: the reference's step -/
theorem br_Rd_step {g : Nat → Int32} {p k : Nat} {v : Int32} (hv : br_Rd g p k v) (hk : k < 32) : br_Rd g p (k + 1) ((v <<< (nI 1 &&& 31)) ||| ((g ((p + k) / 8) >>> (nI (7 - (p + k) % 8) &&& 31)) &&& nI 1)) := by
  intro i hi
  rw [b_or, b_and, b_shl 1 (by omega) v hi, b_sshr (7 - (p + k) % 8) (by omega) _ hi, show nI 1 = 1 from rfl, br_b1]
  by_cases h0 : i = 0
  · subst h0
    have e : p + (k + 1 - 1 - 0) = p + k := by omega
    rw [e, if_pos (by omega)]
    simp [br_at]
  · have h1 : decide (1 ≤ i) = true := decide_eq_true (by omega)
    have h2 : decide (i = 0) = false := decide_eq_false h0
    have h3 : decide (i - 1 < k) = decide (i < k + 1) := by
      by_cases q : i < k + 1
      · rw [decide_eq_true q, decide_eq_true (by omega)]
      · rw [decide_eq_false q, decide_eq_false (by omega)]
    have h4 : k - 1 - (i - 1) = k + 1 - 1 - i := by omega
    rw [hv (i - 1) (by omega), h1, h2, h3, h4]
    simp
/-- the mask of the bits b .. b + 7 - a -/
theorem br_mask {a b : Nat} (ha : a ≤ 8) (hb : b ≤ 8) {i : Nat} (hi : i < 32) : bt ((nI 255 >>> (nI a &&& 31)) <<< (nI b &&& 31)) i = decide (b ≤ i ∧ i + a < b + 8) := by
  rw [b_shl b (by omega) _ hi]
  by_cases h : b ≤ i
  · rw [b_sshr a (by omega) _ (by omega), show nI 255 = 255 from rfl, b_255, b_255]
    rw [decide_eq_true h, Bool.true_and]
    split
    · by_cases q : a + (i - b) < 8
      · rw [decide_eq_true q, decide_eq_true ⟨h, by omega⟩]
      · rw [decide_eq_false q, decide_eq_false (by omega)]
    · rw [decide_eq_false (by omega), decide_eq_false (by omega)]
  · rw [decide_eq_false h, Bool.false_and, decide_eq_false (fun z => h z.1)]
/-- t bits more out of one byte, behind j bits -/
theorem br_Rd_chunk {g : Nat → Int32} {p j t q sh : Nat} {r M : Int32} (hr : br_Rd g p j r) (ho : (p + j) % 8 + t + sh = 8) (ht : j + t ≤ 32) (hq : (p + j) / 8 = q) (hM : ∀ i, i < 32 → bt M i = decide (sh ≤ i ∧ i < sh + t)) : br_Rd g p (j + t) ((r <<< (nI t &&& 31)) ||| ((g q &&& M) >>> (nI sh &&& 31))) := by
  subst hq
  intro i hi
  rw [b_or, b_shl t (by omega) r hi, b_sshr sh (by omega) _ hi, b_and, b_and]
  by_cases h : i < t
  · rw [decide_eq_false (by omega), Bool.false_and, Bool.false_or, if_pos (by omega), hM _ (by omega), decide_eq_true (by omega), Bool.and_true, decide_eq_true (by omega), Bool.true_and]
    have e1 : (p + (j + t - 1 - i)) / 8 = (p + j) / 8 := by omega
    have e2 : 7 - (p + (j + t - 1 - i)) % 8 = sh + i := by omega
    unfold br_at
    rw [e1, e2]
  · have h1 : decide (t ≤ i) = true := decide_eq_true (by omega)
    have h2 : ∀ y, (if sh + i < 32 then bt (g ((p + j) / 8)) (sh + i) && bt M (sh + i) else bt (g ((p + j) / 8)) 31 && bt M 31) = y → y = false := by
      intro y hy
      rw [← hy]
      split
      · rw [hM _ (by omega), decide_eq_false (by omega), Bool.and_false]
      · rw [hM 31 (by omega), decide_eq_false (by omega), Bool.and_false]
    rw [h2 _ rfl, Bool.or_false, h1, Bool.true_and, hr (i - t) (by omega)]
    have h3 : decide (i - t < j) = decide (i < j + t) := by
      by_cases z : i < j + t
      · rw [decide_eq_true z, decide_eq_true (by omega)]
      · rw [decide_eq_false z, decide_eq_false (by omega)]
    have h4 : j - 1 - (i - t) = j + t - 1 - i := by omega
    rw [h3, h4]
theorem br_0shl (y : Int32) : (0 : Int32) <<< y = 0 := by
  apply Int32.toBitVec_inj.mp
  rw [Int32.toBitVec_shiftLeft]
  simp
theorem br_0or (y : Int32) : (0 : Int32) ||| y = y := by
  refine b_ext fun i _ => ?_
  rw [b_or, b_0, Bool.false_or]
/-- the first piece: t bits out of the byte at which the reading stands -/
theorem br_Rd_first {g : Nat → Int32} {b o t : Nat} (h1 : o + t ≤ 8) (ho : o < 8) : br_Rd g (8 * b + o) t ((g b &&& ((nI 255 >>> (nI (8 - t) &&& 31)) <<< (nI (8 - o - t) &&& 31))) >>> (nI (8 - o - t) &&& 31)) := by
  have h := br_Rd_chunk (g := g) (p := 8 * b + o) (j := 0) (t := t) (q := b) (sh := 8 - o - t) (M := (nI 255 >>> (nI (8 - t) &&& 31)) <<< (nI (8 - o - t) &&& 31)) (br_Rd_0 g _) (by omega) (by omega) (by omega) (fun i hi => by
    rw [br_mask (by omega) (by omega) hi]
    by_cases q : 8 - o - t ≤ i ∧ i < 8 - o - t + t
    · rw [decide_eq_true q, decide_eq_true (by omega)]
    · rw [decide_eq_false q, decide_eq_false (by omega)])
  rw [br_0shl, br_0or, Nat.zero_add] at h
  exact h
/-- a whole byte -/
theorem br_Rd_byte {g : Nat → Int32} {p j b : Nat} {r : Int32} (hr : br_Rd g p j r) (h : p + j = 8 * b) (hj : j + 8 ≤ 32) : br_Rd g p (j + 8) ((r <<< (nI 8 &&& 31)) ||| (g b &&& nI 255)) := by
  have h := br_Rd_chunk (g := g) (p := p) (j := j) (t := 8) (q := b) (sh := 0) (M := nI 255) hr (by omega) hj (by omega) (fun i hi => by
    rw [show nI 255 = 255 from rfl, b_255]
    by_cases q : i < 8
    · rw [decide_eq_true q, decide_eq_true (by omega)]
    · rw [decide_eq_false q, decide_eq_false (by omega)])
  rw [show nI 0 = 0 from rfl, sb_shr0] at h
  exact h
/-- the last piece: t < 8 bits of a byte of which nothing is read -/
theorem br_Rd_last {g : Nat → Int32} {p j b t : Nat} {r : Int32} (hr : br_Rd g p j r) (h : p + j = 8 * b) (ht : t ≤ 8) (hj : j + t ≤ 32) : br_Rd g p (j + t) ((r <<< (nI t &&& 31)) ||| ((g b &&& ((nI 255 >>> (nI (8 - t) &&& 31)) <<< (nI (8 - t) &&& 31))) >>> (nI (8 - t) &&& 31))) := by
  refine br_Rd_chunk hr (by omega) hj (by omega) (fun i hi => ?_)
  rw [br_mask (by omega) (by omega) hi]
  by_cases q : 8 - t ≤ i ∧ i < 8 - t + t
  · rw [decide_eq_true q, decide_eq_true (by omega)]
  · rw [decide_eq_false q, decide_eq_false (by omega)]
/-! ===== bytes of a word ===== -/
/-- byte j of the word w, the highest first -/
def br_byt (w : Int32) (j : Nat) : Int32 := (w >>> (nI (24 - 8 * j) &&& 31)).toInt8.toInt32
theorem br_low {x y : Int32} (h : ∀ i, i < 8 → bt x i = bt y i) : x.toInt8.toInt32 = y.toInt8.toInt32 := by
  have e : x.toInt8 = y.toInt8 := by
    apply Int8.toBitVec_inj.mp
    rw [Int32.toBitVec_toInt8, Int32.toBitVec_toInt8]
    apply BitVec.eq_of_getLsbD_eq
    intro i hi
    have h1 := h i hi
    unfold bt at h1
    rw [BitVec.getLsbD_signExtend, BitVec.getLsbD_signExtend]
    rw [if_pos (show i < 32 by omega), if_pos (show i < 32 by omega), h1]
  rw [e]
theorem br_bytU (w : Int32) {j : Nat} : ((w.toUInt32 >>> ((nI (24 - 8 * j)).toUInt32 &&& Int32.toUInt32 31)).toInt32).toInt8.toInt32 = br_byt w j := by
  unfold br_byt
  refine br_low fun i hi => ?_
  rw [b_ushr (24 - 8 * j) (by omega), b_sshr (24 - 8 * j) (by omega) w (by omega), if_pos (by omega)]
theorem br_byt3 (w : Int32) : w.toInt8.toInt32 = br_byt w 3 := by
  unfold br_byt
  rw [show nI (24 - 8 * 3) = 0 from rfl, sb_shr0]
/-- the row behind word(at, w) -/
def br_word (f : Nat → Int32) (q : Nat) (w : Int32) : Nat → Int32 := upd (upd (upd (upd f q (br_byt w 0)) (q + 1) (br_byt w 1)) (q + 2) (br_byt w 2)) (q + 3) (br_byt w 3)
def br_sel (a b c d : Int32) (k : Nat) : Int32 := if k < 4 then a else if k < 8 then b else if k < 12 then c else d
/-- the row behind k bytes of put(a, b, c, d) at n -/
def br_put (f : Nat → Int32) (n : Nat) (a b c d : Int32) : Nat → Nat → Int32
  | 0 => f
  | k + 1 => upd (br_put f n a b c d k) (n + k) (br_byt (br_sel a b c d k) (k % 4))
theorem br_put16 (f : Nat → Int32) (n : Nat) (a b c d : Int32) : br_put f n a b c d 16 = br_word (br_word (br_word (br_word f n a) (n + 4) b) (n + 8) c) (n + 12) d := rfl
/-- the row g0 with the first i places copied out of f -/
def br_cp (g0 f : Nat → Int32) : Nat → Nat → Int32
  | 0 => g0
  | i + 1 => upd (br_cp g0 f i) i ((f i).toInt8.toInt32)
theorem br_cp_in (g0 f : Nat → Int32) {i j : Nat} (h : j < i) : br_cp g0 f i j = (f j).toInt8.toInt32 := by
  induction i with
  | zero => omega
  | succ i ih =>
    show upd (br_cp g0 f i) i ((f i).toInt8.toInt32) j = _
    by_cases q : j = i
    · subst q
      rw [pk_us]
    · rw [pk_un q]
      exact ih (by omega)
theorem br_cp_eq {g0 h0 f : Nat → Int32} {n : Nat} : ∀ j, j < n → br_cp g0 f n j = br_cp h0 f n j := fun j h => by rw [br_cp_in _ _ h, br_cp_in _ _ h]
/-- trim's new size -/
def br_trim (x : Int32) (n : Nat) : Nat := x.toBitVec.toNat % 2 ^ 31 % (n + 1)
theorem br_trim_le (x : Int32) (n : Nat) : br_trim x n ≤ n := Nat.le_of_lt_succ (Nat.mod_lt _ (Nat.succ_pos n))
theorem br_rem (x : Int32) {n : Nat} (hn : n ≤ 4096) : nI (x.toBitVec.toNat % 2 ^ 31) - nI (x.toBitVec.toNat % 2 ^ 31) / nI (n + 1) * nI (n + 1) = nI (br_trim x n) := by
  have h := Nat.mod_lt x.toBitVec.toNat (show 0 < 2 ^ 31 by decide)
  exact pk_rem h (by omega) (by omega)
theorem br_and31 (x : Int32) : x &&& 2147483647 = nI (x.toBitVec.toNat % 2 ^ 31) := pk_and x 31 (by decide +kernel)
/-- how many bits read asks for -/
def br_k (x : Int32) : Nat := 1 + x.toBitVec.toNat % 32
theorem br_k_in (x : Int32) : 1 ≤ br_k x ∧ br_k x ≤ 32 := by
  have h := Nat.mod_lt x.toBitVec.toNat (show 0 < 32 by decide)
  unfold br_k
  omega
theorem br_k_eq (x : Int32) : nI 1 + (x &&& nI 31) = nI (br_k x) := by
  rw [pk_and x (m := nI 31) 5 (by decide +kernel), nI_add]
  rfl
theorem br_subLt {a b L : Nat} (ha : a < 1000) (hL : L < 1000) (hb : b < 1000) : nI L - nI b < nI a ↔ L < a + b := by
  rw [Int32.lt_iff_toInt_lt, pk_sub_toInt (by omega) (by omega), nI_toInt (by omega)]
  omega
theorem br_8 {ns bo bi : Nat} (h : 8 * bo + bi ≤ 8 * ns) : nI 8 * nI (ns - bo) - nI bi = nI (8 * ns - (8 * bo + bi)) := by
  rw [pk_mul, pk_sub (by omega)]
  congr 1
  omega
end
section
/-! rows that the walks use: one name for a top, byte arrays by Nat places, a contract's start and end -/
set_option maxRecDepth 100000
abbrev vwCl : List vw_C := [(RX0, TX0, 3), (RX1, TX1, 3), (RX2, TX2, 5)]
abbrev br_Pre (D : va_G) (cB : ClassId) (ws : va_W) (sz : Nat) : State → Prop := fun U => U.heap.size = sz ∧ va_P D vwCl ws U.heap ∧ va_K D vwCl [(cB, .byte)] U ∧ va_D (fun _ => True) ws
abbrev br_Out (D : va_G) (cB : ClassId) (A : Nat → Prop) (ws : va_W) (t : State) : Prop := va_P D vwCl ws t.heap ∧ va_K D vwCl [(cB, .byte)] t ∧ va_D A ws
theorem br_blind {D : va_G} {cB : ClassId} {ws : va_W} {sz : Nat} {av : List Value} : FrameBlind (va_Pc av (br_Pre D cB ws sz)) := fun a U g mk q => by
  obtain ⟨q0, q1, qP, qK, qD⟩ := q
  exact ⟨q0, q1, qP, va_K.moved (u := U) (U := U.calling g mk a) (Vm.Alike.refl U.vm) qK, qD⟩
theorem br_start {D : va_G} {cB : ClassId} {ws : va_W} {s U : State} {H : Heap} {A : Nat → Prop} {av : List Value} (hU : U.heap = H) (hW : s.WarmedH U.vm) (hP : va_P D vwCl ws H) (hK : va_K D vwCl [(cB, .byte)] s) (hD : va_D A ws) : va_Pc av (br_Pre D cB ws H.size) av.toArray U :=
  ⟨rfl, by rw [hU], by rw [hU]; exact hP, va_K.moved hW.alike hK, hD.weaken (fun _ _ _ _ => trivial)⟩
theorem br_oneB {D : va_G} {cl : List vw_C} {c1 c2 : ClassId} {s : State} (h1 : va_K D cl [(c1, .byte)] s) (h2 : va_K D cl [(c1, .byte), (c2, .byte)] s) : c2 = c1 := by
  have a := (h2.2 0 _ rfl).2
  have b := (h2.2 1 _ rfl).2
  exact Option.some.inj ((show s.vm.findClass ("[" ++ FieldType.byte.toString) = some c2 from b).symm.trans (show s.vm.findClass ("[" ++ FieldType.byte.toString) = some c1 from a))
section WK
variable {p : Program} {l : Launch} {e : Env} {R : Room} {s : State} {m : MethodId} {args : Array Value} {below : List Frame} {meth : Method} {c : Code} {H : Heap} {locs : List Loc} {cells slots : Nat} {Q : State → Prop}
variable {cc : ByteArray} {pc : Nat} {ls : Array Slot} {rest : List Value} {D : va_G} {cl : List vw_C} {A : Nat → Prop} {a : Nat} {tys : List (ClassId × FieldType)} {ws : va_W} {H0 : Heap}
theorem wk_as {x : Int32} (y : Int32) (h : x = y) (k : W p l e R s m args below meth c H locs cells slots Q (F0 m pc ls (.int y :: rest))) : W p l e R s m args below meth c H locs cells slots Q (F0 m pc ls (.int x :: rest)) := by
  rw [h]
  exact k
theorem wk_bald (hexec : p.tables.exec = Jvm.exec) (hb : c.code = cc) (hK : va_K D cl tys s) (hP : va_P D cl ws H) (q0 t0 : Nat) {cA : ClassId} {n : Nat} {f : Nat → Int32} (ha : ws[q0]? = some (a, .inl (cA, n, .inl f))) (ht : tys[t0]? = some (cA, .byte)) {i : Nat} (hin : i < n) (hn : n < 2 ^ 31) (hdg : decode cc pc = .ok (.baload, 1))
    (kk : W p l e R s m args below meth c H locs cells slots Q (F0 m (pc + 1) ls (.int (f i) :: rest))) : W p l e R s m args below meth c H locs cells slots Q (F0 m pc ls (.int (nI i) :: .ref a :: rest)) := by
  refine va_bald hexec hb hK hP q0 t0 ha ht (vp_in_nI hin hn) hdg ?_
  rw [nI_clamp (by omega)]
  exact kk
theorem wk_bast (hexec : p.tables.exec = Jvm.exec) (hb : c.code = cc) (hK : va_K D cl tys s) (hP : va_P D cl ws H) (hD : va_D A ws) (hS : va_S A H0 H locs) (q0 t0 : Nat) {cA : ClassId} {n : Nat} {f g : Nat → Int32} (ha : ws[q0]? = some (a, .inl (cA, n, .inl f))) (ht : tys[t0]? = some (cA, .byte)) {i : Nat} {x : Int32} (hin : i < n) (hn : n < 2 ^ 31) (hg : upd f i x.toInt8.toInt32 = g) (hdg : decode cc pc = .ok (.bastore, 1))
    (kk : ∀ (H1 : Heap) (locs1 : List Loc), va_P D cl (ws.set q0 (a, .inl (cA, n, .inl g))) H1 → va_D A (ws.set q0 (a, .inl (cA, n, .inl g))) → va_S A H0 H1 locs1 → W p l e R s m args below meth c H1 locs1 cells slots Q (F0 m (pc + 1) ls rest)) : W p l e R s m args below meth c H locs cells slots Q (F0 m pc ls (.int x :: .int (nI i) :: .ref a :: rest)) := by
  have e1 : upd f (nI i).toNatClampNeg (vp_nar .byte x) = g := by rw [nI_clamp (by omega), vp_nar_byte]; exact hg
  refine va_bast hexec hb hK hP hD hS q0 t0 ha ht (vp_in_nI hin hn) hdg (fun H1 locs1 h1 h2 h3 => ?_)
  rw [e1] at h1 h2
  exact kk H1 locs1 h1 h2 h3
end WK
theorem br_bb (x : Int32) : x.toInt8.toInt32.toInt8.toInt32 = x.toInt8.toInt32 := by
  have h := pk_vb x
  rw [vp_nar_byte] at h
  exact h
theorem br_m8 {r : Nat} (h : 8 ≤ r) : nI r + Int32.ofInt (-8) = nI (r - 8) := by
  have e : nI r = nI (r - 8) + nI 8 := by rw [nI_add]; congr 1; omega
  rw [e, Int32.add_assoc, show nI 8 + Int32.ofInt (-8) = 0 from by decide +kernel, Int32.add_zero]
theorem br_p6 (r : Nat) : nI r + Int32.ofInt 6 = nI (r + 6) := nI_add r 6
theorem br_p1 (r : Nat) : nI r + Int32.ofInt 1 = nI (r + 1) := nI_add r 1
end
section
/-! BitSource: contracts. Its world: the object h0, its row of bytes h1 (n bytes g), byteOffset bo, bitOffset bi -/
set_option maxHeartbeats 4000000 in
set_option maxRecDepth 100000 in
/-- BitSource(bytes): the row is held, both places are 0 -/
theorem br_src_init (l : Launch) (dC : Nat → ClassId) (dI : Nat → Nat → Nat) (cB : ClassId) (sz : Nat) (h0 h1 : Nat) (n : Nat) (g : Nat → Int32) : Met l yX1_init (ws_ yX1_init cX1_init 2 none) ({ frames := 1, cells := 0, slots := 0, locals := 12 }) (va_Pc [.ref h0, .ref h1] (br_Pre (dC, dI) cB [(h0, .inr (1, [.null, .int 0, .int 0])), (h1, .inl (cB, n, .inl g))] sz)) (va_Qv (fun (_ : Unit) => True) (fun (_ : Unit) => br_Out (dC, dI) cB (va_A [(h0, .inr (1, [.null, .int 0, .int 0])), (h1, .inl (cB, n, .inl g))] sz) [(h0, .inr (1, [.ref h1, .int (nI 0), .int (nI 0)])), (h1, .inl (cB, n, .inl g))]) (va_A [(h0, .inr (1, [.null, .int 0, .int 0])), (h1, .inl (cB, n, .inl g))] sz)) 0 0 (va_A [(h0, .inr (1, [.null, .int 0, .int 0])), (h1, .inl (cB, n, .inl g))] sz) := by
  refine Met.ofW (cc := cX1_init) (maxL := 2) (ret := none) (by decide) rfl ?_
  intro p e s m args below meth c s₁ B hml hv
  obtain ⟨rfl, hsz, hP, hK, hD0⟩ := hv
  have hx := B.exec
  have hb := B.bytes
  have hr := B.returns
  have hts := atoms_spec (ws := ws_ yX1_init cX1_init 2 none) B.pre
  have hts : ∀ w ∈ lw_all, w.before _ s = true := fun w h => hts w (List.mem_cons_of_mem _ h)
  have hown : s.vm.findClass RX1 = some m.cls := findClass_of_methodNamed B.named
  have hlocks := B.notSynchronized
  have hin : meth.name = "<init>" := (name_of_methodNamed B.named B.method).1
  subst hsz
  have hD := hD0.self (sz := s.heap.size)
  generalize hAe : va_A [(h0, .inr (1, [.null, .int 0, .int 0])), (h1, .inl (cB, n, .inl g))] s.heap.size = A at hD ⊢
  have hA : ∀ q : Nat, s.heap.size ≤ q → A q := fun q h => by rw [← hAe]; exact Or.inr h
  have hS : va_S A s.heap s.heap [] := va_S.rf
  have hl := lv_entry ([.ref h0, .ref h1]) (n := 2) (Nat.le_of_ble_eq_true rfl)
  rw [lg_entry_eq]
  generalize (lg_sl ([.ref h0, .ref h1]) ++ List.replicate (2 - (lg_sl ([.ref h0, .ref h1])).length) Slot.unset).toArray = ls at hl ⊢
  have hl : lv_has ls 2 [(0, .ref h0), (1, .ref h1)] := hl
  refine lv_aload_n hx hb dX1_init_0 rfl (lv_at hl 0 rfl) ?_
  refine W.objInit hx hb hown (hts _ q30) (hts _ q23) (hts _ q24) rfl (by rw [hml]; exact hl.1) rfl dX1_init_1 (Nat.le_of_ble_eq_true rfl) (Nat.le_of_ble_eq_true rfl) ?_
  refine W.eq (g2 := F0 m 4 ls []) rfl ?_
  refine lv_aload_n hx hb dX1_init_4 rfl (lv_at hl 0 rfl) ?_
  refine lv_aload_n hx hb dX1_init_5 rfl (lv_at hl 1 rfl) ?_
  refine va_putF (D := (dC, dI)) (ci := 1) (v := .ref h1) (ty := .array .byte) (C := RX1) (T := TX1) (N := 3) hx hb hts in_X1 tyX1 tyX1_ok nmX1 hown hK hP hD hS 0 rfl rfl 0 (by decide) (hts _ q31) (fun _ h9 => h9) rfl hin rfl (by decide +kernel) rfl rfl (Nat.le_of_ble_eq_true rfl) dX1_init_6 (fun H locs hP hD hS => ?_)
  have hP : va_P (dC, dI) vwCl [(h0, .inr (1, [.ref h1, .int 0, .int 0])), (h1, .inl (cB, n, .inl g))] H := hP
  have hD : va_D A [(h0, .inr (1, [.ref h1, .int 0, .int 0])), (h1, .inl (cB, n, .inl g))] := hD
  exact W.vret hx hb hr (fun t ht hW => ⟨⟨(), rfl, trivial, by rw [ht]; exact hP, va_K.moved hW.alike hK, hD⟩, hS.F ht⟩) hS.2.2 dX1_init_9
set_option maxHeartbeats 4000000 in
set_option maxRecDepth 100000 in
/-- getByteOffset -/
theorem br_src_getByteOffset (l : Launch) (dC : Nat → ClassId) (dI : Nat → Nat → Nat) (cB : ClassId) (sz : Nat) (h0 h1 : Nat) (n : Nat) (g : Nat → Int32) (bo bi : Nat) : Met l yX1_getByteOffset (ws_ yX1_getByteOffset cX1_getByteOffset 1 (some .int)) ({ frames := 0, cells := 0, slots := 0, locals := 0 }) (va_Pc [.ref h0] (br_Pre (dC, dI) cB [(h0, .inr (1, [.ref h1, .int (nI bo), .int (nI bi)])), (h1, .inl (cB, n, .inl g))] sz)) (va_Qi (fun (r : Int32) (_ : Unit) => r = nI bo) (fun (_ : Unit) => br_Out (dC, dI) cB (va_A [(h0, .inr (1, [.ref h1, .int (nI bo), .int (nI bi)])), (h1, .inl (cB, n, .inl g))] sz) [(h0, .inr (1, [.ref h1, .int (nI bo), .int (nI bi)])), (h1, .inl (cB, n, .inl g))]) (va_A [(h0, .inr (1, [.ref h1, .int (nI bo), .int (nI bi)])), (h1, .inl (cB, n, .inl g))] sz)) 0 0 (va_A [(h0, .inr (1, [.ref h1, .int (nI bo), .int (nI bi)])), (h1, .inl (cB, n, .inl g))] sz) := by
  refine Met.ofW (cc := cX1_getByteOffset) (maxL := 1) (ret := (some .int)) (by decide) rfl ?_
  intro p e s m args below meth c s₁ B hml hv
  obtain ⟨rfl, hsz, hP, hK, hD0⟩ := hv
  have hx := B.exec
  have hb := B.bytes
  have hr := B.returns
  have hts := atoms_spec (ws := ws_ yX1_getByteOffset cX1_getByteOffset 1 (some .int)) B.pre
  have hts : ∀ w ∈ lw_all, w.before _ s = true := fun w h => hts w (List.mem_cons_of_mem _ h)
  have hown : s.vm.findClass RX1 = some m.cls := findClass_of_methodNamed B.named
  have hlocks := B.notSynchronized
  subst hsz
  have hD := hD0.self (sz := s.heap.size)
  generalize hAe : va_A [(h0, .inr (1, [.ref h1, .int (nI bo), .int (nI bi)])), (h1, .inl (cB, n, .inl g))] s.heap.size = A at hD ⊢
  have hA : ∀ q : Nat, s.heap.size ≤ q → A q := fun q h => by rw [← hAe]; exact Or.inr h
  have hS : va_S A s.heap s.heap [] := va_S.rf
  have hl := lv_entry ([.ref h0]) (n := 1) (Nat.le_of_ble_eq_true rfl)
  rw [lg_entry_eq]
  generalize (lg_sl ([.ref h0]) ++ List.replicate (1 - (lg_sl ([.ref h0])).length) Slot.unset).toArray = ls at hl ⊢
  have hl : lv_has ls 1 [(0, .ref h0)] := hl
  refine lv_aload_n hx hb dX1_getByteOffset_0 rfl (lv_at hl 0 rfl) ?_
  refine va_get (D := (dC, dI)) (ci := 1) (v := .int (nI bo)) (C := RX1) (T := TX1) (N := 3) hx hb hts in_X1 hown hK hP 0 rfl rfl 1 (by decide) (hts _ q32) (fun _ h9 => h9) rfl dX1_getByteOffset_1 ?_
  exact W.iret (v := (nI bo)) hx hb hr (fun t ht hW => ⟨⟨(nI bo), (), rfl, rfl, by rw [ht]; exact hP, va_K.moved hW.alike hK, hD⟩, hS.F ht⟩) hS.2.2 dX1_getByteOffset_4
set_option maxHeartbeats 4000000 in
set_option maxRecDepth 100000 in
/-- getBitOffset -/
theorem br_src_getBitOffset (l : Launch) (dC : Nat → ClassId) (dI : Nat → Nat → Nat) (cB : ClassId) (sz : Nat) (h0 h1 : Nat) (n : Nat) (g : Nat → Int32) (bo bi : Nat) : Met l yX1_getBitOffset (ws_ yX1_getBitOffset cX1_getBitOffset 1 (some .int)) ({ frames := 0, cells := 0, slots := 0, locals := 0 }) (va_Pc [.ref h0] (br_Pre (dC, dI) cB [(h0, .inr (1, [.ref h1, .int (nI bo), .int (nI bi)])), (h1, .inl (cB, n, .inl g))] sz)) (va_Qi (fun (r : Int32) (_ : Unit) => r = nI bi) (fun (_ : Unit) => br_Out (dC, dI) cB (va_A [(h0, .inr (1, [.ref h1, .int (nI bo), .int (nI bi)])), (h1, .inl (cB, n, .inl g))] sz) [(h0, .inr (1, [.ref h1, .int (nI bo), .int (nI bi)])), (h1, .inl (cB, n, .inl g))]) (va_A [(h0, .inr (1, [.ref h1, .int (nI bo), .int (nI bi)])), (h1, .inl (cB, n, .inl g))] sz)) 0 0 (va_A [(h0, .inr (1, [.ref h1, .int (nI bo), .int (nI bi)])), (h1, .inl (cB, n, .inl g))] sz) := by
  refine Met.ofW (cc := cX1_getBitOffset) (maxL := 1) (ret := (some .int)) (by decide) rfl ?_
  intro p e s m args below meth c s₁ B hml hv
  obtain ⟨rfl, hsz, hP, hK, hD0⟩ := hv
  have hx := B.exec
  have hb := B.bytes
  have hr := B.returns
  have hts := atoms_spec (ws := ws_ yX1_getBitOffset cX1_getBitOffset 1 (some .int)) B.pre
  have hts : ∀ w ∈ lw_all, w.before _ s = true := fun w h => hts w (List.mem_cons_of_mem _ h)
  have hown : s.vm.findClass RX1 = some m.cls := findClass_of_methodNamed B.named
  have hlocks := B.notSynchronized
  subst hsz
  have hD := hD0.self (sz := s.heap.size)
  generalize hAe : va_A [(h0, .inr (1, [.ref h1, .int (nI bo), .int (nI bi)])), (h1, .inl (cB, n, .inl g))] s.heap.size = A at hD ⊢
  have hA : ∀ q : Nat, s.heap.size ≤ q → A q := fun q h => by rw [← hAe]; exact Or.inr h
  have hS : va_S A s.heap s.heap [] := va_S.rf
  have hl := lv_entry ([.ref h0]) (n := 1) (Nat.le_of_ble_eq_true rfl)
  rw [lg_entry_eq]
  generalize (lg_sl ([.ref h0]) ++ List.replicate (1 - (lg_sl ([.ref h0])).length) Slot.unset).toArray = ls at hl ⊢
  have hl : lv_has ls 1 [(0, .ref h0)] := hl
  refine lv_aload_n hx hb dX1_getBitOffset_0 rfl (lv_at hl 0 rfl) ?_
  refine va_get (D := (dC, dI)) (ci := 1) (v := .int (nI bi)) (C := RX1) (T := TX1) (N := 3) hx hb hts in_X1 hown hK hP 0 rfl rfl 2 (by decide) (hts _ q33) (fun _ h9 => h9) rfl dX1_getBitOffset_1 ?_
  exact W.iret (v := (nI bi)) hx hb hr (fun t ht hW => ⟨⟨(nI bi), (), rfl, rfl, by rw [ht]; exact hP, va_K.moved hW.alike hK, hD⟩, hS.F ht⟩) hS.2.2 dX1_getBitOffset_4
set_option maxHeartbeats 4000000 in
set_option maxRecDepth 100000 in
/-- available: the bits that are left -/
theorem br_src_available (l : Launch) (dC : Nat → ClassId) (dI : Nat → Nat → Nat) (cB : ClassId) (sz : Nat) (h0 h1 : Nat) (n : Nat) (g : Nat → Int32) (bo bi : Nat) (hb0 : 8 * bo + bi ≤ 8 * n) : Met l yX1_available (ws_ yX1_available cX1_available 1 (some .int)) ({ frames := 0, cells := 0, slots := 0, locals := 0 }) (va_Pc [.ref h0] (br_Pre (dC, dI) cB [(h0, .inr (1, [.ref h1, .int (nI bo), .int (nI bi)])), (h1, .inl (cB, n, .inl g))] sz)) (va_Qi (fun (r : Int32) (_ : Unit) => r = nI (8 * n - (8 * bo + bi))) (fun (_ : Unit) => br_Out (dC, dI) cB (va_A [(h0, .inr (1, [.ref h1, .int (nI bo), .int (nI bi)])), (h1, .inl (cB, n, .inl g))] sz) [(h0, .inr (1, [.ref h1, .int (nI bo), .int (nI bi)])), (h1, .inl (cB, n, .inl g))]) (va_A [(h0, .inr (1, [.ref h1, .int (nI bo), .int (nI bi)])), (h1, .inl (cB, n, .inl g))] sz)) 0 0 (va_A [(h0, .inr (1, [.ref h1, .int (nI bo), .int (nI bi)])), (h1, .inl (cB, n, .inl g))] sz) := by
  refine Met.ofW (cc := cX1_available) (maxL := 1) (ret := (some .int)) (by decide) rfl ?_
  intro p e s m args below meth c s₁ B hml hv
  obtain ⟨rfl, hsz, hP, hK, hD0⟩ := hv
  have hx := B.exec
  have hb := B.bytes
  have hr := B.returns
  have hts := atoms_spec (ws := ws_ yX1_available cX1_available 1 (some .int)) B.pre
  have hts : ∀ w ∈ lw_all, w.before _ s = true := fun w h => hts w (List.mem_cons_of_mem _ h)
  have hown : s.vm.findClass RX1 = some m.cls := findClass_of_methodNamed B.named
  have hlocks := B.notSynchronized
  subst hsz
  have hD := hD0.self (sz := s.heap.size)
  generalize hAe : va_A [(h0, .inr (1, [.ref h1, .int (nI bo), .int (nI bi)])), (h1, .inl (cB, n, .inl g))] s.heap.size = A at hD ⊢
  have hA : ∀ q : Nat, s.heap.size ≤ q → A q := fun q h => by rw [← hAe]; exact Or.inr h
  have hS : va_S A s.heap s.heap [] := va_S.rf
  have hl := lv_entry ([.ref h0]) (n := 1) (Nat.le_of_ble_eq_true rfl)
  rw [lg_entry_eq]
  generalize (lg_sl ([.ref h0]) ++ List.replicate (1 - (lg_sl ([.ref h0])).length) Slot.unset).toArray = ls at hl ⊢
  have hl : lv_has ls 1 [(0, .ref h0)] := hl
  refine lv_bipush (v := nI 8) hx hb dX1_available_0 (by decide +kernel) ?_
  refine lv_aload_n hx hb dX1_available_2 rfl (lv_at hl 0 rfl) ?_
  refine va_get (D := (dC, dI)) (ci := 1) (v := .ref h1) (C := RX1) (T := TX1) (N := 3) hx hb hts in_X1 hown hK hP 0 rfl rfl 0 (by decide) (hts _ q31) (fun _ h9 => h9) rfl dX1_available_3 ?_
  refine va_alen (v := nI n) hx hb hK hP 1 0 rfl rfl rfl dX1_available_6 ?_
  refine lv_aload_n hx hb dX1_available_7 rfl (lv_at hl 0 rfl) ?_
  refine va_get (D := (dC, dI)) (ci := 1) (v := .int (nI bo)) (C := RX1) (T := TX1) (N := 3) hx hb hts in_X1 hown hK hP 0 rfl rfl 1 (by decide) (hts _ q32) (fun _ h9 => h9) rfl dX1_available_8 ?_
  refine lv_isub hx hb dX1_available_11 ?_
  refine wk_as (nI (n - bo)) (pk_sub (by omega)) ?_
  refine lv_imul hx hb dX1_available_12 ?_
  refine lv_aload_n hx hb dX1_available_13 rfl (lv_at hl 0 rfl) ?_
  refine va_get (D := (dC, dI)) (ci := 1) (v := .int (nI bi)) (C := RX1) (T := TX1) (N := 3) hx hb hts in_X1 hown hK hP 0 rfl rfl 2 (by decide) (hts _ q33) (fun _ h9 => h9) rfl dX1_available_14 ?_
  refine lv_isub hx hb dX1_available_17 ?_
  refine wk_as (nI (8 * n - (8 * bo + bi))) (br_8 hb0) ?_
  exact W.iret (v := (nI (8 * n - (8 * bo + bi)))) hx hb hr (fun t ht hW => ⟨⟨(nI (8 * n - (8 * bo + bi))), (), rfl, rfl, by rw [ht]; exact hP, va_K.moved hW.alike hK, hD⟩, hS.F ht⟩) hS.2.2 dX1_available_18
end
section
/-! BitSource.readBits -/
theorem br_le0 {n : Nat} (h : n < 2 ^ 31) : nI n ≤ 0 ↔ n = 0 := by
  constructor
  · intro c
    rcases Nat.eq_zero_or_pos n with q | q
    · exact q
    · exact absurd c (nI_nle q h)
  · intro q
    rw [q]
    decide
theorem br_min {x y t : Nat} (hx : x < 2 ^ 31) (hy : y < 2 ^ 31) (h : t = min x y) : (if nI y < nI x then nI y else nI x) = nI t := by
  subst h
  by_cases q : y < x
  · rw [if_pos ((nI_ltI hy hx).mpr q), Nat.min_eq_right (by omega)]
  · rw [if_neg (fun z => q ((nI_ltI hy hx).mp z)), Nat.min_eq_left (by omega)]
set_option maxHeartbeats 4000000 in
set_option maxRecDepth 100000 in
theorem br_src_loop {p : Program} {l : Launch} {e : Env} {R : Room} {s : State} {m : MethodId} {args : Array Value} {below : List Frame} {meth : Method} {c : Code} {cells slots : Nat} {Q : State → Prop} {dC : Nat → ClassId} {dI : Nat → Nat → Nat} {A : Nat → Prop} {cB : ClassId} {h0 h1 n : Nat} {g : Nat → Int32} {q k : Nat} (hx : p.tables.exec = Jvm.exec) (hb : c.code = cX1_readBits) (hown : s.vm.findClass RX1 = some m.cls) (hts : ∀ w ∈ lw_all, w.before args s = true) (hK : va_K (dC, dI) vwCl [(cB, .byte)] s) (hn : n ≤ 4096) (hk : k ≤ 32) (hq : q + k ≤ 8 * n) (kx : ∀ (v : Int32) (b i : Nat) (H : Heap) (locs : List Loc) (ls : Array Slot), br_Rd g q k v → q + k = 8 * b + i → i < 8 → va_P (dC, dI) vwCl [(h0, .inr (1, [.ref h1, .int (nI b), .int (nI i)])), (h1, .inl (cB, n, .inl g))] H → va_D A [(h0, .inr (1, [.ref h1, .int (nI b), .int (nI i)])), (h1, .inl (cB, n, .inl g))] → va_S A s.heap H locs → lv_has ls 7 [(2, .int v)] → W p l e R s m args below meth c H locs cells slots Q (F0 m 223 ls [])) :
    ∀ (N j b : Nat) (r : Int32), k - j < N → j ≤ k → q + j = 8 * b → br_Rd g q j r → ∀ (H : Heap) (locs : List Loc) (ls : Array Slot), va_P (dC, dI) vwCl [(h0, .inr (1, [.ref h1, .int (nI b), .int (nI 0)])), (h1, .inl (cB, n, .inl g))] H → va_D A [(h0, .inr (1, [.ref h1, .int (nI b), .int (nI 0)])), (h1, .inl (cB, n, .inl g))] → va_S A s.heap H locs → lv_has ls 7 [(0, .ref h0), (1, .int (nI (k - j))), (2, .int r)] → W p l e R s m args below meth c H locs cells slots Q (F0 m 135 ls []) := by
  intro N
  induction N with
  | zero =>
    intro j b r h
    exact absurd h (by omega)
  | succ N ih =>
    intro j b r hN hj hqj hr H locs ls hP hD hS hl
    refine lv_iload_n hx hb dX1_readBits_135 rfl (lv_at hl 1 rfl) ?_
    refine lv_bipush (v := nI 8) hx hb dX1_readBits_136 (by decide +kernel) ?_
    refine lv_icmp_lt (tgt := 176) hx hb dX1_readBits_138 (by decide) (fun c1 => ?_) (fun c1 => ?_)
    · have c1 := (nI_ltI (by omega) (by omega)).mp c1
      refine lv_iload_n hx hb dX1_readBits_176 rfl (lv_at hl 1 rfl) ?_
      refine lv_if_le (tgt := 223) hx hb dX1_readBits_177 (by decide) (fun c2 => ?_) (fun c2 => ?_)
      · have c2 := (br_le0 (by omega)).mp c2
        have e : j = k := by omega
        subst e
        exact kx r b 0 H locs ls hr (by omega) (by omega) hP hD hS (lv_sub hl [2] rfl)
      · have c2 : 0 < k - j := Nat.pos_of_ne_zero (fun z => c2 ((br_le0 (by omega)).mpr z))
        refine lv_bipush (v := nI 8) hx hb dX1_readBits_180 (by decide +kernel) ?_
        refine lv_iload_n hx hb dX1_readBits_182 rfl (lv_at hl 1 rfl) ?_
        refine lv_isub hx hb dX1_readBits_183 ?_
        refine wk_as (nI (8 - (k - j))) (pk_sub (by omega)) ?_
        refine lv_istore_n (lv' := [(3, .int (nI (8 - (k - j)))), (0, .ref h0), (1, .int (nI (k - j))), (2, .int r)]) hx hb dX1_readBits_184 rfl hl (by decide) rfl (fun ls hl => ?_)
        refine lv_sipush (v := nI 255) hx hb dX1_readBits_185 (by decide +kernel) ?_
        refine lv_iload_n hx hb dX1_readBits_188 rfl (lv_at hl 0 rfl) ?_
        refine lv_ishr hx hb dX1_readBits_189 ?_
        refine lv_iload_n hx hb dX1_readBits_190 rfl (lv_at hl 0 rfl) ?_
        refine lv_ishl hx hb dX1_readBits_191 ?_
        refine lv_istore (lv' := [(4, .int (((nI 255) >>> ((nI (8 - (k - j))) &&& 31)) <<< ((nI (8 - (k - j))) &&& 31))), (3, .int (nI (8 - (k - j)))), (0, .ref h0), (1, .int (nI (k - j))), (2, .int r)]) hx hb dX1_readBits_192 hl (by decide) rfl (fun ls hl => ?_)
        refine lv_iload_n hx hb dX1_readBits_194 rfl (lv_at hl 4 rfl) ?_
        refine lv_iload_n hx hb dX1_readBits_195 rfl (lv_at hl 3 rfl) ?_
        refine lv_ishl hx hb dX1_readBits_196 ?_
        refine lv_aload_n hx hb dX1_readBits_197 rfl (lv_at hl 2 rfl) ?_
        refine va_get (D := (dC, dI)) (ci := 1) (v := .ref h1) (C := RX1) (T := TX1) (N := 3) hx hb hts in_X1 hown hK hP 0 rfl rfl 0 (by decide) (hts _ q31) (fun _ h9 => h9) rfl dX1_readBits_198 ?_
        refine lv_aload_n hx hb dX1_readBits_201 rfl (lv_at hl 2 rfl) ?_
        refine va_get (D := (dC, dI)) (ci := 1) (v := .int (nI b)) (C := RX1) (T := TX1) (N := 3) hx hb hts in_X1 hown hK hP 0 rfl rfl 1 (by decide) (hts _ q32) (fun _ h9 => h9) rfl dX1_readBits_202 ?_
        refine wk_bald (i := b) hx hb hK hP 1 0 rfl rfl (by omega) (by omega) dX1_readBits_205 ?_
        refine lv_iload hx hb dX1_readBits_206 (lv_at hl 0 rfl) ?_
        refine lv_iand hx hb dX1_readBits_208 ?_
        refine lv_iload_n hx hb dX1_readBits_209 rfl (lv_at hl 1 rfl) ?_
        refine lv_ishr hx hb dX1_readBits_210 ?_
        refine lv_ior hx hb dX1_readBits_211 ?_
        refine lv_istore_n (lv' := [(2, .int ((r <<< ((nI (k - j)) &&& 31)) ||| (((g b) &&& (((nI 255) >>> ((nI (8 - (k - j))) &&& 31)) <<< ((nI (8 - (k - j))) &&& 31))) >>> ((nI (8 - (k - j))) &&& 31)))), (4, .int (((nI 255) >>> ((nI (8 - (k - j))) &&& 31)) <<< ((nI (8 - (k - j))) &&& 31))), (3, .int (nI (8 - (k - j)))), (0, .ref h0), (1, .int (nI (k - j)))]) hx hb dX1_readBits_212 rfl hl (by decide) rfl (fun ls hl => ?_)
        refine lv_aload_n hx hb dX1_readBits_213 rfl (lv_at hl 3 rfl) ?_
        refine lv_dup hx hb dX1_readBits_214 rfl ?_
        refine va_get (D := (dC, dI)) (ci := 1) (v := .int (nI 0)) (C := RX1) (T := TX1) (N := 3) hx hb hts in_X1 hown hK hP 0 rfl rfl 2 (by decide) (hts _ q33) (fun _ h9 => h9) rfl dX1_readBits_215 ?_
        refine lv_iload_n hx hb dX1_readBits_218 rfl (lv_at hl 4 rfl) ?_
        refine lv_iadd hx hb dX1_readBits_219 ?_
        refine wk_as (nI (k - j)) (by rw [nI_add, Nat.zero_add]) ?_
        refine va_put (D := (dC, dI)) (ci := 1) (v := .int (nI (k - j))) (ty := .int) (C := RX1) (T := TX1) (N := 3) hx hb hts in_X1 tyX1 tyX1_ok nmX1 hown hK hP hD hS 0 rfl rfl 2 (by decide) (hts _ q33) (fun _ h9 => h9) rfl (by decide +kernel) rfl rfl (Nat.le_of_ble_eq_true rfl) dX1_readBits_220 (fun H locs hP hD hS => ?_)
        have hP : va_P (dC, dI) vwCl [(h0, .inr (1, [.ref h1, .int (nI b), .int (nI (k - j))])), (h1, .inl (cB, n, .inl g))] H := hP
        have hD : va_D A [(h0, .inr (1, [.ref h1, .int (nI b), .int (nI (k - j))])), (h1, .inl (cB, n, .inl g))] := hD
        have hr2 := br_Rd_last (t := k - j) hr hqj (by omega) (by omega)
        rw [show j + (k - j) = k by omega] at hr2
        exact kx _ b (k - j) H locs ls hr2 (by omega) (by omega) hP hD hS (lv_sub hl [0] rfl)
    · have c1 : 8 ≤ k - j := Nat.not_lt.mp (fun z => c1 ((nI_ltI (by omega) (by omega)).mpr z))
      refine lv_iload_n hx hb dX1_readBits_141 rfl (lv_at hl 2 rfl) ?_
      refine lv_bipush (v := nI 8) hx hb dX1_readBits_142 (by decide +kernel) ?_
      refine lv_ishl hx hb dX1_readBits_144 ?_
      refine lv_aload_n hx hb dX1_readBits_145 rfl (lv_at hl 0 rfl) ?_
      refine va_get (D := (dC, dI)) (ci := 1) (v := .ref h1) (C := RX1) (T := TX1) (N := 3) hx hb hts in_X1 hown hK hP 0 rfl rfl 0 (by decide) (hts _ q31) (fun _ h9 => h9) rfl dX1_readBits_146 ?_
      refine lv_aload_n hx hb dX1_readBits_149 rfl (lv_at hl 0 rfl) ?_
      refine va_get (D := (dC, dI)) (ci := 1) (v := .int (nI b)) (C := RX1) (T := TX1) (N := 3) hx hb hts in_X1 hown hK hP 0 rfl rfl 1 (by decide) (hts _ q32) (fun _ h9 => h9) rfl dX1_readBits_150 ?_
      refine wk_bald (i := b) hx hb hK hP 1 0 rfl rfl (by omega) (by omega) dX1_readBits_153 ?_
      refine lv_sipush (v := nI 255) hx hb dX1_readBits_154 (by decide +kernel) ?_
      refine lv_iand hx hb dX1_readBits_157 ?_
      refine lv_ior hx hb dX1_readBits_158 ?_
      refine lv_istore_n (lv' := [(2, .int ((r <<< ((nI 8) &&& 31)) ||| ((g b) &&& (nI 255)))), (0, .ref h0), (1, .int (nI (k - j)))]) hx hb dX1_readBits_159 rfl hl (by decide) rfl (fun ls hl => ?_)
      refine lv_aload_n hx hb dX1_readBits_160 rfl (lv_at hl 1 rfl) ?_
      refine lv_dup hx hb dX1_readBits_161 rfl ?_
      refine va_get (D := (dC, dI)) (ci := 1) (v := .int (nI b)) (C := RX1) (T := TX1) (N := 3) hx hb hts in_X1 hown hK hP 0 rfl rfl 1 (by decide) (hts _ q32) (fun _ h9 => h9) rfl dX1_readBits_162 ?_
      refine lv_iconst (v := nI 1) hx hb dX1_readBits_165 (by decide +kernel) ?_
      refine lv_iadd hx hb dX1_readBits_166 ?_
      refine wk_as (nI (b + 1)) (nI_add b 1) ?_
      refine va_put (D := (dC, dI)) (ci := 1) (v := .int (nI (b + 1))) (ty := .int) (C := RX1) (T := TX1) (N := 3) hx hb hts in_X1 tyX1 tyX1_ok nmX1 hown hK hP hD hS 0 rfl rfl 1 (by decide) (hts _ q32) (fun _ h9 => h9) rfl (by decide +kernel) rfl rfl (Nat.le_of_ble_eq_true rfl) dX1_readBits_167 (fun H locs hP hD hS => ?_)
      have hP : va_P (dC, dI) vwCl [(h0, .inr (1, [.ref h1, .int (nI (b + 1)), .int (nI 0)])), (h1, .inl (cB, n, .inl g))] H := hP
      have hD : va_D A [(h0, .inr (1, [.ref h1, .int (nI (b + 1)), .int (nI 0)])), (h1, .inl (cB, n, .inl g))] := hD
      refine lv_iinc (v := nI (k - (j + 8))) (lv' := [(1, .int (nI (k - (j + 8)))), (2, .int ((r <<< ((nI 8) &&& 31)) ||| ((g b) &&& (nI 255)))), (0, .ref h0)]) hx hb dX1_readBits_170 hl (k := 2) rfl (by rw [br_m8 (by omega), Nat.sub_sub]) (by decide) rfl (fun ls hl => ?_)
      refine lv_goto (tgt := 135) hx hb dX1_readBits_173 (by decide) ?_
      exact ih (j + 8) (b + 1) _ (by omega) (by omega) (by omega) (br_Rd_byte hr hqj (by omega)) H locs ls hP hD hS (lv_sub hl [2, 0, 1] rfl)
set_option maxHeartbeats 4000000 in
set_option maxRecDepth 100000 in
theorem br_src_tail {p : Program} {l : Launch} {e : Env} {R : Room} {s : State} {m : MethodId} {args : Array Value} {below : List Frame} {meth : Method} {c : Code} {cells slots : Nat} {Q : State → Prop} {dC : Nat → ClassId} {dI : Nat → Nat → Nat} {A : Nat → Prop} {cB : ClassId} {h0 h1 n : Nat} {g : Nat → Int32} {q k : Nat} (hx : p.tables.exec = Jvm.exec) (hb : c.code = cX1_readBits) (hown : s.vm.findClass RX1 = some m.cls) (hts : ∀ w ∈ lw_all, w.before args s = true) (hK : va_K (dC, dI) vwCl [(cB, .byte)] s) (hn : n ≤ 4096) (hk : k ≤ 32) (hq : q + k ≤ 8 * n) (kx : ∀ (v : Int32) (b i : Nat) (H : Heap) (locs : List Loc) (ls : Array Slot), br_Rd g q k v → q + k = 8 * b + i → i < 8 → va_P (dC, dI) vwCl [(h0, .inr (1, [.ref h1, .int (nI b), .int (nI i)])), (h1, .inl (cB, n, .inl g))] H → va_D A [(h0, .inr (1, [.ref h1, .int (nI b), .int (nI i)])), (h1, .inl (cB, n, .inl g))] → va_S A s.heap H locs → lv_has ls 7 [(2, .int v)] → W p l e R s m args below meth c H locs cells slots Q (F0 m 223 ls [])) (j b i : Nat) (r : Int32) (hj : j ≤ k) (hqj : q + j = 8 * b + i) (hi : i < 8) (hji : j = k ∨ i = 0) (hr : br_Rd g q j r) (H : Heap) (locs : List Loc) (ls : Array Slot) : va_P (dC, dI) vwCl [(h0, .inr (1, [.ref h1, .int (nI b), .int (nI i)])), (h1, .inl (cB, n, .inl g))] H → va_D A [(h0, .inr (1, [.ref h1, .int (nI b), .int (nI i)])), (h1, .inl (cB, n, .inl g))] → va_S A s.heap H locs → lv_has ls 7 [(0, .ref h0), (1, .int (nI (k - j))), (2, .int r)] → W p l e R s m args below meth c H locs cells slots Q (F0 m 131 ls []) := by
  intro hP hD hS hl
  refine lv_iload_n hx hb dX1_readBits_131 rfl (lv_at hl 1 rfl) ?_
  refine lv_if_le (tgt := 223) hx hb dX1_readBits_132 (by decide) (fun c2 => ?_) (fun c2 => ?_)
  · have c2 := (br_le0 (by omega)).mp c2
    have e : j = k := by omega
    subst e
    exact kx r b i H locs ls hr hqj hi hP hD hS (lv_sub hl [2] rfl)
  · have c2 : 0 < k - j := Nat.pos_of_ne_zero (fun z => c2 ((br_le0 (by omega)).mpr z))
    have e : i = 0 := by omega
    subst e
    exact br_src_loop hx hb hown hts hK hn hk hq kx (k - j + 1) j b r (by omega) hj hqj hr H locs ls hP hD hS hl
set_option maxHeartbeats 4000000 in
set_option maxRecDepth 100000 in
theorem br_src_body {p : Program} {l : Launch} {e : Env} {R : Room} {s : State} {m : MethodId} {args : Array Value} {below : List Frame} {meth : Method} {c : Code} {cells slots : Nat} {Q : State → Prop} {dC : Nat → ClassId} {dI : Nat → Nat → Nat} {A : Nat → Prop} {cB : ClassId} {h0 h1 n : Nat} {g : Nat → Int32} {k : Nat} (bo bi : Nat) (hx : p.tables.exec = Jvm.exec) (hb : c.code = cX1_readBits) (hown : s.vm.findClass RX1 = some m.cls) (hts : ∀ w ∈ lw_all, w.before args s = true) (hK : va_K (dC, dI) vwCl [(cB, .byte)] s) (hml : c.maxLocals = 7) (hf1 : 1 ≤ R.frames) (hf2 : 13 ≤ R.locals) (hf3 : cells ≤ R.cells) (hf4 : slots ≤ R.slots) (hn : n ≤ 4096) (hk1 : 1 ≤ k) (hk : k ≤ 32) (hbi : bi < 8) (hq : 8 * bo + bi + k ≤ 8 * n) (kx : ∀ (v : Int32) (b i : Nat) (H : Heap) (locs : List Loc) (ls : Array Slot), br_Rd g (8 * bo + bi) k v → 8 * bo + bi + k = 8 * b + i → i < 8 → va_P (dC, dI) vwCl [(h0, .inr (1, [.ref h1, .int (nI b), .int (nI i)])), (h1, .inl (cB, n, .inl g))] H → va_D A [(h0, .inr (1, [.ref h1, .int (nI b), .int (nI i)])), (h1, .inl (cB, n, .inl g))] → va_S A s.heap H locs → lv_has ls 7 [(2, .int v)] → W p l e R s m args below meth c H locs cells slots Q (F0 m 223 ls [])) (H : Heap) (locs : List Loc) (ls : Array Slot) : va_P (dC, dI) vwCl [(h0, .inr (1, [.ref h1, .int (nI bo), .int (nI bi)])), (h1, .inl (cB, n, .inl g))] H → va_D A [(h0, .inr (1, [.ref h1, .int (nI bo), .int (nI bi)])), (h1, .inl (cB, n, .inl g))] → va_S A s.heap H locs → lv_has ls 7 [(0, .ref h0), (1, .int (nI k))] → W p l e R s m args below meth c H locs cells slots Q (F0 m 31 ls []) := by
  intro hP hD hS hl
  refine lv_iconst (v := nI 0) hx hb dX1_readBits_31 (by decide +kernel) ?_
  refine lv_istore_n (lv' := [(2, .int (nI 0)), (0, .ref h0), (1, .int (nI k))]) hx hb dX1_readBits_32 rfl hl (by decide) rfl (fun ls hl => ?_)
  refine lv_aload_n hx hb dX1_readBits_33 rfl (lv_at hl 1 rfl) ?_
  refine va_get (D := (dC, dI)) (ci := 1) (v := .int (nI bi)) (C := RX1) (T := TX1) (N := 3) hx hb hts in_X1 hown hK hP 0 rfl rfl 2 (by decide) (hts _ q33) (fun _ h9 => h9) rfl dX1_readBits_34 ?_
  refine lv_if_le (tgt := 131) hx hb dX1_readBits_37 (by decide) (fun c1 => ?_) (fun c1 => ?_)
  · have c1 := (br_le0 (by omega)).mp c1
    subst c1
    exact br_src_tail hx hb hown hts hK hn hk hq kx 0 bo 0 0 (by omega) (by omega) (by omega) (Or.inr rfl) (br_Rd_0 g _) H locs ls hP hD hS (lv_sub hl [1, 2, 0] rfl)
  · have c1 : 0 < bi := Nat.pos_of_ne_zero (fun z => c1 ((br_le0 (by omega)).mpr z))
    refine lv_bipush (v := nI 8) hx hb dX1_readBits_40 (by decide +kernel) ?_
    refine lv_aload_n hx hb dX1_readBits_42 rfl (lv_at hl 1 rfl) ?_
    refine va_get (D := (dC, dI)) (ci := 1) (v := .int (nI bi)) (C := RX1) (T := TX1) (N := 3) hx hb hts in_X1 hown hK hP 0 rfl rfl 2 (by decide) (hts _ q33) (fun _ h9 => h9) rfl dX1_readBits_43 ?_
    refine lv_isub hx hb dX1_readBits_46 ?_
    refine wk_as (nI (8 - bi)) (pk_sub (by omega)) ?_
    refine lv_istore_n (lv' := [(3, .int (nI (8 - bi))), (2, .int (nI 0)), (0, .ref h0), (1, .int (nI k))]) hx hb dX1_readBits_47 rfl hl (by decide) rfl (fun ls hl => ?_)
    refine lv_iload_n hx hb dX1_readBits_48 rfl (lv_at hl 3 rfl) ?_
    refine lv_iload_n hx hb dX1_readBits_49 rfl (lv_at hl 0 rfl) ?_
    obtain ⟨t, ht⟩ : ∃ t, t = min k (8 - bi) := ⟨_, rfl⟩
    have ht1 : 1 ≤ t ∧ t ≤ k ∧ t ≤ 8 - bi ∧ (t = k ∨ t = 8 - bi) := by omega
    obtain ⟨ht1, ht2, ht3, ht4⟩ := ht1
    refine va_mmin hx hb (hml.trans hl.1.symm) hown (hts _ q211) (hts _ q212) (hts _ q16) (hts _ q213) hf1 (by simpa using hf2) hf3 hf4 dX1_readBits_50 ?_
    refine wk_as (nI t) (br_min (by omega) (by omega) ht) ?_
    refine lv_istore (lv' := [(4, .int (nI t)), (3, .int (nI (8 - bi))), (2, .int (nI 0)), (0, .ref h0), (1, .int (nI k))]) hx hb dX1_readBits_53 hl (by decide) rfl (fun ls hl => ?_)
    refine lv_iload_n hx hb dX1_readBits_55 rfl (lv_at hl 1 rfl) ?_
    refine lv_iload hx hb dX1_readBits_56 (lv_at hl 0 rfl) ?_
    refine lv_isub hx hb dX1_readBits_58 ?_
    refine wk_as (nI (8 - bi - t)) (pk_sub (by omega)) ?_
    refine lv_istore (lv' := [(5, .int (nI (8 - bi - t))), (4, .int (nI t)), (3, .int (nI (8 - bi))), (2, .int (nI 0)), (0, .ref h0), (1, .int (nI k))]) hx hb dX1_readBits_59 hl (by decide) rfl (fun ls hl => ?_)
    refine lv_sipush (v := nI 255) hx hb dX1_readBits_61 (by decide +kernel) ?_
    refine lv_bipush (v := nI 8) hx hb dX1_readBits_64 (by decide +kernel) ?_
    refine lv_iload hx hb dX1_readBits_66 (lv_at hl 1 rfl) ?_
    refine lv_isub hx hb dX1_readBits_68 ?_
    refine wk_as (nI (8 - t)) (pk_sub (by omega)) ?_
    refine lv_ishr hx hb dX1_readBits_69 ?_
    refine lv_iload hx hb dX1_readBits_70 (lv_at hl 0 rfl) ?_
    refine lv_ishl hx hb dX1_readBits_72 ?_
    refine lv_istore (lv' := [(6, .int (((nI 255) >>> ((nI (8 - t)) &&& 31)) <<< ((nI (8 - bi - t)) &&& 31))), (5, .int (nI (8 - bi - t))), (4, .int (nI t)), (3, .int (nI (8 - bi))), (2, .int (nI 0)), (0, .ref h0), (1, .int (nI k))]) hx hb dX1_readBits_73 hl (by decide) rfl (fun ls hl => ?_)
    refine lv_aload_n hx hb dX1_readBits_75 rfl (lv_at hl 5 rfl) ?_
    refine va_get (D := (dC, dI)) (ci := 1) (v := .ref h1) (C := RX1) (T := TX1) (N := 3) hx hb hts in_X1 hown hK hP 0 rfl rfl 0 (by decide) (hts _ q31) (fun _ h9 => h9) rfl dX1_readBits_76 ?_
    refine lv_aload_n hx hb dX1_readBits_79 rfl (lv_at hl 5 rfl) ?_
    refine va_get (D := (dC, dI)) (ci := 1) (v := .int (nI bo)) (C := RX1) (T := TX1) (N := 3) hx hb hts in_X1 hown hK hP 0 rfl rfl 1 (by decide) (hts _ q32) (fun _ h9 => h9) rfl dX1_readBits_80 ?_
    refine wk_bald (i := bo) hx hb hK hP 1 0 rfl rfl (by omega) (by omega) dX1_readBits_83 ?_
    refine lv_iload hx hb dX1_readBits_84 (lv_at hl 0 rfl) ?_
    refine lv_iand hx hb dX1_readBits_86 ?_
    refine lv_iload hx hb dX1_readBits_87 (lv_at hl 1 rfl) ?_
    refine lv_ishr hx hb dX1_readBits_89 ?_
    refine lv_istore_n (lv' := [(2, .int (((g bo) &&& (((nI 255) >>> ((nI (8 - t)) &&& 31)) <<< ((nI (8 - bi - t)) &&& 31))) >>> ((nI (8 - bi - t)) &&& 31))), (6, .int (((nI 255) >>> ((nI (8 - t)) &&& 31)) <<< ((nI (8 - bi - t)) &&& 31))), (5, .int (nI (8 - bi - t))), (4, .int (nI t)), (3, .int (nI (8 - bi))), (0, .ref h0), (1, .int (nI k))]) hx hb dX1_readBits_90 rfl hl (by decide) rfl (fun ls hl => ?_)
    refine lv_iload_n hx hb dX1_readBits_91 rfl (lv_at hl 6 rfl) ?_
    refine lv_iload hx hb dX1_readBits_92 (lv_at hl 3 rfl) ?_
    refine lv_isub hx hb dX1_readBits_94 ?_
    refine wk_as (nI (k - t)) (pk_sub (by omega)) ?_
    refine lv_istore_n (lv' := [(1, .int (nI (k - t))), (2, .int (((g bo) &&& (((nI 255) >>> ((nI (8 - t)) &&& 31)) <<< ((nI (8 - bi - t)) &&& 31))) >>> ((nI (8 - bi - t)) &&& 31))), (6, .int (((nI 255) >>> ((nI (8 - t)) &&& 31)) <<< ((nI (8 - bi - t)) &&& 31))), (5, .int (nI (8 - bi - t))), (4, .int (nI t)), (3, .int (nI (8 - bi))), (0, .ref h0)]) hx hb dX1_readBits_95 rfl hl (by decide) rfl (fun ls hl => ?_)
    refine lv_aload_n hx hb dX1_readBits_96 rfl (lv_at hl 6 rfl) ?_
    refine lv_dup hx hb dX1_readBits_97 rfl ?_
    refine va_get (D := (dC, dI)) (ci := 1) (v := .int (nI bi)) (C := RX1) (T := TX1) (N := 3) hx hb hts in_X1 hown hK hP 0 rfl rfl 2 (by decide) (hts _ q33) (fun _ h9 => h9) rfl dX1_readBits_98 ?_
    refine lv_iload hx hb dX1_readBits_101 (lv_at hl 4 rfl) ?_
    refine lv_iadd hx hb dX1_readBits_103 ?_
    refine wk_as (nI (bi + t)) (nI_add bi t) ?_
    refine va_put (D := (dC, dI)) (ci := 1) (v := .int (nI (bi + t))) (ty := .int) (C := RX1) (T := TX1) (N := 3) hx hb hts in_X1 tyX1 tyX1_ok nmX1 hown hK hP hD hS 0 rfl rfl 2 (by decide) (hts _ q33) (fun _ h9 => h9) rfl (by decide +kernel) rfl rfl (Nat.le_of_ble_eq_true rfl) dX1_readBits_104 (fun H locs hP hD hS => ?_)
    have hP : va_P (dC, dI) vwCl [(h0, .inr (1, [.ref h1, .int (nI bo), .int (nI (bi + t))])), (h1, .inl (cB, n, .inl g))] H := hP
    have hD : va_D A [(h0, .inr (1, [.ref h1, .int (nI bo), .int (nI (bi + t))])), (h1, .inl (cB, n, .inl g))] := hD
    refine lv_aload_n hx hb dX1_readBits_107 rfl (lv_at hl 6 rfl) ?_
    refine va_get (D := (dC, dI)) (ci := 1) (v := .int (nI (bi + t))) (C := RX1) (T := TX1) (N := 3) hx hb hts in_X1 hown hK hP 0 rfl rfl 2 (by decide) (hts _ q33) (fun _ h9 => h9) rfl dX1_readBits_108 ?_
    refine lv_bipush (v := nI 8) hx hb dX1_readBits_111 (by decide +kernel) ?_
    have hr := br_Rd_first (g := g) (b := bo) (o := bi) (t := t) (by omega) hbi
    refine lv_icmp_ne (tgt := 131) hx hb dX1_readBits_113 (by decide) (fun c3 => ?_) (fun c3 => ?_)
    · have c3 : ¬ bi + t = 8 := fun z => c3 (by rw [z])
      exact br_src_tail hx hb hown hts hK hn hk hq kx t bo (bi + t) _ (by omega) (by omega) (by omega) (Or.inl (by omega)) hr H locs ls hP hD hS (lv_sub hl [6, 0, 1] rfl)
    · have c3 := (nI_eq (by omega) (by omega)).mp c3
      refine lv_aload_n hx hb dX1_readBits_116 rfl (lv_at hl 6 rfl) ?_
      refine lv_iconst (v := nI 0) hx hb dX1_readBits_117 (by decide +kernel) ?_
      refine va_put (D := (dC, dI)) (ci := 1) (v := .int (nI 0)) (ty := .int) (C := RX1) (T := TX1) (N := 3) hx hb hts in_X1 tyX1 tyX1_ok nmX1 hown hK hP hD hS 0 rfl rfl 2 (by decide) (hts _ q33) (fun _ h9 => h9) rfl (by decide +kernel) rfl rfl (Nat.le_of_ble_eq_true rfl) dX1_readBits_118 (fun H locs hP hD hS => ?_)
      have hP : va_P (dC, dI) vwCl [(h0, .inr (1, [.ref h1, .int (nI bo), .int (nI 0)])), (h1, .inl (cB, n, .inl g))] H := hP
      have hD : va_D A [(h0, .inr (1, [.ref h1, .int (nI bo), .int (nI 0)])), (h1, .inl (cB, n, .inl g))] := hD
      refine lv_aload_n hx hb dX1_readBits_121 rfl (lv_at hl 6 rfl) ?_
      refine lv_dup hx hb dX1_readBits_122 rfl ?_
      refine va_get (D := (dC, dI)) (ci := 1) (v := .int (nI bo)) (C := RX1) (T := TX1) (N := 3) hx hb hts in_X1 hown hK hP 0 rfl rfl 1 (by decide) (hts _ q32) (fun _ h9 => h9) rfl dX1_readBits_123 ?_
      refine lv_iconst (v := nI 1) hx hb dX1_readBits_126 (by decide +kernel) ?_
      refine lv_iadd hx hb dX1_readBits_127 ?_
      refine wk_as (nI (bo + 1)) (nI_add bo 1) ?_
      refine va_put (D := (dC, dI)) (ci := 1) (v := .int (nI (bo + 1))) (ty := .int) (C := RX1) (T := TX1) (N := 3) hx hb hts in_X1 tyX1 tyX1_ok nmX1 hown hK hP hD hS 0 rfl rfl 1 (by decide) (hts _ q32) (fun _ h9 => h9) rfl (by decide +kernel) rfl rfl (Nat.le_of_ble_eq_true rfl) dX1_readBits_128 (fun H locs hP hD hS => ?_)
      have hP : va_P (dC, dI) vwCl [(h0, .inr (1, [.ref h1, .int (nI (bo + 1)), .int (nI 0)])), (h1, .inl (cB, n, .inl g))] H := hP
      have hD : va_D A [(h0, .inr (1, [.ref h1, .int (nI (bo + 1)), .int (nI 0)])), (h1, .inl (cB, n, .inl g))] := hD
      exact br_src_tail hx hb hown hts hK hn hk hq kx t (bo + 1) 0 _ (by omega) (by omega) (by omega) (Or.inr rfl) hr H locs ls hP hD hS (lv_sub hl [6, 0, 1] rfl)
set_option maxHeartbeats 4000000 in
set_option maxRecDepth 100000 in
/-- readBits(k): the next k bits, and the places move on by k -/
theorem br_src_readBits (l : Launch) (dC : Nat → ClassId) (dI : Nat → Nat → Nat) (cB : ClassId) (sz : Nat) (h0 h1 : Nat) (n : Nat) (g : Nat → Int32) (bo bi k : Nat) (hn : n ≤ 4096) (hk1 : 1 ≤ k) (hk : k ≤ 32) (hbi : bi < 8) (hq : 8 * bo + bi + k ≤ 8 * n) : Met l yX1_readBits (ws_ yX1_readBits cX1_readBits 7 (some .int)) ({ frames := 1, cells := 0, slots := 0, locals := 21 }) (va_Pc [.ref h0, .int (nI k)] (br_Pre (dC, dI) cB [(h0, .inr (1, [.ref h1, .int (nI bo), .int (nI bi)])), (h1, .inl (cB, n, .inl g))] sz)) (va_Qi (fun (r : Int32) (_ : Unit) => br_Rd g (8 * bo + bi) k r) (fun (_ : Unit) => br_Out (dC, dI) cB (va_A [(h0, .inr (1, [.ref h1, .int (nI bo), .int (nI bi)])), (h1, .inl (cB, n, .inl g))] sz) [(h0, .inr (1, [.ref h1, .int (nI ((8 * bo + bi + k) / 8)), .int (nI ((8 * bo + bi + k) % 8))])), (h1, .inl (cB, n, .inl g))]) (va_A [(h0, .inr (1, [.ref h1, .int (nI bo), .int (nI bi)])), (h1, .inl (cB, n, .inl g))] sz)) 0 0 (va_A [(h0, .inr (1, [.ref h1, .int (nI bo), .int (nI bi)])), (h1, .inl (cB, n, .inl g))] sz) := by
  refine Met.ofW (cc := cX1_readBits) (maxL := 7) (ret := (some .int)) (by decide) rfl ?_
  intro p e s m args below meth c s₁ B hml hv
  obtain ⟨rfl, hsz, hP, hK, hD0⟩ := hv
  have hx := B.exec
  have hb := B.bytes
  have hr := B.returns
  have hts := atoms_spec (ws := ws_ yX1_readBits cX1_readBits 7 (some .int)) B.pre
  have hts : ∀ w ∈ lw_all, w.before _ s = true := fun w h => hts w (List.mem_cons_of_mem _ h)
  have hown : s.vm.findClass RX1 = some m.cls := findClass_of_methodNamed B.named
  have hlocks := B.notSynchronized
  subst hsz
  have hD := hD0.self (sz := s.heap.size)
  generalize hAe : va_A [(h0, .inr (1, [.ref h1, .int (nI bo), .int (nI bi)])), (h1, .inl (cB, n, .inl g))] s.heap.size = A at hD ⊢
  have hA : ∀ q : Nat, s.heap.size ≤ q → A q := fun q h => by rw [← hAe]; exact Or.inr h
  have hS : va_S A s.heap s.heap [] := va_S.rf
  have hl := lv_entry ([.ref h0, .int (nI k)]) (n := 7) (Nat.le_of_ble_eq_true rfl)
  rw [lg_entry_eq]
  generalize (lg_sl ([.ref h0, .int (nI k)]) ++ List.replicate (7 - (lg_sl ([.ref h0, .int (nI k)])).length) Slot.unset).toArray = ls at hl ⊢
  have hl : lv_has ls 7 [(0, .ref h0), (1, .int (nI k))] := hl
  refine lv_iload_n hx hb dX1_readBits_0 rfl (lv_at hl 1 rfl) ?_
  refine lv_iconst (v := nI 1) hx hb dX1_readBits_1 (by decide +kernel) ?_
  refine lv_icmp_lt (tgt := 19) hx hb dX1_readBits_2 (by decide) (fun c0 => ?_) (fun c0 => ?_)
  · exact absurd c0 (nI_nlt hk1 (by omega))
  refine lv_iload_n hx hb dX1_readBits_5 rfl (lv_at hl 1 rfl) ?_
  refine lv_bipush (v := nI 32) hx hb dX1_readBits_6 (by decide +kernel) ?_
  refine lv_icmp_gt (tgt := 19) hx hb dX1_readBits_8 (by decide) (fun c1 => ?_) (fun c1 => ?_)
  · exact absurd c1 (nI_nlt hk (by omega))
  refine lv_iload_n hx hb dX1_readBits_11 rfl (lv_at hl 1 rfl) ?_
  refine lv_aload_n hx hb dX1_readBits_12 rfl (lv_at hl 0 rfl) ?_
  have hPc := hP.sub (ws' := [(h0, .inr (1, [.ref h1, .int (nI bo), .int (nI bi)])), (h1, .inl (cB, n, .inl g))]) [0, 1] rfl
  have hDc := hD.sub (ws' := [(h0, .inr (1, [.ref h1, .int (nI bo), .int (nI bi)])), (h1, .inl (cB, n, .inl g))]) [0, 1] (by decide) rfl
  have hFc := va_free (wc := [(h0, .inr (1, [.ref h1, .int (nI bo), .int (nI bi)])), (h1, .inl (cB, n, .inl g))]) hD hS hA [0, 1] rfl
  refine va_calli (va_runV (As := []) (rest := [.int (nI k)]) ⟨hx, hb, hml, hown, hts⟩ (br_src_available l dC dI cB s.heap.size h0 h1 n g bo bi (by omega)) (cwV 0 hts (lw_V q94 q82 q83 q6 q84) rfl rfl rfl (by decide +kernel) ⟨Nat.le_of_ble_eq_true rfl, Nat.le_of_ble_eq_true rfl⟩) ⟨br_blind, va_recv hK hPc (ci := 1) (q0 := 0) rfl rfl, fun U hU hW => br_start hU hW hPc hK hDc⟩ rfl rfl hl.1 rfl (lv_room (Nat.le_of_ble_eq_true rfl)) dX1_readBits_13 ⟨Nat.le_of_ble_eq_true rfl, Nat.le_of_ble_eq_true rfl⟩) hS (fun q _ h => hFc q h) hFc (fun r_13 u t H1 locs ht hvm hw_13 hB hz9 hk9 hS => ?_)
  obtain ⟨hP1, hK1, hD1⟩ := hB
  rw [ht] at hP1
  obtain ⟨hP, hD⟩ := va_join (wr := []) (w1 := [(h0, .inr (1, [.ref h1, .int (nI bo), .int (nI bi)])), (h1, .inl (cB, n, .inl g))]) hP hD [0, 1] [] rfl rfl (by decide) (by decide) hk9 hFc hP1 hD1
  generalize H1 = H at hP hS ⊢
  have hP : va_P (dC, dI) vwCl [(h0, .inr (1, [.ref h1, .int (nI bo), .int (nI bi)])), (h1, .inl (cB, n, .inl g))] H := hP
  have hD : va_D A [(h0, .inr (1, [.ref h1, .int (nI bo), .int (nI bi)])), (h1, .inl (cB, n, .inl g))] := hD
  refine wk_as (nI (8 * n - (8 * bo + bi))) (hw_13) ?_
  refine lv_icmp_le (tgt := 31) hx hb dX1_readBits_16 (by decide) (fun c2 => ?_) (fun c2 => ?_)
  rotate_left
  · exact absurd (nI_le (by omega) (by omega)) c2
  refine br_src_body bo bi hx hb hown hts hK hml (Nat.le_of_ble_eq_true rfl) (Nat.le_of_ble_eq_true rfl) (Nat.le_of_ble_eq_true rfl) (Nat.le_of_ble_eq_true rfl) hn hk1 hk hbi hq (fun v b i H locs ls hv hbi2 hi hP hD hS hl => ?_) H locs ls hP hD hS hl
  have eb : b = (8 * bo + bi + k) / 8 := by omega
  have ei : i = (8 * bo + bi + k) % 8 := by omega
  subst eb
  subst ei
  refine lv_iload_n hx hb dX1_readBits_223 rfl (lv_at hl 0 rfl) ?_
  exact W.iret (v := v) hx hb hr (fun t ht hW => ⟨⟨v, (), rfl, hv, by rw [ht]; exact hP, va_K.moved hW.alike hK, hD⟩, hS.F ht⟩) hS.2.2 dX1_readBits_224
end
section
/-! BitReader: contracts. Its world: the object h0 (text h1, size n, source h2), the text f, the source h2 (bytes h3, bo, bi), the bytes g (k of them) -/
theorem br_bytb (w : Int32) (j : Nat) : (br_byt w j).toInt8.toInt32 = br_byt w j := br_bb _
set_option maxHeartbeats 4000000 in
set_option maxRecDepth 100000 in
/-- size -/
theorem br_rd_size (l : Launch) (dC : Nat → ClassId) (dI : Nat → Nat → Nat) (cB : ClassId) (sz : Nat) (h0 h1 h2 n : Nat) : Met l yX0_size (ws_ yX0_size cX0_size 1 (some .int)) ({ frames := 0, cells := 0, slots := 0, locals := 0 }) (va_Pc [.ref h0] (br_Pre (dC, dI) cB [(h0, .inr (0, [.ref h1, .int (nI n), .ref h2]))] sz)) (va_Qi (fun (r : Int32) (_ : Unit) => r = nI n) (fun (_ : Unit) => br_Out (dC, dI) cB (va_A [(h0, .inr (0, [.ref h1, .int (nI n), .ref h2]))] sz) [(h0, .inr (0, [.ref h1, .int (nI n), .ref h2]))]) (va_A [(h0, .inr (0, [.ref h1, .int (nI n), .ref h2]))] sz)) 0 0 (va_A [(h0, .inr (0, [.ref h1, .int (nI n), .ref h2]))] sz) := by
  refine Met.ofW (cc := cX0_size) (maxL := 1) (ret := (some .int)) (by decide) rfl ?_
  intro p e s m args below meth c s₁ B hml hv
  obtain ⟨rfl, hsz, hP, hK, hD0⟩ := hv
  have hx := B.exec
  have hb := B.bytes
  have hr := B.returns
  have hts := atoms_spec (ws := ws_ yX0_size cX0_size 1 (some .int)) B.pre
  have hts : ∀ w ∈ lw_all, w.before _ s = true := fun w h => hts w (List.mem_cons_of_mem _ h)
  have hown : s.vm.findClass RX0 = some m.cls := findClass_of_methodNamed B.named
  have hlocks := B.notSynchronized
  subst hsz
  have hD := hD0.self (sz := s.heap.size)
  generalize hAe : va_A [(h0, .inr (0, [.ref h1, .int (nI n), .ref h2]))] s.heap.size = A at hD ⊢
  have hA : ∀ q : Nat, s.heap.size ≤ q → A q := fun q h => by rw [← hAe]; exact Or.inr h
  have hS : va_S A s.heap s.heap [] := va_S.rf
  have hl := lv_entry ([.ref h0]) (n := 1) (Nat.le_of_ble_eq_true rfl)
  rw [lg_entry_eq]
  generalize (lg_sl ([.ref h0]) ++ List.replicate (1 - (lg_sl ([.ref h0])).length) Slot.unset).toArray = ls at hl ⊢
  have hl : lv_has ls 1 [(0, .ref h0)] := hl
  refine lv_aload_n hx hb dX0_size_0 rfl (lv_at hl 0 rfl) ?_
  refine va_get (D := (dC, dI)) (ci := 0) (v := .int (nI n)) (C := RX0) (T := TX0) (N := 3) hx hb hts in_X0 hown hK hP 0 rfl rfl 1 (by decide) (hts _ q43) (fun _ h9 => h9) rfl dX0_size_1 ?_
  exact W.iret (v := (nI n)) hx hb hr (fun t ht hW => ⟨⟨(nI n), (), rfl, rfl, by rw [ht]; exact hP, va_K.moved hW.alike hK, hD⟩, hS.F ht⟩) hS.2.2 dX0_size_4
set_option maxHeartbeats 4000000 in
set_option maxRecDepth 100000 in
/-- from -/
theorem br_rd_from (l : Launch) (dC : Nat → ClassId) (dI : Nat → Nat → Nat) (cB : ClassId) (sz : Nat) (h0 h1 h2 n : Nat) (a : Int32) (hn : n ≤ 4096) : Met l yX0_from (ws_ yX0_from cX0_from 2 (some .int)) ({ frames := 0, cells := 0, slots := 0, locals := 0 }) (va_Pc [.ref h0, .int a] (br_Pre (dC, dI) cB [(h0, .inr (0, [.ref h1, .int (nI n), .ref h2]))] sz)) (va_Qi (fun (r : Int32) (_ : Unit) => r = nI (br_trim a n)) (fun (_ : Unit) => br_Out (dC, dI) cB (va_A [(h0, .inr (0, [.ref h1, .int (nI n), .ref h2]))] sz) [(h0, .inr (0, [.ref h1, .int (nI n), .ref h2]))]) (va_A [(h0, .inr (0, [.ref h1, .int (nI n), .ref h2]))] sz)) 0 0 (va_A [(h0, .inr (0, [.ref h1, .int (nI n), .ref h2]))] sz) := by
  refine Met.ofW (cc := cX0_from) (maxL := 2) (ret := (some .int)) (by decide) rfl ?_
  intro p e s m args below meth c s₁ B hml hv
  obtain ⟨rfl, hsz, hP, hK, hD0⟩ := hv
  have hx := B.exec
  have hb := B.bytes
  have hr := B.returns
  have hts := atoms_spec (ws := ws_ yX0_from cX0_from 2 (some .int)) B.pre
  have hts : ∀ w ∈ lw_all, w.before _ s = true := fun w h => hts w (List.mem_cons_of_mem _ h)
  have hown : s.vm.findClass RX0 = some m.cls := findClass_of_methodNamed B.named
  have hlocks := B.notSynchronized
  subst hsz
  have hD := hD0.self (sz := s.heap.size)
  generalize hAe : va_A [(h0, .inr (0, [.ref h1, .int (nI n), .ref h2]))] s.heap.size = A at hD ⊢
  have hA : ∀ q : Nat, s.heap.size ≤ q → A q := fun q h => by rw [← hAe]; exact Or.inr h
  have hS : va_S A s.heap s.heap [] := va_S.rf
  have hl := lv_entry ([.ref h0, .int a]) (n := 2) (Nat.le_of_ble_eq_true rfl)
  rw [lg_entry_eq]
  generalize (lg_sl ([.ref h0, .int a]) ++ List.replicate (2 - (lg_sl ([.ref h0, .int a])).length) Slot.unset).toArray = ls at hl ⊢
  have hl : lv_has ls 2 [(0, .ref h0), (1, .int a)] := hl
  refine lv_iload_n hx hb dX0_from_0 rfl (lv_at hl 1 rfl) ?_
  refine lv_ldc hx hb hown (hts _ q68) dX0_from_1 ?_
  refine lv_iand hx hb dX0_from_3 ?_
  refine wk_as (nI (a.toBitVec.toNat % 2 ^ 31)) (br_and31 a) ?_
  refine lv_aload_n hx hb dX0_from_4 rfl (lv_at hl 0 rfl) ?_
  refine va_get (D := (dC, dI)) (ci := 0) (v := .int (nI n)) (C := RX0) (T := TX0) (N := 3) hx hb hts in_X0 hown hK hP 0 rfl rfl 1 (by decide) (hts _ q43) (fun _ h9 => h9) rfl dX0_from_5 ?_
  refine lv_iconst (v := nI 1) hx hb dX0_from_8 (by decide +kernel) ?_
  refine lv_iadd hx hb dX0_from_9 ?_
  refine wk_as (nI (n + 1)) (nI_add n 1) ?_
  refine lv_irem hx hb dX0_from_10 (nI_ne0 (by omega) (by omega)) ?_
  refine wk_as (nI (br_trim a n)) (br_rem a hn) ?_
  exact W.iret (v := (nI (br_trim a n))) hx hb hr (fun t ht hW => ⟨⟨(nI (br_trim a n)), (), rfl, rfl, by rw [ht]; exact hP, va_K.moved hW.alike hK, hD⟩, hS.F ht⟩) hS.2.2 dX0_from_11
set_option maxHeartbeats 4000000 in
set_option maxRecDepth 100000 in
/-- trim -/
theorem br_rd_trim (l : Launch) (dC : Nat → ClassId) (dI : Nat → Nat → Nat) (cB : ClassId) (sz : Nat) (h0 h1 h2 n : Nat) (a : Int32) (hn : n ≤ 4096) : Met l yX0_trim (ws_ yX0_trim cX0_trim 2 none) ({ frames := 1, cells := 0, slots := 0, locals := 21 }) (va_Pc [.ref h0, .int a] (br_Pre (dC, dI) cB [(h0, .inr (0, [.ref h1, .int (nI n), .ref h2]))] sz)) (va_Qv (fun (_ : Unit) => True) (fun (_ : Unit) => br_Out (dC, dI) cB (va_A [(h0, .inr (0, [.ref h1, .int (nI n), .ref h2]))] sz) [(h0, .inr (0, [.ref h1, .int (nI (br_trim a n)), .ref h2]))]) (va_A [(h0, .inr (0, [.ref h1, .int (nI n), .ref h2]))] sz)) 0 0 (va_A [(h0, .inr (0, [.ref h1, .int (nI n), .ref h2]))] sz) := by
  refine Met.ofW (cc := cX0_trim) (maxL := 2) (ret := none) (by decide) rfl ?_
  intro p e s m args below meth c s₁ B hml hv
  obtain ⟨rfl, hsz, hP, hK, hD0⟩ := hv
  have hx := B.exec
  have hb := B.bytes
  have hr := B.returns
  have hts := atoms_spec (ws := ws_ yX0_trim cX0_trim 2 none) B.pre
  have hts : ∀ w ∈ lw_all, w.before _ s = true := fun w h => hts w (List.mem_cons_of_mem _ h)
  have hown : s.vm.findClass RX0 = some m.cls := findClass_of_methodNamed B.named
  have hlocks := B.notSynchronized
  subst hsz
  have hD := hD0.self (sz := s.heap.size)
  generalize hAe : va_A [(h0, .inr (0, [.ref h1, .int (nI n), .ref h2]))] s.heap.size = A at hD ⊢
  have hA : ∀ q : Nat, s.heap.size ≤ q → A q := fun q h => by rw [← hAe]; exact Or.inr h
  have hS : va_S A s.heap s.heap [] := va_S.rf
  have hl := lv_entry ([.ref h0, .int a]) (n := 2) (Nat.le_of_ble_eq_true rfl)
  rw [lg_entry_eq]
  generalize (lg_sl ([.ref h0, .int a]) ++ List.replicate (2 - (lg_sl ([.ref h0, .int a])).length) Slot.unset).toArray = ls at hl ⊢
  have hl : lv_has ls 2 [(0, .ref h0), (1, .int a)] := hl
  refine lv_aload_n hx hb dX0_trim_0 rfl (lv_at hl 0 rfl) ?_
  refine lv_aload_n hx hb dX0_trim_1 rfl (lv_at hl 0 rfl) ?_
  refine lv_iload_n hx hb dX0_trim_2 rfl (lv_at hl 1 rfl) ?_
  have hPc := hP.sub (ws' := [(h0, .inr (0, [.ref h1, .int (nI n), .ref h2]))]) [0] rfl
  have hDc := hD.sub (ws' := [(h0, .inr (0, [.ref h1, .int (nI n), .ref h2]))]) [0] (by decide) rfl
  have hFc := va_free (wc := [(h0, .inr (0, [.ref h1, .int (nI n), .ref h2]))]) hD hS hA [0] rfl
  refine va_calli (va_runV (As := [.int a]) (rest := [.ref h0]) ⟨hx, hb, hml, hown, hts⟩ (br_rd_from l dC dI cB s.heap.size h0 h1 h2 n a hn) (cwV 1 hts (lw_V q64 q66 qs1 q5 q67) rfl rfl rfl (by decide +kernel) ⟨Nat.le_of_ble_eq_true rfl, Nat.le_of_ble_eq_true rfl⟩) ⟨br_blind, va_recv hK hPc (ci := 0) (q0 := 0) rfl rfl, fun U hU hW => br_start hU hW hPc hK hDc⟩ rfl rfl hl.1 rfl (lv_room (Nat.le_of_ble_eq_true rfl)) dX0_trim_3 ⟨Nat.le_of_ble_eq_true rfl, Nat.le_of_ble_eq_true rfl⟩) hS (fun q _ h => hFc q h) hFc (fun r_3 u t H1 locs ht hvm hw_3 hB hz9 hk9 hS => ?_)
  obtain ⟨hP1, hK1, hD1⟩ := hB
  rw [ht] at hP1
  obtain ⟨hP, hD⟩ := va_join (wr := []) (w1 := [(h0, .inr (0, [.ref h1, .int (nI n), .ref h2]))]) hP hD [0] [] rfl rfl (by decide) (by decide) hk9 hFc hP1 hD1
  generalize H1 = H at hP hS ⊢
  have hP : va_P (dC, dI) vwCl [(h0, .inr (0, [.ref h1, .int (nI n), .ref h2]))] H := hP
  have hD : va_D A [(h0, .inr (0, [.ref h1, .int (nI n), .ref h2]))] := hD
  refine wk_as (nI (br_trim a n)) (hw_3) ?_
  refine va_put (D := (dC, dI)) (ci := 0) (v := .int (nI (br_trim a n))) (ty := .int) (C := RX0) (T := TX0) (N := 3) hx hb hts in_X0 tyX0 tyX0_ok nmX0 hown hK hP hD hS 0 rfl rfl 1 (by decide) (hts _ q43) (fun _ h9 => h9) rfl (by decide +kernel) rfl rfl (Nat.le_of_ble_eq_true rfl) dX0_trim_6 (fun H locs hP hD hS => ?_)
  have hP : va_P (dC, dI) vwCl [(h0, .inr (0, [.ref h1, .int (nI (br_trim a n)), .ref h2]))] H := hP
  have hD : va_D A [(h0, .inr (0, [.ref h1, .int (nI (br_trim a n)), .ref h2]))] := hD
  exact W.vret hx hb hr (fun t ht hW => ⟨⟨(), rfl, trivial, by rw [ht]; exact hP, va_K.moved hW.alike hK, hD⟩, hS.F ht⟩) hS.2.2 dX0_trim_9
set_option maxHeartbeats 4000000 in
set_option maxRecDepth 100000 in
/-- word(q, a): four bytes of the text -/
theorem br_rd_word (l : Launch) (dC : Nat → ClassId) (dI : Nat → Nat → Nat) (cB : ClassId) (sz : Nat) (h0 h1 h2 n : Nat) (f : Nat → Int32) (q : Nat) (a : Int32) (hq : q + 4 ≤ 4096) : Met l yX0_word (ws_ yX0_word cX0_word 3 none) ({ frames := 0, cells := 0, slots := 0, locals := 0 }) (va_Pc [.ref h0, .int (nI q), .int a] (br_Pre (dC, dI) cB [(h0, .inr (0, [.ref h1, .int (nI n), .ref h2])), (h1, .inl (cB, 4096, .inl f))] sz)) (va_Qv (fun (_ : Unit) => True) (fun (_ : Unit) => br_Out (dC, dI) cB (va_A [(h0, .inr (0, [.ref h1, .int (nI n), .ref h2])), (h1, .inl (cB, 4096, .inl f))] sz) [(h0, .inr (0, [.ref h1, .int (nI n), .ref h2])), (h1, .inl (cB, 4096, .inl (br_word f q a)))]) (va_A [(h0, .inr (0, [.ref h1, .int (nI n), .ref h2])), (h1, .inl (cB, 4096, .inl f))] sz)) 0 0 (va_A [(h0, .inr (0, [.ref h1, .int (nI n), .ref h2])), (h1, .inl (cB, 4096, .inl f))] sz) := by
  refine Met.ofW (cc := cX0_word) (maxL := 3) (ret := none) (by decide) rfl ?_
  intro p e s m args below meth c s₁ B hml hv
  obtain ⟨rfl, hsz, hP, hK, hD0⟩ := hv
  have hx := B.exec
  have hb := B.bytes
  have hr := B.returns
  have hts := atoms_spec (ws := ws_ yX0_word cX0_word 3 none) B.pre
  have hts : ∀ w ∈ lw_all, w.before _ s = true := fun w h => hts w (List.mem_cons_of_mem _ h)
  have hown : s.vm.findClass RX0 = some m.cls := findClass_of_methodNamed B.named
  have hlocks := B.notSynchronized
  subst hsz
  have hD := hD0.self (sz := s.heap.size)
  generalize hAe : va_A [(h0, .inr (0, [.ref h1, .int (nI n), .ref h2])), (h1, .inl (cB, 4096, .inl f))] s.heap.size = A at hD ⊢
  have hA : ∀ q : Nat, s.heap.size ≤ q → A q := fun q h => by rw [← hAe]; exact Or.inr h
  have hS : va_S A s.heap s.heap [] := va_S.rf
  have hl := lv_entry ([.ref h0, .int (nI q), .int a]) (n := 3) (Nat.le_of_ble_eq_true rfl)
  rw [lg_entry_eq]
  generalize (lg_sl ([.ref h0, .int (nI q), .int a]) ++ List.replicate (3 - (lg_sl ([.ref h0, .int (nI q), .int a])).length) Slot.unset).toArray = ls at hl ⊢
  have hl : lv_has ls 3 [(0, .ref h0), (1, .int (nI q)), (2, .int a)] := hl
  refine lv_aload_n hx hb dX0_word_0 rfl (lv_at hl 0 rfl) ?_
  refine va_get (D := (dC, dI)) (ci := 0) (v := .ref h1) (C := RX0) (T := TX0) (N := 3) hx hb hts in_X0 hown hK hP 0 rfl rfl 0 (by decide) (hts _ q42) (fun _ h9 => h9) rfl dX0_word_1 ?_
  refine lv_iload_n hx hb dX0_word_4 rfl (lv_at hl 1 rfl) ?_
  refine lv_iload_n hx hb dX0_word_5 rfl (lv_at hl 2 rfl) ?_
  refine lv_bipush (v := nI 24) hx hb dX0_word_6 (by decide +kernel) ?_
  refine lv_ishr hx hb dX0_word_8 ?_
  refine lv_i2b (v := br_byt a 0) hx hb dX0_word_9 (rfl) ?_
  refine wk_bast (i := q) (g := upd f q (br_byt a 0)) hx hb hK hP hD hS 1 0 rfl rfl (by omega) (by omega) (by rw [br_bytb]) dX0_word_10 (fun H locs hP hD hS => ?_)
  have hP : va_P (dC, dI) vwCl [(h0, .inr (0, [.ref h1, .int (nI n), .ref h2])), (h1, .inl (cB, 4096, .inl (upd f q (br_byt a 0))))] H := hP
  have hD : va_D A [(h0, .inr (0, [.ref h1, .int (nI n), .ref h2])), (h1, .inl (cB, 4096, .inl (upd f q (br_byt a 0))))] := hD
  refine lv_aload_n hx hb dX0_word_11 rfl (lv_at hl 0 rfl) ?_
  refine va_get (D := (dC, dI)) (ci := 0) (v := .ref h1) (C := RX0) (T := TX0) (N := 3) hx hb hts in_X0 hown hK hP 0 rfl rfl 0 (by decide) (hts _ q42) (fun _ h9 => h9) rfl dX0_word_12 ?_
  refine lv_iload_n hx hb dX0_word_15 rfl (lv_at hl 1 rfl) ?_
  refine lv_iconst (v := nI 1) hx hb dX0_word_16 (by decide +kernel) ?_
  refine lv_iadd hx hb dX0_word_17 ?_
  refine wk_as (nI (q + 1)) (nI_add q 1) ?_
  refine lv_iload_n hx hb dX0_word_18 rfl (lv_at hl 2 rfl) ?_
  refine lv_bipush (v := nI 16) hx hb dX0_word_19 (by decide +kernel) ?_
  refine lv_ishr hx hb dX0_word_21 ?_
  refine lv_i2b (v := br_byt a 1) hx hb dX0_word_22 (rfl) ?_
  refine wk_bast (i := q + 1) (g := upd (upd f q (br_byt a 0)) (q + 1) (br_byt a 1)) hx hb hK hP hD hS 1 0 rfl rfl (by omega) (by omega) (by rw [br_bytb]) dX0_word_23 (fun H locs hP hD hS => ?_)
  have hP : va_P (dC, dI) vwCl [(h0, .inr (0, [.ref h1, .int (nI n), .ref h2])), (h1, .inl (cB, 4096, .inl (upd (upd f q (br_byt a 0)) (q + 1) (br_byt a 1))))] H := hP
  have hD : va_D A [(h0, .inr (0, [.ref h1, .int (nI n), .ref h2])), (h1, .inl (cB, 4096, .inl (upd (upd f q (br_byt a 0)) (q + 1) (br_byt a 1))))] := hD
  refine lv_aload_n hx hb dX0_word_24 rfl (lv_at hl 0 rfl) ?_
  refine va_get (D := (dC, dI)) (ci := 0) (v := .ref h1) (C := RX0) (T := TX0) (N := 3) hx hb hts in_X0 hown hK hP 0 rfl rfl 0 (by decide) (hts _ q42) (fun _ h9 => h9) rfl dX0_word_25 ?_
  refine lv_iload_n hx hb dX0_word_28 rfl (lv_at hl 1 rfl) ?_
  refine lv_iconst (v := nI 2) hx hb dX0_word_29 (by decide +kernel) ?_
  refine lv_iadd hx hb dX0_word_30 ?_
  refine wk_as (nI (q + 2)) (nI_add q 2) ?_
  refine lv_iload_n hx hb dX0_word_31 rfl (lv_at hl 2 rfl) ?_
  refine lv_bipush (v := nI 8) hx hb dX0_word_32 (by decide +kernel) ?_
  refine lv_ishr hx hb dX0_word_34 ?_
  refine lv_i2b (v := br_byt a 2) hx hb dX0_word_35 (rfl) ?_
  refine wk_bast (i := q + 2) (g := upd (upd (upd f q (br_byt a 0)) (q + 1) (br_byt a 1)) (q + 2) (br_byt a 2)) hx hb hK hP hD hS 1 0 rfl rfl (by omega) (by omega) (by rw [br_bytb]) dX0_word_36 (fun H locs hP hD hS => ?_)
  have hP : va_P (dC, dI) vwCl [(h0, .inr (0, [.ref h1, .int (nI n), .ref h2])), (h1, .inl (cB, 4096, .inl (upd (upd (upd f q (br_byt a 0)) (q + 1) (br_byt a 1)) (q + 2) (br_byt a 2))))] H := hP
  have hD : va_D A [(h0, .inr (0, [.ref h1, .int (nI n), .ref h2])), (h1, .inl (cB, 4096, .inl (upd (upd (upd f q (br_byt a 0)) (q + 1) (br_byt a 1)) (q + 2) (br_byt a 2))))] := hD
  refine lv_aload_n hx hb dX0_word_37 rfl (lv_at hl 0 rfl) ?_
  refine va_get (D := (dC, dI)) (ci := 0) (v := .ref h1) (C := RX0) (T := TX0) (N := 3) hx hb hts in_X0 hown hK hP 0 rfl rfl 0 (by decide) (hts _ q42) (fun _ h9 => h9) rfl dX0_word_38 ?_
  refine lv_iload_n hx hb dX0_word_41 rfl (lv_at hl 1 rfl) ?_
  refine lv_iconst (v := nI 3) hx hb dX0_word_42 (by decide +kernel) ?_
  refine lv_iadd hx hb dX0_word_43 ?_
  refine wk_as (nI (q + 3)) (nI_add q 3) ?_
  refine lv_iload_n hx hb dX0_word_44 rfl (lv_at hl 2 rfl) ?_
  refine lv_i2b (v := br_byt a 3) hx hb dX0_word_45 (br_byt3 a) ?_
  refine wk_bast (i := q + 3) (g := upd (upd (upd (upd f q (br_byt a 0)) (q + 1) (br_byt a 1)) (q + 2) (br_byt a 2)) (q + 3) (br_byt a 3)) hx hb hK hP hD hS 1 0 rfl rfl (by omega) (by omega) (by rw [br_bytb]) dX0_word_46 (fun H locs hP hD hS => ?_)
  have hP : va_P (dC, dI) vwCl [(h0, .inr (0, [.ref h1, .int (nI n), .ref h2])), (h1, .inl (cB, 4096, .inl (upd (upd (upd (upd f q (br_byt a 0)) (q + 1) (br_byt a 1)) (q + 2) (br_byt a 2)) (q + 3) (br_byt a 3))))] H := hP
  have hD : va_D A [(h0, .inr (0, [.ref h1, .int (nI n), .ref h2])), (h1, .inl (cB, 4096, .inl (upd (upd (upd (upd f q (br_byt a 0)) (q + 1) (br_byt a 1)) (q + 2) (br_byt a 2)) (q + 3) (br_byt a 3))))] := hD
  exact W.vret hx hb hr (fun t ht hW => ⟨⟨(), rfl, trivial, by rw [ht]; exact hP, va_K.moved hW.alike hK, hD⟩, hS.F ht⟩) hS.2.2 dX0_word_47
set_option maxHeartbeats 4000000 in
set_option maxRecDepth 100000 in
/-- put, no room -/
theorem br_rd_put_no (l : Launch) (dC : Nat → ClassId) (dI : Nat → Nat → Nat) (cB : ClassId) (sz : Nat) (h0 h1 h2 n : Nat) (f : Nat → Int32) (a1 a2 a3 a4 : Int32) (hn : n ≤ 4096) (hn2 : 4080 < n) : Met l yX0_put (ws_ yX0_put cX0_put 5 (some .boolean)) ({ frames := 1, cells := 0, slots := 0, locals := 22 }) (va_Pc [.ref h0, .int a1, .int a2, .int a3, .int a4] (br_Pre (dC, dI) cB [(h0, .inr (0, [.ref h1, .int (nI n), .ref h2])), (h1, .inl (cB, 4096, .inl f))] sz)) (va_Qi (fun (r : Int32) (_ : Unit) => r = nI 0) (fun (_ : Unit) => br_Out (dC, dI) cB (va_A [(h0, .inr (0, [.ref h1, .int (nI n), .ref h2])), (h1, .inl (cB, 4096, .inl f))] sz) [(h0, .inr (0, [.ref h1, .int (nI n), .ref h2])), (h1, .inl (cB, 4096, .inl f))]) (va_A [(h0, .inr (0, [.ref h1, .int (nI n), .ref h2])), (h1, .inl (cB, 4096, .inl f))] sz)) 0 0 (va_A [(h0, .inr (0, [.ref h1, .int (nI n), .ref h2])), (h1, .inl (cB, 4096, .inl f))] sz) := by
  refine Met.ofW (cc := cX0_put) (maxL := 5) (ret := (some .boolean)) (by decide) rfl ?_
  intro p e s m args below meth c s₁ B hml hv
  obtain ⟨rfl, hsz, hP, hK, hD0⟩ := hv
  have hx := B.exec
  have hb := B.bytes
  have hr := B.returns
  have hts := atoms_spec (ws := ws_ yX0_put cX0_put 5 (some .boolean)) B.pre
  have hts : ∀ w ∈ lw_all, w.before _ s = true := fun w h => hts w (List.mem_cons_of_mem _ h)
  have hown : s.vm.findClass RX0 = some m.cls := findClass_of_methodNamed B.named
  have hlocks := B.notSynchronized
  subst hsz
  have hD := hD0.self (sz := s.heap.size)
  generalize hAe : va_A [(h0, .inr (0, [.ref h1, .int (nI n), .ref h2])), (h1, .inl (cB, 4096, .inl f))] s.heap.size = A at hD ⊢
  have hA : ∀ q : Nat, s.heap.size ≤ q → A q := fun q h => by rw [← hAe]; exact Or.inr h
  have hS : va_S A s.heap s.heap [] := va_S.rf
  have hl := lv_entry ([.ref h0, .int a1, .int a2, .int a3, .int a4]) (n := 5) (Nat.le_of_ble_eq_true rfl)
  rw [lg_entry_eq]
  generalize (lg_sl ([.ref h0, .int a1, .int a2, .int a3, .int a4]) ++ List.replicate (5 - (lg_sl ([.ref h0, .int a1, .int a2, .int a3, .int a4])).length) Slot.unset).toArray = ls at hl ⊢
  have hl : lv_has ls 5 [(0, .ref h0), (1, .int a1), (2, .int a2), (3, .int a3), (4, .int a4)] := hl
  refine lv_aload_n hx hb dX0_put_0 rfl (lv_at hl 0 rfl) ?_
  refine va_get (D := (dC, dI)) (ci := 0) (v := .int (nI n)) (C := RX0) (T := TX0) (N := 3) hx hb hts in_X0 hown hK hP 0 rfl rfl 1 (by decide) (hts _ q43) (fun _ h9 => h9) rfl dX0_put_1 ?_
  refine lv_aload_n hx hb dX0_put_4 rfl (lv_at hl 0 rfl) ?_
  refine va_get (D := (dC, dI)) (ci := 0) (v := .ref h1) (C := RX0) (T := TX0) (N := 3) hx hb hts in_X0 hown hK hP 0 rfl rfl 0 (by decide) (hts _ q42) (fun _ h9 => h9) rfl dX0_put_5 ?_
  refine va_alen (v := nI 4096) hx hb hK hP 1 0 rfl rfl rfl dX0_put_8 ?_
  refine lv_bipush (v := nI 16) hx hb dX0_put_9 (by decide +kernel) ?_
  refine lv_isub hx hb dX0_put_11 ?_
  refine wk_as (nI 4080) (by decide +kernel) ?_
  refine lv_icmp_le (tgt := 17) hx hb dX0_put_12 (by decide) (fun c1 => ?_) (fun c1 => ?_)
  · exact absurd ((nI_leI (by omega) (by omega)).mp c1) (by omega)
  refine lv_iconst (v := nI 0) hx hb dX0_put_15 (by decide +kernel) ?_
  exact W.zret (v := (nI 0)) hx hb hr rfl (fun t ht hW => ⟨⟨(nI 0), (), rfl, rfl, by rw [ht]; exact hP, va_K.moved hW.alike hK, hD⟩, hS.F ht⟩) hS.2.2 dX0_put_16
set_option maxHeartbeats 4000000 in
set_option maxRecDepth 100000 in
/-- put: sixteen bytes of the text -/
theorem br_rd_put (l : Launch) (dC : Nat → ClassId) (dI : Nat → Nat → Nat) (cB : ClassId) (sz : Nat) (h0 h1 h2 n : Nat) (f : Nat → Int32) (a1 a2 a3 a4 : Int32) (hn : n ≤ 4080) : Met l yX0_put (ws_ yX0_put cX0_put 5 (some .boolean)) ({ frames := 1, cells := 0, slots := 0, locals := 22 }) (va_Pc [.ref h0, .int a1, .int a2, .int a3, .int a4] (br_Pre (dC, dI) cB [(h0, .inr (0, [.ref h1, .int (nI n), .ref h2])), (h1, .inl (cB, 4096, .inl f))] sz)) (va_Qi (fun (r : Int32) (_ : Unit) => r = nI 1) (fun (_ : Unit) => br_Out (dC, dI) cB (va_A [(h0, .inr (0, [.ref h1, .int (nI n), .ref h2])), (h1, .inl (cB, 4096, .inl f))] sz) [(h0, .inr (0, [.ref h1, .int (nI (n + 16)), .ref h2])), (h1, .inl (cB, 4096, .inl (br_put f n a1 a2 a3 a4 16)))]) (va_A [(h0, .inr (0, [.ref h1, .int (nI n), .ref h2])), (h1, .inl (cB, 4096, .inl f))] sz)) 0 0 (va_A [(h0, .inr (0, [.ref h1, .int (nI n), .ref h2])), (h1, .inl (cB, 4096, .inl f))] sz) := by
  refine Met.ofW (cc := cX0_put) (maxL := 5) (ret := (some .boolean)) (by decide) rfl ?_
  intro p e s m args below meth c s₁ B hml hv
  obtain ⟨rfl, hsz, hP, hK, hD0⟩ := hv
  have hx := B.exec
  have hb := B.bytes
  have hr := B.returns
  have hts := atoms_spec (ws := ws_ yX0_put cX0_put 5 (some .boolean)) B.pre
  have hts : ∀ w ∈ lw_all, w.before _ s = true := fun w h => hts w (List.mem_cons_of_mem _ h)
  have hown : s.vm.findClass RX0 = some m.cls := findClass_of_methodNamed B.named
  have hlocks := B.notSynchronized
  subst hsz
  have hD := hD0.self (sz := s.heap.size)
  generalize hAe : va_A [(h0, .inr (0, [.ref h1, .int (nI n), .ref h2])), (h1, .inl (cB, 4096, .inl f))] s.heap.size = A at hD ⊢
  have hA : ∀ q : Nat, s.heap.size ≤ q → A q := fun q h => by rw [← hAe]; exact Or.inr h
  have hS : va_S A s.heap s.heap [] := va_S.rf
  have hl := lv_entry ([.ref h0, .int a1, .int a2, .int a3, .int a4]) (n := 5) (Nat.le_of_ble_eq_true rfl)
  rw [lg_entry_eq]
  generalize (lg_sl ([.ref h0, .int a1, .int a2, .int a3, .int a4]) ++ List.replicate (5 - (lg_sl ([.ref h0, .int a1, .int a2, .int a3, .int a4])).length) Slot.unset).toArray = ls at hl ⊢
  have hl : lv_has ls 5 [(0, .ref h0), (1, .int a1), (2, .int a2), (3, .int a3), (4, .int a4)] := hl
  refine lv_aload_n hx hb dX0_put_0 rfl (lv_at hl 0 rfl) ?_
  refine va_get (D := (dC, dI)) (ci := 0) (v := .int (nI n)) (C := RX0) (T := TX0) (N := 3) hx hb hts in_X0 hown hK hP 0 rfl rfl 1 (by decide) (hts _ q43) (fun _ h9 => h9) rfl dX0_put_1 ?_
  refine lv_aload_n hx hb dX0_put_4 rfl (lv_at hl 0 rfl) ?_
  refine va_get (D := (dC, dI)) (ci := 0) (v := .ref h1) (C := RX0) (T := TX0) (N := 3) hx hb hts in_X0 hown hK hP 0 rfl rfl 0 (by decide) (hts _ q42) (fun _ h9 => h9) rfl dX0_put_5 ?_
  refine va_alen (v := nI 4096) hx hb hK hP 1 0 rfl rfl rfl dX0_put_8 ?_
  refine lv_bipush (v := nI 16) hx hb dX0_put_9 (by decide +kernel) ?_
  refine lv_isub hx hb dX0_put_11 ?_
  refine wk_as (nI 4080) (by decide +kernel) ?_
  refine lv_icmp_le (tgt := 17) hx hb dX0_put_12 (by decide) (fun c1 => ?_) (fun c1 => ?_)
  rotate_left
  · exact absurd ((nI_leI (by omega) (by omega)).mpr hn) c1
  refine lv_aload_n hx hb dX0_put_17 rfl (lv_at hl 0 rfl) ?_
  refine lv_aload_n hx hb dX0_put_18 rfl (lv_at hl 0 rfl) ?_
  refine va_get (D := (dC, dI)) (ci := 0) (v := .int (nI n)) (C := RX0) (T := TX0) (N := 3) hx hb hts in_X0 hown hK hP 0 rfl rfl 1 (by decide) (hts _ q43) (fun _ h9 => h9) rfl dX0_put_19 ?_
  refine lv_iload_n hx hb dX0_put_22 rfl (lv_at hl 1 rfl) ?_
  have hPc := hP.sub (ws' := [(h0, .inr (0, [.ref h1, .int (nI n), .ref h2])), (h1, .inl (cB, 4096, .inl f))]) [0, 1] rfl
  have hDc := hD.sub (ws' := [(h0, .inr (0, [.ref h1, .int (nI n), .ref h2])), (h1, .inl (cB, 4096, .inl f))]) [0, 1] (by decide) rfl
  have hFc := va_free (wc := [(h0, .inr (0, [.ref h1, .int (nI n), .ref h2])), (h1, .inl (cB, 4096, .inl f))]) hD hS hA [0, 1] rfl
  refine va_callv (va_runV (As := [.int (nI n), .int a1]) (rest := []) ⟨hx, hb, hml, hown, hts⟩ (br_rd_word l dC dI cB _ h0 h1 h2 n f n a1 (by omega)) (cwV 2 hts (lw_V q56 q58 qs0 q5 q59) rfl rfl rfl (by decide +kernel) ⟨Nat.le_of_ble_eq_true rfl, Nat.le_of_ble_eq_true rfl⟩) ⟨br_blind, va_recv hK hPc (ci := 0) (q0 := 0) rfl rfl, fun U hU hW => br_start hU hW hPc hK hDc⟩ rfl rfl hl.1 rfl (lv_room (Nat.le_of_ble_eq_true rfl)) dX0_put_23 ⟨Nat.le_of_ble_eq_true rfl, Nat.le_of_ble_eq_true rfl⟩) hS (fun q _ h => hFc q h) hFc (fun u t H1 locs ht hvm hw_23 hB hz9 hk9 hS => ?_)
  obtain ⟨hP1, hK1, hD1⟩ := hB
  rw [ht] at hP1
  obtain ⟨hP, hD⟩ := va_join (wr := []) (w1 := [(h0, .inr (0, [.ref h1, .int (nI n), .ref h2])), (h1, .inl (cB, 4096, .inl (br_word f n a1)))]) hP hD [0, 1] [] rfl rfl (by decide) (by decide) hk9 hFc hP1 hD1
  generalize H1 = H at hP hS ⊢
  have hP : va_P (dC, dI) vwCl [(h0, .inr (0, [.ref h1, .int (nI n), .ref h2])), (h1, .inl (cB, 4096, .inl (br_word f n a1)))] H := hP
  have hD : va_D A [(h0, .inr (0, [.ref h1, .int (nI n), .ref h2])), (h1, .inl (cB, 4096, .inl (br_word f n a1)))] := hD
  refine lv_aload_n hx hb dX0_put_26 rfl (lv_at hl 0 rfl) ?_
  refine lv_aload_n hx hb dX0_put_27 rfl (lv_at hl 0 rfl) ?_
  refine va_get (D := (dC, dI)) (ci := 0) (v := .int (nI n)) (C := RX0) (T := TX0) (N := 3) hx hb hts in_X0 hown hK hP 0 rfl rfl 1 (by decide) (hts _ q43) (fun _ h9 => h9) rfl dX0_put_28 ?_
  refine lv_iconst (v := nI 4) hx hb dX0_put_31 (by decide +kernel) ?_
  refine lv_iadd hx hb dX0_put_32 ?_
  refine wk_as (nI (n + 4)) (nI_add n 4) ?_
  refine lv_iload_n hx hb dX0_put_33 rfl (lv_at hl 2 rfl) ?_
  have hPc := hP.sub (ws' := [(h0, .inr (0, [.ref h1, .int (nI n), .ref h2])), (h1, .inl (cB, 4096, .inl (br_word f n a1)))]) [0, 1] rfl
  have hDc := hD.sub (ws' := [(h0, .inr (0, [.ref h1, .int (nI n), .ref h2])), (h1, .inl (cB, 4096, .inl (br_word f n a1)))]) [0, 1] (by decide) rfl
  have hFc := va_free (wc := [(h0, .inr (0, [.ref h1, .int (nI n), .ref h2])), (h1, .inl (cB, 4096, .inl (br_word f n a1)))]) hD hS hA [0, 1] rfl
  refine va_callv (va_runV (As := [.int (nI (n + 4)), .int a2]) (rest := []) ⟨hx, hb, hml, hown, hts⟩ (br_rd_word l dC dI cB _ h0 h1 h2 n (br_word f n a1) (n + 4) a2 (by omega)) (cwV 2 hts (lw_V q56 q58 qs0 q5 q59) rfl rfl rfl (by decide +kernel) ⟨Nat.le_of_ble_eq_true rfl, Nat.le_of_ble_eq_true rfl⟩) ⟨br_blind, va_recv hK hPc (ci := 0) (q0 := 0) rfl rfl, fun U hU hW => br_start hU hW hPc hK hDc⟩ rfl rfl hl.1 rfl (lv_room (Nat.le_of_ble_eq_true rfl)) dX0_put_34 ⟨Nat.le_of_ble_eq_true rfl, Nat.le_of_ble_eq_true rfl⟩) hS (fun q _ h => hFc q h) hFc (fun u t H1 locs ht hvm hw_34 hB hz9 hk9 hS => ?_)
  obtain ⟨hP1, hK1, hD1⟩ := hB
  rw [ht] at hP1
  obtain ⟨hP, hD⟩ := va_join (wr := []) (w1 := [(h0, .inr (0, [.ref h1, .int (nI n), .ref h2])), (h1, .inl (cB, 4096, .inl (br_word (br_word f n a1) (n + 4) a2)))]) hP hD [0, 1] [] rfl rfl (by decide) (by decide) hk9 hFc hP1 hD1
  generalize H1 = H at hP hS ⊢
  have hP : va_P (dC, dI) vwCl [(h0, .inr (0, [.ref h1, .int (nI n), .ref h2])), (h1, .inl (cB, 4096, .inl (br_word (br_word f n a1) (n + 4) a2)))] H := hP
  have hD : va_D A [(h0, .inr (0, [.ref h1, .int (nI n), .ref h2])), (h1, .inl (cB, 4096, .inl (br_word (br_word f n a1) (n + 4) a2)))] := hD
  refine lv_aload_n hx hb dX0_put_37 rfl (lv_at hl 0 rfl) ?_
  refine lv_aload_n hx hb dX0_put_38 rfl (lv_at hl 0 rfl) ?_
  refine va_get (D := (dC, dI)) (ci := 0) (v := .int (nI n)) (C := RX0) (T := TX0) (N := 3) hx hb hts in_X0 hown hK hP 0 rfl rfl 1 (by decide) (hts _ q43) (fun _ h9 => h9) rfl dX0_put_39 ?_
  refine lv_bipush (v := nI 8) hx hb dX0_put_42 (by decide +kernel) ?_
  refine lv_iadd hx hb dX0_put_44 ?_
  refine wk_as (nI (n + 8)) (nI_add n 8) ?_
  refine lv_iload_n hx hb dX0_put_45 rfl (lv_at hl 3 rfl) ?_
  have hPc := hP.sub (ws' := [(h0, .inr (0, [.ref h1, .int (nI n), .ref h2])), (h1, .inl (cB, 4096, .inl (br_word (br_word f n a1) (n + 4) a2)))]) [0, 1] rfl
  have hDc := hD.sub (ws' := [(h0, .inr (0, [.ref h1, .int (nI n), .ref h2])), (h1, .inl (cB, 4096, .inl (br_word (br_word f n a1) (n + 4) a2)))]) [0, 1] (by decide) rfl
  have hFc := va_free (wc := [(h0, .inr (0, [.ref h1, .int (nI n), .ref h2])), (h1, .inl (cB, 4096, .inl (br_word (br_word f n a1) (n + 4) a2)))]) hD hS hA [0, 1] rfl
  refine va_callv (va_runV (As := [.int (nI (n + 8)), .int a3]) (rest := []) ⟨hx, hb, hml, hown, hts⟩ (br_rd_word l dC dI cB _ h0 h1 h2 n (br_word (br_word f n a1) (n + 4) a2) (n + 8) a3 (by omega)) (cwV 2 hts (lw_V q56 q58 qs0 q5 q59) rfl rfl rfl (by decide +kernel) ⟨Nat.le_of_ble_eq_true rfl, Nat.le_of_ble_eq_true rfl⟩) ⟨br_blind, va_recv hK hPc (ci := 0) (q0 := 0) rfl rfl, fun U hU hW => br_start hU hW hPc hK hDc⟩ rfl rfl hl.1 rfl (lv_room (Nat.le_of_ble_eq_true rfl)) dX0_put_46 ⟨Nat.le_of_ble_eq_true rfl, Nat.le_of_ble_eq_true rfl⟩) hS (fun q _ h => hFc q h) hFc (fun u t H1 locs ht hvm hw_46 hB hz9 hk9 hS => ?_)
  obtain ⟨hP1, hK1, hD1⟩ := hB
  rw [ht] at hP1
  obtain ⟨hP, hD⟩ := va_join (wr := []) (w1 := [(h0, .inr (0, [.ref h1, .int (nI n), .ref h2])), (h1, .inl (cB, 4096, .inl (br_word (br_word (br_word f n a1) (n + 4) a2) (n + 8) a3)))]) hP hD [0, 1] [] rfl rfl (by decide) (by decide) hk9 hFc hP1 hD1
  generalize H1 = H at hP hS ⊢
  have hP : va_P (dC, dI) vwCl [(h0, .inr (0, [.ref h1, .int (nI n), .ref h2])), (h1, .inl (cB, 4096, .inl (br_word (br_word (br_word f n a1) (n + 4) a2) (n + 8) a3)))] H := hP
  have hD : va_D A [(h0, .inr (0, [.ref h1, .int (nI n), .ref h2])), (h1, .inl (cB, 4096, .inl (br_word (br_word (br_word f n a1) (n + 4) a2) (n + 8) a3)))] := hD
  refine lv_aload_n hx hb dX0_put_49 rfl (lv_at hl 0 rfl) ?_
  refine lv_aload_n hx hb dX0_put_50 rfl (lv_at hl 0 rfl) ?_
  refine va_get (D := (dC, dI)) (ci := 0) (v := .int (nI n)) (C := RX0) (T := TX0) (N := 3) hx hb hts in_X0 hown hK hP 0 rfl rfl 1 (by decide) (hts _ q43) (fun _ h9 => h9) rfl dX0_put_51 ?_
  refine lv_bipush (v := nI 12) hx hb dX0_put_54 (by decide +kernel) ?_
  refine lv_iadd hx hb dX0_put_56 ?_
  refine wk_as (nI (n + 12)) (nI_add n 12) ?_
  refine lv_iload hx hb dX0_put_57 (lv_at hl 4 rfl) ?_
  have hPc := hP.sub (ws' := [(h0, .inr (0, [.ref h1, .int (nI n), .ref h2])), (h1, .inl (cB, 4096, .inl (br_word (br_word (br_word f n a1) (n + 4) a2) (n + 8) a3)))]) [0, 1] rfl
  have hDc := hD.sub (ws' := [(h0, .inr (0, [.ref h1, .int (nI n), .ref h2])), (h1, .inl (cB, 4096, .inl (br_word (br_word (br_word f n a1) (n + 4) a2) (n + 8) a3)))]) [0, 1] (by decide) rfl
  have hFc := va_free (wc := [(h0, .inr (0, [.ref h1, .int (nI n), .ref h2])), (h1, .inl (cB, 4096, .inl (br_word (br_word (br_word f n a1) (n + 4) a2) (n + 8) a3)))]) hD hS hA [0, 1] rfl
  refine va_callv (va_runV (As := [.int (nI (n + 12)), .int a4]) (rest := []) ⟨hx, hb, hml, hown, hts⟩ (br_rd_word l dC dI cB _ h0 h1 h2 n (br_word (br_word (br_word f n a1) (n + 4) a2) (n + 8) a3) (n + 12) a4 (by omega)) (cwV 2 hts (lw_V q56 q58 qs0 q5 q59) rfl rfl rfl (by decide +kernel) ⟨Nat.le_of_ble_eq_true rfl, Nat.le_of_ble_eq_true rfl⟩) ⟨br_blind, va_recv hK hPc (ci := 0) (q0 := 0) rfl rfl, fun U hU hW => br_start hU hW hPc hK hDc⟩ rfl rfl hl.1 rfl (lv_room (Nat.le_of_ble_eq_true rfl)) dX0_put_59 ⟨Nat.le_of_ble_eq_true rfl, Nat.le_of_ble_eq_true rfl⟩) hS (fun q _ h => hFc q h) hFc (fun u t H1 locs ht hvm hw_59 hB hz9 hk9 hS => ?_)
  obtain ⟨hP1, hK1, hD1⟩ := hB
  rw [ht] at hP1
  obtain ⟨hP, hD⟩ := va_join (wr := []) (w1 := [(h0, .inr (0, [.ref h1, .int (nI n), .ref h2])), (h1, .inl (cB, 4096, .inl (br_word (br_word (br_word (br_word f n a1) (n + 4) a2) (n + 8) a3) (n + 12) a4)))]) hP hD [0, 1] [] rfl rfl (by decide) (by decide) hk9 hFc hP1 hD1
  generalize H1 = H at hP hS ⊢
  have hP : va_P (dC, dI) vwCl [(h0, .inr (0, [.ref h1, .int (nI n), .ref h2])), (h1, .inl (cB, 4096, .inl (br_word (br_word (br_word (br_word f n a1) (n + 4) a2) (n + 8) a3) (n + 12) a4)))] H := hP
  have hD : va_D A [(h0, .inr (0, [.ref h1, .int (nI n), .ref h2])), (h1, .inl (cB, 4096, .inl (br_word (br_word (br_word (br_word f n a1) (n + 4) a2) (n + 8) a3) (n + 12) a4)))] := hD
  refine lv_aload_n hx hb dX0_put_62 rfl (lv_at hl 0 rfl) ?_
  refine lv_dup hx hb dX0_put_63 rfl ?_
  refine va_get (D := (dC, dI)) (ci := 0) (v := .int (nI n)) (C := RX0) (T := TX0) (N := 3) hx hb hts in_X0 hown hK hP 0 rfl rfl 1 (by decide) (hts _ q43) (fun _ h9 => h9) rfl dX0_put_64 ?_
  refine lv_bipush (v := nI 16) hx hb dX0_put_67 (by decide +kernel) ?_
  refine lv_iadd hx hb dX0_put_69 ?_
  refine wk_as (nI (n + 16)) (nI_add n 16) ?_
  refine va_put (D := (dC, dI)) (ci := 0) (v := .int (nI (n + 16))) (ty := .int) (C := RX0) (T := TX0) (N := 3) hx hb hts in_X0 tyX0 tyX0_ok nmX0 hown hK hP hD hS 0 rfl rfl 1 (by decide) (hts _ q43) (fun _ h9 => h9) rfl (by decide +kernel) rfl rfl (Nat.le_of_ble_eq_true rfl) dX0_put_70 (fun H locs hP hD hS => ?_)
  have hP : va_P (dC, dI) vwCl [(h0, .inr (0, [.ref h1, .int (nI (n + 16)), .ref h2])), (h1, .inl (cB, 4096, .inl (br_word (br_word (br_word (br_word f n a1) (n + 4) a2) (n + 8) a3) (n + 12) a4)))] H := hP
  have hD : va_D A [(h0, .inr (0, [.ref h1, .int (nI (n + 16)), .ref h2])), (h1, .inl (cB, 4096, .inl (br_word (br_word (br_word (br_word f n a1) (n + 4) a2) (n + 8) a3) (n + 12) a4)))] := hD
  refine lv_iconst (v := nI 1) hx hb dX0_put_73 (by decide +kernel) ?_
  exact W.zret (v := (nI 1)) hx hb hr rfl (fun t ht hW => ⟨⟨(nI 1), (), rfl, rfl, by rw [ht]; exact hP, va_K.moved hW.alike hK, hD⟩, hS.F ht⟩) hS.2.2 dX0_put_74
set_option maxHeartbeats 4000000 in
set_option maxRecDepth 100000 in
theorem br_rd_cp {p : Program} {l : Launch} {e : Env} {R : Room} {s : State} {m : MethodId} {args : Array Value} {below : List Frame} {meth : Method} {c : Code} {cells slots : Nat} {Q : State → Prop} {dC : Nat → ClassId} {dI : Nat → Nat → Nat} {A : Nat → Prop} {cB : ClassId} {h0 h1 h2 q n : Nat} {f : Nat → Int32} (hx : p.tables.exec = Jvm.exec) (hb : c.code = cX0_begin) (hown : s.vm.findClass RX0 = some m.cls) (hts : ∀ w ∈ lw_all, w.before args s = true) (hK : va_K (dC, dI) vwCl [(cB, .byte)] s) (hn : n ≤ 4096) (kx : ∀ (H : Heap) (locs : List Loc) (ls : Array Slot), va_P (dC, dI) vwCl [(h0, .inr (0, [.ref h1, .int (nI n), .ref h2])), (h1, .inl (cB, 4096, .inl f)), (q, .inl (cB, n, .inl (br_cp (fun _ => 0) f n)))] H → va_D A [(h0, .inr (0, [.ref h1, .int (nI n), .ref h2])), (h1, .inl (cB, 4096, .inl f)), (q, .inl (cB, n, .inl (br_cp (fun _ => 0) f n)))] → va_S A s.heap H locs → lv_has ls 3 [(0, .ref h0), (1, .ref q), (2, .int (nI n))] → W p l e R s m args below meth c H locs cells slots Q (F0 m 32 ls [])) :
    ∀ (N i : Nat), i + N = n → ∀ (H : Heap) (locs : List Loc) (ls : Array Slot), va_P (dC, dI) vwCl [(h0, .inr (0, [.ref h1, .int (nI n), .ref h2])), (h1, .inl (cB, 4096, .inl f)), (q, .inl (cB, n, .inl (br_cp (fun _ => 0) f i)))] H → va_D A [(h0, .inr (0, [.ref h1, .int (nI n), .ref h2])), (h1, .inl (cB, 4096, .inl f)), (q, .inl (cB, n, .inl (br_cp (fun _ => 0) f i)))] → va_S A s.heap H locs → lv_has ls 3 [(0, .ref h0), (1, .ref q), (2, .int (nI i))] → W p l e R s m args below meth c H locs cells slots Q (F0 m 9 ls []) := by
  intro N
  induction N with
  | zero =>
    intro i hi H locs ls hP hD hS hl
    have e : n = i := by omega
    subst e
    refine lv_iload_n hx hb dX0_begin_9 rfl (lv_at hl 2 rfl) ?_
    refine lv_aload_n hx hb dX0_begin_10 rfl (lv_at hl 0 rfl) ?_
    refine va_get (D := (dC, dI)) (ci := 0) (v := .int (nI n)) (C := RX0) (T := TX0) (N := 3) hx hb hts in_X0 hown hK hP 0 rfl rfl 1 (by decide) (hts _ q43) (fun _ h9 => h9) rfl dX0_begin_11 ?_
    refine lv_icmp_ge (tgt := 32) hx hb dX0_begin_14 (by decide) (fun c1 => ?_) (fun c1 => ?_)
    rotate_left
    · exact absurd (nI_le (Nat.le_refl _) (by omega)) c1
    exact kx H locs ls hP hD hS hl
  | succ N ih =>
    intro i hi H locs ls hP hD hS hl
    refine lv_iload_n hx hb dX0_begin_9 rfl (lv_at hl 2 rfl) ?_
    refine lv_aload_n hx hb dX0_begin_10 rfl (lv_at hl 0 rfl) ?_
    refine va_get (D := (dC, dI)) (ci := 0) (v := .int (nI n)) (C := RX0) (T := TX0) (N := 3) hx hb hts in_X0 hown hK hP 0 rfl rfl 1 (by decide) (hts _ q43) (fun _ h9 => h9) rfl dX0_begin_11 ?_
    refine lv_icmp_ge (tgt := 32) hx hb dX0_begin_14 (by decide) (fun c1 => ?_) (fun c1 => ?_)
    · exact absurd c1 (nI_ge (show i < n by omega) (by omega))
    refine lv_aload_n hx hb dX0_begin_17 rfl (lv_at hl 1 rfl) ?_
    refine lv_iload_n hx hb dX0_begin_18 rfl (lv_at hl 2 rfl) ?_
    refine lv_aload_n hx hb dX0_begin_19 rfl (lv_at hl 0 rfl) ?_
    refine va_get (D := (dC, dI)) (ci := 0) (v := .ref h1) (C := RX0) (T := TX0) (N := 3) hx hb hts in_X0 hown hK hP 0 rfl rfl 0 (by decide) (hts _ q42) (fun _ h9 => h9) rfl dX0_begin_20 ?_
    refine lv_iload_n hx hb dX0_begin_23 rfl (lv_at hl 2 rfl) ?_
    refine wk_bald (i := i) hx hb hK hP 1 0 rfl rfl (by omega) (by omega) dX0_begin_24 ?_
    refine wk_bast (i := i) (g := (br_cp (fun _ => 0) f (i + 1))) hx hb hK hP hD hS 2 0 rfl rfl (by omega) (by omega) (rfl) dX0_begin_25 (fun H locs hP hD hS => ?_)
    have hP : va_P (dC, dI) vwCl [(h0, .inr (0, [.ref h1, .int (nI n), .ref h2])), (h1, .inl (cB, 4096, .inl f)), (q, .inl (cB, n, .inl (br_cp (fun _ => 0) f (i + 1))))] H := hP
    have hD : va_D A [(h0, .inr (0, [.ref h1, .int (nI n), .ref h2])), (h1, .inl (cB, 4096, .inl f)), (q, .inl (cB, n, .inl (br_cp (fun _ => 0) f (i + 1))))] := hD
    refine lv_iinc (v := nI (i + 1)) (lv' := [(2, .int (nI (i + 1))), (0, .ref h0), (1, .ref q)]) hx hb dX0_begin_26 hl (k := 2) rfl (br_p1 i) (by decide) rfl (fun ls hl => ?_)
    refine lv_goto (tgt := 9) hx hb dX0_begin_29 (by decide) ?_
    exact ih (i + 1) (by omega) H locs ls hP hD hS (lv_sub hl [1, 2, 0] rfl)
set_option maxHeartbeats 4000000 in
set_option maxRecDepth 100000 in
/-- begin: a new source over a copy of the text -/
theorem br_rd_begin (l : Launch) (dC : Nat → ClassId) (dI : Nat → Nat → Nat) (cB : ClassId) (sz : Nat) (h0 h1 h2 n : Nat) (f : Nat → Int32) (hn : n ≤ 4096) : Met l yX0_begin (ws_ yX0_begin cX0_begin 3 none) ({ frames := 2, cells := 2, slots := 4099, locals := 33 }) (va_Pc [.ref h0] (br_Pre (dC, dI) cB [(h0, .inr (0, [.ref h1, .int (nI n), .ref h2])), (h1, .inl (cB, 4096, .inl f))] sz)) (va_Qv (fun (u : Nat × Nat) => True) (fun (u : Nat × Nat) => br_Out (dC, dI) cB (va_A [(h0, .inr (0, [.ref h1, .int (nI n), .ref h2])), (h1, .inl (cB, 4096, .inl f))] sz) [(h0, .inr (0, [.ref h1, .int (nI n), .ref u.1])), (h1, .inl (cB, 4096, .inl f)), (u.1, .inr (1, [.ref u.2, .int (nI 0), .int (nI 0)])), (u.2, .inl (cB, n, .inl (br_cp (fun _ => 0) f n)))]) (va_A [(h0, .inr (0, [.ref h1, .int (nI n), .ref h2])), (h1, .inl (cB, 4096, .inl f))] sz)) 2 4099 (va_A [(h0, .inr (0, [.ref h1, .int (nI n), .ref h2])), (h1, .inl (cB, 4096, .inl f))] sz) := by
  refine Met.ofW (cc := cX0_begin) (maxL := 3) (ret := none) (by decide) rfl ?_
  intro p e s m args below meth c s₁ B hml hv
  obtain ⟨rfl, hsz, hP, hK, hD0⟩ := hv
  have hx := B.exec
  have hb := B.bytes
  have hr := B.returns
  have hts := atoms_spec (ws := ws_ yX0_begin cX0_begin 3 none) B.pre
  have hts : ∀ w ∈ lw_all, w.before _ s = true := fun w h => hts w (List.mem_cons_of_mem _ h)
  have hown : s.vm.findClass RX0 = some m.cls := findClass_of_methodNamed B.named
  have hlocks := B.notSynchronized
  subst hsz
  have hD := hD0.self (sz := s.heap.size)
  generalize hAe : va_A [(h0, .inr (0, [.ref h1, .int (nI n), .ref h2])), (h1, .inl (cB, 4096, .inl f))] s.heap.size = A at hD ⊢
  have hA : ∀ q : Nat, s.heap.size ≤ q → A q := fun q h => by rw [← hAe]; exact Or.inr h
  have hS : va_S A s.heap s.heap [] := va_S.rf
  have hl := lv_entry ([.ref h0]) (n := 3) (Nat.le_of_ble_eq_true rfl)
  rw [lg_entry_eq]
  generalize (lg_sl ([.ref h0]) ++ List.replicate (3 - (lg_sl ([.ref h0])).length) Slot.unset).toArray = ls at hl ⊢
  have hl : lv_has ls 3 [(0, .ref h0)] := hl
  refine lv_aload_n hx hb dX0_begin_0 rfl (lv_at hl 0 rfl) ?_
  refine va_get (D := (dC, dI)) (ci := 0) (v := .int (nI n)) (C := RX0) (T := TX0) (N := 3) hx hb hts in_X0 hown hK hP 0 rfl rfl 1 (by decide) (hts _ q43) (fun _ h9 => h9) rfl dX0_begin_1 ?_
  refine va_newa (atype := .byte) (a0 := (n, .inl (fun _ => 0))) hx hb (hts _ q41) rfl hK hP hD hS hA (fun _ => rfl) (nI_pos (by omega)) (nI_clamp (by omega)) (by show n * 1 ≤ 536870912; omega) (Nat.le_of_ble_eq_true rfl) (by show 0 + n ≤ 4099; omega) dX0_begin_4 (fun q cA H hK2 hP hD hS => ?_)
  have eA := (br_oneB hK hK2).symm
  subst eA
  have hP : va_P (dC, dI) vwCl [(h0, .inr (0, [.ref h1, .int (nI n), .ref h2])), (h1, .inl (cB, 4096, .inl f)), (q, .inl (cB, n, .inl (fun _ => 0)))] H := hP
  have hD : va_D A [(h0, .inr (0, [.ref h1, .int (nI n), .ref h2])), (h1, .inl (cB, 4096, .inl f)), (q, .inl (cB, n, .inl (fun _ => 0)))] := hD
  refine lv_astore_n (lv' := [(1, .ref q), (0, .ref h0)]) hx hb dX0_begin_6 rfl hl (by decide) rfl (fun ls hl => ?_)
  refine lv_iconst (v := nI 0) hx hb dX0_begin_7 (by decide +kernel) ?_
  refine lv_istore_n (lv' := [(2, .int (nI 0)), (1, .ref q), (0, .ref h0)]) hx hb dX0_begin_8 rfl hl (by decide) rfl (fun ls hl => ?_)
  refine br_rd_cp hx hb hown hts hK hn (fun H locs ls hP hD hS hl => ?_) n 0 (by omega) _ _ ls hP hD hS (lv_sub hl [2, 1, 0] rfl)
  refine lv_aload_n hx hb dX0_begin_32 rfl (lv_at hl 0 rfl) ?_
  refine va_new (ci := 1) (fs := [.null, .int 0, .int 0]) (C := RX1) (T := TX1) (N := 3) hx hb hts in_X1 tyX1 tyX1_ok hown (hts _ q25) (hts _ q26) (hts _ q6) hK hP hD hS hA rfl (fun j hj => by rcases (show j = 0 ∨ j = 1 ∨ j = 2 by omega) with rfl | rfl | rfl <;> rfl) (Nat.le_of_ble_eq_true rfl) (by show 0 + n + 3 ≤ 4099; omega) dX0_begin_33 (fun z H hP hD hS => ?_)
  have hP : va_P (dC, dI) vwCl [(h0, .inr (0, [.ref h1, .int (nI n), .ref h2])), (h1, .inl (cB, 4096, .inl f)), (q, .inl (cB, n, .inl (br_cp (fun _ => 0) f n))), (z, .inr (1, [.null, .int 0, .int 0]))] H := hP
  have hD : va_D A [(h0, .inr (0, [.ref h1, .int (nI n), .ref h2])), (h1, .inl (cB, 4096, .inl f)), (q, .inl (cB, n, .inl (br_cp (fun _ => 0) f n))), (z, .inr (1, [.null, .int 0, .int 0]))] := hD
  refine lv_dup hx hb dX0_begin_36 rfl ?_
  refine lv_aload_n hx hb dX0_begin_37 rfl (lv_at hl 1 rfl) ?_
  have hPc := hP.sub (ws' := [(z, .inr (1, [.null, .int 0, .int 0])), (q, .inl (cB, n, .inl (br_cp (fun _ => 0) f n)))]) [3, 2] rfl
  have hDc := hD.sub (ws' := [(z, .inr (1, [.null, .int 0, .int 0])), (q, .inl (cB, n, .inl (br_cp (fun _ => 0) f n)))]) [3, 2] (by decide) rfl
  have hFc := va_free (wc := [(z, .inr (1, [.null, .int 0, .int 0])), (q, .inl (cB, n, .inl (br_cp (fun _ => 0) f n)))]) hD hS hA [3, 2] rfl
  refine va_callv (va_runI (As := [.ref q]) (rest := [.ref z, .ref h0]) ⟨hx, hb, hml, hown, hts⟩ (br_src_init l dC dI cB _ z q n (br_cp (fun _ => 0) f n)) (cwI 1 hts (lw_meth q29) rfl rfl rfl (hts _ q6) (hts _ q27) (hts _ q28) rfl (by decide +kernel) ⟨Nat.le_of_ble_eq_true rfl, Nat.le_of_ble_eq_true rfl⟩) ⟨br_blind, fun U hU hW => br_start hU hW hPc hK hDc⟩ rfl rfl hl.1 rfl (lv_room (Nat.le_of_ble_eq_true rfl)) dX0_begin_38 ⟨Nat.le_of_ble_eq_true rfl, by show 0 + n + 3 + 0 ≤ 4099; omega⟩) hS (fun q _ h => hFc q h) hFc (fun u t H1 locs ht hvm hw_38 hB hz9 hk9 hS => ?_)
  obtain ⟨hP1, hK1, hD1⟩ := hB
  rw [ht] at hP1
  obtain ⟨hP, hD⟩ := va_join (wr := [(h0, .inr (0, [.ref h1, .int (nI n), .ref h2])), (h1, .inl (cB, 4096, .inl f))]) (w1 := [(z, .inr (1, [.ref q, .int (nI 0), .int (nI 0)])), (q, .inl (cB, n, .inl (br_cp (fun _ => 0) f n)))]) hP hD [3, 2] [0, 1] rfl rfl (by decide) (by decide) hk9 hFc hP1 hD1
  generalize H1 = H at hP hS ⊢
  have hP : va_P (dC, dI) vwCl [(h0, .inr (0, [.ref h1, .int (nI n), .ref h2])), (h1, .inl (cB, 4096, .inl f)), (z, .inr (1, [.ref q, .int (nI 0), .int (nI 0)])), (q, .inl (cB, n, .inl (br_cp (fun _ => 0) f n)))] H := hP
  have hD : va_D A [(h0, .inr (0, [.ref h1, .int (nI n), .ref h2])), (h1, .inl (cB, 4096, .inl f)), (z, .inr (1, [.ref q, .int (nI 0), .int (nI 0)])), (q, .inl (cB, n, .inl (br_cp (fun _ => 0) f n)))] := hD
  refine va_put (D := (dC, dI)) (ci := 0) (v := .ref z) (ty := .object "BitSource") (C := RX0) (T := TX0) (N := 3) hx hb hts in_X0 tyX0 tyX0_ok nmX0 hown hK hP hD hS 0 rfl rfl 2 (by decide) (hts _ q44) (fun _ h9 => h9) rfl (by decide +kernel) rfl rfl (Nat.le_of_ble_eq_true rfl) dX0_begin_41 (fun H locs hP hD hS => ?_)
  have hP : va_P (dC, dI) vwCl [(h0, .inr (0, [.ref h1, .int (nI n), .ref z])), (h1, .inl (cB, 4096, .inl f)), (z, .inr (1, [.ref q, .int (nI 0), .int (nI 0)])), (q, .inl (cB, n, .inl (br_cp (fun _ => 0) f n)))] H := hP
  have hD : va_D A [(h0, .inr (0, [.ref h1, .int (nI n), .ref z])), (h1, .inl (cB, 4096, .inl f)), (z, .inr (1, [.ref q, .int (nI 0), .int (nI 0)])), (q, .inl (cB, n, .inl (br_cp (fun _ => 0) f n)))] := hD
  refine W.widen (k := 2) (n := 4099) (Nat.le_of_ble_eq_true rfl) (by show 0 + n + 3 + 0 ≤ 4099; omega) ?_
  exact W.vret hx hb hr (fun t ht hW => ⟨⟨(z, q), rfl, trivial, by rw [ht]; exact hP, va_K.moved hW.alike hK, hD⟩, hS.F ht⟩) hS.2.2 dX0_begin_44
set_option maxHeartbeats 4000000 in
set_option maxRecDepth 100000 in
/-- left -/
theorem br_rd_left (l : Launch) (dC : Nat → ClassId) (dI : Nat → Nat → Nat) (cB : ClassId) (sz : Nat) (h0 h1 h2 h3 n : Nat) (k : Nat) (g : Nat → Int32) (bo bi : Nat) (hb0 : 8 * bo + bi ≤ 8 * k) : Met l yX0_left (ws_ yX0_left cX0_left 1 (some .int)) ({ frames := 1, cells := 0, slots := 0, locals := 20 }) (va_Pc [.ref h0] (br_Pre (dC, dI) cB [(h0, .inr (0, [.ref h1, .int (nI n), .ref h2])), (h2, .inr (1, [.ref h3, .int (nI bo), .int (nI bi)])), (h3, .inl (cB, k, .inl g))] sz)) (va_Qi (fun (r : Int32) (_ : Unit) => r = nI (8 * k - (8 * bo + bi))) (fun (_ : Unit) => br_Out (dC, dI) cB (va_A [(h0, .inr (0, [.ref h1, .int (nI n), .ref h2])), (h2, .inr (1, [.ref h3, .int (nI bo), .int (nI bi)])), (h3, .inl (cB, k, .inl g))] sz) [(h0, .inr (0, [.ref h1, .int (nI n), .ref h2])), (h2, .inr (1, [.ref h3, .int (nI bo), .int (nI bi)])), (h3, .inl (cB, k, .inl g))]) (va_A [(h0, .inr (0, [.ref h1, .int (nI n), .ref h2])), (h2, .inr (1, [.ref h3, .int (nI bo), .int (nI bi)])), (h3, .inl (cB, k, .inl g))] sz)) 0 0 (va_A [(h0, .inr (0, [.ref h1, .int (nI n), .ref h2])), (h2, .inr (1, [.ref h3, .int (nI bo), .int (nI bi)])), (h3, .inl (cB, k, .inl g))] sz) := by
  refine Met.ofW (cc := cX0_left) (maxL := 1) (ret := (some .int)) (by decide) rfl ?_
  intro p e s m args below meth c s₁ B hml hv
  obtain ⟨rfl, hsz, hP, hK, hD0⟩ := hv
  have hx := B.exec
  have hb := B.bytes
  have hr := B.returns
  have hts := atoms_spec (ws := ws_ yX0_left cX0_left 1 (some .int)) B.pre
  have hts : ∀ w ∈ lw_all, w.before _ s = true := fun w h => hts w (List.mem_cons_of_mem _ h)
  have hown : s.vm.findClass RX0 = some m.cls := findClass_of_methodNamed B.named
  have hlocks := B.notSynchronized
  subst hsz
  have hD := hD0.self (sz := s.heap.size)
  generalize hAe : va_A [(h0, .inr (0, [.ref h1, .int (nI n), .ref h2])), (h2, .inr (1, [.ref h3, .int (nI bo), .int (nI bi)])), (h3, .inl (cB, k, .inl g))] s.heap.size = A at hD ⊢
  have hA : ∀ q : Nat, s.heap.size ≤ q → A q := fun q h => by rw [← hAe]; exact Or.inr h
  have hS : va_S A s.heap s.heap [] := va_S.rf
  have hl := lv_entry ([.ref h0]) (n := 1) (Nat.le_of_ble_eq_true rfl)
  rw [lg_entry_eq]
  generalize (lg_sl ([.ref h0]) ++ List.replicate (1 - (lg_sl ([.ref h0])).length) Slot.unset).toArray = ls at hl ⊢
  have hl : lv_has ls 1 [(0, .ref h0)] := hl
  refine lv_aload_n hx hb dX0_left_0 rfl (lv_at hl 0 rfl) ?_
  refine va_get (D := (dC, dI)) (ci := 0) (v := .ref h2) (C := RX0) (T := TX0) (N := 3) hx hb hts in_X0 hown hK hP 0 rfl rfl 2 (by decide) (hts _ q44) (fun _ h9 => h9) rfl dX0_left_1 ?_
  have hPc := hP.sub (ws' := [(h2, .inr (1, [.ref h3, .int (nI bo), .int (nI bi)])), (h3, .inl (cB, k, .inl g))]) [1, 2] rfl
  have hDc := hD.sub (ws' := [(h2, .inr (1, [.ref h3, .int (nI bo), .int (nI bi)])), (h3, .inl (cB, k, .inl g))]) [1, 2] (by decide) rfl
  have hFc := va_free (wc := [(h2, .inr (1, [.ref h3, .int (nI bo), .int (nI bi)])), (h3, .inl (cB, k, .inl g))]) hD hS hA [1, 2] rfl
  refine va_calli (va_runV (As := []) (rest := []) ⟨hx, hb, hml, hown, hts⟩ (br_src_available l dC dI cB _ h2 h3 k g bo bi hb0) (cwV 0 hts (lw_V q81 q82 q83 q6 q84) rfl rfl rfl (by decide +kernel) ⟨Nat.le_of_ble_eq_true rfl, Nat.le_of_ble_eq_true rfl⟩) ⟨br_blind, va_recv hK hPc (ci := 1) (q0 := 0) rfl rfl, fun U hU hW => br_start hU hW hPc hK hDc⟩ rfl rfl hl.1 rfl (lv_room (Nat.le_of_ble_eq_true rfl)) dX0_left_4 ⟨Nat.le_of_ble_eq_true rfl, Nat.le_of_ble_eq_true rfl⟩) hS (fun q _ h => hFc q h) hFc (fun r_4 u t H1 locs ht hvm hw_4 hB hz9 hk9 hS => ?_)
  obtain ⟨hP1, hK1, hD1⟩ := hB
  rw [ht] at hP1
  obtain ⟨hP, hD⟩ := va_join (wr := [(h0, .inr (0, [.ref h1, .int (nI n), .ref h2]))]) (w1 := [(h2, .inr (1, [.ref h3, .int (nI bo), .int (nI bi)])), (h3, .inl (cB, k, .inl g))]) hP hD [1, 2] [0] rfl rfl (by decide) (by decide) hk9 hFc hP1 hD1
  generalize H1 = H at hP hS ⊢
  have hP : va_P (dC, dI) vwCl [(h0, .inr (0, [.ref h1, .int (nI n), .ref h2])), (h2, .inr (1, [.ref h3, .int (nI bo), .int (nI bi)])), (h3, .inl (cB, k, .inl g))] H := hP
  have hD : va_D A [(h0, .inr (0, [.ref h1, .int (nI n), .ref h2])), (h2, .inr (1, [.ref h3, .int (nI bo), .int (nI bi)])), (h3, .inl (cB, k, .inl g))] := hD
  exact W.iret (v := r_4) hx hb hr (fun t ht hW => ⟨⟨r_4, (), rfl, hw_4, by rw [ht]; exact hP, va_K.moved hW.alike hK, hD⟩, hS.F ht⟩) hS.2.2 dX0_left_7
set_option maxHeartbeats 4000000 in
set_option maxRecDepth 100000 in
/-- octet -/
theorem br_rd_octet (l : Launch) (dC : Nat → ClassId) (dI : Nat → Nat → Nat) (cB : ClassId) (sz : Nat) (h0 h1 h2 h3 n : Nat) (k : Nat) (g : Nat → Int32) (bo bi : Nat) : Met l yX0_octet (ws_ yX0_octet cX0_octet 1 (some .int)) ({ frames := 1, cells := 0, slots := 0, locals := 20 }) (va_Pc [.ref h0] (br_Pre (dC, dI) cB [(h0, .inr (0, [.ref h1, .int (nI n), .ref h2])), (h2, .inr (1, [.ref h3, .int (nI bo), .int (nI bi)])), (h3, .inl (cB, k, .inl g))] sz)) (va_Qi (fun (r : Int32) (_ : Unit) => r = nI bo) (fun (_ : Unit) => br_Out (dC, dI) cB (va_A [(h0, .inr (0, [.ref h1, .int (nI n), .ref h2])), (h2, .inr (1, [.ref h3, .int (nI bo), .int (nI bi)])), (h3, .inl (cB, k, .inl g))] sz) [(h0, .inr (0, [.ref h1, .int (nI n), .ref h2])), (h2, .inr (1, [.ref h3, .int (nI bo), .int (nI bi)])), (h3, .inl (cB, k, .inl g))]) (va_A [(h0, .inr (0, [.ref h1, .int (nI n), .ref h2])), (h2, .inr (1, [.ref h3, .int (nI bo), .int (nI bi)])), (h3, .inl (cB, k, .inl g))] sz)) 0 0 (va_A [(h0, .inr (0, [.ref h1, .int (nI n), .ref h2])), (h2, .inr (1, [.ref h3, .int (nI bo), .int (nI bi)])), (h3, .inl (cB, k, .inl g))] sz) := by
  refine Met.ofW (cc := cX0_octet) (maxL := 1) (ret := (some .int)) (by decide) rfl ?_
  intro p e s m args below meth c s₁ B hml hv
  obtain ⟨rfl, hsz, hP, hK, hD0⟩ := hv
  have hx := B.exec
  have hb := B.bytes
  have hr := B.returns
  have hts := atoms_spec (ws := ws_ yX0_octet cX0_octet 1 (some .int)) B.pre
  have hts : ∀ w ∈ lw_all, w.before _ s = true := fun w h => hts w (List.mem_cons_of_mem _ h)
  have hown : s.vm.findClass RX0 = some m.cls := findClass_of_methodNamed B.named
  have hlocks := B.notSynchronized
  subst hsz
  have hD := hD0.self (sz := s.heap.size)
  generalize hAe : va_A [(h0, .inr (0, [.ref h1, .int (nI n), .ref h2])), (h2, .inr (1, [.ref h3, .int (nI bo), .int (nI bi)])), (h3, .inl (cB, k, .inl g))] s.heap.size = A at hD ⊢
  have hA : ∀ q : Nat, s.heap.size ≤ q → A q := fun q h => by rw [← hAe]; exact Or.inr h
  have hS : va_S A s.heap s.heap [] := va_S.rf
  have hl := lv_entry ([.ref h0]) (n := 1) (Nat.le_of_ble_eq_true rfl)
  rw [lg_entry_eq]
  generalize (lg_sl ([.ref h0]) ++ List.replicate (1 - (lg_sl ([.ref h0])).length) Slot.unset).toArray = ls at hl ⊢
  have hl : lv_has ls 1 [(0, .ref h0)] := hl
  refine lv_aload_n hx hb dX0_octet_0 rfl (lv_at hl 0 rfl) ?_
  refine va_get (D := (dC, dI)) (ci := 0) (v := .ref h2) (C := RX0) (T := TX0) (N := 3) hx hb hts in_X0 hown hK hP 0 rfl rfl 2 (by decide) (hts _ q44) (fun _ h9 => h9) rfl dX0_octet_1 ?_
  have hPc := hP.sub (ws' := [(h2, .inr (1, [.ref h3, .int (nI bo), .int (nI bi)])), (h3, .inl (cB, k, .inl g))]) [1, 2] rfl
  have hDc := hD.sub (ws' := [(h2, .inr (1, [.ref h3, .int (nI bo), .int (nI bi)])), (h3, .inl (cB, k, .inl g))]) [1, 2] (by decide) rfl
  have hFc := va_free (wc := [(h2, .inr (1, [.ref h3, .int (nI bo), .int (nI bi)])), (h3, .inl (cB, k, .inl g))]) hD hS hA [1, 2] rfl
  refine va_calli (va_runV (As := []) (rest := []) ⟨hx, hb, hml, hown, hts⟩ (br_src_getByteOffset l dC dI cB _ h2 h3 k g bo bi) (cwV 0 hts (lw_V q218 q219 q220 q6 q221) rfl rfl rfl (by decide +kernel) ⟨Nat.le_of_ble_eq_true rfl, Nat.le_of_ble_eq_true rfl⟩) ⟨br_blind, va_recv hK hPc (ci := 1) (q0 := 0) rfl rfl, fun U hU hW => br_start hU hW hPc hK hDc⟩ rfl rfl hl.1 rfl (lv_room (Nat.le_of_ble_eq_true rfl)) dX0_octet_4 ⟨Nat.le_of_ble_eq_true rfl, Nat.le_of_ble_eq_true rfl⟩) hS (fun q _ h => hFc q h) hFc (fun r_4 u t H1 locs ht hvm hw_4 hB hz9 hk9 hS => ?_)
  obtain ⟨hP1, hK1, hD1⟩ := hB
  rw [ht] at hP1
  obtain ⟨hP, hD⟩ := va_join (wr := [(h0, .inr (0, [.ref h1, .int (nI n), .ref h2]))]) (w1 := [(h2, .inr (1, [.ref h3, .int (nI bo), .int (nI bi)])), (h3, .inl (cB, k, .inl g))]) hP hD [1, 2] [0] rfl rfl (by decide) (by decide) hk9 hFc hP1 hD1
  generalize H1 = H at hP hS ⊢
  have hP : va_P (dC, dI) vwCl [(h0, .inr (0, [.ref h1, .int (nI n), .ref h2])), (h2, .inr (1, [.ref h3, .int (nI bo), .int (nI bi)])), (h3, .inl (cB, k, .inl g))] H := hP
  have hD : va_D A [(h0, .inr (0, [.ref h1, .int (nI n), .ref h2])), (h2, .inr (1, [.ref h3, .int (nI bo), .int (nI bi)])), (h3, .inl (cB, k, .inl g))] := hD
  exact W.iret (v := r_4) hx hb hr (fun t ht hW => ⟨⟨r_4, (), rfl, hw_4, by rw [ht]; exact hP, va_K.moved hW.alike hK, hD⟩, hS.F ht⟩) hS.2.2 dX0_octet_7
set_option maxHeartbeats 4000000 in
set_option maxRecDepth 100000 in
/-- bit -/
theorem br_rd_bit (l : Launch) (dC : Nat → ClassId) (dI : Nat → Nat → Nat) (cB : ClassId) (sz : Nat) (h0 h1 h2 h3 n : Nat) (k : Nat) (g : Nat → Int32) (bo bi : Nat) : Met l yX0_bit (ws_ yX0_bit cX0_bit 1 (some .int)) ({ frames := 1, cells := 0, slots := 0, locals := 20 }) (va_Pc [.ref h0] (br_Pre (dC, dI) cB [(h0, .inr (0, [.ref h1, .int (nI n), .ref h2])), (h2, .inr (1, [.ref h3, .int (nI bo), .int (nI bi)])), (h3, .inl (cB, k, .inl g))] sz)) (va_Qi (fun (r : Int32) (_ : Unit) => r = nI bi) (fun (_ : Unit) => br_Out (dC, dI) cB (va_A [(h0, .inr (0, [.ref h1, .int (nI n), .ref h2])), (h2, .inr (1, [.ref h3, .int (nI bo), .int (nI bi)])), (h3, .inl (cB, k, .inl g))] sz) [(h0, .inr (0, [.ref h1, .int (nI n), .ref h2])), (h2, .inr (1, [.ref h3, .int (nI bo), .int (nI bi)])), (h3, .inl (cB, k, .inl g))]) (va_A [(h0, .inr (0, [.ref h1, .int (nI n), .ref h2])), (h2, .inr (1, [.ref h3, .int (nI bo), .int (nI bi)])), (h3, .inl (cB, k, .inl g))] sz)) 0 0 (va_A [(h0, .inr (0, [.ref h1, .int (nI n), .ref h2])), (h2, .inr (1, [.ref h3, .int (nI bo), .int (nI bi)])), (h3, .inl (cB, k, .inl g))] sz) := by
  refine Met.ofW (cc := cX0_bit) (maxL := 1) (ret := (some .int)) (by decide) rfl ?_
  intro p e s m args below meth c s₁ B hml hv
  obtain ⟨rfl, hsz, hP, hK, hD0⟩ := hv
  have hx := B.exec
  have hb := B.bytes
  have hr := B.returns
  have hts := atoms_spec (ws := ws_ yX0_bit cX0_bit 1 (some .int)) B.pre
  have hts : ∀ w ∈ lw_all, w.before _ s = true := fun w h => hts w (List.mem_cons_of_mem _ h)
  have hown : s.vm.findClass RX0 = some m.cls := findClass_of_methodNamed B.named
  have hlocks := B.notSynchronized
  subst hsz
  have hD := hD0.self (sz := s.heap.size)
  generalize hAe : va_A [(h0, .inr (0, [.ref h1, .int (nI n), .ref h2])), (h2, .inr (1, [.ref h3, .int (nI bo), .int (nI bi)])), (h3, .inl (cB, k, .inl g))] s.heap.size = A at hD ⊢
  have hA : ∀ q : Nat, s.heap.size ≤ q → A q := fun q h => by rw [← hAe]; exact Or.inr h
  have hS : va_S A s.heap s.heap [] := va_S.rf
  have hl := lv_entry ([.ref h0]) (n := 1) (Nat.le_of_ble_eq_true rfl)
  rw [lg_entry_eq]
  generalize (lg_sl ([.ref h0]) ++ List.replicate (1 - (lg_sl ([.ref h0])).length) Slot.unset).toArray = ls at hl ⊢
  have hl : lv_has ls 1 [(0, .ref h0)] := hl
  refine lv_aload_n hx hb dX0_bit_0 rfl (lv_at hl 0 rfl) ?_
  refine va_get (D := (dC, dI)) (ci := 0) (v := .ref h2) (C := RX0) (T := TX0) (N := 3) hx hb hts in_X0 hown hK hP 0 rfl rfl 2 (by decide) (hts _ q44) (fun _ h9 => h9) rfl dX0_bit_1 ?_
  have hPc := hP.sub (ws' := [(h2, .inr (1, [.ref h3, .int (nI bo), .int (nI bi)])), (h3, .inl (cB, k, .inl g))]) [1, 2] rfl
  have hDc := hD.sub (ws' := [(h2, .inr (1, [.ref h3, .int (nI bo), .int (nI bi)])), (h3, .inl (cB, k, .inl g))]) [1, 2] (by decide) rfl
  have hFc := va_free (wc := [(h2, .inr (1, [.ref h3, .int (nI bo), .int (nI bi)])), (h3, .inl (cB, k, .inl g))]) hD hS hA [1, 2] rfl
  refine va_calli (va_runV (As := []) (rest := []) ⟨hx, hb, hml, hown, hts⟩ (br_src_getBitOffset l dC dI cB _ h2 h3 k g bo bi) (cwV 0 hts (lw_V q226 q227 q228 q6 q229) rfl rfl rfl (by decide +kernel) ⟨Nat.le_of_ble_eq_true rfl, Nat.le_of_ble_eq_true rfl⟩) ⟨br_blind, va_recv hK hPc (ci := 1) (q0 := 0) rfl rfl, fun U hU hW => br_start hU hW hPc hK hDc⟩ rfl rfl hl.1 rfl (lv_room (Nat.le_of_ble_eq_true rfl)) dX0_bit_4 ⟨Nat.le_of_ble_eq_true rfl, Nat.le_of_ble_eq_true rfl⟩) hS (fun q _ h => hFc q h) hFc (fun r_4 u t H1 locs ht hvm hw_4 hB hz9 hk9 hS => ?_)
  obtain ⟨hP1, hK1, hD1⟩ := hB
  rw [ht] at hP1
  obtain ⟨hP, hD⟩ := va_join (wr := [(h0, .inr (0, [.ref h1, .int (nI n), .ref h2]))]) (w1 := [(h2, .inr (1, [.ref h3, .int (nI bo), .int (nI bi)])), (h3, .inl (cB, k, .inl g))]) hP hD [1, 2] [0] rfl rfl (by decide) (by decide) hk9 hFc hP1 hD1
  generalize H1 = H at hP hS ⊢
  have hP : va_P (dC, dI) vwCl [(h0, .inr (0, [.ref h1, .int (nI n), .ref h2])), (h2, .inr (1, [.ref h3, .int (nI bo), .int (nI bi)])), (h3, .inl (cB, k, .inl g))] H := hP
  have hD : va_D A [(h0, .inr (0, [.ref h1, .int (nI n), .ref h2])), (h2, .inr (1, [.ref h3, .int (nI bo), .int (nI bi)])), (h3, .inl (cB, k, .inl g))] := hD
  exact W.iret (v := r_4) hx hb hr (fun t ht hW => ⟨⟨r_4, (), rfl, hw_4, by rw [ht]; exact hP, va_K.moved hW.alike hK, hD⟩, hS.F ht⟩) hS.2.2 dX0_bit_7
set_option maxHeartbeats 4000000 in
set_option maxRecDepth 100000 in
/-- read, too few bits left -/
theorem br_rd_read_no (l : Launch) (dC : Nat → ClassId) (dI : Nat → Nat → Nat) (cB : ClassId) (sz : Nat) (h0 h1 h2 h3 n : Nat) (k : Nat) (g : Nat → Int32) (bo bi : Nat) (a : Int32) (hk : k ≤ 4096) (hb0 : 8 * bo + bi ≤ 8 * k) (ha : 8 * k < 8 * bo + bi + br_k a) : Met l yX0_read (ws_ yX0_read cX0_read 3 (some .long)) ({ frames := 2, cells := 0, slots := 0, locals := 47 }) (va_Pc [.ref h0, .int a] (br_Pre (dC, dI) cB [(h0, .inr (0, [.ref h1, .int (nI n), .ref h2])), (h2, .inr (1, [.ref h3, .int (nI bo), .int (nI bi)])), (h3, .inl (cB, k, .inl g))] sz)) (va_Ql (fun (r : Int64) (_ : Unit) => r = 4294967296) (fun (_ : Unit) => br_Out (dC, dI) cB (va_A [(h0, .inr (0, [.ref h1, .int (nI n), .ref h2])), (h2, .inr (1, [.ref h3, .int (nI bo), .int (nI bi)])), (h3, .inl (cB, k, .inl g))] sz) [(h0, .inr (0, [.ref h1, .int (nI n), .ref h2])), (h2, .inr (1, [.ref h3, .int (nI bo), .int (nI bi)])), (h3, .inl (cB, k, .inl g))]) (va_A [(h0, .inr (0, [.ref h1, .int (nI n), .ref h2])), (h2, .inr (1, [.ref h3, .int (nI bo), .int (nI bi)])), (h3, .inl (cB, k, .inl g))] sz)) 0 0 (va_A [(h0, .inr (0, [.ref h1, .int (nI n), .ref h2])), (h2, .inr (1, [.ref h3, .int (nI bo), .int (nI bi)])), (h3, .inl (cB, k, .inl g))] sz) := by
  refine Met.ofW (cc := cX0_read) (maxL := 3) (ret := (some .long)) (by decide) rfl ?_
  intro p e s m args below meth c s₁ B hml hv
  obtain ⟨rfl, hsz, hP, hK, hD0⟩ := hv
  have hx := B.exec
  have hb := B.bytes
  have hr := B.returns
  have hts := atoms_spec (ws := ws_ yX0_read cX0_read 3 (some .long)) B.pre
  have hts : ∀ w ∈ lw_all, w.before _ s = true := fun w h => hts w (List.mem_cons_of_mem _ h)
  have hown : s.vm.findClass RX0 = some m.cls := findClass_of_methodNamed B.named
  have hlocks := B.notSynchronized
  subst hsz
  have hD := hD0.self (sz := s.heap.size)
  generalize hAe : va_A [(h0, .inr (0, [.ref h1, .int (nI n), .ref h2])), (h2, .inr (1, [.ref h3, .int (nI bo), .int (nI bi)])), (h3, .inl (cB, k, .inl g))] s.heap.size = A at hD ⊢
  have hA : ∀ q : Nat, s.heap.size ≤ q → A q := fun q h => by rw [← hAe]; exact Or.inr h
  have hS : va_S A s.heap s.heap [] := va_S.rf
  have hl := lv_entry ([.ref h0, .int a]) (n := 3) (Nat.le_of_ble_eq_true rfl)
  rw [lg_entry_eq]
  generalize (lg_sl ([.ref h0, .int a]) ++ List.replicate (3 - (lg_sl ([.ref h0, .int a])).length) Slot.unset).toArray = ls at hl ⊢
  have hl : lv_has ls 3 [(0, .ref h0), (1, .int a)] := hl
  have hka := br_k_in a
  refine lv_iconst (v := nI 1) hx hb dX0_read_0 (by decide +kernel) ?_
  refine lv_iload_n hx hb dX0_read_1 rfl (lv_at hl 1 rfl) ?_
  refine lv_bipush (v := nI 31) hx hb dX0_read_2 (by decide +kernel) ?_
  refine lv_iand hx hb dX0_read_4 ?_
  refine lv_iadd hx hb dX0_read_5 ?_
  refine wk_as (nI (br_k a)) (br_k_eq a) ?_
  refine lv_istore_n (lv' := [(2, .int (nI (br_k a))), (0, .ref h0), (1, .int a)]) hx hb dX0_read_6 rfl hl (by decide) rfl (fun ls hl => ?_)
  refine lv_iload_n hx hb dX0_read_7 rfl (lv_at hl 0 rfl) ?_
  refine lv_aload_n hx hb dX0_read_8 rfl (lv_at hl 1 rfl) ?_
  refine va_get (D := (dC, dI)) (ci := 0) (v := .ref h2) (C := RX0) (T := TX0) (N := 3) hx hb hts in_X0 hown hK hP 0 rfl rfl 2 (by decide) (hts _ q44) (fun _ h9 => h9) rfl dX0_read_9 ?_
  have hPc := hP.sub (ws' := [(h2, .inr (1, [.ref h3, .int (nI bo), .int (nI bi)])), (h3, .inl (cB, k, .inl g))]) [1, 2] rfl
  have hDc := hD.sub (ws' := [(h2, .inr (1, [.ref h3, .int (nI bo), .int (nI bi)])), (h3, .inl (cB, k, .inl g))]) [1, 2] (by decide) rfl
  have hFc := va_free (wc := [(h2, .inr (1, [.ref h3, .int (nI bo), .int (nI bi)])), (h3, .inl (cB, k, .inl g))]) hD hS hA [1, 2] rfl
  refine va_calli (va_runV (As := []) (rest := [.int (nI (br_k a))]) ⟨hx, hb, hml, hown, hts⟩ (br_src_available l dC dI cB _ h2 h3 k g bo bi hb0) (cwV 0 hts (lw_V q81 q82 q83 q6 q84) rfl rfl rfl (by decide +kernel) ⟨Nat.le_of_ble_eq_true rfl, Nat.le_of_ble_eq_true rfl⟩) ⟨br_blind, va_recv hK hPc (ci := 1) (q0 := 0) rfl rfl, fun U hU hW => br_start hU hW hPc hK hDc⟩ rfl rfl hl.1 rfl (lv_room (Nat.le_of_ble_eq_true rfl)) dX0_read_12 ⟨Nat.le_of_ble_eq_true rfl, Nat.le_of_ble_eq_true rfl⟩) hS (fun q _ h => hFc q h) hFc (fun r_12 u t H1 locs ht hvm hw_12 hB hz9 hk9 hS => ?_)
  obtain ⟨hP1, hK1, hD1⟩ := hB
  rw [ht] at hP1
  obtain ⟨hP, hD⟩ := va_join (wr := [(h0, .inr (0, [.ref h1, .int (nI n), .ref h2]))]) (w1 := [(h2, .inr (1, [.ref h3, .int (nI bo), .int (nI bi)])), (h3, .inl (cB, k, .inl g))]) hP hD [1, 2] [0] rfl rfl (by decide) (by decide) hk9 hFc hP1 hD1
  generalize H1 = H at hP hS ⊢
  have hP : va_P (dC, dI) vwCl [(h0, .inr (0, [.ref h1, .int (nI n), .ref h2])), (h2, .inr (1, [.ref h3, .int (nI bo), .int (nI bi)])), (h3, .inl (cB, k, .inl g))] H := hP
  have hD : va_D A [(h0, .inr (0, [.ref h1, .int (nI n), .ref h2])), (h2, .inr (1, [.ref h3, .int (nI bo), .int (nI bi)])), (h3, .inl (cB, k, .inl g))] := hD
  refine wk_as (nI (8 * k - (8 * bo + bi))) (hw_12) ?_
  refine lv_icmp_le (tgt := 24) hx hb dX0_read_15 (by decide) (fun c1 => ?_) (fun c1 => ?_)
  · exact absurd ((nI_leI (by omega) (by omega)).mp c1) (by omega)
  refine lv_ldc2 hx hb hown (hts _ q89) dX0_read_18 ?_
  refine lv_goto (tgt := 33) hx hb dX0_read_21 (by decide) ?_
  exact W.lret (v := 4294967296) hx hb hr (fun t ht hW => ⟨⟨4294967296, (), rfl, rfl, by rw [ht]; exact hP, va_K.moved hW.alike hK, hD⟩, hS.F ht⟩) hS.2.2 dX0_read_33
set_option maxHeartbeats 4000000 in
set_option maxRecDepth 100000 in
/-- read: the next bits -/
theorem br_rd_read (l : Launch) (dC : Nat → ClassId) (dI : Nat → Nat → Nat) (cB : ClassId) (sz : Nat) (h0 h1 h2 h3 n : Nat) (k : Nat) (g : Nat → Int32) (bo bi : Nat) (a : Int32) (hk : k ≤ 4096) (hbi : bi < 8) (ha : 8 * bo + bi + br_k a ≤ 8 * k) : Met l yX0_read (ws_ yX0_read cX0_read 3 (some .long)) ({ frames := 2, cells := 0, slots := 0, locals := 47 }) (va_Pc [.ref h0, .int a] (br_Pre (dC, dI) cB [(h0, .inr (0, [.ref h1, .int (nI n), .ref h2])), (h2, .inr (1, [.ref h3, .int (nI bo), .int (nI bi)])), (h3, .inl (cB, k, .inl g))] sz)) (va_Ql (fun (r : Int64) (_ : Unit) => ∃ v : Int32, r = v.toInt64 ∧ br_Rd g (8 * bo + bi) (br_k a) v) (fun (_ : Unit) => br_Out (dC, dI) cB (va_A [(h0, .inr (0, [.ref h1, .int (nI n), .ref h2])), (h2, .inr (1, [.ref h3, .int (nI bo), .int (nI bi)])), (h3, .inl (cB, k, .inl g))] sz) [(h0, .inr (0, [.ref h1, .int (nI n), .ref h2])), (h2, .inr (1, [.ref h3, .int (nI ((8 * bo + bi + br_k a) / 8)), .int (nI ((8 * bo + bi + br_k a) % 8))])), (h3, .inl (cB, k, .inl g))]) (va_A [(h0, .inr (0, [.ref h1, .int (nI n), .ref h2])), (h2, .inr (1, [.ref h3, .int (nI bo), .int (nI bi)])), (h3, .inl (cB, k, .inl g))] sz)) 0 0 (va_A [(h0, .inr (0, [.ref h1, .int (nI n), .ref h2])), (h2, .inr (1, [.ref h3, .int (nI bo), .int (nI bi)])), (h3, .inl (cB, k, .inl g))] sz) := by
  refine Met.ofW (cc := cX0_read) (maxL := 3) (ret := (some .long)) (by decide) rfl ?_
  intro p e s m args below meth c s₁ B hml hv
  obtain ⟨rfl, hsz, hP, hK, hD0⟩ := hv
  have hx := B.exec
  have hb := B.bytes
  have hr := B.returns
  have hts := atoms_spec (ws := ws_ yX0_read cX0_read 3 (some .long)) B.pre
  have hts : ∀ w ∈ lw_all, w.before _ s = true := fun w h => hts w (List.mem_cons_of_mem _ h)
  have hown : s.vm.findClass RX0 = some m.cls := findClass_of_methodNamed B.named
  have hlocks := B.notSynchronized
  subst hsz
  have hD := hD0.self (sz := s.heap.size)
  generalize hAe : va_A [(h0, .inr (0, [.ref h1, .int (nI n), .ref h2])), (h2, .inr (1, [.ref h3, .int (nI bo), .int (nI bi)])), (h3, .inl (cB, k, .inl g))] s.heap.size = A at hD ⊢
  have hA : ∀ q : Nat, s.heap.size ≤ q → A q := fun q h => by rw [← hAe]; exact Or.inr h
  have hS : va_S A s.heap s.heap [] := va_S.rf
  have hl := lv_entry ([.ref h0, .int a]) (n := 3) (Nat.le_of_ble_eq_true rfl)
  rw [lg_entry_eq]
  generalize (lg_sl ([.ref h0, .int a]) ++ List.replicate (3 - (lg_sl ([.ref h0, .int a])).length) Slot.unset).toArray = ls at hl ⊢
  have hl : lv_has ls 3 [(0, .ref h0), (1, .int a)] := hl
  have hka := br_k_in a
  refine lv_iconst (v := nI 1) hx hb dX0_read_0 (by decide +kernel) ?_
  refine lv_iload_n hx hb dX0_read_1 rfl (lv_at hl 1 rfl) ?_
  refine lv_bipush (v := nI 31) hx hb dX0_read_2 (by decide +kernel) ?_
  refine lv_iand hx hb dX0_read_4 ?_
  refine lv_iadd hx hb dX0_read_5 ?_
  refine wk_as (nI (br_k a)) (br_k_eq a) ?_
  refine lv_istore_n (lv' := [(2, .int (nI (br_k a))), (0, .ref h0), (1, .int a)]) hx hb dX0_read_6 rfl hl (by decide) rfl (fun ls hl => ?_)
  refine lv_iload_n hx hb dX0_read_7 rfl (lv_at hl 0 rfl) ?_
  refine lv_aload_n hx hb dX0_read_8 rfl (lv_at hl 1 rfl) ?_
  refine va_get (D := (dC, dI)) (ci := 0) (v := .ref h2) (C := RX0) (T := TX0) (N := 3) hx hb hts in_X0 hown hK hP 0 rfl rfl 2 (by decide) (hts _ q44) (fun _ h9 => h9) rfl dX0_read_9 ?_
  have hPc := hP.sub (ws' := [(h2, .inr (1, [.ref h3, .int (nI bo), .int (nI bi)])), (h3, .inl (cB, k, .inl g))]) [1, 2] rfl
  have hDc := hD.sub (ws' := [(h2, .inr (1, [.ref h3, .int (nI bo), .int (nI bi)])), (h3, .inl (cB, k, .inl g))]) [1, 2] (by decide) rfl
  have hFc := va_free (wc := [(h2, .inr (1, [.ref h3, .int (nI bo), .int (nI bi)])), (h3, .inl (cB, k, .inl g))]) hD hS hA [1, 2] rfl
  refine va_calli (va_runV (As := []) (rest := [.int (nI (br_k a))]) ⟨hx, hb, hml, hown, hts⟩ (br_src_available l dC dI cB _ h2 h3 k g bo bi (by omega)) (cwV 0 hts (lw_V q81 q82 q83 q6 q84) rfl rfl rfl (by decide +kernel) ⟨Nat.le_of_ble_eq_true rfl, Nat.le_of_ble_eq_true rfl⟩) ⟨br_blind, va_recv hK hPc (ci := 1) (q0 := 0) rfl rfl, fun U hU hW => br_start hU hW hPc hK hDc⟩ rfl rfl hl.1 rfl (lv_room (Nat.le_of_ble_eq_true rfl)) dX0_read_12 ⟨Nat.le_of_ble_eq_true rfl, Nat.le_of_ble_eq_true rfl⟩) hS (fun q _ h => hFc q h) hFc (fun r_12 u t H1 locs ht hvm hw_12 hB hz9 hk9 hS => ?_)
  obtain ⟨hP1, hK1, hD1⟩ := hB
  rw [ht] at hP1
  obtain ⟨hP, hD⟩ := va_join (wr := [(h0, .inr (0, [.ref h1, .int (nI n), .ref h2]))]) (w1 := [(h2, .inr (1, [.ref h3, .int (nI bo), .int (nI bi)])), (h3, .inl (cB, k, .inl g))]) hP hD [1, 2] [0] rfl rfl (by decide) (by decide) hk9 hFc hP1 hD1
  generalize H1 = H at hP hS ⊢
  have hP : va_P (dC, dI) vwCl [(h0, .inr (0, [.ref h1, .int (nI n), .ref h2])), (h2, .inr (1, [.ref h3, .int (nI bo), .int (nI bi)])), (h3, .inl (cB, k, .inl g))] H := hP
  have hD : va_D A [(h0, .inr (0, [.ref h1, .int (nI n), .ref h2])), (h2, .inr (1, [.ref h3, .int (nI bo), .int (nI bi)])), (h3, .inl (cB, k, .inl g))] := hD
  refine wk_as (nI (8 * k - (8 * bo + bi))) (hw_12) ?_
  refine lv_icmp_le (tgt := 24) hx hb dX0_read_15 (by decide) (fun c1 => ?_) (fun c1 => ?_)
  rotate_left
  · exact absurd (nI_le (by omega) (by omega)) c1
  refine lv_aload_n hx hb dX0_read_24 rfl (lv_at hl 1 rfl) ?_
  refine va_get (D := (dC, dI)) (ci := 0) (v := .ref h2) (C := RX0) (T := TX0) (N := 3) hx hb hts in_X0 hown hK hP 0 rfl rfl 2 (by decide) (hts _ q44) (fun _ h9 => h9) rfl dX0_read_25 ?_
  refine lv_iload_n hx hb dX0_read_28 rfl (lv_at hl 0 rfl) ?_
  have hPc := hP.sub (ws' := [(h2, .inr (1, [.ref h3, .int (nI bo), .int (nI bi)])), (h3, .inl (cB, k, .inl g))]) [1, 2] rfl
  have hDc := hD.sub (ws' := [(h2, .inr (1, [.ref h3, .int (nI bo), .int (nI bi)])), (h3, .inl (cB, k, .inl g))]) [1, 2] (by decide) rfl
  have hFc := va_free (wc := [(h2, .inr (1, [.ref h3, .int (nI bo), .int (nI bi)])), (h3, .inl (cB, k, .inl g))]) hD hS hA [1, 2] rfl
  refine va_calli (va_runV (As := [.int (nI (br_k a))]) (rest := []) ⟨hx, hb, hml, hown, hts⟩ (br_src_readBits l dC dI cB _ h2 h3 k g bo bi (br_k a) hk hka.1 hka.2 hbi ha) (cwV 1 hts (lw_V q90 q91 q92 q6 q93) rfl rfl rfl (by decide +kernel) ⟨Nat.le_of_ble_eq_true rfl, Nat.le_of_ble_eq_true rfl⟩) ⟨br_blind, va_recv hK hPc (ci := 1) (q0 := 0) rfl rfl, fun U hU hW => br_start hU hW hPc hK hDc⟩ rfl rfl hl.1 rfl (lv_room (Nat.le_of_ble_eq_true rfl)) dX0_read_29 ⟨Nat.le_of_ble_eq_true rfl, Nat.le_of_ble_eq_true rfl⟩) hS (fun q _ h => hFc q h) hFc (fun r_29 u t H1 locs ht hvm hw_29 hB hz9 hk9 hS => ?_)
  obtain ⟨hP1, hK1, hD1⟩ := hB
  rw [ht] at hP1
  obtain ⟨hP, hD⟩ := va_join (wr := [(h0, .inr (0, [.ref h1, .int (nI n), .ref h2]))]) (w1 := [(h2, .inr (1, [.ref h3, .int (nI ((8 * bo + bi + br_k a) / 8)), .int (nI ((8 * bo + bi + br_k a) % 8))])), (h3, .inl (cB, k, .inl g))]) hP hD [1, 2] [0] rfl rfl (by decide) (by decide) hk9 hFc hP1 hD1
  generalize H1 = H at hP hS ⊢
  have hP : va_P (dC, dI) vwCl [(h0, .inr (0, [.ref h1, .int (nI n), .ref h2])), (h2, .inr (1, [.ref h3, .int (nI ((8 * bo + bi + br_k a) / 8)), .int (nI ((8 * bo + bi + br_k a) % 8))])), (h3, .inl (cB, k, .inl g))] H := hP
  have hD : va_D A [(h0, .inr (0, [.ref h1, .int (nI n), .ref h2])), (h2, .inr (1, [.ref h3, .int (nI ((8 * bo + bi + br_k a) / 8)), .int (nI ((8 * bo + bi + br_k a) % 8))])), (h3, .inl (cB, k, .inl g))] := hD
  refine lv_i2l (v := r_29.toInt64) hx hb dX0_read_32 rfl ?_
  exact W.lret (v := r_29.toInt64) hx hb hr (fun t ht hW => ⟨⟨r_29.toInt64, (), rfl, ⟨_, rfl, hw_29⟩, by rw [ht]; exact hP, va_K.moved hW.alike hK, hD⟩, hS.F ht⟩) hS.2.2 dX0_read_33
set_option maxHeartbeats 4000000 in
set_option maxRecDepth 100000 in
/-- BitReader() -/
theorem br_rd_init (l : Launch) (dC : Nat → ClassId) (dI : Nat → Nat → Nat) (cB : ClassId) (sz : Nat) (h0 : Nat) : Met l yX0_init (ws_ yX0_init cX0_init 1 none) ({ frames := 2, cells := 3, slots := 4099, locals := 33 }) (va_Pc [.ref h0] (br_Pre (dC, dI) cB [(h0, .inr (0, [.null, .int 0, .null]))] sz)) (va_Qv (fun (u : Nat × Nat × Nat) => True) (fun (u : Nat × Nat × Nat) => br_Out (dC, dI) cB (va_A [(h0, .inr (0, [.null, .int 0, .null]))] sz) [(h0, .inr (0, [.ref u.1, .int (nI 0), .ref u.2.1])), (u.1, .inl (cB, 4096, .inl (fun _ => 0))), (u.2.1, .inr (1, [.ref u.2.2, .int (nI 0), .int (nI 0)])), (u.2.2, .inl (cB, 0, .inl (fun _ => 0)))]) (va_A [(h0, .inr (0, [.null, .int 0, .null]))] sz)) 3 4099 (va_A [(h0, .inr (0, [.null, .int 0, .null]))] sz) := by
  refine Met.ofW (cc := cX0_init) (maxL := 1) (ret := none) (by decide) rfl ?_
  intro p e s m args below meth c s₁ B hml hv
  obtain ⟨rfl, hsz, hP, hK, hD0⟩ := hv
  have hx := B.exec
  have hb := B.bytes
  have hr := B.returns
  have hts := atoms_spec (ws := ws_ yX0_init cX0_init 1 none) B.pre
  have hts : ∀ w ∈ lw_all, w.before _ s = true := fun w h => hts w (List.mem_cons_of_mem _ h)
  have hown : s.vm.findClass RX0 = some m.cls := findClass_of_methodNamed B.named
  have hlocks := B.notSynchronized
  have hin : meth.name = "<init>" := (name_of_methodNamed B.named B.method).1
  subst hsz
  have hD := hD0.self (sz := s.heap.size)
  generalize hAe : va_A [(h0, .inr (0, [.null, .int 0, .null]))] s.heap.size = A at hD ⊢
  have hA : ∀ q : Nat, s.heap.size ≤ q → A q := fun q h => by rw [← hAe]; exact Or.inr h
  have hS : va_S A s.heap s.heap [] := va_S.rf
  have hl := lv_entry ([.ref h0]) (n := 1) (Nat.le_of_ble_eq_true rfl)
  rw [lg_entry_eq]
  generalize (lg_sl ([.ref h0]) ++ List.replicate (1 - (lg_sl ([.ref h0])).length) Slot.unset).toArray = ls at hl ⊢
  have hl : lv_has ls 1 [(0, .ref h0)] := hl
  refine lv_aload_n hx hb dX0_init_0 rfl (lv_at hl 0 rfl) ?_
  refine W.objInit hx hb hown (hts _ q22) (hts _ q23) (hts _ q24) rfl (by rw [hml]; exact hl.1) rfl dX0_init_1 (Nat.le_of_ble_eq_true rfl) (Nat.le_of_ble_eq_true rfl) ?_
  refine W.eq (g2 := F0 m 4 ls []) rfl ?_
  refine lv_aload_n hx hb dX0_init_4 rfl (lv_at hl 0 rfl) ?_
  refine lv_sipush (v := nI 4096) hx hb dX0_init_5 (by decide +kernel) ?_
  refine va_newa (atype := .byte) (a0 := (4096, .inl (fun _ => 0))) hx hb (hts _ q41) rfl hK hP hD hS hA (fun _ => rfl) (nI_pos (by omega)) (nI_clamp (by omega)) (Nat.le_of_ble_eq_true rfl) (Nat.le_of_ble_eq_true rfl) (Nat.le_of_ble_eq_true rfl) dX0_init_8 (fun h1 cA H hK2 hP hD hS => ?_)
  have eA := (br_oneB hK hK2).symm
  subst eA
  have hP : va_P (dC, dI) vwCl [(h0, .inr (0, [.null, .int 0, .null])), (h1, .inl (cB, 4096, .inl (fun _ => 0)))] H := hP
  have hD : va_D A [(h0, .inr (0, [.null, .int 0, .null])), (h1, .inl (cB, 4096, .inl (fun _ => 0)))] := hD
  refine va_putF (D := (dC, dI)) (ci := 0) (v := .ref h1) (ty := .array .byte) (C := RX0) (T := TX0) (N := 3) hx hb hts in_X0 tyX0 tyX0_ok nmX0 hown hK hP hD hS 0 rfl rfl 0 (by decide) (hts _ q42) (fun _ h9 => h9) rfl hin rfl (by decide +kernel) rfl rfl (Nat.le_of_ble_eq_true rfl) dX0_init_10 (fun H locs hP hD hS => ?_)
  have hP : va_P (dC, dI) vwCl [(h0, .inr (0, [.ref h1, .int 0, .null])), (h1, .inl (cB, 4096, .inl (fun _ => 0)))] H := hP
  have hD : va_D A [(h0, .inr (0, [.ref h1, .int 0, .null])), (h1, .inl (cB, 4096, .inl (fun _ => 0)))] := hD
  refine lv_aload_n hx hb dX0_init_13 rfl (lv_at hl 0 rfl) ?_
  refine va_new (ci := 1) (fs := [.null, .int 0, .int 0]) (C := RX1) (T := TX1) (N := 3) hx hb hts in_X1 tyX1 tyX1_ok hown (hts _ q25) (hts _ q26) (hts _ q6) hK hP hD hS hA rfl (fun j hj => by rcases (show j = 0 ∨ j = 1 ∨ j = 2 by omega) with rfl | rfl | rfl <;> rfl) (Nat.le_of_ble_eq_true rfl) (Nat.le_of_ble_eq_true rfl) dX0_init_14 (fun h2 H hP hD hS => ?_)
  have hP : va_P (dC, dI) vwCl [(h0, .inr (0, [.ref h1, .int 0, .null])), (h1, .inl (cB, 4096, .inl (fun _ => 0))), (h2, .inr (1, [.null, .int 0, .int 0]))] H := hP
  have hD : va_D A [(h0, .inr (0, [.ref h1, .int 0, .null])), (h1, .inl (cB, 4096, .inl (fun _ => 0))), (h2, .inr (1, [.null, .int 0, .int 0]))] := hD
  refine lv_dup hx hb dX0_init_17 rfl ?_
  refine lv_iconst (v := nI 0) hx hb dX0_init_18 (by decide +kernel) ?_
  refine va_newa (atype := .byte) (a0 := (0, .inl (fun _ => 0))) hx hb (hts _ q41) rfl hK hP hD hS hA (fun _ => rfl) (nI_pos (by omega)) (nI_clamp (by omega)) (Nat.le_of_ble_eq_true rfl) (Nat.le_of_ble_eq_true rfl) (Nat.le_of_ble_eq_true rfl) dX0_init_19 (fun h3 cA H hK2 hP hD hS => ?_)
  have eA := (br_oneB hK hK2).symm
  subst eA
  have hP : va_P (dC, dI) vwCl [(h0, .inr (0, [.ref h1, .int 0, .null])), (h1, .inl (cB, 4096, .inl (fun _ => 0))), (h2, .inr (1, [.null, .int 0, .int 0])), (h3, .inl (cB, 0, .inl (fun _ => 0)))] H := hP
  have hD : va_D A [(h0, .inr (0, [.ref h1, .int 0, .null])), (h1, .inl (cB, 4096, .inl (fun _ => 0))), (h2, .inr (1, [.null, .int 0, .int 0])), (h3, .inl (cB, 0, .inl (fun _ => 0)))] := hD
  have hPc := hP.sub (ws' := [(h2, .inr (1, [.null, .int 0, .int 0])), (h3, .inl (cB, 0, .inl (fun _ => 0)))]) [2, 3] rfl
  have hDc := hD.sub (ws' := [(h2, .inr (1, [.null, .int 0, .int 0])), (h3, .inl (cB, 0, .inl (fun _ => 0)))]) [2, 3] (by decide) rfl
  have hFc := va_free (wc := [(h2, .inr (1, [.null, .int 0, .int 0])), (h3, .inl (cB, 0, .inl (fun _ => 0)))]) hD hS hA [2, 3] rfl
  refine va_callv (va_runI (As := [.ref h3]) (rest := [.ref h2, .ref h0]) ⟨hx, hb, hml, hown, hts⟩ (br_src_init l dC dI cB _ h2 h3 0 (fun _ => 0)) (cwI 1 hts (lw_meth q29) rfl rfl rfl (hts _ q6) (hts _ q27) (hts _ q28) rfl (by decide +kernel) ⟨Nat.le_of_ble_eq_true rfl, Nat.le_of_ble_eq_true rfl⟩) ⟨br_blind, fun U hU hW => br_start hU hW hPc hK hDc⟩ rfl rfl hl.1 rfl (lv_room (Nat.le_of_ble_eq_true rfl)) dX0_init_21 ⟨Nat.le_of_ble_eq_true rfl, Nat.le_of_ble_eq_true rfl⟩) hS (fun q _ h => hFc q h) hFc (fun u t H1 locs ht hvm hw_21 hB hz9 hk9 hS => ?_)
  obtain ⟨hP1, hK1, hD1⟩ := hB
  rw [ht] at hP1
  obtain ⟨hP, hD⟩ := va_join (wr := [(h0, .inr (0, [.ref h1, .int 0, .null])), (h1, .inl (cB, 4096, .inl (fun _ => 0)))]) (w1 := [(h2, .inr (1, [.ref h3, .int (nI 0), .int (nI 0)])), (h3, .inl (cB, 0, .inl (fun _ => 0)))]) hP hD [2, 3] [0, 1] rfl rfl (by decide) (by decide) hk9 hFc hP1 hD1
  generalize H1 = H at hP hS ⊢
  have hP : va_P (dC, dI) vwCl [(h0, .inr (0, [.ref h1, .int 0, .null])), (h1, .inl (cB, 4096, .inl (fun _ => 0))), (h2, .inr (1, [.ref h3, .int (nI 0), .int (nI 0)])), (h3, .inl (cB, 0, .inl (fun _ => 0)))] H := hP
  have hD : va_D A [(h0, .inr (0, [.ref h1, .int 0, .null])), (h1, .inl (cB, 4096, .inl (fun _ => 0))), (h2, .inr (1, [.ref h3, .int (nI 0), .int (nI 0)])), (h3, .inl (cB, 0, .inl (fun _ => 0)))] := hD
  refine va_put (D := (dC, dI)) (ci := 0) (v := .ref h2) (ty := .object "BitSource") (C := RX0) (T := TX0) (N := 3) hx hb hts in_X0 tyX0 tyX0_ok nmX0 hown hK hP hD hS 0 rfl rfl 2 (by decide) (hts _ q44) (fun _ h9 => h9) rfl (by decide +kernel) rfl rfl (Nat.le_of_ble_eq_true rfl) dX0_init_24 (fun H locs hP hD hS => ?_)
  have hP : va_P (dC, dI) vwCl [(h0, .inr (0, [.ref h1, .int 0, .ref h2])), (h1, .inl (cB, 4096, .inl (fun _ => 0))), (h2, .inr (1, [.ref h3, .int (nI 0), .int (nI 0)])), (h3, .inl (cB, 0, .inl (fun _ => 0)))] H := hP
  have hD : va_D A [(h0, .inr (0, [.ref h1, .int 0, .ref h2])), (h1, .inl (cB, 4096, .inl (fun _ => 0))), (h2, .inr (1, [.ref h3, .int (nI 0), .int (nI 0)])), (h3, .inl (cB, 0, .inl (fun _ => 0)))] := hD
  refine W.widen (k := 3) (n := 4099) (Nat.le_of_ble_eq_true rfl) (Nat.le_of_ble_eq_true rfl) ?_
  exact W.vret hx hb hr (fun t ht hW => ⟨⟨(h1, h2, h3), rfl, trivial, by rw [ht]; exact hP, va_K.moved hW.alike hK, hD⟩, hS.F ht⟩) hS.2.2 dX0_init_27
end
section
/-! BitReaderModel: contracts. Its world: the object h0 (text h1, size n, held h2, end en, at ps), the text f, the held row h -/
set_option maxHeartbeats 4000000 in
set_option maxRecDepth 100000 in
/-- size -/
theorem br_md_size (l : Launch) (dC : Nat → ClassId) (dI : Nat → Nat → Nat) (cB : ClassId) (sz : Nat) (h0 h1 h2 n en ps : Nat) : Met l yX2_size (ws_ yX2_size cX2_size 1 (some .int)) ({ frames := 0, cells := 0, slots := 0, locals := 0 }) (va_Pc [.ref h0] (br_Pre (dC, dI) cB [(h0, .inr (2, [.ref h1, .int (nI n), .ref h2, .int (nI en), .int (nI ps)]))] sz)) (va_Qi (fun (r : Int32) (_ : Unit) => r = nI n) (fun (_ : Unit) => br_Out (dC, dI) cB (va_A [(h0, .inr (2, [.ref h1, .int (nI n), .ref h2, .int (nI en), .int (nI ps)]))] sz) [(h0, .inr (2, [.ref h1, .int (nI n), .ref h2, .int (nI en), .int (nI ps)]))]) (va_A [(h0, .inr (2, [.ref h1, .int (nI n), .ref h2, .int (nI en), .int (nI ps)]))] sz)) 0 0 (va_A [(h0, .inr (2, [.ref h1, .int (nI n), .ref h2, .int (nI en), .int (nI ps)]))] sz) := by
  refine Met.ofW (cc := cX2_size) (maxL := 1) (ret := (some .int)) (by decide) rfl ?_
  intro p e s m args below meth c s₁ B hml hv
  obtain ⟨rfl, hsz, hP, hK, hD0⟩ := hv
  have hx := B.exec
  have hb := B.bytes
  have hr := B.returns
  have hts := atoms_spec (ws := ws_ yX2_size cX2_size 1 (some .int)) B.pre
  have hts : ∀ w ∈ lw_all, w.before _ s = true := fun w h => hts w (List.mem_cons_of_mem _ h)
  have hown : s.vm.findClass RX2 = some m.cls := findClass_of_methodNamed B.named
  have hlocks := B.notSynchronized
  subst hsz
  have hD := hD0.self (sz := s.heap.size)
  generalize hAe : va_A [(h0, .inr (2, [.ref h1, .int (nI n), .ref h2, .int (nI en), .int (nI ps)]))] s.heap.size = A at hD ⊢
  have hA : ∀ q : Nat, s.heap.size ≤ q → A q := fun q h => by rw [← hAe]; exact Or.inr h
  have hS : va_S A s.heap s.heap [] := va_S.rf
  have hl := lv_entry ([.ref h0]) (n := 1) (Nat.le_of_ble_eq_true rfl)
  rw [lg_entry_eq]
  generalize (lg_sl ([.ref h0]) ++ List.replicate (1 - (lg_sl ([.ref h0])).length) Slot.unset).toArray = ls at hl ⊢
  have hl : lv_has ls 1 [(0, .ref h0)] := hl
  refine lv_aload_n hx hb dX2_size_0 rfl (lv_at hl 0 rfl) ?_
  refine va_get (D := (dC, dI)) (ci := 2) (v := .int (nI n)) (C := RX2) (T := TX2) (N := 5) hx hb hts in_X2 hown hK hP 0 rfl rfl 1 (by decide) (hts _ q237) (fun _ h9 => h9) rfl dX2_size_1 ?_
  exact W.iret (v := (nI n)) hx hb hr (fun t ht hW => ⟨⟨(nI n), (), rfl, rfl, by rw [ht]; exact hP, va_K.moved hW.alike hK, hD⟩, hS.F ht⟩) hS.2.2 dX2_size_4
set_option maxHeartbeats 4000000 in
set_option maxRecDepth 100000 in
/-- first -/
theorem br_md_first (l : Launch) (dC : Nat → ClassId) (dI : Nat → Nat → Nat) (cB : ClassId) (sz : Nat) (h0 h1 h2 n en ps : Nat) (a : Int32) (hn : n ≤ 4096) : Met l yX2_first (ws_ yX2_first cX2_first 2 (some .int)) ({ frames := 0, cells := 0, slots := 0, locals := 0 }) (va_Pc [.ref h0, .int a] (br_Pre (dC, dI) cB [(h0, .inr (2, [.ref h1, .int (nI n), .ref h2, .int (nI en), .int (nI ps)]))] sz)) (va_Qi (fun (r : Int32) (_ : Unit) => r = nI (br_trim a n)) (fun (_ : Unit) => br_Out (dC, dI) cB (va_A [(h0, .inr (2, [.ref h1, .int (nI n), .ref h2, .int (nI en), .int (nI ps)]))] sz) [(h0, .inr (2, [.ref h1, .int (nI n), .ref h2, .int (nI en), .int (nI ps)]))]) (va_A [(h0, .inr (2, [.ref h1, .int (nI n), .ref h2, .int (nI en), .int (nI ps)]))] sz)) 0 0 (va_A [(h0, .inr (2, [.ref h1, .int (nI n), .ref h2, .int (nI en), .int (nI ps)]))] sz) := by
  refine Met.ofW (cc := cX2_first) (maxL := 2) (ret := (some .int)) (by decide) rfl ?_
  intro p e s m args below meth c s₁ B hml hv
  obtain ⟨rfl, hsz, hP, hK, hD0⟩ := hv
  have hx := B.exec
  have hb := B.bytes
  have hr := B.returns
  have hts := atoms_spec (ws := ws_ yX2_first cX2_first 2 (some .int)) B.pre
  have hts : ∀ w ∈ lw_all, w.before _ s = true := fun w h => hts w (List.mem_cons_of_mem _ h)
  have hown : s.vm.findClass RX2 = some m.cls := findClass_of_methodNamed B.named
  have hlocks := B.notSynchronized
  subst hsz
  have hD := hD0.self (sz := s.heap.size)
  generalize hAe : va_A [(h0, .inr (2, [.ref h1, .int (nI n), .ref h2, .int (nI en), .int (nI ps)]))] s.heap.size = A at hD ⊢
  have hA : ∀ q : Nat, s.heap.size ≤ q → A q := fun q h => by rw [← hAe]; exact Or.inr h
  have hS : va_S A s.heap s.heap [] := va_S.rf
  have hl := lv_entry ([.ref h0, .int a]) (n := 2) (Nat.le_of_ble_eq_true rfl)
  rw [lg_entry_eq]
  generalize (lg_sl ([.ref h0, .int a]) ++ List.replicate (2 - (lg_sl ([.ref h0, .int a])).length) Slot.unset).toArray = ls at hl ⊢
  have hl : lv_has ls 2 [(0, .ref h0), (1, .int a)] := hl
  refine lv_iload_n hx hb dX2_first_0 rfl (lv_at hl 1 rfl) ?_
  refine lv_ldc hx hb hown (hts _ q264) dX2_first_1 ?_
  refine lv_iand hx hb dX2_first_3 ?_
  refine wk_as (nI (a.toBitVec.toNat % 2 ^ 31)) (br_and31 a) ?_
  refine lv_aload_n hx hb dX2_first_4 rfl (lv_at hl 0 rfl) ?_
  refine va_get (D := (dC, dI)) (ci := 2) (v := .int (nI n)) (C := RX2) (T := TX2) (N := 5) hx hb hts in_X2 hown hK hP 0 rfl rfl 1 (by decide) (hts _ q237) (fun _ h9 => h9) rfl dX2_first_5 ?_
  refine lv_iconst (v := nI 1) hx hb dX2_first_8 (by decide +kernel) ?_
  refine lv_iadd hx hb dX2_first_9 ?_
  refine wk_as (nI (n + 1)) (nI_add n 1) ?_
  refine lv_irem hx hb dX2_first_10 (nI_ne0 (by omega) (by omega)) ?_
  refine wk_as (nI (br_trim a n)) (br_rem a hn) ?_
  exact W.iret (v := (nI (br_trim a n))) hx hb hr (fun t ht hW => ⟨⟨(nI (br_trim a n)), (), rfl, rfl, by rw [ht]; exact hP, va_K.moved hW.alike hK, hD⟩, hS.F ht⟩) hS.2.2 dX2_first_11
set_option maxHeartbeats 4000000 in
set_option maxRecDepth 100000 in
/-- trim -/
theorem br_md_trim (l : Launch) (dC : Nat → ClassId) (dI : Nat → Nat → Nat) (cB : ClassId) (sz : Nat) (h0 h1 h2 n en ps : Nat) (a : Int32) (hn : n ≤ 4096) : Met l yX2_trim (ws_ yX2_trim cX2_trim 2 none) ({ frames := 1, cells := 0, slots := 0, locals := 21 }) (va_Pc [.ref h0, .int a] (br_Pre (dC, dI) cB [(h0, .inr (2, [.ref h1, .int (nI n), .ref h2, .int (nI en), .int (nI ps)]))] sz)) (va_Qv (fun (_ : Unit) => True) (fun (_ : Unit) => br_Out (dC, dI) cB (va_A [(h0, .inr (2, [.ref h1, .int (nI n), .ref h2, .int (nI en), .int (nI ps)]))] sz) [(h0, .inr (2, [.ref h1, .int (nI (br_trim a n)), .ref h2, .int (nI en), .int (nI ps)]))]) (va_A [(h0, .inr (2, [.ref h1, .int (nI n), .ref h2, .int (nI en), .int (nI ps)]))] sz)) 0 0 (va_A [(h0, .inr (2, [.ref h1, .int (nI n), .ref h2, .int (nI en), .int (nI ps)]))] sz) := by
  refine Met.ofW (cc := cX2_trim) (maxL := 2) (ret := none) (by decide) rfl ?_
  intro p e s m args below meth c s₁ B hml hv
  obtain ⟨rfl, hsz, hP, hK, hD0⟩ := hv
  have hx := B.exec
  have hb := B.bytes
  have hr := B.returns
  have hts := atoms_spec (ws := ws_ yX2_trim cX2_trim 2 none) B.pre
  have hts : ∀ w ∈ lw_all, w.before _ s = true := fun w h => hts w (List.mem_cons_of_mem _ h)
  have hown : s.vm.findClass RX2 = some m.cls := findClass_of_methodNamed B.named
  have hlocks := B.notSynchronized
  subst hsz
  have hD := hD0.self (sz := s.heap.size)
  generalize hAe : va_A [(h0, .inr (2, [.ref h1, .int (nI n), .ref h2, .int (nI en), .int (nI ps)]))] s.heap.size = A at hD ⊢
  have hA : ∀ q : Nat, s.heap.size ≤ q → A q := fun q h => by rw [← hAe]; exact Or.inr h
  have hS : va_S A s.heap s.heap [] := va_S.rf
  have hl := lv_entry ([.ref h0, .int a]) (n := 2) (Nat.le_of_ble_eq_true rfl)
  rw [lg_entry_eq]
  generalize (lg_sl ([.ref h0, .int a]) ++ List.replicate (2 - (lg_sl ([.ref h0, .int a])).length) Slot.unset).toArray = ls at hl ⊢
  have hl : lv_has ls 2 [(0, .ref h0), (1, .int a)] := hl
  refine lv_aload_n hx hb dX2_trim_0 rfl (lv_at hl 0 rfl) ?_
  refine lv_aload_n hx hb dX2_trim_1 rfl (lv_at hl 0 rfl) ?_
  refine lv_iload_n hx hb dX2_trim_2 rfl (lv_at hl 1 rfl) ?_
  have hPc := hP.sub (ws' := [(h0, .inr (2, [.ref h1, .int (nI n), .ref h2, .int (nI en), .int (nI ps)]))]) [0] rfl
  have hDc := hD.sub (ws' := [(h0, .inr (2, [.ref h1, .int (nI n), .ref h2, .int (nI en), .int (nI ps)]))]) [0] (by decide) rfl
  have hFc := va_free (wc := [(h0, .inr (2, [.ref h1, .int (nI n), .ref h2, .int (nI en), .int (nI ps)]))]) hD hS hA [0] rfl
  refine va_calli (va_runV (As := [.int a]) (rest := [.ref h0]) ⟨hx, hb, hml, hown, hts⟩ (br_md_first l dC dI cB _ h0 h1 h2 n en ps a hn) (cwV 1 hts (lw_V q260 q262 qs3 q7 q263) rfl rfl rfl (by decide +kernel) ⟨Nat.le_of_ble_eq_true rfl, Nat.le_of_ble_eq_true rfl⟩) ⟨br_blind, va_recv hK hPc (ci := 2) (q0 := 0) rfl rfl, fun U hU hW => br_start hU hW hPc hK hDc⟩ rfl rfl hl.1 rfl (lv_room (Nat.le_of_ble_eq_true rfl)) dX2_trim_3 ⟨Nat.le_of_ble_eq_true rfl, Nat.le_of_ble_eq_true rfl⟩) hS (fun q _ h => hFc q h) hFc (fun r_3 u t H1 locs ht hvm hw_3 hB hz9 hk9 hS => ?_)
  obtain ⟨hP1, hK1, hD1⟩ := hB
  rw [ht] at hP1
  obtain ⟨hP, hD⟩ := va_join (wr := []) (w1 := [(h0, .inr (2, [.ref h1, .int (nI n), .ref h2, .int (nI en), .int (nI ps)]))]) hP hD [0] [] rfl rfl (by decide) (by decide) hk9 hFc hP1 hD1
  generalize H1 = H at hP hS ⊢
  have hP : va_P (dC, dI) vwCl [(h0, .inr (2, [.ref h1, .int (nI n), .ref h2, .int (nI en), .int (nI ps)]))] H := hP
  have hD : va_D A [(h0, .inr (2, [.ref h1, .int (nI n), .ref h2, .int (nI en), .int (nI ps)]))] := hD
  refine wk_as (nI (br_trim a n)) (hw_3) ?_
  refine va_put (D := (dC, dI)) (ci := 2) (v := .int (nI (br_trim a n))) (ty := .int) (C := RX2) (T := TX2) (N := 5) hx hb hts in_X2 tyX2 tyX2_ok nmX2 hown hK hP hD hS 0 rfl rfl 1 (by decide) (hts _ q237) (fun _ h9 => h9) rfl (by decide +kernel) rfl rfl (Nat.le_of_ble_eq_true rfl) dX2_trim_6 (fun H locs hP hD hS => ?_)
  have hP : va_P (dC, dI) vwCl [(h0, .inr (2, [.ref h1, .int (nI (br_trim a n)), .ref h2, .int (nI en), .int (nI ps)]))] H := hP
  have hD : va_D A [(h0, .inr (2, [.ref h1, .int (nI (br_trim a n)), .ref h2, .int (nI en), .int (nI ps)]))] := hD
  exact W.vret hx hb hr (fun t ht hW => ⟨⟨(), rfl, trivial, by rw [ht]; exact hP, va_K.moved hW.alike hK, hD⟩, hS.F ht⟩) hS.2.2 dX2_trim_9
set_option maxHeartbeats 4000000 in
set_option maxRecDepth 100000 in
/-- put, no room -/
theorem br_md_put_no (l : Launch) (dC : Nat → ClassId) (dI : Nat → Nat → Nat) (cB : ClassId) (sz : Nat) (h0 h1 h2 n en ps : Nat) (f : Nat → Int32) (a1 a2 a3 a4 : Int32) (hn : n ≤ 4096) (hn2 : 4080 < n) : Met l yX2_put (ws_ yX2_put cX2_put 7 (some .boolean)) ({ frames := 0, cells := 0, slots := 0, locals := 0 }) (va_Pc [.ref h0, .int a1, .int a2, .int a3, .int a4] (br_Pre (dC, dI) cB [(h0, .inr (2, [.ref h1, .int (nI n), .ref h2, .int (nI en), .int (nI ps)])), (h1, .inl (cB, 4096, .inl f))] sz)) (va_Qi (fun (r : Int32) (_ : Unit) => r = nI 0) (fun (_ : Unit) => br_Out (dC, dI) cB (va_A [(h0, .inr (2, [.ref h1, .int (nI n), .ref h2, .int (nI en), .int (nI ps)])), (h1, .inl (cB, 4096, .inl f))] sz) [(h0, .inr (2, [.ref h1, .int (nI n), .ref h2, .int (nI en), .int (nI ps)])), (h1, .inl (cB, 4096, .inl f))]) (va_A [(h0, .inr (2, [.ref h1, .int (nI n), .ref h2, .int (nI en), .int (nI ps)])), (h1, .inl (cB, 4096, .inl f))] sz)) 0 0 (va_A [(h0, .inr (2, [.ref h1, .int (nI n), .ref h2, .int (nI en), .int (nI ps)])), (h1, .inl (cB, 4096, .inl f))] sz) := by
  refine Met.ofW (cc := cX2_put) (maxL := 7) (ret := (some .boolean)) (by decide) rfl ?_
  intro p e s m args below meth c s₁ B hml hv
  obtain ⟨rfl, hsz, hP, hK, hD0⟩ := hv
  have hx := B.exec
  have hb := B.bytes
  have hr := B.returns
  have hts := atoms_spec (ws := ws_ yX2_put cX2_put 7 (some .boolean)) B.pre
  have hts : ∀ w ∈ lw_all, w.before _ s = true := fun w h => hts w (List.mem_cons_of_mem _ h)
  have hown : s.vm.findClass RX2 = some m.cls := findClass_of_methodNamed B.named
  have hlocks := B.notSynchronized
  subst hsz
  have hD := hD0.self (sz := s.heap.size)
  generalize hAe : va_A [(h0, .inr (2, [.ref h1, .int (nI n), .ref h2, .int (nI en), .int (nI ps)])), (h1, .inl (cB, 4096, .inl f))] s.heap.size = A at hD ⊢
  have hA : ∀ q : Nat, s.heap.size ≤ q → A q := fun q h => by rw [← hAe]; exact Or.inr h
  have hS : va_S A s.heap s.heap [] := va_S.rf
  have hl := lv_entry ([.ref h0, .int a1, .int a2, .int a3, .int a4]) (n := 7) (Nat.le_of_ble_eq_true rfl)
  rw [lg_entry_eq]
  generalize (lg_sl ([.ref h0, .int a1, .int a2, .int a3, .int a4]) ++ List.replicate (7 - (lg_sl ([.ref h0, .int a1, .int a2, .int a3, .int a4])).length) Slot.unset).toArray = ls at hl ⊢
  have hl : lv_has ls 7 [(0, .ref h0), (1, .int a1), (2, .int a2), (3, .int a3), (4, .int a4)] := hl
  refine lv_aload_n hx hb dX2_put_0 rfl (lv_at hl 0 rfl) ?_
  refine va_get (D := (dC, dI)) (ci := 2) (v := .int (nI n)) (C := RX2) (T := TX2) (N := 5) hx hb hts in_X2 hown hK hP 0 rfl rfl 1 (by decide) (hts _ q237) (fun _ h9 => h9) rfl dX2_put_1 ?_
  refine lv_bipush (v := nI 16) hx hb dX2_put_4 (by decide +kernel) ?_
  refine lv_iadd hx hb dX2_put_6 ?_
  refine wk_as (nI (n + 16)) (nI_add n 16) ?_
  refine lv_sipush (v := nI 4096) hx hb dX2_put_7 (by decide +kernel) ?_
  refine lv_icmp_le (tgt := 15) hx hb dX2_put_10 (by decide) (fun c1 => ?_) (fun c1 => ?_)
  · exact absurd ((nI_leI (by omega) (by omega)).mp c1) (by omega)
  refine lv_iconst (v := nI 0) hx hb dX2_put_13 (by decide +kernel) ?_
  exact W.zret (v := (nI 0)) hx hb hr rfl (fun t ht hW => ⟨⟨(nI 0), (), rfl, rfl, by rw [ht]; exact hP, va_K.moved hW.alike hK, hD⟩, hS.F ht⟩) hS.2.2 dX2_put_14
set_option maxHeartbeats 4000000 in
set_option maxRecDepth 100000 in
theorem br_md_put_tail {p : Program} {l : Launch} {e : Env} {R : Room} {s : State} {m : MethodId} {args : Array Value} {below : List Frame} {meth : Method} {c : Code} {cells slots : Nat} {Q : State → Prop} {dC : Nat → ClassId} {dI : Nat → Nat → Nat} {A : Nat → Prop} {cB : ClassId} {h0 h1 h2 n en ps : Nat} {f : Nat → Int32} {a1 a2 a3 a4 : Int32} (hx : p.tables.exec = Jvm.exec) (hb : c.code = cX2_put) (hown : s.vm.findClass RX2 = some m.cls) (hts : ∀ w ∈ lw_all, w.before args s = true) (hK : va_K (dC, dI) vwCl [(cB, .byte)] s) (k : Nat) (hn : n ≤ 4080) (hk : k < 16) (kx : ∀ (H : Heap) (locs : List Loc) (ls : Array Slot), va_P (dC, dI) vwCl [(h0, .inr (2, [.ref h1, .int (nI n), .ref h2, .int (nI en), .int (nI ps)])), (h1, .inl (cB, 4096, .inl (br_put f n a1 a2 a3 a4 (k + 1))))] H → va_D A [(h0, .inr (2, [.ref h1, .int (nI n), .ref h2, .int (nI en), .int (nI ps)])), (h1, .inl (cB, 4096, .inl (br_put f n a1 a2 a3 a4 (k + 1))))] → va_S A s.heap H locs → lv_has ls 7 [(0, .ref h0), (1, .int a1), (2, .int a2), (3, .int a3), (4, .int a4), (5, .int (nI (k + 1)))] → W p l e R s m args below meth c H locs cells slots Q (F0 m 18 ls [])) (H : Heap) (locs : List Loc) (ls : Array Slot) : va_P (dC, dI) vwCl [(h0, .inr (2, [.ref h1, .int (nI n), .ref h2, .int (nI en), .int (nI ps)])), (h1, .inl (cB, 4096, .inl (br_put f n a1 a2 a3 a4 k)))] H → va_D A [(h0, .inr (2, [.ref h1, .int (nI n), .ref h2, .int (nI en), .int (nI ps)])), (h1, .inl (cB, 4096, .inl (br_put f n a1 a2 a3 a4 k)))] → va_S A s.heap H locs → lv_has ls 7 [(0, .ref h0), (1, .int a1), (2, .int a2), (3, .int a3), (4, .int a4), (5, .int (nI k))] → W p l e R s m args below meth c H locs cells slots Q (F0 m 59 ls [.int (br_sel a1 a2 a3 a4 k)]) := by
  intro hP hD hS hl
  refine lv_istore (lv' := [(6, .int (br_sel a1 a2 a3 a4 k)), (0, .ref h0), (1, .int a1), (2, .int a2), (3, .int a3), (4, .int a4), (5, .int (nI k))]) hx hb dX2_put_59 hl (by decide) rfl (fun ls hl => ?_)
  refine lv_aload_n hx hb dX2_put_61 rfl (lv_at hl 1 rfl) ?_
  refine va_get (D := (dC, dI)) (ci := 2) (v := .ref h1) (C := RX2) (T := TX2) (N := 5) hx hb hts in_X2 hown hK hP 0 rfl rfl 0 (by decide) (hts _ q236) (fun _ h9 => h9) rfl dX2_put_62 ?_
  refine lv_aload_n hx hb dX2_put_65 rfl (lv_at hl 1 rfl) ?_
  refine va_get (D := (dC, dI)) (ci := 2) (v := .int (nI n)) (C := RX2) (T := TX2) (N := 5) hx hb hts in_X2 hown hK hP 0 rfl rfl 1 (by decide) (hts _ q237) (fun _ h9 => h9) rfl dX2_put_66 ?_
  refine lv_iload hx hb dX2_put_69 (lv_at hl 6 rfl) ?_
  refine lv_iadd hx hb dX2_put_71 ?_
  refine wk_as (nI (n + k)) (nI_add n k) ?_
  refine lv_iload hx hb dX2_put_72 (lv_at hl 0 rfl) ?_
  refine lv_bipush (v := nI 24) hx hb dX2_put_74 (by decide +kernel) ?_
  refine lv_bipush (v := nI 8) hx hb dX2_put_76 (by decide +kernel) ?_
  refine lv_iload hx hb dX2_put_78 (lv_at hl 6 rfl) ?_
  refine lv_iconst (v := nI 3) hx hb dX2_put_80 (by decide +kernel) ?_
  refine lv_iand hx hb dX2_put_81 ?_
  refine wk_as (nI (k % 4)) (pk_andN (by omega) (m := nI 3) 2 (by decide +kernel)) ?_
  refine lv_imul hx hb dX2_put_82 ?_
  refine wk_as (nI (8 * (k % 4))) (pk_mul 8 (k % 4)) ?_
  refine lv_isub hx hb dX2_put_83 ?_
  refine wk_as (nI (24 - 8 * (k % 4))) (pk_sub (by omega)) ?_
  refine lv_iushr (v := ((br_sel a1 a2 a3 a4 k).toUInt32 >>> ((nI (24 - 8 * (k % 4))).toUInt32 &&& Int32.toUInt32 31)).toInt32) hx hb dX2_put_84 rfl ?_
  refine lv_i2b (v := br_byt (br_sel a1 a2 a3 a4 k) (k % 4)) hx hb dX2_put_85 (br_bytU _) ?_
  refine wk_bast (i := n + k) (g := (br_put f n a1 a2 a3 a4 (k + 1))) hx hb hK hP hD hS 1 0 rfl rfl (by omega) (by omega) (by rw [br_bytb]; rfl) dX2_put_86 (fun H locs hP hD hS => ?_)
  have hP : va_P (dC, dI) vwCl [(h0, .inr (2, [.ref h1, .int (nI n), .ref h2, .int (nI en), .int (nI ps)])), (h1, .inl (cB, 4096, .inl (br_put f n a1 a2 a3 a4 (k + 1))))] H := hP
  have hD : va_D A [(h0, .inr (2, [.ref h1, .int (nI n), .ref h2, .int (nI en), .int (nI ps)])), (h1, .inl (cB, 4096, .inl (br_put f n a1 a2 a3 a4 (k + 1))))] := hD
  refine lv_iinc (v := nI (k + 1)) (lv' := [(5, .int (nI (k + 1))), (6, .int (br_sel a1 a2 a3 a4 k)), (0, .ref h0), (1, .int a1), (2, .int a2), (3, .int a3), (4, .int a4)]) hx hb dX2_put_87 hl (k := 6) rfl (br_p1 k) (by decide) rfl (fun ls hl => ?_)
  refine lv_goto (tgt := 18) hx hb dX2_put_90 (by decide) ?_
  exact kx H locs ls hP hD hS (lv_sub hl [2, 3, 4, 5, 6, 0] rfl)
set_option maxHeartbeats 4000000 in
set_option maxRecDepth 100000 in
theorem br_md_put_loop {p : Program} {l : Launch} {e : Env} {R : Room} {s : State} {m : MethodId} {args : Array Value} {below : List Frame} {meth : Method} {c : Code} {cells slots : Nat} {Q : State → Prop} {dC : Nat → ClassId} {dI : Nat → Nat → Nat} {A : Nat → Prop} {cB : ClassId} {h0 h1 h2 n en ps : Nat} {f : Nat → Int32} {a1 a2 a3 a4 : Int32} (hx : p.tables.exec = Jvm.exec) (hb : c.code = cX2_put) (hown : s.vm.findClass RX2 = some m.cls) (hts : ∀ w ∈ lw_all, w.before args s = true) (hK : va_K (dC, dI) vwCl [(cB, .byte)] s) (hn : n ≤ 4080) (kx : ∀ (H : Heap) (locs : List Loc) (ls : Array Slot), va_P (dC, dI) vwCl [(h0, .inr (2, [.ref h1, .int (nI n), .ref h2, .int (nI en), .int (nI ps)])), (h1, .inl (cB, 4096, .inl (br_put f n a1 a2 a3 a4 16)))] H → va_D A [(h0, .inr (2, [.ref h1, .int (nI n), .ref h2, .int (nI en), .int (nI ps)])), (h1, .inl (cB, 4096, .inl (br_put f n a1 a2 a3 a4 16)))] → va_S A s.heap H locs → lv_has ls 7 [(0, .ref h0), (1, .int a1), (2, .int a2), (3, .int a3), (4, .int a4), (5, .int (nI 16))] → W p l e R s m args below meth c H locs cells slots Q (F0 m 93 ls [])) :
    ∀ (N k : Nat), k + N = 16 → ∀ (H : Heap) (locs : List Loc) (ls : Array Slot), va_P (dC, dI) vwCl [(h0, .inr (2, [.ref h1, .int (nI n), .ref h2, .int (nI en), .int (nI ps)])), (h1, .inl (cB, 4096, .inl (br_put f n a1 a2 a3 a4 k)))] H → va_D A [(h0, .inr (2, [.ref h1, .int (nI n), .ref h2, .int (nI en), .int (nI ps)])), (h1, .inl (cB, 4096, .inl (br_put f n a1 a2 a3 a4 k)))] → va_S A s.heap H locs → lv_has ls 7 [(0, .ref h0), (1, .int a1), (2, .int a2), (3, .int a3), (4, .int a4), (5, .int (nI k))] → W p l e R s m args below meth c H locs cells slots Q (F0 m 18 ls []) := by
  intro N
  induction N with
  | zero =>
    intro k hk H locs ls hP hD hS hl
    have e : k = 16 := by omega
    subst e
    refine lv_iload hx hb dX2_put_18 (lv_at hl 5 rfl) ?_
    refine lv_bipush (v := nI 16) hx hb dX2_put_20 (by decide +kernel) ?_
    refine lv_icmp_ge (tgt := 93) hx hb dX2_put_22 (by decide) (fun c1 => ?_) (fun c1 => ?_)
    rotate_left
    · exact absurd (nI_le (Nat.le_refl 16) (by omega)) c1
    exact kx H locs ls hP hD hS hl
  | succ N ih =>
    intro k hk H locs ls hP hD hS hl
    refine lv_iload hx hb dX2_put_18 (lv_at hl 5 rfl) ?_
    refine lv_bipush (v := nI 16) hx hb dX2_put_20 (by decide +kernel) ?_
    refine lv_icmp_ge (tgt := 93) hx hb dX2_put_22 (by decide) (fun c1 => ?_) (fun c1 => ?_)
    · exact absurd c1 (nI_ge (show k < 16 by omega) (by omega))
    refine lv_iload hx hb dX2_put_25 (lv_at hl 5 rfl) ?_
    refine lv_iconst (v := nI 4) hx hb dX2_put_27 (by decide +kernel) ?_
    refine lv_icmp_ge (tgt := 35) hx hb dX2_put_28 (by decide) (fun c4 => ?_) (fun c4 => ?_)
    · have c4 : ¬ k < 4 := fun z => (nI_ge z (by omega)) c4
      refine lv_iload hx hb dX2_put_35 (lv_at hl 5 rfl) ?_
      refine lv_bipush (v := nI 8) hx hb dX2_put_37 (by decide +kernel) ?_
      refine lv_icmp_ge (tgt := 46) hx hb dX2_put_39 (by decide) (fun c8 => ?_) (fun c8 => ?_)
      · have c8 : ¬ k < 8 := fun z => (nI_ge z (by omega)) c8
        refine lv_iload hx hb dX2_put_46 (lv_at hl 5 rfl) ?_
        refine lv_bipush (v := nI 12) hx hb dX2_put_48 (by decide +kernel) ?_
        refine lv_icmp_ge (tgt := 57) hx hb dX2_put_50 (by decide) (fun c12 => ?_) (fun c12 => ?_)
        · have c12 : ¬ k < 12 := fun z => (nI_ge z (by omega)) c12
          refine lv_iload hx hb dX2_put_57 (lv_at hl 4 rfl) ?_
          refine wk_as (br_sel a1 a2 a3 a4 k) (by unfold br_sel; rw [if_neg c4, if_neg c8, if_neg c12]) ?_
          exact br_md_put_tail hx hb hown hts hK k hn (by omega) (ih (k + 1) (by omega)) H locs ls hP hD hS hl
        · have c12 : k < 12 := Nat.not_le.mp (fun z => c12 (nI_le z (by omega)))
          refine lv_iload_n hx hb dX2_put_53 rfl (lv_at hl 3 rfl) ?_
          refine lv_goto (tgt := 59) hx hb dX2_put_54 (by decide) ?_
          refine wk_as (br_sel a1 a2 a3 a4 k) (by unfold br_sel; rw [if_neg c4, if_neg c8, if_pos c12]) ?_
          exact br_md_put_tail hx hb hown hts hK k hn (by omega) (ih (k + 1) (by omega)) H locs ls hP hD hS hl
      · have c8 : k < 8 := Nat.not_le.mp (fun z => c8 (nI_le z (by omega)))
        refine lv_iload_n hx hb dX2_put_42 rfl (lv_at hl 2 rfl) ?_
        refine lv_goto (tgt := 59) hx hb dX2_put_43 (by decide) ?_
        refine wk_as (br_sel a1 a2 a3 a4 k) (by unfold br_sel; rw [if_neg c4, if_pos c8]) ?_
        exact br_md_put_tail hx hb hown hts hK k hn (by omega) (ih (k + 1) (by omega)) H locs ls hP hD hS hl
    · have c4 : k < 4 := Nat.not_le.mp (fun z => c4 (nI_le z (by omega)))
      refine lv_iload_n hx hb dX2_put_31 rfl (lv_at hl 1 rfl) ?_
      refine lv_goto (tgt := 59) hx hb dX2_put_32 (by decide) ?_
      refine wk_as (br_sel a1 a2 a3 a4 k) (by unfold br_sel; rw [if_pos c4]) ?_
      exact br_md_put_tail hx hb hown hts hK k hn (by omega) (ih (k + 1) (by omega)) H locs ls hP hD hS hl
set_option maxHeartbeats 4000000 in
set_option maxRecDepth 100000 in
/-- put: sixteen bytes of the text -/
theorem br_md_put (l : Launch) (dC : Nat → ClassId) (dI : Nat → Nat → Nat) (cB : ClassId) (sz : Nat) (h0 h1 h2 n en ps : Nat) (f : Nat → Int32) (a1 a2 a3 a4 : Int32) (hn : n ≤ 4080) : Met l yX2_put (ws_ yX2_put cX2_put 7 (some .boolean)) ({ frames := 0, cells := 0, slots := 0, locals := 0 }) (va_Pc [.ref h0, .int a1, .int a2, .int a3, .int a4] (br_Pre (dC, dI) cB [(h0, .inr (2, [.ref h1, .int (nI n), .ref h2, .int (nI en), .int (nI ps)])), (h1, .inl (cB, 4096, .inl f))] sz)) (va_Qi (fun (r : Int32) (_ : Unit) => r = nI 1) (fun (_ : Unit) => br_Out (dC, dI) cB (va_A [(h0, .inr (2, [.ref h1, .int (nI n), .ref h2, .int (nI en), .int (nI ps)])), (h1, .inl (cB, 4096, .inl f))] sz) [(h0, .inr (2, [.ref h1, .int (nI (n + 16)), .ref h2, .int (nI en), .int (nI ps)])), (h1, .inl (cB, 4096, .inl (br_put f n a1 a2 a3 a4 16)))]) (va_A [(h0, .inr (2, [.ref h1, .int (nI n), .ref h2, .int (nI en), .int (nI ps)])), (h1, .inl (cB, 4096, .inl f))] sz)) 0 0 (va_A [(h0, .inr (2, [.ref h1, .int (nI n), .ref h2, .int (nI en), .int (nI ps)])), (h1, .inl (cB, 4096, .inl f))] sz) := by
  refine Met.ofW (cc := cX2_put) (maxL := 7) (ret := (some .boolean)) (by decide) rfl ?_
  intro p e s m args below meth c s₁ B hml hv
  obtain ⟨rfl, hsz, hP, hK, hD0⟩ := hv
  have hx := B.exec
  have hb := B.bytes
  have hr := B.returns
  have hts := atoms_spec (ws := ws_ yX2_put cX2_put 7 (some .boolean)) B.pre
  have hts : ∀ w ∈ lw_all, w.before _ s = true := fun w h => hts w (List.mem_cons_of_mem _ h)
  have hown : s.vm.findClass RX2 = some m.cls := findClass_of_methodNamed B.named
  have hlocks := B.notSynchronized
  subst hsz
  have hD := hD0.self (sz := s.heap.size)
  generalize hAe : va_A [(h0, .inr (2, [.ref h1, .int (nI n), .ref h2, .int (nI en), .int (nI ps)])), (h1, .inl (cB, 4096, .inl f))] s.heap.size = A at hD ⊢
  have hA : ∀ q : Nat, s.heap.size ≤ q → A q := fun q h => by rw [← hAe]; exact Or.inr h
  have hS : va_S A s.heap s.heap [] := va_S.rf
  have hl := lv_entry ([.ref h0, .int a1, .int a2, .int a3, .int a4]) (n := 7) (Nat.le_of_ble_eq_true rfl)
  rw [lg_entry_eq]
  generalize (lg_sl ([.ref h0, .int a1, .int a2, .int a3, .int a4]) ++ List.replicate (7 - (lg_sl ([.ref h0, .int a1, .int a2, .int a3, .int a4])).length) Slot.unset).toArray = ls at hl ⊢
  have hl : lv_has ls 7 [(0, .ref h0), (1, .int a1), (2, .int a2), (3, .int a3), (4, .int a4)] := hl
  refine lv_aload_n hx hb dX2_put_0 rfl (lv_at hl 0 rfl) ?_
  refine va_get (D := (dC, dI)) (ci := 2) (v := .int (nI n)) (C := RX2) (T := TX2) (N := 5) hx hb hts in_X2 hown hK hP 0 rfl rfl 1 (by decide) (hts _ q237) (fun _ h9 => h9) rfl dX2_put_1 ?_
  refine lv_bipush (v := nI 16) hx hb dX2_put_4 (by decide +kernel) ?_
  refine lv_iadd hx hb dX2_put_6 ?_
  refine wk_as (nI (n + 16)) (nI_add n 16) ?_
  refine lv_sipush (v := nI 4096) hx hb dX2_put_7 (by decide +kernel) ?_
  refine lv_icmp_le (tgt := 15) hx hb dX2_put_10 (by decide) (fun c1 => ?_) (fun c1 => ?_)
  rotate_left
  · exact absurd (nI_le (by omega) (by omega)) c1
  refine lv_iconst (v := nI 0) hx hb dX2_put_15 (by decide +kernel) ?_
  refine lv_istore (lv' := [(5, .int (nI 0)), (0, .ref h0), (1, .int a1), (2, .int a2), (3, .int a3), (4, .int a4)]) hx hb dX2_put_16 hl (by decide) rfl (fun ls hl => ?_)
  refine br_md_put_loop hx hb hown hts hK hn (fun H locs ls hP hD hS hl => ?_) 16 0 (by omega) _ _ ls hP hD hS (lv_sub hl [1, 2, 3, 4, 5, 0] rfl)
  refine lv_aload_n hx hb dX2_put_93 rfl (lv_at hl 0 rfl) ?_
  refine lv_aload_n hx hb dX2_put_94 rfl (lv_at hl 0 rfl) ?_
  refine va_get (D := (dC, dI)) (ci := 2) (v := .int (nI n)) (C := RX2) (T := TX2) (N := 5) hx hb hts in_X2 hown hK hP 0 rfl rfl 1 (by decide) (hts _ q237) (fun _ h9 => h9) rfl dX2_put_95 ?_
  refine lv_bipush (v := nI 16) hx hb dX2_put_98 (by decide +kernel) ?_
  refine lv_iadd hx hb dX2_put_100 ?_
  refine wk_as (nI (n + 16)) (nI_add n 16) ?_
  refine va_put (D := (dC, dI)) (ci := 2) (v := .int (nI (n + 16))) (ty := .int) (C := RX2) (T := TX2) (N := 5) hx hb hts in_X2 tyX2 tyX2_ok nmX2 hown hK hP hD hS 0 rfl rfl 1 (by decide) (hts _ q237) (fun _ h9 => h9) rfl (by decide +kernel) rfl rfl (Nat.le_of_ble_eq_true rfl) dX2_put_101 (fun H locs hP hD hS => ?_)
  have hP : va_P (dC, dI) vwCl [(h0, .inr (2, [.ref h1, .int (nI (n + 16)), .ref h2, .int (nI en), .int (nI ps)])), (h1, .inl (cB, 4096, .inl (br_put f n a1 a2 a3 a4 16)))] H := hP
  have hD : va_D A [(h0, .inr (2, [.ref h1, .int (nI (n + 16)), .ref h2, .int (nI en), .int (nI ps)])), (h1, .inl (cB, 4096, .inl (br_put f n a1 a2 a3 a4 16)))] := hD
  refine lv_iconst (v := nI 1) hx hb dX2_put_104 (by decide +kernel) ?_
  exact W.zret (v := (nI 1)) hx hb hr rfl (fun t ht hW => ⟨⟨(nI 1), (), rfl, rfl, by rw [ht]; exact hP, va_K.moved hW.alike hK, hD⟩, hS.F ht⟩) hS.2.2 dX2_put_105
set_option maxHeartbeats 4000000 in
set_option maxRecDepth 100000 in
theorem br_md_cp {p : Program} {l : Launch} {e : Env} {R : Room} {s : State} {m : MethodId} {args : Array Value} {below : List Frame} {meth : Method} {c : Code} {cells slots : Nat} {Q : State → Prop} {dC : Nat → ClassId} {dI : Nat → Nat → Nat} {A : Nat → Prop} {cB : ClassId} {h0 h1 h2 n en ps : Nat} {f h : Nat → Int32} (hx : p.tables.exec = Jvm.exec) (hb : c.code = cX2_begin) (hown : s.vm.findClass RX2 = some m.cls) (hts : ∀ w ∈ lw_all, w.before args s = true) (hK : va_K (dC, dI) vwCl [(cB, .byte)] s) (hn : n ≤ 4096) (kx : ∀ (H : Heap) (locs : List Loc) (ls : Array Slot), va_P (dC, dI) vwCl [(h0, .inr (2, [.ref h1, .int (nI n), .ref h2, .int (nI en), .int (nI ps)])), (h1, .inl (cB, 4096, .inl f)), (h2, .inl (cB, 4096, .inl (br_cp h f n)))] H → va_D A [(h0, .inr (2, [.ref h1, .int (nI n), .ref h2, .int (nI en), .int (nI ps)])), (h1, .inl (cB, 4096, .inl f)), (h2, .inl (cB, 4096, .inl (br_cp h f n)))] → va_S A s.heap H locs → lv_has ls 2 [(0, .ref h0), (1, .int (nI n))] → W p l e R s m args below meth c H locs cells slots Q (F0 m 28 ls [])) :
    ∀ (N i : Nat), i + N = n → ∀ (H : Heap) (locs : List Loc) (ls : Array Slot), va_P (dC, dI) vwCl [(h0, .inr (2, [.ref h1, .int (nI n), .ref h2, .int (nI en), .int (nI ps)])), (h1, .inl (cB, 4096, .inl f)), (h2, .inl (cB, 4096, .inl (br_cp h f i)))] H → va_D A [(h0, .inr (2, [.ref h1, .int (nI n), .ref h2, .int (nI en), .int (nI ps)])), (h1, .inl (cB, 4096, .inl f)), (h2, .inl (cB, 4096, .inl (br_cp h f i)))] → va_S A s.heap H locs → lv_has ls 2 [(0, .ref h0), (1, .int (nI i))] → W p l e R s m args below meth c H locs cells slots Q (F0 m 2 ls []) := by
  intro N
  induction N with
  | zero =>
    intro i hi H locs ls hP hD hS hl
    have e : n = i := by omega
    subst e
    refine lv_iload_n hx hb dX2_begin_2 rfl (lv_at hl 1 rfl) ?_
    refine lv_aload_n hx hb dX2_begin_3 rfl (lv_at hl 0 rfl) ?_
    refine va_get (D := (dC, dI)) (ci := 2) (v := .int (nI n)) (C := RX2) (T := TX2) (N := 5) hx hb hts in_X2 hown hK hP 0 rfl rfl 1 (by decide) (hts _ q237) (fun _ h9 => h9) rfl dX2_begin_4 ?_
    refine lv_icmp_ge (tgt := 28) hx hb dX2_begin_7 (by decide) (fun c1 => ?_) (fun c1 => ?_)
    rotate_left
    · exact absurd (nI_le (Nat.le_refl _) (by omega)) c1
    exact kx H locs ls hP hD hS hl
  | succ N ih =>
    intro i hi H locs ls hP hD hS hl
    refine lv_iload_n hx hb dX2_begin_2 rfl (lv_at hl 1 rfl) ?_
    refine lv_aload_n hx hb dX2_begin_3 rfl (lv_at hl 0 rfl) ?_
    refine va_get (D := (dC, dI)) (ci := 2) (v := .int (nI n)) (C := RX2) (T := TX2) (N := 5) hx hb hts in_X2 hown hK hP 0 rfl rfl 1 (by decide) (hts _ q237) (fun _ h9 => h9) rfl dX2_begin_4 ?_
    refine lv_icmp_ge (tgt := 28) hx hb dX2_begin_7 (by decide) (fun c1 => ?_) (fun c1 => ?_)
    · exact absurd c1 (nI_ge (show i < n by omega) (by omega))
    refine lv_aload_n hx hb dX2_begin_10 rfl (lv_at hl 0 rfl) ?_
    refine va_get (D := (dC, dI)) (ci := 2) (v := .ref h2) (C := RX2) (T := TX2) (N := 5) hx hb hts in_X2 hown hK hP 0 rfl rfl 2 (by decide) (hts _ q238) (fun _ h9 => h9) rfl dX2_begin_11 ?_
    refine lv_iload_n hx hb dX2_begin_14 rfl (lv_at hl 1 rfl) ?_
    refine lv_aload_n hx hb dX2_begin_15 rfl (lv_at hl 0 rfl) ?_
    refine va_get (D := (dC, dI)) (ci := 2) (v := .ref h1) (C := RX2) (T := TX2) (N := 5) hx hb hts in_X2 hown hK hP 0 rfl rfl 0 (by decide) (hts _ q236) (fun _ h9 => h9) rfl dX2_begin_16 ?_
    refine lv_iload_n hx hb dX2_begin_19 rfl (lv_at hl 1 rfl) ?_
    refine wk_bald (i := i) hx hb hK hP 1 0 rfl rfl (by omega) (by omega) dX2_begin_20 ?_
    refine wk_bast (i := i) (g := (br_cp h f (i + 1))) hx hb hK hP hD hS 2 0 rfl rfl (by omega) (by omega) (rfl) dX2_begin_21 (fun H locs hP hD hS => ?_)
    have hP : va_P (dC, dI) vwCl [(h0, .inr (2, [.ref h1, .int (nI n), .ref h2, .int (nI en), .int (nI ps)])), (h1, .inl (cB, 4096, .inl f)), (h2, .inl (cB, 4096, .inl (br_cp h f (i + 1))))] H := hP
    have hD : va_D A [(h0, .inr (2, [.ref h1, .int (nI n), .ref h2, .int (nI en), .int (nI ps)])), (h1, .inl (cB, 4096, .inl f)), (h2, .inl (cB, 4096, .inl (br_cp h f (i + 1))))] := hD
    refine lv_iinc (v := nI (i + 1)) (lv' := [(1, .int (nI (i + 1))), (0, .ref h0)]) hx hb dX2_begin_22 hl (k := 1) rfl (br_p1 i) (by decide) rfl (fun ls hl => ?_)
    refine lv_goto (tgt := 2) hx hb dX2_begin_25 (by decide) ?_
    exact ih (i + 1) (by omega) H locs ls hP hD hS (lv_sub hl [1, 0] rfl)
set_option maxHeartbeats 4000000 in
set_option maxRecDepth 100000 in
/-- begin: the text is copied, the place is 0 -/
theorem br_md_begin (l : Launch) (dC : Nat → ClassId) (dI : Nat → Nat → Nat) (cB : ClassId) (sz : Nat) (h0 h1 h2 n en ps : Nat) (f h : Nat → Int32) (hn : n ≤ 4096) : Met l yX2_begin (ws_ yX2_begin cX2_begin 2 none) ({ frames := 0, cells := 0, slots := 0, locals := 0 }) (va_Pc [.ref h0] (br_Pre (dC, dI) cB [(h0, .inr (2, [.ref h1, .int (nI n), .ref h2, .int (nI en), .int (nI ps)])), (h1, .inl (cB, 4096, .inl f)), (h2, .inl (cB, 4096, .inl h))] sz)) (va_Qv (fun (_ : Unit) => True) (fun (_ : Unit) => br_Out (dC, dI) cB (va_A [(h0, .inr (2, [.ref h1, .int (nI n), .ref h2, .int (nI en), .int (nI ps)])), (h1, .inl (cB, 4096, .inl f)), (h2, .inl (cB, 4096, .inl h))] sz) [(h0, .inr (2, [.ref h1, .int (nI n), .ref h2, .int (nI (8 * n)), .int (nI 0)])), (h1, .inl (cB, 4096, .inl f)), (h2, .inl (cB, 4096, .inl (br_cp h f n)))]) (va_A [(h0, .inr (2, [.ref h1, .int (nI n), .ref h2, .int (nI en), .int (nI ps)])), (h1, .inl (cB, 4096, .inl f)), (h2, .inl (cB, 4096, .inl h))] sz)) 0 0 (va_A [(h0, .inr (2, [.ref h1, .int (nI n), .ref h2, .int (nI en), .int (nI ps)])), (h1, .inl (cB, 4096, .inl f)), (h2, .inl (cB, 4096, .inl h))] sz) := by
  refine Met.ofW (cc := cX2_begin) (maxL := 2) (ret := none) (by decide) rfl ?_
  intro p e s m args below meth c s₁ B hml hv
  obtain ⟨rfl, hsz, hP, hK, hD0⟩ := hv
  have hx := B.exec
  have hb := B.bytes
  have hr := B.returns
  have hts := atoms_spec (ws := ws_ yX2_begin cX2_begin 2 none) B.pre
  have hts : ∀ w ∈ lw_all, w.before _ s = true := fun w h => hts w (List.mem_cons_of_mem _ h)
  have hown : s.vm.findClass RX2 = some m.cls := findClass_of_methodNamed B.named
  have hlocks := B.notSynchronized
  subst hsz
  have hD := hD0.self (sz := s.heap.size)
  generalize hAe : va_A [(h0, .inr (2, [.ref h1, .int (nI n), .ref h2, .int (nI en), .int (nI ps)])), (h1, .inl (cB, 4096, .inl f)), (h2, .inl (cB, 4096, .inl h))] s.heap.size = A at hD ⊢
  have hA : ∀ q : Nat, s.heap.size ≤ q → A q := fun q h => by rw [← hAe]; exact Or.inr h
  have hS : va_S A s.heap s.heap [] := va_S.rf
  have hl := lv_entry ([.ref h0]) (n := 2) (Nat.le_of_ble_eq_true rfl)
  rw [lg_entry_eq]
  generalize (lg_sl ([.ref h0]) ++ List.replicate (2 - (lg_sl ([.ref h0])).length) Slot.unset).toArray = ls at hl ⊢
  have hl : lv_has ls 2 [(0, .ref h0)] := hl
  refine lv_iconst (v := nI 0) hx hb dX2_begin_0 (by decide +kernel) ?_
  refine lv_istore_n (lv' := [(1, .int (nI 0)), (0, .ref h0)]) hx hb dX2_begin_1 rfl hl (by decide) rfl (fun ls hl => ?_)
  refine br_md_cp hx hb hown hts hK hn (fun H locs ls hP hD hS hl => ?_) n 0 (by omega) _ _ ls hP hD hS (lv_sub hl [1, 0] rfl)
  refine lv_aload_n hx hb dX2_begin_28 rfl (lv_at hl 0 rfl) ?_
  refine lv_bipush (v := nI 8) hx hb dX2_begin_29 (by decide +kernel) ?_
  refine lv_aload_n hx hb dX2_begin_31 rfl (lv_at hl 0 rfl) ?_
  refine va_get (D := (dC, dI)) (ci := 2) (v := .int (nI n)) (C := RX2) (T := TX2) (N := 5) hx hb hts in_X2 hown hK hP 0 rfl rfl 1 (by decide) (hts _ q237) (fun _ h9 => h9) rfl dX2_begin_32 ?_
  refine lv_imul hx hb dX2_begin_35 ?_
  refine wk_as (nI (8 * n)) (pk_mul 8 n) ?_
  refine va_put (D := (dC, dI)) (ci := 2) (v := .int (nI (8 * n))) (ty := .int) (C := RX2) (T := TX2) (N := 5) hx hb hts in_X2 tyX2 tyX2_ok nmX2 hown hK hP hD hS 0 rfl rfl 3 (by decide) (hts _ q239) (fun _ h9 => h9) rfl (by decide +kernel) rfl rfl (Nat.le_of_ble_eq_true rfl) dX2_begin_36 (fun H locs hP hD hS => ?_)
  have hP : va_P (dC, dI) vwCl [(h0, .inr (2, [.ref h1, .int (nI n), .ref h2, .int (nI (8 * n)), .int (nI ps)])), (h1, .inl (cB, 4096, .inl f)), (h2, .inl (cB, 4096, .inl (br_cp h f n)))] H := hP
  have hD : va_D A [(h0, .inr (2, [.ref h1, .int (nI n), .ref h2, .int (nI (8 * n)), .int (nI ps)])), (h1, .inl (cB, 4096, .inl f)), (h2, .inl (cB, 4096, .inl (br_cp h f n)))] := hD
  refine lv_aload_n hx hb dX2_begin_39 rfl (lv_at hl 0 rfl) ?_
  refine lv_iconst (v := nI 0) hx hb dX2_begin_40 (by decide +kernel) ?_
  refine va_put (D := (dC, dI)) (ci := 2) (v := .int (nI 0)) (ty := .int) (C := RX2) (T := TX2) (N := 5) hx hb hts in_X2 tyX2 tyX2_ok nmX2 hown hK hP hD hS 0 rfl rfl 4 (by decide) (hts _ q240) (fun _ h9 => h9) rfl (by decide +kernel) rfl rfl (Nat.le_of_ble_eq_true rfl) dX2_begin_41 (fun H locs hP hD hS => ?_)
  have hP : va_P (dC, dI) vwCl [(h0, .inr (2, [.ref h1, .int (nI n), .ref h2, .int (nI (8 * n)), .int (nI 0)])), (h1, .inl (cB, 4096, .inl f)), (h2, .inl (cB, 4096, .inl (br_cp h f n)))] H := hP
  have hD : va_D A [(h0, .inr (2, [.ref h1, .int (nI n), .ref h2, .int (nI (8 * n)), .int (nI 0)])), (h1, .inl (cB, 4096, .inl f)), (h2, .inl (cB, 4096, .inl (br_cp h f n)))] := hD
  exact W.vret hx hb hr (fun t ht hW => ⟨⟨(), rfl, trivial, by rw [ht]; exact hP, va_K.moved hW.alike hK, hD⟩, hS.F ht⟩) hS.2.2 dX2_begin_44
set_option maxHeartbeats 4000000 in
set_option maxRecDepth 100000 in
/-- left -/
theorem br_md_left (l : Launch) (dC : Nat → ClassId) (dI : Nat → Nat → Nat) (cB : ClassId) (sz : Nat) (h0 h1 h2 n en ps : Nat) (hp : ps ≤ en) : Met l yX2_left (ws_ yX2_left cX2_left 1 (some .int)) ({ frames := 0, cells := 0, slots := 0, locals := 0 }) (va_Pc [.ref h0] (br_Pre (dC, dI) cB [(h0, .inr (2, [.ref h1, .int (nI n), .ref h2, .int (nI en), .int (nI ps)]))] sz)) (va_Qi (fun (r : Int32) (_ : Unit) => r = nI (en - ps)) (fun (_ : Unit) => br_Out (dC, dI) cB (va_A [(h0, .inr (2, [.ref h1, .int (nI n), .ref h2, .int (nI en), .int (nI ps)]))] sz) [(h0, .inr (2, [.ref h1, .int (nI n), .ref h2, .int (nI en), .int (nI ps)]))]) (va_A [(h0, .inr (2, [.ref h1, .int (nI n), .ref h2, .int (nI en), .int (nI ps)]))] sz)) 0 0 (va_A [(h0, .inr (2, [.ref h1, .int (nI n), .ref h2, .int (nI en), .int (nI ps)]))] sz) := by
  refine Met.ofW (cc := cX2_left) (maxL := 1) (ret := (some .int)) (by decide) rfl ?_
  intro p e s m args below meth c s₁ B hml hv
  obtain ⟨rfl, hsz, hP, hK, hD0⟩ := hv
  have hx := B.exec
  have hb := B.bytes
  have hr := B.returns
  have hts := atoms_spec (ws := ws_ yX2_left cX2_left 1 (some .int)) B.pre
  have hts : ∀ w ∈ lw_all, w.before _ s = true := fun w h => hts w (List.mem_cons_of_mem _ h)
  have hown : s.vm.findClass RX2 = some m.cls := findClass_of_methodNamed B.named
  have hlocks := B.notSynchronized
  subst hsz
  have hD := hD0.self (sz := s.heap.size)
  generalize hAe : va_A [(h0, .inr (2, [.ref h1, .int (nI n), .ref h2, .int (nI en), .int (nI ps)]))] s.heap.size = A at hD ⊢
  have hA : ∀ q : Nat, s.heap.size ≤ q → A q := fun q h => by rw [← hAe]; exact Or.inr h
  have hS : va_S A s.heap s.heap [] := va_S.rf
  have hl := lv_entry ([.ref h0]) (n := 1) (Nat.le_of_ble_eq_true rfl)
  rw [lg_entry_eq]
  generalize (lg_sl ([.ref h0]) ++ List.replicate (1 - (lg_sl ([.ref h0])).length) Slot.unset).toArray = ls at hl ⊢
  have hl : lv_has ls 1 [(0, .ref h0)] := hl
  refine lv_aload_n hx hb dX2_left_0 rfl (lv_at hl 0 rfl) ?_
  refine va_get (D := (dC, dI)) (ci := 2) (v := .int (nI en)) (C := RX2) (T := TX2) (N := 5) hx hb hts in_X2 hown hK hP 0 rfl rfl 3 (by decide) (hts _ q239) (fun _ h9 => h9) rfl dX2_left_1 ?_
  refine lv_aload_n hx hb dX2_left_4 rfl (lv_at hl 0 rfl) ?_
  refine va_get (D := (dC, dI)) (ci := 2) (v := .int (nI ps)) (C := RX2) (T := TX2) (N := 5) hx hb hts in_X2 hown hK hP 0 rfl rfl 4 (by decide) (hts _ q240) (fun _ h9 => h9) rfl dX2_left_5 ?_
  refine lv_isub hx hb dX2_left_8 ?_
  refine wk_as (nI (en - ps)) (pk_sub hp) ?_
  exact W.iret (v := (nI (en - ps))) hx hb hr (fun t ht hW => ⟨⟨(nI (en - ps)), (), rfl, rfl, by rw [ht]; exact hP, va_K.moved hW.alike hK, hD⟩, hS.F ht⟩) hS.2.2 dX2_left_9
set_option maxHeartbeats 4000000 in
set_option maxRecDepth 100000 in
/-- octet -/
theorem br_md_octet (l : Launch) (dC : Nat → ClassId) (dI : Nat → Nat → Nat) (cB : ClassId) (sz : Nat) (h0 h1 h2 n en ps : Nat) (hp : ps ≤ 32768) : Met l yX2_octet (ws_ yX2_octet cX2_octet 1 (some .int)) ({ frames := 0, cells := 0, slots := 0, locals := 0 }) (va_Pc [.ref h0] (br_Pre (dC, dI) cB [(h0, .inr (2, [.ref h1, .int (nI n), .ref h2, .int (nI en), .int (nI ps)]))] sz)) (va_Qi (fun (r : Int32) (_ : Unit) => r = nI (ps / 8)) (fun (_ : Unit) => br_Out (dC, dI) cB (va_A [(h0, .inr (2, [.ref h1, .int (nI n), .ref h2, .int (nI en), .int (nI ps)]))] sz) [(h0, .inr (2, [.ref h1, .int (nI n), .ref h2, .int (nI en), .int (nI ps)]))]) (va_A [(h0, .inr (2, [.ref h1, .int (nI n), .ref h2, .int (nI en), .int (nI ps)]))] sz)) 0 0 (va_A [(h0, .inr (2, [.ref h1, .int (nI n), .ref h2, .int (nI en), .int (nI ps)]))] sz) := by
  refine Met.ofW (cc := cX2_octet) (maxL := 1) (ret := (some .int)) (by decide) rfl ?_
  intro p e s m args below meth c s₁ B hml hv
  obtain ⟨rfl, hsz, hP, hK, hD0⟩ := hv
  have hx := B.exec
  have hb := B.bytes
  have hr := B.returns
  have hts := atoms_spec (ws := ws_ yX2_octet cX2_octet 1 (some .int)) B.pre
  have hts : ∀ w ∈ lw_all, w.before _ s = true := fun w h => hts w (List.mem_cons_of_mem _ h)
  have hown : s.vm.findClass RX2 = some m.cls := findClass_of_methodNamed B.named
  have hlocks := B.notSynchronized
  subst hsz
  have hD := hD0.self (sz := s.heap.size)
  generalize hAe : va_A [(h0, .inr (2, [.ref h1, .int (nI n), .ref h2, .int (nI en), .int (nI ps)]))] s.heap.size = A at hD ⊢
  have hA : ∀ q : Nat, s.heap.size ≤ q → A q := fun q h => by rw [← hAe]; exact Or.inr h
  have hS : va_S A s.heap s.heap [] := va_S.rf
  have hl := lv_entry ([.ref h0]) (n := 1) (Nat.le_of_ble_eq_true rfl)
  rw [lg_entry_eq]
  generalize (lg_sl ([.ref h0]) ++ List.replicate (1 - (lg_sl ([.ref h0])).length) Slot.unset).toArray = ls at hl ⊢
  have hl : lv_has ls 1 [(0, .ref h0)] := hl
  refine lv_aload_n hx hb dX2_octet_0 rfl (lv_at hl 0 rfl) ?_
  refine va_get (D := (dC, dI)) (ci := 2) (v := .int (nI ps)) (C := RX2) (T := TX2) (N := 5) hx hb hts in_X2 hown hK hP 0 rfl rfl 4 (by decide) (hts _ q240) (fun _ h9 => h9) rfl dX2_octet_1 ?_
  refine lv_iconst (v := nI 3) hx hb dX2_octet_4 (by decide +kernel) ?_
  refine lv_ishr hx hb dX2_octet_5 ?_
  refine wk_as (nI (ps / 8)) (pk_shrN (by omega) _ 3 (by decide +kernel)) ?_
  exact W.iret (v := (nI (ps / 8))) hx hb hr (fun t ht hW => ⟨⟨(nI (ps / 8)), (), rfl, rfl, by rw [ht]; exact hP, va_K.moved hW.alike hK, hD⟩, hS.F ht⟩) hS.2.2 dX2_octet_6
set_option maxHeartbeats 4000000 in
set_option maxRecDepth 100000 in
/-- bit -/
theorem br_md_bit (l : Launch) (dC : Nat → ClassId) (dI : Nat → Nat → Nat) (cB : ClassId) (sz : Nat) (h0 h1 h2 n en ps : Nat) (hp : ps ≤ 32768) : Met l yX2_bit (ws_ yX2_bit cX2_bit 1 (some .int)) ({ frames := 0, cells := 0, slots := 0, locals := 0 }) (va_Pc [.ref h0] (br_Pre (dC, dI) cB [(h0, .inr (2, [.ref h1, .int (nI n), .ref h2, .int (nI en), .int (nI ps)]))] sz)) (va_Qi (fun (r : Int32) (_ : Unit) => r = nI (ps % 8)) (fun (_ : Unit) => br_Out (dC, dI) cB (va_A [(h0, .inr (2, [.ref h1, .int (nI n), .ref h2, .int (nI en), .int (nI ps)]))] sz) [(h0, .inr (2, [.ref h1, .int (nI n), .ref h2, .int (nI en), .int (nI ps)]))]) (va_A [(h0, .inr (2, [.ref h1, .int (nI n), .ref h2, .int (nI en), .int (nI ps)]))] sz)) 0 0 (va_A [(h0, .inr (2, [.ref h1, .int (nI n), .ref h2, .int (nI en), .int (nI ps)]))] sz) := by
  refine Met.ofW (cc := cX2_bit) (maxL := 1) (ret := (some .int)) (by decide) rfl ?_
  intro p e s m args below meth c s₁ B hml hv
  obtain ⟨rfl, hsz, hP, hK, hD0⟩ := hv
  have hx := B.exec
  have hb := B.bytes
  have hr := B.returns
  have hts := atoms_spec (ws := ws_ yX2_bit cX2_bit 1 (some .int)) B.pre
  have hts : ∀ w ∈ lw_all, w.before _ s = true := fun w h => hts w (List.mem_cons_of_mem _ h)
  have hown : s.vm.findClass RX2 = some m.cls := findClass_of_methodNamed B.named
  have hlocks := B.notSynchronized
  subst hsz
  have hD := hD0.self (sz := s.heap.size)
  generalize hAe : va_A [(h0, .inr (2, [.ref h1, .int (nI n), .ref h2, .int (nI en), .int (nI ps)]))] s.heap.size = A at hD ⊢
  have hA : ∀ q : Nat, s.heap.size ≤ q → A q := fun q h => by rw [← hAe]; exact Or.inr h
  have hS : va_S A s.heap s.heap [] := va_S.rf
  have hl := lv_entry ([.ref h0]) (n := 1) (Nat.le_of_ble_eq_true rfl)
  rw [lg_entry_eq]
  generalize (lg_sl ([.ref h0]) ++ List.replicate (1 - (lg_sl ([.ref h0])).length) Slot.unset).toArray = ls at hl ⊢
  have hl : lv_has ls 1 [(0, .ref h0)] := hl
  refine lv_aload_n hx hb dX2_bit_0 rfl (lv_at hl 0 rfl) ?_
  refine va_get (D := (dC, dI)) (ci := 2) (v := .int (nI ps)) (C := RX2) (T := TX2) (N := 5) hx hb hts in_X2 hown hK hP 0 rfl rfl 4 (by decide) (hts _ q240) (fun _ h9 => h9) rfl dX2_bit_1 ?_
  refine lv_bipush (v := nI 7) hx hb dX2_bit_4 (by decide +kernel) ?_
  refine lv_iand hx hb dX2_bit_6 ?_
  refine wk_as (nI (ps % 8)) (pk_andN (by omega) (m := nI 7) 3 (by decide +kernel)) ?_
  exact W.iret (v := (nI (ps % 8))) hx hb hr (fun t ht hW => ⟨⟨(nI (ps % 8)), (), rfl, rfl, by rw [ht]; exact hP, va_K.moved hW.alike hK, hD⟩, hS.F ht⟩) hS.2.2 dX2_bit_7
set_option maxHeartbeats 4000000 in
set_option maxRecDepth 100000 in
/-- read, too few bits left -/
theorem br_md_read_no (l : Launch) (dC : Nat → ClassId) (dI : Nat → Nat → Nat) (cB : ClassId) (sz : Nat) (h0 h1 h2 n en ps : Nat) (h : Nat → Int32) (a : Int32) (hp : ps ≤ en) (he : en ≤ 32768) (ha : en < ps + br_k a) : Met l yX2_read (ws_ yX2_read cX2_read 5 (some .long)) ({ frames := 0, cells := 0, slots := 0, locals := 0 }) (va_Pc [.ref h0, .int a] (br_Pre (dC, dI) cB [(h0, .inr (2, [.ref h1, .int (nI n), .ref h2, .int (nI en), .int (nI ps)])), (h2, .inl (cB, 4096, .inl h))] sz)) (va_Ql (fun (r : Int64) (_ : Unit) => r = 4294967296) (fun (_ : Unit) => br_Out (dC, dI) cB (va_A [(h0, .inr (2, [.ref h1, .int (nI n), .ref h2, .int (nI en), .int (nI ps)])), (h2, .inl (cB, 4096, .inl h))] sz) [(h0, .inr (2, [.ref h1, .int (nI n), .ref h2, .int (nI en), .int (nI ps)])), (h2, .inl (cB, 4096, .inl h))]) (va_A [(h0, .inr (2, [.ref h1, .int (nI n), .ref h2, .int (nI en), .int (nI ps)])), (h2, .inl (cB, 4096, .inl h))] sz)) 0 0 (va_A [(h0, .inr (2, [.ref h1, .int (nI n), .ref h2, .int (nI en), .int (nI ps)])), (h2, .inl (cB, 4096, .inl h))] sz) := by
  refine Met.ofW (cc := cX2_read) (maxL := 5) (ret := (some .long)) (by decide) rfl ?_
  intro p e s m args below meth c s₁ B hml hv
  obtain ⟨rfl, hsz, hP, hK, hD0⟩ := hv
  have hx := B.exec
  have hb := B.bytes
  have hr := B.returns
  have hts := atoms_spec (ws := ws_ yX2_read cX2_read 5 (some .long)) B.pre
  have hts : ∀ w ∈ lw_all, w.before _ s = true := fun w h => hts w (List.mem_cons_of_mem _ h)
  have hown : s.vm.findClass RX2 = some m.cls := findClass_of_methodNamed B.named
  have hlocks := B.notSynchronized
  subst hsz
  have hD := hD0.self (sz := s.heap.size)
  generalize hAe : va_A [(h0, .inr (2, [.ref h1, .int (nI n), .ref h2, .int (nI en), .int (nI ps)])), (h2, .inl (cB, 4096, .inl h))] s.heap.size = A at hD ⊢
  have hA : ∀ q : Nat, s.heap.size ≤ q → A q := fun q h => by rw [← hAe]; exact Or.inr h
  have hS : va_S A s.heap s.heap [] := va_S.rf
  have hl := lv_entry ([.ref h0, .int a]) (n := 5) (Nat.le_of_ble_eq_true rfl)
  rw [lg_entry_eq]
  generalize (lg_sl ([.ref h0, .int a]) ++ List.replicate (5 - (lg_sl ([.ref h0, .int a])).length) Slot.unset).toArray = ls at hl ⊢
  have hl : lv_has ls 5 [(0, .ref h0), (1, .int a)] := hl
  have hka := br_k_in a
  refine lv_iconst (v := nI 1) hx hb dX2_read_0 (by decide +kernel) ?_
  refine lv_iload_n hx hb dX2_read_1 rfl (lv_at hl 1 rfl) ?_
  refine lv_bipush (v := nI 31) hx hb dX2_read_2 (by decide +kernel) ?_
  refine lv_iand hx hb dX2_read_4 ?_
  refine lv_iadd hx hb dX2_read_5 ?_
  refine wk_as (nI (br_k a)) (br_k_eq a) ?_
  refine lv_istore_n (lv' := [(2, .int (nI (br_k a))), (0, .ref h0), (1, .int a)]) hx hb dX2_read_6 rfl hl (by decide) rfl (fun ls hl => ?_)
  refine lv_iload_n hx hb dX2_read_7 rfl (lv_at hl 0 rfl) ?_
  refine lv_aload_n hx hb dX2_read_8 rfl (lv_at hl 1 rfl) ?_
  refine va_get (D := (dC, dI)) (ci := 2) (v := .int (nI en)) (C := RX2) (T := TX2) (N := 5) hx hb hts in_X2 hown hK hP 0 rfl rfl 3 (by decide) (hts _ q239) (fun _ h9 => h9) rfl dX2_read_9 ?_
  refine lv_aload_n hx hb dX2_read_12 rfl (lv_at hl 1 rfl) ?_
  refine va_get (D := (dC, dI)) (ci := 2) (v := .int (nI ps)) (C := RX2) (T := TX2) (N := 5) hx hb hts in_X2 hown hK hP 0 rfl rfl 4 (by decide) (hts _ q240) (fun _ h9 => h9) rfl dX2_read_13 ?_
  refine lv_isub hx hb dX2_read_16 ?_
  refine wk_as (nI (en - ps)) (pk_sub hp) ?_
  refine lv_icmp_le (tgt := 24) hx hb dX2_read_17 (by decide) (fun c1 => ?_) (fun c1 => ?_)
  · exact absurd ((nI_leI (by omega) (by omega)).mp c1) (by omega)
  refine lv_ldc2 hx hb hown (hts _ q281) dX2_read_20 ?_
  exact W.lret (v := 4294967296) hx hb hr (fun t ht hW => ⟨⟨4294967296, (), rfl, rfl, by rw [ht]; exact hP, va_K.moved hW.alike hK, hD⟩, hS.F ht⟩) hS.2.2 dX2_read_23
set_option maxHeartbeats 4000000 in
set_option maxRecDepth 100000 in
theorem br_md_rd {p : Program} {l : Launch} {e : Env} {R : Room} {s : State} {m : MethodId} {args : Array Value} {below : List Frame} {meth : Method} {c : Code} {cells slots : Nat} {Q : State → Prop} {dC : Nat → ClassId} {dI : Nat → Nat → Nat} {A : Nat → Prop} {cB : ClassId} {h0 h1 h2 n en ps k : Nat} {h : Nat → Int32} (hx : p.tables.exec = Jvm.exec) (hb : c.code = cX2_read) (hown : s.vm.findClass RX2 = some m.cls) (hts : ∀ w ∈ lw_all, w.before args s = true) (hK : va_K (dC, dI) vwCl [(cB, .byte)] s) (hk : k ≤ 32) (hp : ps + k ≤ 32768) (kx : ∀ (v : Int32) (H : Heap) (locs : List Loc) (ls : Array Slot), br_Rd h ps k v → va_P (dC, dI) vwCl [(h0, .inr (2, [.ref h1, .int (nI n), .ref h2, .int (nI en), .int (nI (ps + k))])), (h2, .inl (cB, 4096, .inl h))] H → va_D A [(h0, .inr (2, [.ref h1, .int (nI n), .ref h2, .int (nI en), .int (nI (ps + k))])), (h2, .inl (cB, 4096, .inl h))] → va_S A s.heap H locs → lv_has ls 5 [(0, .ref h0), (2, .int (nI k)), (3, .int v), (4, .int (nI k))] → W p l e R s m args below meth c H locs cells slots Q (F0 m 80 ls [])) :
    ∀ (N i : Nat) (v : Int32), i + N = k → br_Rd h ps i v → ∀ (H : Heap) (locs : List Loc) (ls : Array Slot), va_P (dC, dI) vwCl [(h0, .inr (2, [.ref h1, .int (nI n), .ref h2, .int (nI en), .int (nI (ps + i))])), (h2, .inl (cB, 4096, .inl h))] H → va_D A [(h0, .inr (2, [.ref h1, .int (nI n), .ref h2, .int (nI en), .int (nI (ps + i))])), (h2, .inl (cB, 4096, .inl h))] → va_S A s.heap H locs → lv_has ls 5 [(0, .ref h0), (2, .int (nI k)), (3, .int v), (4, .int (nI i))] → W p l e R s m args below meth c H locs cells slots Q (F0 m 29 ls []) := by
  intro N
  induction N with
  | zero =>
    intro i v hi hv H locs ls hP hD hS hl
    have e : k = i := by omega
    subst e
    refine lv_iload hx hb dX2_read_29 (lv_at hl 3 rfl) ?_
    refine lv_iload_n hx hb dX2_read_31 rfl (lv_at hl 1 rfl) ?_
    refine lv_icmp_ge (tgt := 80) hx hb dX2_read_32 (by decide) (fun c1 => ?_) (fun c1 => ?_)
    rotate_left
    · exact absurd (nI_le (Nat.le_refl _) (by omega)) c1
    exact kx v H locs ls hv hP hD hS hl
  | succ N ih =>
    intro i v hi hv H locs ls hP hD hS hl
    refine lv_iload hx hb dX2_read_29 (lv_at hl 3 rfl) ?_
    refine lv_iload_n hx hb dX2_read_31 rfl (lv_at hl 1 rfl) ?_
    refine lv_icmp_ge (tgt := 80) hx hb dX2_read_32 (by decide) (fun c1 => ?_) (fun c1 => ?_)
    · exact absurd c1 (nI_ge (show i < k by omega) (by omega))
    refine lv_iload_n hx hb dX2_read_35 rfl (lv_at hl 2 rfl) ?_
    refine lv_iconst (v := nI 1) hx hb dX2_read_36 (by decide +kernel) ?_
    refine lv_ishl hx hb dX2_read_37 ?_
    refine lv_aload_n hx hb dX2_read_38 rfl (lv_at hl 0 rfl) ?_
    refine va_get (D := (dC, dI)) (ci := 2) (v := .ref h2) (C := RX2) (T := TX2) (N := 5) hx hb hts in_X2 hown hK hP 0 rfl rfl 2 (by decide) (hts _ q238) (fun _ h9 => h9) rfl dX2_read_39 ?_
    refine lv_aload_n hx hb dX2_read_42 rfl (lv_at hl 0 rfl) ?_
    refine va_get (D := (dC, dI)) (ci := 2) (v := .int (nI (ps + i))) (C := RX2) (T := TX2) (N := 5) hx hb hts in_X2 hown hK hP 0 rfl rfl 4 (by decide) (hts _ q240) (fun _ h9 => h9) rfl dX2_read_43 ?_
    refine lv_iconst (v := nI 3) hx hb dX2_read_46 (by decide +kernel) ?_
    refine lv_ishr hx hb dX2_read_47 ?_
    refine wk_as (nI ((ps + i) / 8)) (pk_shrN (by omega) _ 3 (by decide +kernel)) ?_
    refine wk_bald (i := (ps + i) / 8) hx hb hK hP 1 0 rfl rfl (by omega) (by omega) dX2_read_48 ?_
    refine lv_bipush (v := nI 7) hx hb dX2_read_49 (by decide +kernel) ?_
    refine lv_aload_n hx hb dX2_read_51 rfl (lv_at hl 0 rfl) ?_
    refine va_get (D := (dC, dI)) (ci := 2) (v := .int (nI (ps + i))) (C := RX2) (T := TX2) (N := 5) hx hb hts in_X2 hown hK hP 0 rfl rfl 4 (by decide) (hts _ q240) (fun _ h9 => h9) rfl dX2_read_52 ?_
    refine lv_bipush (v := nI 7) hx hb dX2_read_55 (by decide +kernel) ?_
    refine lv_iand hx hb dX2_read_57 ?_
    refine wk_as (nI ((ps + i) % 8)) (pk_andN (by omega) (m := nI 7) 3 (by decide +kernel)) ?_
    refine lv_isub hx hb dX2_read_58 ?_
    refine wk_as (nI (7 - (ps + i) % 8)) (pk_sub (by omega)) ?_
    refine lv_ishr hx hb dX2_read_59 ?_
    refine lv_iconst (v := nI 1) hx hb dX2_read_60 (by decide +kernel) ?_
    refine lv_iand hx hb dX2_read_61 ?_
    refine lv_ior hx hb dX2_read_62 ?_
    refine lv_istore_n (lv' := [(3, .int ((v <<< ((nI 1) &&& 31)) ||| (((h ((ps + i) / 8)) >>> ((nI (7 - (ps + i) % 8)) &&& 31)) &&& (nI 1)))), (0, .ref h0), (2, .int (nI k)), (4, .int (nI i))]) hx hb dX2_read_63 rfl hl (by decide) rfl (fun ls hl => ?_)
    refine lv_aload_n hx hb dX2_read_64 rfl (lv_at hl 1 rfl) ?_
    refine lv_aload_n hx hb dX2_read_65 rfl (lv_at hl 1 rfl) ?_
    refine va_get (D := (dC, dI)) (ci := 2) (v := .int (nI (ps + i))) (C := RX2) (T := TX2) (N := 5) hx hb hts in_X2 hown hK hP 0 rfl rfl 4 (by decide) (hts _ q240) (fun _ h9 => h9) rfl dX2_read_66 ?_
    refine lv_iconst (v := nI 1) hx hb dX2_read_69 (by decide +kernel) ?_
    refine lv_iadd hx hb dX2_read_70 ?_
    refine wk_as (nI (ps + (i + 1))) (nI_add (ps + i) 1) ?_
    refine va_put (D := (dC, dI)) (ci := 2) (v := .int (nI (ps + (i + 1)))) (ty := .int) (C := RX2) (T := TX2) (N := 5) hx hb hts in_X2 tyX2 tyX2_ok nmX2 hown hK hP hD hS 0 rfl rfl 4 (by decide) (hts _ q240) (fun _ h9 => h9) rfl (by decide +kernel) rfl rfl (Nat.le_of_ble_eq_true rfl) dX2_read_71 (fun H locs hP hD hS => ?_)
    have hP : va_P (dC, dI) vwCl [(h0, .inr (2, [.ref h1, .int (nI n), .ref h2, .int (nI en), .int (nI (ps + (i + 1)))])), (h2, .inl (cB, 4096, .inl h))] H := hP
    have hD : va_D A [(h0, .inr (2, [.ref h1, .int (nI n), .ref h2, .int (nI en), .int (nI (ps + (i + 1)))])), (h2, .inl (cB, 4096, .inl h))] := hD
    refine lv_iinc (v := nI (i + 1)) (lv' := [(4, .int (nI (i + 1))), (3, .int ((v <<< ((nI 1) &&& 31)) ||| (((h ((ps + i) / 8)) >>> ((nI (7 - (ps + i) % 8)) &&& 31)) &&& (nI 1)))), (0, .ref h0), (2, .int (nI k))]) hx hb dX2_read_74 hl (k := 3) rfl (br_p1 i) (by decide) rfl (fun ls hl => ?_)
    refine lv_goto (tgt := 29) hx hb dX2_read_77 (by decide) ?_
    exact ih (i + 1) _ (by omega) (br_Rd_step hv (by omega)) H locs ls hP hD hS (lv_sub hl [2, 3, 1, 0] rfl)
set_option maxHeartbeats 4000000 in
set_option maxRecDepth 100000 in
/-- read: the next bits -/
theorem br_md_read (l : Launch) (dC : Nat → ClassId) (dI : Nat → Nat → Nat) (cB : ClassId) (sz : Nat) (h0 h1 h2 n en ps : Nat) (h : Nat → Int32) (a : Int32) (he : en ≤ 32768) (ha : ps + br_k a ≤ en) : Met l yX2_read (ws_ yX2_read cX2_read 5 (some .long)) ({ frames := 0, cells := 0, slots := 0, locals := 0 }) (va_Pc [.ref h0, .int a] (br_Pre (dC, dI) cB [(h0, .inr (2, [.ref h1, .int (nI n), .ref h2, .int (nI en), .int (nI ps)])), (h2, .inl (cB, 4096, .inl h))] sz)) (va_Ql (fun (r : Int64) (_ : Unit) => ∃ v : Int32, r = v.toInt64 ∧ br_Rd h ps (br_k a) v) (fun (_ : Unit) => br_Out (dC, dI) cB (va_A [(h0, .inr (2, [.ref h1, .int (nI n), .ref h2, .int (nI en), .int (nI ps)])), (h2, .inl (cB, 4096, .inl h))] sz) [(h0, .inr (2, [.ref h1, .int (nI n), .ref h2, .int (nI en), .int (nI (ps + br_k a))])), (h2, .inl (cB, 4096, .inl h))]) (va_A [(h0, .inr (2, [.ref h1, .int (nI n), .ref h2, .int (nI en), .int (nI ps)])), (h2, .inl (cB, 4096, .inl h))] sz)) 0 0 (va_A [(h0, .inr (2, [.ref h1, .int (nI n), .ref h2, .int (nI en), .int (nI ps)])), (h2, .inl (cB, 4096, .inl h))] sz) := by
  refine Met.ofW (cc := cX2_read) (maxL := 5) (ret := (some .long)) (by decide) rfl ?_
  intro p e s m args below meth c s₁ B hml hv
  obtain ⟨rfl, hsz, hP, hK, hD0⟩ := hv
  have hx := B.exec
  have hb := B.bytes
  have hr := B.returns
  have hts := atoms_spec (ws := ws_ yX2_read cX2_read 5 (some .long)) B.pre
  have hts : ∀ w ∈ lw_all, w.before _ s = true := fun w h => hts w (List.mem_cons_of_mem _ h)
  have hown : s.vm.findClass RX2 = some m.cls := findClass_of_methodNamed B.named
  have hlocks := B.notSynchronized
  subst hsz
  have hD := hD0.self (sz := s.heap.size)
  generalize hAe : va_A [(h0, .inr (2, [.ref h1, .int (nI n), .ref h2, .int (nI en), .int (nI ps)])), (h2, .inl (cB, 4096, .inl h))] s.heap.size = A at hD ⊢
  have hA : ∀ q : Nat, s.heap.size ≤ q → A q := fun q h => by rw [← hAe]; exact Or.inr h
  have hS : va_S A s.heap s.heap [] := va_S.rf
  have hl := lv_entry ([.ref h0, .int a]) (n := 5) (Nat.le_of_ble_eq_true rfl)
  rw [lg_entry_eq]
  generalize (lg_sl ([.ref h0, .int a]) ++ List.replicate (5 - (lg_sl ([.ref h0, .int a])).length) Slot.unset).toArray = ls at hl ⊢
  have hl : lv_has ls 5 [(0, .ref h0), (1, .int a)] := hl
  have hka := br_k_in a
  refine lv_iconst (v := nI 1) hx hb dX2_read_0 (by decide +kernel) ?_
  refine lv_iload_n hx hb dX2_read_1 rfl (lv_at hl 1 rfl) ?_
  refine lv_bipush (v := nI 31) hx hb dX2_read_2 (by decide +kernel) ?_
  refine lv_iand hx hb dX2_read_4 ?_
  refine lv_iadd hx hb dX2_read_5 ?_
  refine wk_as (nI (br_k a)) (br_k_eq a) ?_
  refine lv_istore_n (lv' := [(2, .int (nI (br_k a))), (0, .ref h0), (1, .int a)]) hx hb dX2_read_6 rfl hl (by decide) rfl (fun ls hl => ?_)
  refine lv_iload_n hx hb dX2_read_7 rfl (lv_at hl 0 rfl) ?_
  refine lv_aload_n hx hb dX2_read_8 rfl (lv_at hl 1 rfl) ?_
  refine va_get (D := (dC, dI)) (ci := 2) (v := .int (nI en)) (C := RX2) (T := TX2) (N := 5) hx hb hts in_X2 hown hK hP 0 rfl rfl 3 (by decide) (hts _ q239) (fun _ h9 => h9) rfl dX2_read_9 ?_
  refine lv_aload_n hx hb dX2_read_12 rfl (lv_at hl 1 rfl) ?_
  refine va_get (D := (dC, dI)) (ci := 2) (v := .int (nI ps)) (C := RX2) (T := TX2) (N := 5) hx hb hts in_X2 hown hK hP 0 rfl rfl 4 (by decide) (hts _ q240) (fun _ h9 => h9) rfl dX2_read_13 ?_
  refine lv_isub hx hb dX2_read_16 ?_
  refine wk_as (nI (en - ps)) (pk_sub (by omega)) ?_
  refine lv_icmp_le (tgt := 24) hx hb dX2_read_17 (by decide) (fun c1 => ?_) (fun c1 => ?_)
  rotate_left
  · exact absurd (nI_le (by omega) (by omega)) c1
  refine lv_iconst (v := nI 0) hx hb dX2_read_24 (by decide +kernel) ?_
  refine lv_istore_n (lv' := [(3, .int (nI 0)), (2, .int (nI (br_k a))), (0, .ref h0), (1, .int a)]) hx hb dX2_read_25 rfl hl (by decide) rfl (fun ls hl => ?_)
  refine lv_iconst (v := nI 0) hx hb dX2_read_26 (by decide +kernel) ?_
  refine lv_istore (lv' := [(4, .int (nI 0)), (3, .int (nI 0)), (2, .int (nI (br_k a))), (0, .ref h0), (1, .int a)]) hx hb dX2_read_27 hl (by decide) rfl (fun ls hl => ?_)
  refine br_md_rd hx hb hown hts hK hka.2 (by omega) (fun v H locs ls hv hP hD hS hl => ?_) (br_k a) 0 0 (by omega) (br_Rd_0 h ps) _ _ ls hP hD hS (lv_sub hl [3, 2, 1, 0] rfl)
  refine lv_iload_n hx hb dX2_read_80 rfl (lv_at hl 2 rfl) ?_
  refine lv_i2l (v := v.toInt64) hx hb dX2_read_81 rfl ?_
  exact W.lret (v := v.toInt64) hx hb hr (fun t ht hW => ⟨⟨v.toInt64, (), rfl, ⟨_, rfl, hv⟩, by rw [ht]; exact hP, va_K.moved hW.alike hK, hD⟩, hS.F ht⟩) hS.2.2 dX2_read_82
set_option maxHeartbeats 4000000 in
set_option maxRecDepth 100000 in
/-- BitReaderModel() -/
theorem br_md_init (l : Launch) (dC : Nat → ClassId) (dI : Nat → Nat → Nat) (cB : ClassId) (sz : Nat) (h0 : Nat) : Met l yX2_init (ws_ yX2_init cX2_init 1 none) ({ frames := 1, cells := 2, slots := 8192, locals := 12 }) (va_Pc [.ref h0] (br_Pre (dC, dI) cB [(h0, .inr (2, [.null, .int 0, .null, .int 0, .int 0]))] sz)) (va_Qv (fun (u : Nat × Nat) => True) (fun (u : Nat × Nat) => br_Out (dC, dI) cB (va_A [(h0, .inr (2, [.null, .int 0, .null, .int 0, .int 0]))] sz) [(h0, .inr (2, [.ref u.1, .int (nI 0), .ref u.2, .int (nI 0), .int (nI 0)])), (u.1, .inl (cB, 4096, .inl (fun _ => 0))), (u.2, .inl (cB, 4096, .inl (fun _ => 0)))]) (va_A [(h0, .inr (2, [.null, .int 0, .null, .int 0, .int 0]))] sz)) 2 8192 (va_A [(h0, .inr (2, [.null, .int 0, .null, .int 0, .int 0]))] sz) := by
  refine Met.ofW (cc := cX2_init) (maxL := 1) (ret := none) (by decide) rfl ?_
  intro p e s m args below meth c s₁ B hml hv
  obtain ⟨rfl, hsz, hP, hK, hD0⟩ := hv
  have hx := B.exec
  have hb := B.bytes
  have hr := B.returns
  have hts := atoms_spec (ws := ws_ yX2_init cX2_init 1 none) B.pre
  have hts : ∀ w ∈ lw_all, w.before _ s = true := fun w h => hts w (List.mem_cons_of_mem _ h)
  have hown : s.vm.findClass RX2 = some m.cls := findClass_of_methodNamed B.named
  have hlocks := B.notSynchronized
  have hin : meth.name = "<init>" := (name_of_methodNamed B.named B.method).1
  subst hsz
  have hD := hD0.self (sz := s.heap.size)
  generalize hAe : va_A [(h0, .inr (2, [.null, .int 0, .null, .int 0, .int 0]))] s.heap.size = A at hD ⊢
  have hA : ∀ q : Nat, s.heap.size ≤ q → A q := fun q h => by rw [← hAe]; exact Or.inr h
  have hS : va_S A s.heap s.heap [] := va_S.rf
  have hl := lv_entry ([.ref h0]) (n := 1) (Nat.le_of_ble_eq_true rfl)
  rw [lg_entry_eq]
  generalize (lg_sl ([.ref h0]) ++ List.replicate (1 - (lg_sl ([.ref h0])).length) Slot.unset).toArray = ls at hl ⊢
  have hl : lv_has ls 1 [(0, .ref h0)] := hl
  refine lv_aload_n hx hb dX2_init_0 rfl (lv_at hl 0 rfl) ?_
  refine W.objInit hx hb hown (hts _ q235) (hts _ q23) (hts _ q24) rfl (by rw [hml]; exact hl.1) rfl dX2_init_1 (Nat.le_of_ble_eq_true rfl) (Nat.le_of_ble_eq_true rfl) ?_
  refine W.eq (g2 := F0 m 4 ls []) rfl ?_
  refine lv_aload_n hx hb dX2_init_4 rfl (lv_at hl 0 rfl) ?_
  refine lv_sipush (v := nI 4096) hx hb dX2_init_5 (by decide +kernel) ?_
  refine va_newa (atype := .byte) (a0 := (4096, .inl (fun _ => 0))) hx hb (hts _ q41) rfl hK hP hD hS hA (fun _ => rfl) (nI_pos (by omega)) (nI_clamp (by omega)) (Nat.le_of_ble_eq_true rfl) (Nat.le_of_ble_eq_true rfl) (Nat.le_of_ble_eq_true rfl) dX2_init_8 (fun h1 cA H hK2 hP hD hS => ?_)
  have eA := (br_oneB hK hK2).symm
  subst eA
  have hP : va_P (dC, dI) vwCl [(h0, .inr (2, [.null, .int 0, .null, .int 0, .int 0])), (h1, .inl (cB, 4096, .inl (fun _ => 0)))] H := hP
  have hD : va_D A [(h0, .inr (2, [.null, .int 0, .null, .int 0, .int 0])), (h1, .inl (cB, 4096, .inl (fun _ => 0)))] := hD
  refine va_putF (D := (dC, dI)) (ci := 2) (v := .ref h1) (ty := .array .byte) (C := RX2) (T := TX2) (N := 5) hx hb hts in_X2 tyX2 tyX2_ok nmX2 hown hK hP hD hS 0 rfl rfl 0 (by decide) (hts _ q236) (fun _ h9 => h9) rfl hin rfl (by decide +kernel) rfl rfl (Nat.le_of_ble_eq_true rfl) dX2_init_10 (fun H locs hP hD hS => ?_)
  have hP : va_P (dC, dI) vwCl [(h0, .inr (2, [.ref h1, .int 0, .null, .int 0, .int 0])), (h1, .inl (cB, 4096, .inl (fun _ => 0)))] H := hP
  have hD : va_D A [(h0, .inr (2, [.ref h1, .int 0, .null, .int 0, .int 0])), (h1, .inl (cB, 4096, .inl (fun _ => 0)))] := hD
  refine lv_aload_n hx hb dX2_init_13 rfl (lv_at hl 0 rfl) ?_
  refine lv_sipush (v := nI 4096) hx hb dX2_init_14 (by decide +kernel) ?_
  refine va_newa (atype := .byte) (a0 := (4096, .inl (fun _ => 0))) hx hb (hts _ q41) rfl hK hP hD hS hA (fun _ => rfl) (nI_pos (by omega)) (nI_clamp (by omega)) (Nat.le_of_ble_eq_true rfl) (Nat.le_of_ble_eq_true rfl) (Nat.le_of_ble_eq_true rfl) dX2_init_17 (fun h2 cA H hK2 hP hD hS => ?_)
  have eA := (br_oneB hK hK2).symm
  subst eA
  have hP : va_P (dC, dI) vwCl [(h0, .inr (2, [.ref h1, .int 0, .null, .int 0, .int 0])), (h1, .inl (cB, 4096, .inl (fun _ => 0))), (h2, .inl (cB, 4096, .inl (fun _ => 0)))] H := hP
  have hD : va_D A [(h0, .inr (2, [.ref h1, .int 0, .null, .int 0, .int 0])), (h1, .inl (cB, 4096, .inl (fun _ => 0))), (h2, .inl (cB, 4096, .inl (fun _ => 0)))] := hD
  refine va_putF (D := (dC, dI)) (ci := 2) (v := .ref h2) (ty := .array .byte) (C := RX2) (T := TX2) (N := 5) hx hb hts in_X2 tyX2 tyX2_ok nmX2 hown hK hP hD hS 0 rfl rfl 2 (by decide) (hts _ q238) (fun _ h9 => h9) rfl hin rfl (by decide +kernel) rfl rfl (Nat.le_of_ble_eq_true rfl) dX2_init_19 (fun H locs hP hD hS => ?_)
  have hP : va_P (dC, dI) vwCl [(h0, .inr (2, [.ref h1, .int 0, .ref h2, .int 0, .int 0])), (h1, .inl (cB, 4096, .inl (fun _ => 0))), (h2, .inl (cB, 4096, .inl (fun _ => 0)))] H := hP
  have hD : va_D A [(h0, .inr (2, [.ref h1, .int 0, .ref h2, .int 0, .int 0])), (h1, .inl (cB, 4096, .inl (fun _ => 0))), (h2, .inl (cB, 4096, .inl (fun _ => 0)))] := hD
  refine W.widen (k := 2) (n := 8192) (Nat.le_of_ble_eq_true rfl) (Nat.le_of_ble_eq_true rfl) ?_
  exact W.vret hx hb hr (fun t ht hW => ⟨⟨(h1, h2), rfl, trivial, by rw [ht]; exact hP, va_K.moved hW.alike hK, hD⟩, hS.F ht⟩) hS.2.2 dX2_init_22
end
section
/-! The law: each call of the script, from its case to the loop's end (pc 241) -/
set_option maxRecDepth 100000
def R_law : String := "BitReaderLaw"
/-- what ties the two: sizes, the same bits, the same place -/
def br_I (n k bo bi en ps : Nat) (g h : Nat → Int32) : Prop := n ≤ 4096 ∧ k ≤ 4096 ∧ bi < 8 ∧ 8 * bo + bi ≤ 8 * k ∧ en = 8 * k ∧ ps = 8 * bo + bi ∧ ∀ j, j < k → g j = h j
def br_Next (p : Program) (l : Launch) (e : Env) (s : State) (m : MethodId) (below : List Frame) (meth : Method) (c : Code) (dC : Nat → ClassId) (dI : Nat → Nat → Nat) (cB : ClassId) (b i xo mo cells slots : Nat) (Q : State → Prop) : Prop :=
  ∀ (n k bo bi en ps : Nat) (f g h : Nat → Int32) (xt z y mt mh : Nat) (H : Heap) (locs : List Loc) (ls : Array Slot), br_I n k bo bi en ps g h → va_P (dC, dI) vwCl [(xo, .inr (0, [.ref xt, .int (nI n), .ref z])), (xt, .inl (cB, 4096, .inl f)), (z, .inr (1, [.ref y, .int (nI bo), .int (nI bi)])), (y, .inl (cB, k, .inl g)), (mo, .inr (2, [.ref mt, .int (nI n), .ref mh, .int (nI en), .int (nI ps)])), (mt, .inl (cB, 4096, .inl f)), (mh, .inl (cB, 4096, .inl h))] H → va_D (fun q : Nat => s.heap.size ≤ q) [(xo, .inr (0, [.ref xt, .int (nI n), .ref z])), (xt, .inl (cB, 4096, .inl f)), (z, .inr (1, [.ref y, .int (nI bo), .int (nI bi)])), (y, .inl (cB, k, .inl g)), (mo, .inr (2, [.ref mt, .int (nI n), .ref mh, .int (nI en), .int (nI ps)])), (mt, .inl (cB, 4096, .inl f)), (mh, .inl (cB, 4096, .inl h))] → va_S (fun q : Nat => s.heap.size ≤ q) s.heap H locs → lv_has ls 4 [(0, .ref b), (1, .ref xo), (2, .ref mo), (3, .int (nI i))] → W p l e room_1 s m #[Value.ref b] below meth c H locs cells slots Q (F0 m 241 ls [])
theorem br_cmp (x : Int64) : lg_cmp x x = 0 := by simp [lg_cmp]
section WS
variable {p : Program} {l : Launch} {e : Env} {R : Room} {s : State} {m : MethodId} {args : Array Value} {below : List Frame} {meth : Method} {c : Code} {H H0 : Heap} {locs : List Loc} {cells slots : Nat} {Q : State → Prop} {cc : ByteArray} {pc : Nat} {ls : Array Slot} {rest : List Value} {A : Nat → Prop}
theorem wk_sld (hexec : p.tables.exec = Jvm.exec) (hb : c.code = cc) {b L : Nat} {xs : Nat → Int32} (hX : va_X b L xs s H0) (hbl : b < H0.size) (hbA : ¬ A b) (hS : va_S A H0 H locs) {i : Nat} (hin : i < L) (hL : L < 2 ^ 31) (hdg : decode cc pc = .ok (.iaload, 1))
    (kk : W p l e R s m args below meth c H locs cells slots Q (F0 m (pc + 1) ls (.int (xs i) :: rest))) : W p l e R s m args below meth c H locs cells slots Q (F0 m pc ls (.int (nI i) :: .ref b :: rest)) := by
  refine va_sld hexec hb hX hbl hbA hS (vp_in_nI hin hL) hdg ?_
  rw [nI_clamp (by omega)]
  exact kk
end WS
set_option maxHeartbeats 4000000 in
set_option maxRecDepth 100000 in
/-- put -/
theorem br_law_put_no {p : Program} {l : Launch} {e : Env} {s : State} {m : MethodId} {below : List Frame} {meth : Method} {c : Code} {cells slots : Nat} {Q : State → Prop} {dC : Nat → ClassId} {dI : Nat → Nat → Nat} {cB : ClassId} {b L : Nat} {xs : Nat → Int32} (hx : p.tables.exec = Jvm.exec) (hb : c.code = cL_law) (hml : c.maxLocals = 4) (hown : s.vm.findClass R_law = some m.cls) (hts : ∀ w ∈ lw_all, w.before #[Value.ref b] s = true) (hK : va_K (dC, dI) vwCl [(cB, .byte)] s) (hX : va_X b L xs s s.heap) (hbl : b < s.heap.size) (hL : L ≤ 384) (hc : cells + 2 ≤ 600128) (hs : slots + 4099 ≤ 7301098) {i xo mo : Nat} (hi : i + 6 ≤ L) (kx : br_Next p l e s m below meth c dC dI cB b i xo mo (cells + 2) (slots + 4099) Q) {n k bo bi en ps : Nat} {f g h : Nat → Int32} {xt z y mt mh : Nat} {H : Heap} {locs : List Loc} {ls : Array Slot} (hI : br_I n k bo bi en ps g h) (hn2 : 4080 < n) : va_P (dC, dI) vwCl [(xo, .inr (0, [.ref xt, .int (nI n), .ref z])), (xt, .inl (cB, 4096, .inl f)), (z, .inr (1, [.ref y, .int (nI bo), .int (nI bi)])), (y, .inl (cB, k, .inl g)), (mo, .inr (2, [.ref mt, .int (nI n), .ref mh, .int (nI en), .int (nI ps)])), (mt, .inl (cB, 4096, .inl f)), (mh, .inl (cB, 4096, .inl h))] H → va_D (fun q : Nat => s.heap.size ≤ q) [(xo, .inr (0, [.ref xt, .int (nI n), .ref z])), (xt, .inl (cB, 4096, .inl f)), (z, .inr (1, [.ref y, .int (nI bo), .int (nI bi)])), (y, .inl (cB, k, .inl g)), (mo, .inr (2, [.ref mt, .int (nI n), .ref mh, .int (nI en), .int (nI ps)])), (mt, .inl (cB, 4096, .inl f)), (mh, .inl (cB, 4096, .inl h))] → va_S (fun q : Nat => s.heap.size ≤ q) s.heap H locs → lv_has ls 4 [(0, .ref b), (1, .ref xo), (2, .ref mo), (3, .int (nI i))] → W p l e room_1 s m #[Value.ref b] below meth c H locs cells slots Q (F0 m 80 ls []) := by
  intro hP hD hS hl
  have hA : ∀ q : Nat, s.heap.size ≤ q → (fun q : Nat => s.heap.size ≤ q) q := fun _ h => h
  have hbA : ¬ (fun q : Nat => s.heap.size ≤ q) b := Nat.not_le.mpr hbl
  obtain ⟨hn, hk, hbi, hbo, hen, hps, hgh⟩ := hI
  refine lv_aload_n hx hb dL_law_80 rfl (lv_at hl 1 rfl) ?_
  refine lv_aload_n hx hb dL_law_81 rfl (lv_at hl 0 rfl) ?_
  refine lv_iload_n hx hb dL_law_82 rfl (lv_at hl 3 rfl) ?_
  refine lv_iconst (v := nI 1) hx hb dL_law_83 (by decide +kernel) ?_
  refine lv_iadd hx hb dL_law_84 ?_
  refine wk_as (nI (i + 1)) (nI_add i 1) ?_
  refine wk_sld (i := i + 1) hx hb hX hbl hbA hS (by omega) (by omega) dL_law_85 ?_
  refine lv_aload_n hx hb dL_law_86 rfl (lv_at hl 0 rfl) ?_
  refine lv_iload_n hx hb dL_law_87 rfl (lv_at hl 3 rfl) ?_
  refine lv_iconst (v := nI 2) hx hb dL_law_88 (by decide +kernel) ?_
  refine lv_iadd hx hb dL_law_89 ?_
  refine wk_as (nI (i + 2)) (nI_add i 2) ?_
  refine wk_sld (i := i + 2) hx hb hX hbl hbA hS (by omega) (by omega) dL_law_90 ?_
  refine lv_aload_n hx hb dL_law_91 rfl (lv_at hl 0 rfl) ?_
  refine lv_iload_n hx hb dL_law_92 rfl (lv_at hl 3 rfl) ?_
  refine lv_iconst (v := nI 3) hx hb dL_law_93 (by decide +kernel) ?_
  refine lv_iadd hx hb dL_law_94 ?_
  refine wk_as (nI (i + 3)) (nI_add i 3) ?_
  refine wk_sld (i := i + 3) hx hb hX hbl hbA hS (by omega) (by omega) dL_law_95 ?_
  refine lv_aload_n hx hb dL_law_96 rfl (lv_at hl 0 rfl) ?_
  refine lv_iload_n hx hb dL_law_97 rfl (lv_at hl 3 rfl) ?_
  refine lv_iconst (v := nI 4) hx hb dL_law_98 (by decide +kernel) ?_
  refine lv_iadd hx hb dL_law_99 ?_
  refine wk_as (nI (i + 4)) (nI_add i 4) ?_
  refine wk_sld (i := i + 4) hx hb hX hbl hbA hS (by omega) (by omega) dL_law_100 ?_
  have hPc := hP.sub (ws' := [(xo, .inr (0, [.ref xt, .int (nI n), .ref z])), (xt, .inl (cB, 4096, .inl f))]) [0, 1] rfl
  have hDc := hD.sub (ws' := [(xo, .inr (0, [.ref xt, .int (nI n), .ref z])), (xt, .inl (cB, 4096, .inl f))]) [0, 1] (by decide) rfl
  have hFc := va_free (wc := [(xo, .inr (0, [.ref xt, .int (nI n), .ref z])), (xt, .inl (cB, 4096, .inl f))]) hD hS hA [0, 1] rfl
  refine va_calli (va_runV (As := [.int (xs (i + 1)), .int (xs (i + 2)), .int (xs (i + 3)), .int (xs (i + 4))]) (rest := []) ⟨hx, hb, hml, hown, hts⟩ (br_rd_put_no l dC dI cB _ xo xt z n f (xs (i + 1)) (xs (i + 2)) (xs (i + 3)) (xs (i + 4)) hn hn2) (cwV 4 hts (lw_V q52 q53 q54 q5 q55) rfl rfl rfl (by decide +kernel) ⟨Nat.le_of_ble_eq_true rfl, Nat.le_of_ble_eq_true rfl⟩) ⟨br_blind, va_recv hK hPc (ci := 0) (q0 := 0) rfl rfl, fun U hU hW => br_start hU hW hPc hK hDc⟩ rfl rfl hl.1 rfl (lv_room (Nat.le_of_ble_eq_true rfl)) dL_law_101 ⟨by show _ ≤ 600128; omega, by show _ ≤ 7301098; omega⟩) hS (fun q _ h => hFc q h) hFc (fun r_101 u t H1 locs ht hvm hw_101 hB hz9 hk9 hS => ?_)
  obtain ⟨hP1, hK1, hD1⟩ := hB
  rw [ht] at hP1
  obtain ⟨hP, hD⟩ := va_join (wr := [(z, .inr (1, [.ref y, .int (nI bo), .int (nI bi)])), (y, .inl (cB, k, .inl g)), (mo, .inr (2, [.ref mt, .int (nI n), .ref mh, .int (nI en), .int (nI ps)])), (mt, .inl (cB, 4096, .inl f)), (mh, .inl (cB, 4096, .inl h))]) (w1 := [(xo, .inr (0, [.ref xt, .int (nI n), .ref z])), (xt, .inl (cB, 4096, .inl f))]) hP hD [0, 1] [2, 3, 4, 5, 6] rfl rfl (by decide) (by decide) hk9 hFc hP1 hD1
  generalize H1 = H at hP hS ⊢
  have hP : va_P (dC, dI) vwCl [(z, .inr (1, [.ref y, .int (nI bo), .int (nI bi)])), (y, .inl (cB, k, .inl g)), (mo, .inr (2, [.ref mt, .int (nI n), .ref mh, .int (nI en), .int (nI ps)])), (mt, .inl (cB, 4096, .inl f)), (mh, .inl (cB, 4096, .inl h)), (xo, .inr (0, [.ref xt, .int (nI n), .ref z])), (xt, .inl (cB, 4096, .inl f))] H := hP
  have hD : va_D (fun q : Nat => s.heap.size ≤ q) [(z, .inr (1, [.ref y, .int (nI bo), .int (nI bi)])), (y, .inl (cB, k, .inl g)), (mo, .inr (2, [.ref mt, .int (nI n), .ref mh, .int (nI en), .int (nI ps)])), (mt, .inl (cB, 4096, .inl f)), (mh, .inl (cB, 4096, .inl h)), (xo, .inr (0, [.ref xt, .int (nI n), .ref z])), (xt, .inl (cB, 4096, .inl f))] := hD
  refine lv_aload_n hx hb dL_law_104 rfl (lv_at hl 2 rfl) ?_
  refine lv_aload_n hx hb dL_law_105 rfl (lv_at hl 0 rfl) ?_
  refine lv_iload_n hx hb dL_law_106 rfl (lv_at hl 3 rfl) ?_
  refine lv_iconst (v := nI 1) hx hb dL_law_107 (by decide +kernel) ?_
  refine lv_iadd hx hb dL_law_108 ?_
  refine wk_as (nI (i + 1)) (nI_add i 1) ?_
  refine wk_sld (i := i + 1) hx hb hX hbl hbA hS (by omega) (by omega) dL_law_109 ?_
  refine lv_aload_n hx hb dL_law_110 rfl (lv_at hl 0 rfl) ?_
  refine lv_iload_n hx hb dL_law_111 rfl (lv_at hl 3 rfl) ?_
  refine lv_iconst (v := nI 2) hx hb dL_law_112 (by decide +kernel) ?_
  refine lv_iadd hx hb dL_law_113 ?_
  refine wk_as (nI (i + 2)) (nI_add i 2) ?_
  refine wk_sld (i := i + 2) hx hb hX hbl hbA hS (by omega) (by omega) dL_law_114 ?_
  refine lv_aload_n hx hb dL_law_115 rfl (lv_at hl 0 rfl) ?_
  refine lv_iload_n hx hb dL_law_116 rfl (lv_at hl 3 rfl) ?_
  refine lv_iconst (v := nI 3) hx hb dL_law_117 (by decide +kernel) ?_
  refine lv_iadd hx hb dL_law_118 ?_
  refine wk_as (nI (i + 3)) (nI_add i 3) ?_
  refine wk_sld (i := i + 3) hx hb hX hbl hbA hS (by omega) (by omega) dL_law_119 ?_
  refine lv_aload_n hx hb dL_law_120 rfl (lv_at hl 0 rfl) ?_
  refine lv_iload_n hx hb dL_law_121 rfl (lv_at hl 3 rfl) ?_
  refine lv_iconst (v := nI 4) hx hb dL_law_122 (by decide +kernel) ?_
  refine lv_iadd hx hb dL_law_123 ?_
  refine wk_as (nI (i + 4)) (nI_add i 4) ?_
  refine wk_sld (i := i + 4) hx hb hX hbl hbA hS (by omega) (by omega) dL_law_124 ?_
  have hPc := hP.sub (ws' := [(mo, .inr (2, [.ref mt, .int (nI n), .ref mh, .int (nI en), .int (nI ps)])), (mt, .inl (cB, 4096, .inl f))]) [2, 3] rfl
  have hDc := hD.sub (ws' := [(mo, .inr (2, [.ref mt, .int (nI n), .ref mh, .int (nI en), .int (nI ps)])), (mt, .inl (cB, 4096, .inl f))]) [2, 3] (by decide) rfl
  have hFc := va_free (wc := [(mo, .inr (2, [.ref mt, .int (nI n), .ref mh, .int (nI en), .int (nI ps)])), (mt, .inl (cB, 4096, .inl f))]) hD hS hA [2, 3] rfl
  refine va_calli (va_runV (As := [.int (xs (i + 1)), .int (xs (i + 2)), .int (xs (i + 3)), .int (xs (i + 4))]) (rest := [.int r_101]) ⟨hx, hb, hml, hown, hts⟩ (br_md_put_no l dC dI cB _ mo mt mh n en ps f (xs (i + 1)) (xs (i + 2)) (xs (i + 3)) (xs (i + 4)) hn hn2) (cwV 4 hts (lw_V q252 q253 q254 q7 q255) rfl rfl rfl (by decide +kernel) ⟨Nat.le_of_ble_eq_true rfl, Nat.le_of_ble_eq_true rfl⟩) ⟨br_blind, va_recv hK hPc (ci := 2) (q0 := 0) rfl rfl, fun U hU hW => br_start hU hW hPc hK hDc⟩ rfl rfl hl.1 rfl (lv_room (Nat.le_of_ble_eq_true rfl)) dL_law_125 ⟨by show _ ≤ 600128; omega, by show _ ≤ 7301098; omega⟩) hS (fun q _ h => hFc q h) hFc (fun r_125 u t H1 locs ht hvm hw_125 hB hz9 hk9 hS => ?_)
  obtain ⟨hP1, hK1, hD1⟩ := hB
  rw [ht] at hP1
  obtain ⟨hP, hD⟩ := va_join (wr := [(z, .inr (1, [.ref y, .int (nI bo), .int (nI bi)])), (y, .inl (cB, k, .inl g)), (mh, .inl (cB, 4096, .inl h)), (xo, .inr (0, [.ref xt, .int (nI n), .ref z])), (xt, .inl (cB, 4096, .inl f))]) (w1 := [(mo, .inr (2, [.ref mt, .int (nI n), .ref mh, .int (nI en), .int (nI ps)])), (mt, .inl (cB, 4096, .inl f))]) hP hD [2, 3] [0, 1, 4, 5, 6] rfl rfl (by decide) (by decide) hk9 hFc hP1 hD1
  generalize H1 = H at hP hS ⊢
  have hP : va_P (dC, dI) vwCl [(z, .inr (1, [.ref y, .int (nI bo), .int (nI bi)])), (y, .inl (cB, k, .inl g)), (mh, .inl (cB, 4096, .inl h)), (xo, .inr (0, [.ref xt, .int (nI n), .ref z])), (xt, .inl (cB, 4096, .inl f)), (mo, .inr (2, [.ref mt, .int (nI n), .ref mh, .int (nI en), .int (nI ps)])), (mt, .inl (cB, 4096, .inl f))] H := hP
  have hD : va_D (fun q : Nat => s.heap.size ≤ q) [(z, .inr (1, [.ref y, .int (nI bo), .int (nI bi)])), (y, .inl (cB, k, .inl g)), (mh, .inl (cB, 4096, .inl h)), (xo, .inr (0, [.ref xt, .int (nI n), .ref z])), (xt, .inl (cB, 4096, .inl f)), (mo, .inr (2, [.ref mt, .int (nI n), .ref mh, .int (nI en), .int (nI ps)])), (mt, .inl (cB, 4096, .inl f))] := hD
  refine lv_icmp_eq (tgt := 241) hx hb dL_law_128 (by decide) (fun c1 => ?_) (fun c1 => ?_)
  rotate_left
  · exact absurd (Eq.trans hw_101 (Eq.symm hw_125)) c1
  have hP := hP.sub (ws' := [(xo, .inr (0, [.ref xt, .int (nI n), .ref z])), (xt, .inl (cB, 4096, .inl f)), (z, .inr (1, [.ref y, .int (nI bo), .int (nI bi)])), (y, .inl (cB, k, .inl g)), (mo, .inr (2, [.ref mt, .int (nI n), .ref mh, .int (nI en), .int (nI ps)])), (mt, .inl (cB, 4096, .inl f)), (mh, .inl (cB, 4096, .inl h))]) [3, 4, 0, 1, 5, 6, 2] rfl
  have hD := hD.sub (ws' := [(xo, .inr (0, [.ref xt, .int (nI n), .ref z])), (xt, .inl (cB, 4096, .inl f)), (z, .inr (1, [.ref y, .int (nI bo), .int (nI bi)])), (y, .inl (cB, k, .inl g)), (mo, .inr (2, [.ref mt, .int (nI n), .ref mh, .int (nI en), .int (nI ps)])), (mt, .inl (cB, 4096, .inl f)), (mh, .inl (cB, 4096, .inl h))]) [3, 4, 0, 1, 5, 6, 2] (by decide) rfl
  refine W.widen (k := cells + 2) (n := slots + 4099) (by omega) (by omega) ?_
  exact kx n k bo bi en ps f g h xt z y mt mh _ _ ls (⟨hn, hk, hbi, hbo, hen, hps, hgh⟩) hP hD hS hl
set_option maxHeartbeats 4000000 in
set_option maxRecDepth 100000 in
/-- put -/
theorem br_law_put {p : Program} {l : Launch} {e : Env} {s : State} {m : MethodId} {below : List Frame} {meth : Method} {c : Code} {cells slots : Nat} {Q : State → Prop} {dC : Nat → ClassId} {dI : Nat → Nat → Nat} {cB : ClassId} {b L : Nat} {xs : Nat → Int32} (hx : p.tables.exec = Jvm.exec) (hb : c.code = cL_law) (hml : c.maxLocals = 4) (hown : s.vm.findClass R_law = some m.cls) (hts : ∀ w ∈ lw_all, w.before #[Value.ref b] s = true) (hK : va_K (dC, dI) vwCl [(cB, .byte)] s) (hX : va_X b L xs s s.heap) (hbl : b < s.heap.size) (hL : L ≤ 384) (hc : cells + 2 ≤ 600128) (hs : slots + 4099 ≤ 7301098) {i xo mo : Nat} (hi : i + 6 ≤ L) (kx : br_Next p l e s m below meth c dC dI cB b i xo mo (cells + 2) (slots + 4099) Q) {n k bo bi en ps : Nat} {f g h : Nat → Int32} {xt z y mt mh : Nat} {H : Heap} {locs : List Loc} {ls : Array Slot} (hI : br_I n k bo bi en ps g h) (hn2 : n ≤ 4080) : va_P (dC, dI) vwCl [(xo, .inr (0, [.ref xt, .int (nI n), .ref z])), (xt, .inl (cB, 4096, .inl f)), (z, .inr (1, [.ref y, .int (nI bo), .int (nI bi)])), (y, .inl (cB, k, .inl g)), (mo, .inr (2, [.ref mt, .int (nI n), .ref mh, .int (nI en), .int (nI ps)])), (mt, .inl (cB, 4096, .inl f)), (mh, .inl (cB, 4096, .inl h))] H → va_D (fun q : Nat => s.heap.size ≤ q) [(xo, .inr (0, [.ref xt, .int (nI n), .ref z])), (xt, .inl (cB, 4096, .inl f)), (z, .inr (1, [.ref y, .int (nI bo), .int (nI bi)])), (y, .inl (cB, k, .inl g)), (mo, .inr (2, [.ref mt, .int (nI n), .ref mh, .int (nI en), .int (nI ps)])), (mt, .inl (cB, 4096, .inl f)), (mh, .inl (cB, 4096, .inl h))] → va_S (fun q : Nat => s.heap.size ≤ q) s.heap H locs → lv_has ls 4 [(0, .ref b), (1, .ref xo), (2, .ref mo), (3, .int (nI i))] → W p l e room_1 s m #[Value.ref b] below meth c H locs cells slots Q (F0 m 80 ls []) := by
  intro hP hD hS hl
  have hA : ∀ q : Nat, s.heap.size ≤ q → (fun q : Nat => s.heap.size ≤ q) q := fun _ h => h
  have hbA : ¬ (fun q : Nat => s.heap.size ≤ q) b := Nat.not_le.mpr hbl
  obtain ⟨hn, hk, hbi, hbo, hen, hps, hgh⟩ := hI
  refine lv_aload_n hx hb dL_law_80 rfl (lv_at hl 1 rfl) ?_
  refine lv_aload_n hx hb dL_law_81 rfl (lv_at hl 0 rfl) ?_
  refine lv_iload_n hx hb dL_law_82 rfl (lv_at hl 3 rfl) ?_
  refine lv_iconst (v := nI 1) hx hb dL_law_83 (by decide +kernel) ?_
  refine lv_iadd hx hb dL_law_84 ?_
  refine wk_as (nI (i + 1)) (nI_add i 1) ?_
  refine wk_sld (i := i + 1) hx hb hX hbl hbA hS (by omega) (by omega) dL_law_85 ?_
  refine lv_aload_n hx hb dL_law_86 rfl (lv_at hl 0 rfl) ?_
  refine lv_iload_n hx hb dL_law_87 rfl (lv_at hl 3 rfl) ?_
  refine lv_iconst (v := nI 2) hx hb dL_law_88 (by decide +kernel) ?_
  refine lv_iadd hx hb dL_law_89 ?_
  refine wk_as (nI (i + 2)) (nI_add i 2) ?_
  refine wk_sld (i := i + 2) hx hb hX hbl hbA hS (by omega) (by omega) dL_law_90 ?_
  refine lv_aload_n hx hb dL_law_91 rfl (lv_at hl 0 rfl) ?_
  refine lv_iload_n hx hb dL_law_92 rfl (lv_at hl 3 rfl) ?_
  refine lv_iconst (v := nI 3) hx hb dL_law_93 (by decide +kernel) ?_
  refine lv_iadd hx hb dL_law_94 ?_
  refine wk_as (nI (i + 3)) (nI_add i 3) ?_
  refine wk_sld (i := i + 3) hx hb hX hbl hbA hS (by omega) (by omega) dL_law_95 ?_
  refine lv_aload_n hx hb dL_law_96 rfl (lv_at hl 0 rfl) ?_
  refine lv_iload_n hx hb dL_law_97 rfl (lv_at hl 3 rfl) ?_
  refine lv_iconst (v := nI 4) hx hb dL_law_98 (by decide +kernel) ?_
  refine lv_iadd hx hb dL_law_99 ?_
  refine wk_as (nI (i + 4)) (nI_add i 4) ?_
  refine wk_sld (i := i + 4) hx hb hX hbl hbA hS (by omega) (by omega) dL_law_100 ?_
  have hPc := hP.sub (ws' := [(xo, .inr (0, [.ref xt, .int (nI n), .ref z])), (xt, .inl (cB, 4096, .inl f))]) [0, 1] rfl
  have hDc := hD.sub (ws' := [(xo, .inr (0, [.ref xt, .int (nI n), .ref z])), (xt, .inl (cB, 4096, .inl f))]) [0, 1] (by decide) rfl
  have hFc := va_free (wc := [(xo, .inr (0, [.ref xt, .int (nI n), .ref z])), (xt, .inl (cB, 4096, .inl f))]) hD hS hA [0, 1] rfl
  refine va_calli (va_runV (As := [.int (xs (i + 1)), .int (xs (i + 2)), .int (xs (i + 3)), .int (xs (i + 4))]) (rest := []) ⟨hx, hb, hml, hown, hts⟩ (br_rd_put l dC dI cB _ xo xt z n f (xs (i + 1)) (xs (i + 2)) (xs (i + 3)) (xs (i + 4)) hn2) (cwV 4 hts (lw_V q52 q53 q54 q5 q55) rfl rfl rfl (by decide +kernel) ⟨Nat.le_of_ble_eq_true rfl, Nat.le_of_ble_eq_true rfl⟩) ⟨br_blind, va_recv hK hPc (ci := 0) (q0 := 0) rfl rfl, fun U hU hW => br_start hU hW hPc hK hDc⟩ rfl rfl hl.1 rfl (lv_room (Nat.le_of_ble_eq_true rfl)) dL_law_101 ⟨by show _ ≤ 600128; omega, by show _ ≤ 7301098; omega⟩) hS (fun q _ h => hFc q h) hFc (fun r_101 u t H1 locs ht hvm hw_101 hB hz9 hk9 hS => ?_)
  obtain ⟨hP1, hK1, hD1⟩ := hB
  rw [ht] at hP1
  obtain ⟨hP, hD⟩ := va_join (wr := [(z, .inr (1, [.ref y, .int (nI bo), .int (nI bi)])), (y, .inl (cB, k, .inl g)), (mo, .inr (2, [.ref mt, .int (nI n), .ref mh, .int (nI en), .int (nI ps)])), (mt, .inl (cB, 4096, .inl f)), (mh, .inl (cB, 4096, .inl h))]) (w1 := [(xo, .inr (0, [.ref xt, .int (nI (n + 16)), .ref z])), (xt, .inl (cB, 4096, .inl (br_put f n (xs (i + 1)) (xs (i + 2)) (xs (i + 3)) (xs (i + 4)) 16)))]) hP hD [0, 1] [2, 3, 4, 5, 6] rfl rfl (by decide) (by decide) hk9 hFc hP1 hD1
  generalize H1 = H at hP hS ⊢
  have hP : va_P (dC, dI) vwCl [(z, .inr (1, [.ref y, .int (nI bo), .int (nI bi)])), (y, .inl (cB, k, .inl g)), (mo, .inr (2, [.ref mt, .int (nI n), .ref mh, .int (nI en), .int (nI ps)])), (mt, .inl (cB, 4096, .inl f)), (mh, .inl (cB, 4096, .inl h)), (xo, .inr (0, [.ref xt, .int (nI (n + 16)), .ref z])), (xt, .inl (cB, 4096, .inl (br_put f n (xs (i + 1)) (xs (i + 2)) (xs (i + 3)) (xs (i + 4)) 16)))] H := hP
  have hD : va_D (fun q : Nat => s.heap.size ≤ q) [(z, .inr (1, [.ref y, .int (nI bo), .int (nI bi)])), (y, .inl (cB, k, .inl g)), (mo, .inr (2, [.ref mt, .int (nI n), .ref mh, .int (nI en), .int (nI ps)])), (mt, .inl (cB, 4096, .inl f)), (mh, .inl (cB, 4096, .inl h)), (xo, .inr (0, [.ref xt, .int (nI (n + 16)), .ref z])), (xt, .inl (cB, 4096, .inl (br_put f n (xs (i + 1)) (xs (i + 2)) (xs (i + 3)) (xs (i + 4)) 16)))] := hD
  refine lv_aload_n hx hb dL_law_104 rfl (lv_at hl 2 rfl) ?_
  refine lv_aload_n hx hb dL_law_105 rfl (lv_at hl 0 rfl) ?_
  refine lv_iload_n hx hb dL_law_106 rfl (lv_at hl 3 rfl) ?_
  refine lv_iconst (v := nI 1) hx hb dL_law_107 (by decide +kernel) ?_
  refine lv_iadd hx hb dL_law_108 ?_
  refine wk_as (nI (i + 1)) (nI_add i 1) ?_
  refine wk_sld (i := i + 1) hx hb hX hbl hbA hS (by omega) (by omega) dL_law_109 ?_
  refine lv_aload_n hx hb dL_law_110 rfl (lv_at hl 0 rfl) ?_
  refine lv_iload_n hx hb dL_law_111 rfl (lv_at hl 3 rfl) ?_
  refine lv_iconst (v := nI 2) hx hb dL_law_112 (by decide +kernel) ?_
  refine lv_iadd hx hb dL_law_113 ?_
  refine wk_as (nI (i + 2)) (nI_add i 2) ?_
  refine wk_sld (i := i + 2) hx hb hX hbl hbA hS (by omega) (by omega) dL_law_114 ?_
  refine lv_aload_n hx hb dL_law_115 rfl (lv_at hl 0 rfl) ?_
  refine lv_iload_n hx hb dL_law_116 rfl (lv_at hl 3 rfl) ?_
  refine lv_iconst (v := nI 3) hx hb dL_law_117 (by decide +kernel) ?_
  refine lv_iadd hx hb dL_law_118 ?_
  refine wk_as (nI (i + 3)) (nI_add i 3) ?_
  refine wk_sld (i := i + 3) hx hb hX hbl hbA hS (by omega) (by omega) dL_law_119 ?_
  refine lv_aload_n hx hb dL_law_120 rfl (lv_at hl 0 rfl) ?_
  refine lv_iload_n hx hb dL_law_121 rfl (lv_at hl 3 rfl) ?_
  refine lv_iconst (v := nI 4) hx hb dL_law_122 (by decide +kernel) ?_
  refine lv_iadd hx hb dL_law_123 ?_
  refine wk_as (nI (i + 4)) (nI_add i 4) ?_
  refine wk_sld (i := i + 4) hx hb hX hbl hbA hS (by omega) (by omega) dL_law_124 ?_
  have hPc := hP.sub (ws' := [(mo, .inr (2, [.ref mt, .int (nI n), .ref mh, .int (nI en), .int (nI ps)])), (mt, .inl (cB, 4096, .inl f))]) [2, 3] rfl
  have hDc := hD.sub (ws' := [(mo, .inr (2, [.ref mt, .int (nI n), .ref mh, .int (nI en), .int (nI ps)])), (mt, .inl (cB, 4096, .inl f))]) [2, 3] (by decide) rfl
  have hFc := va_free (wc := [(mo, .inr (2, [.ref mt, .int (nI n), .ref mh, .int (nI en), .int (nI ps)])), (mt, .inl (cB, 4096, .inl f))]) hD hS hA [2, 3] rfl
  refine va_calli (va_runV (As := [.int (xs (i + 1)), .int (xs (i + 2)), .int (xs (i + 3)), .int (xs (i + 4))]) (rest := [.int r_101]) ⟨hx, hb, hml, hown, hts⟩ (br_md_put l dC dI cB _ mo mt mh n en ps f (xs (i + 1)) (xs (i + 2)) (xs (i + 3)) (xs (i + 4)) hn2) (cwV 4 hts (lw_V q252 q253 q254 q7 q255) rfl rfl rfl (by decide +kernel) ⟨Nat.le_of_ble_eq_true rfl, Nat.le_of_ble_eq_true rfl⟩) ⟨br_blind, va_recv hK hPc (ci := 2) (q0 := 0) rfl rfl, fun U hU hW => br_start hU hW hPc hK hDc⟩ rfl rfl hl.1 rfl (lv_room (Nat.le_of_ble_eq_true rfl)) dL_law_125 ⟨by show _ ≤ 600128; omega, by show _ ≤ 7301098; omega⟩) hS (fun q _ h => hFc q h) hFc (fun r_125 u t H1 locs ht hvm hw_125 hB hz9 hk9 hS => ?_)
  obtain ⟨hP1, hK1, hD1⟩ := hB
  rw [ht] at hP1
  obtain ⟨hP, hD⟩ := va_join (wr := [(z, .inr (1, [.ref y, .int (nI bo), .int (nI bi)])), (y, .inl (cB, k, .inl g)), (mh, .inl (cB, 4096, .inl h)), (xo, .inr (0, [.ref xt, .int (nI (n + 16)), .ref z])), (xt, .inl (cB, 4096, .inl (br_put f n (xs (i + 1)) (xs (i + 2)) (xs (i + 3)) (xs (i + 4)) 16)))]) (w1 := [(mo, .inr (2, [.ref mt, .int (nI (n + 16)), .ref mh, .int (nI en), .int (nI ps)])), (mt, .inl (cB, 4096, .inl (br_put f n (xs (i + 1)) (xs (i + 2)) (xs (i + 3)) (xs (i + 4)) 16)))]) hP hD [2, 3] [0, 1, 4, 5, 6] rfl rfl (by decide) (by decide) hk9 hFc hP1 hD1
  generalize H1 = H at hP hS ⊢
  have hP : va_P (dC, dI) vwCl [(z, .inr (1, [.ref y, .int (nI bo), .int (nI bi)])), (y, .inl (cB, k, .inl g)), (mh, .inl (cB, 4096, .inl h)), (xo, .inr (0, [.ref xt, .int (nI (n + 16)), .ref z])), (xt, .inl (cB, 4096, .inl (br_put f n (xs (i + 1)) (xs (i + 2)) (xs (i + 3)) (xs (i + 4)) 16))), (mo, .inr (2, [.ref mt, .int (nI (n + 16)), .ref mh, .int (nI en), .int (nI ps)])), (mt, .inl (cB, 4096, .inl (br_put f n (xs (i + 1)) (xs (i + 2)) (xs (i + 3)) (xs (i + 4)) 16)))] H := hP
  have hD : va_D (fun q : Nat => s.heap.size ≤ q) [(z, .inr (1, [.ref y, .int (nI bo), .int (nI bi)])), (y, .inl (cB, k, .inl g)), (mh, .inl (cB, 4096, .inl h)), (xo, .inr (0, [.ref xt, .int (nI (n + 16)), .ref z])), (xt, .inl (cB, 4096, .inl (br_put f n (xs (i + 1)) (xs (i + 2)) (xs (i + 3)) (xs (i + 4)) 16))), (mo, .inr (2, [.ref mt, .int (nI (n + 16)), .ref mh, .int (nI en), .int (nI ps)])), (mt, .inl (cB, 4096, .inl (br_put f n (xs (i + 1)) (xs (i + 2)) (xs (i + 3)) (xs (i + 4)) 16)))] := hD
  refine lv_icmp_eq (tgt := 241) hx hb dL_law_128 (by decide) (fun c1 => ?_) (fun c1 => ?_)
  rotate_left
  · exact absurd (Eq.trans hw_101 (Eq.symm hw_125)) c1
  have hP := hP.sub (ws' := [(xo, .inr (0, [.ref xt, .int (nI (n + 16)), .ref z])), (xt, .inl (cB, 4096, .inl (br_put f n (xs (i + 1)) (xs (i + 2)) (xs (i + 3)) (xs (i + 4)) 16))), (z, .inr (1, [.ref y, .int (nI bo), .int (nI bi)])), (y, .inl (cB, k, .inl g)), (mo, .inr (2, [.ref mt, .int (nI (n + 16)), .ref mh, .int (nI en), .int (nI ps)])), (mt, .inl (cB, 4096, .inl (br_put f n (xs (i + 1)) (xs (i + 2)) (xs (i + 3)) (xs (i + 4)) 16))), (mh, .inl (cB, 4096, .inl h))]) [3, 4, 0, 1, 5, 6, 2] rfl
  have hD := hD.sub (ws' := [(xo, .inr (0, [.ref xt, .int (nI (n + 16)), .ref z])), (xt, .inl (cB, 4096, .inl (br_put f n (xs (i + 1)) (xs (i + 2)) (xs (i + 3)) (xs (i + 4)) 16))), (z, .inr (1, [.ref y, .int (nI bo), .int (nI bi)])), (y, .inl (cB, k, .inl g)), (mo, .inr (2, [.ref mt, .int (nI (n + 16)), .ref mh, .int (nI en), .int (nI ps)])), (mt, .inl (cB, 4096, .inl (br_put f n (xs (i + 1)) (xs (i + 2)) (xs (i + 3)) (xs (i + 4)) 16))), (mh, .inl (cB, 4096, .inl h))]) [3, 4, 0, 1, 5, 6, 2] (by decide) rfl
  refine W.widen (k := cells + 2) (n := slots + 4099) (by omega) (by omega) ?_
  exact kx (n + 16) k bo bi en ps (br_put f n (xs (i + 1)) (xs (i + 2)) (xs (i + 3)) (xs (i + 4)) 16) g h xt z y mt mh _ _ ls (⟨by omega, hk, hbi, hbo, hen, hps, hgh⟩) hP hD hS hl
set_option maxHeartbeats 4000000 in
set_option maxRecDepth 100000 in
/-- br_law_trim -/
theorem br_law_trim {p : Program} {l : Launch} {e : Env} {s : State} {m : MethodId} {below : List Frame} {meth : Method} {c : Code} {cells slots : Nat} {Q : State → Prop} {dC : Nat → ClassId} {dI : Nat → Nat → Nat} {cB : ClassId} {b L : Nat} {xs : Nat → Int32} (hx : p.tables.exec = Jvm.exec) (hb : c.code = cL_law) (hml : c.maxLocals = 4) (hown : s.vm.findClass R_law = some m.cls) (hts : ∀ w ∈ lw_all, w.before #[Value.ref b] s = true) (hK : va_K (dC, dI) vwCl [(cB, .byte)] s) (hX : va_X b L xs s s.heap) (hbl : b < s.heap.size) (hL : L ≤ 384) (hc : cells + 2 ≤ 600128) (hs : slots + 4099 ≤ 7301098) {i xo mo : Nat} (hi : i + 6 ≤ L) (kx : br_Next p l e s m below meth c dC dI cB b i xo mo (cells + 2) (slots + 4099) Q) {n k bo bi en ps : Nat} {f g h : Nat → Int32} {xt z y mt mh : Nat} {H : Heap} {locs : List Loc} {ls : Array Slot} (hI : br_I n k bo bi en ps g h)  : va_P (dC, dI) vwCl [(xo, .inr (0, [.ref xt, .int (nI n), .ref z])), (xt, .inl (cB, 4096, .inl f)), (z, .inr (1, [.ref y, .int (nI bo), .int (nI bi)])), (y, .inl (cB, k, .inl g)), (mo, .inr (2, [.ref mt, .int (nI n), .ref mh, .int (nI en), .int (nI ps)])), (mt, .inl (cB, 4096, .inl f)), (mh, .inl (cB, 4096, .inl h))] H → va_D (fun q : Nat => s.heap.size ≤ q) [(xo, .inr (0, [.ref xt, .int (nI n), .ref z])), (xt, .inl (cB, 4096, .inl f)), (z, .inr (1, [.ref y, .int (nI bo), .int (nI bi)])), (y, .inl (cB, k, .inl g)), (mo, .inr (2, [.ref mt, .int (nI n), .ref mh, .int (nI en), .int (nI ps)])), (mt, .inl (cB, 4096, .inl f)), (mh, .inl (cB, 4096, .inl h))] → va_S (fun q : Nat => s.heap.size ≤ q) s.heap H locs → lv_has ls 4 [(0, .ref b), (1, .ref xo), (2, .ref mo), (3, .int (nI i))] → W p l e room_1 s m #[Value.ref b] below meth c H locs cells slots Q (F0 m 133 ls []) := by
  intro hP hD hS hl
  have hA : ∀ q : Nat, s.heap.size ≤ q → (fun q : Nat => s.heap.size ≤ q) q := fun _ h => h
  have hbA : ¬ (fun q : Nat => s.heap.size ≤ q) b := Nat.not_le.mpr hbl
  obtain ⟨hn, hk, hbi, hbo, hen, hps, hgh⟩ := hI
  refine lv_aload_n hx hb dL_law_133 rfl (lv_at hl 1 rfl) ?_
  refine lv_aload_n hx hb dL_law_134 rfl (lv_at hl 0 rfl) ?_
  refine lv_iload_n hx hb dL_law_135 rfl (lv_at hl 3 rfl) ?_
  refine lv_iconst (v := nI 1) hx hb dL_law_136 (by decide +kernel) ?_
  refine lv_iadd hx hb dL_law_137 ?_
  refine wk_as (nI (i + 1)) (nI_add i 1) ?_
  refine wk_sld (i := i + 1) hx hb hX hbl hbA hS (by omega) (by omega) dL_law_138 ?_
  have hPc := hP.sub (ws' := [(xo, .inr (0, [.ref xt, .int (nI n), .ref z]))]) [0] rfl
  have hDc := hD.sub (ws' := [(xo, .inr (0, [.ref xt, .int (nI n), .ref z]))]) [0] (by decide) rfl
  have hFc := va_free (wc := [(xo, .inr (0, [.ref xt, .int (nI n), .ref z]))]) hD hS hA [0] rfl
  refine va_callv (va_runV (As := [.int (xs (i + 1))]) (rest := []) ⟨hx, hb, hml, hown, hts⟩ (br_rd_trim l dC dI cB _ xo xt z n (xs (i + 1)) hn) (cwV 1 hts (lw_V q60 q61 q62 q5 q63) rfl rfl rfl (by decide +kernel) ⟨Nat.le_of_ble_eq_true rfl, Nat.le_of_ble_eq_true rfl⟩) ⟨br_blind, va_recv hK hPc (ci := 0) (q0 := 0) rfl rfl, fun U hU hW => br_start hU hW hPc hK hDc⟩ rfl rfl hl.1 rfl (lv_room (Nat.le_of_ble_eq_true rfl)) dL_law_139 ⟨by show _ ≤ 600128; omega, by show _ ≤ 7301098; omega⟩) hS (fun q _ h => hFc q h) hFc (fun u t H1 locs ht hvm hw_139 hB hz9 hk9 hS => ?_)
  obtain ⟨hP1, hK1, hD1⟩ := hB
  rw [ht] at hP1
  obtain ⟨hP, hD⟩ := va_join (wr := [(xt, .inl (cB, 4096, .inl f)), (z, .inr (1, [.ref y, .int (nI bo), .int (nI bi)])), (y, .inl (cB, k, .inl g)), (mo, .inr (2, [.ref mt, .int (nI n), .ref mh, .int (nI en), .int (nI ps)])), (mt, .inl (cB, 4096, .inl f)), (mh, .inl (cB, 4096, .inl h))]) (w1 := [(xo, .inr (0, [.ref xt, .int (nI (br_trim (xs (i + 1)) n)), .ref z]))]) hP hD [0] [1, 2, 3, 4, 5, 6] rfl rfl (by decide) (by decide) hk9 hFc hP1 hD1
  generalize H1 = H at hP hS ⊢
  have hP : va_P (dC, dI) vwCl [(xt, .inl (cB, 4096, .inl f)), (z, .inr (1, [.ref y, .int (nI bo), .int (nI bi)])), (y, .inl (cB, k, .inl g)), (mo, .inr (2, [.ref mt, .int (nI n), .ref mh, .int (nI en), .int (nI ps)])), (mt, .inl (cB, 4096, .inl f)), (mh, .inl (cB, 4096, .inl h)), (xo, .inr (0, [.ref xt, .int (nI (br_trim (xs (i + 1)) n)), .ref z]))] H := hP
  have hD : va_D (fun q : Nat => s.heap.size ≤ q) [(xt, .inl (cB, 4096, .inl f)), (z, .inr (1, [.ref y, .int (nI bo), .int (nI bi)])), (y, .inl (cB, k, .inl g)), (mo, .inr (2, [.ref mt, .int (nI n), .ref mh, .int (nI en), .int (nI ps)])), (mt, .inl (cB, 4096, .inl f)), (mh, .inl (cB, 4096, .inl h)), (xo, .inr (0, [.ref xt, .int (nI (br_trim (xs (i + 1)) n)), .ref z]))] := hD
  refine lv_aload_n hx hb dL_law_142 rfl (lv_at hl 2 rfl) ?_
  refine lv_aload_n hx hb dL_law_143 rfl (lv_at hl 0 rfl) ?_
  refine lv_iload_n hx hb dL_law_144 rfl (lv_at hl 3 rfl) ?_
  refine lv_iconst (v := nI 1) hx hb dL_law_145 (by decide +kernel) ?_
  refine lv_iadd hx hb dL_law_146 ?_
  refine wk_as (nI (i + 1)) (nI_add i 1) ?_
  refine wk_sld (i := i + 1) hx hb hX hbl hbA hS (by omega) (by omega) dL_law_147 ?_
  have hPc := hP.sub (ws' := [(mo, .inr (2, [.ref mt, .int (nI n), .ref mh, .int (nI en), .int (nI ps)]))]) [3] rfl
  have hDc := hD.sub (ws' := [(mo, .inr (2, [.ref mt, .int (nI n), .ref mh, .int (nI en), .int (nI ps)]))]) [3] (by decide) rfl
  have hFc := va_free (wc := [(mo, .inr (2, [.ref mt, .int (nI n), .ref mh, .int (nI en), .int (nI ps)]))]) hD hS hA [3] rfl
  refine va_callv (va_runV (As := [.int (xs (i + 1))]) (rest := []) ⟨hx, hb, hml, hown, hts⟩ (br_md_trim l dC dI cB _ mo mt mh n en ps (xs (i + 1)) hn) (cwV 1 hts (lw_V q256 q257 q258 q7 q259) rfl rfl rfl (by decide +kernel) ⟨Nat.le_of_ble_eq_true rfl, Nat.le_of_ble_eq_true rfl⟩) ⟨br_blind, va_recv hK hPc (ci := 2) (q0 := 0) rfl rfl, fun U hU hW => br_start hU hW hPc hK hDc⟩ rfl rfl hl.1 rfl (lv_room (Nat.le_of_ble_eq_true rfl)) dL_law_148 ⟨by show _ ≤ 600128; omega, by show _ ≤ 7301098; omega⟩) hS (fun q _ h => hFc q h) hFc (fun u t H1 locs ht hvm hw_148 hB hz9 hk9 hS => ?_)
  obtain ⟨hP1, hK1, hD1⟩ := hB
  rw [ht] at hP1
  obtain ⟨hP, hD⟩ := va_join (wr := [(xt, .inl (cB, 4096, .inl f)), (z, .inr (1, [.ref y, .int (nI bo), .int (nI bi)])), (y, .inl (cB, k, .inl g)), (mt, .inl (cB, 4096, .inl f)), (mh, .inl (cB, 4096, .inl h)), (xo, .inr (0, [.ref xt, .int (nI (br_trim (xs (i + 1)) n)), .ref z]))]) (w1 := [(mo, .inr (2, [.ref mt, .int (nI (br_trim (xs (i + 1)) n)), .ref mh, .int (nI en), .int (nI ps)]))]) hP hD [3] [0, 1, 2, 4, 5, 6] rfl rfl (by decide) (by decide) hk9 hFc hP1 hD1
  generalize H1 = H at hP hS ⊢
  have hP : va_P (dC, dI) vwCl [(xt, .inl (cB, 4096, .inl f)), (z, .inr (1, [.ref y, .int (nI bo), .int (nI bi)])), (y, .inl (cB, k, .inl g)), (mt, .inl (cB, 4096, .inl f)), (mh, .inl (cB, 4096, .inl h)), (xo, .inr (0, [.ref xt, .int (nI (br_trim (xs (i + 1)) n)), .ref z])), (mo, .inr (2, [.ref mt, .int (nI (br_trim (xs (i + 1)) n)), .ref mh, .int (nI en), .int (nI ps)]))] H := hP
  have hD : va_D (fun q : Nat => s.heap.size ≤ q) [(xt, .inl (cB, 4096, .inl f)), (z, .inr (1, [.ref y, .int (nI bo), .int (nI bi)])), (y, .inl (cB, k, .inl g)), (mt, .inl (cB, 4096, .inl f)), (mh, .inl (cB, 4096, .inl h)), (xo, .inr (0, [.ref xt, .int (nI (br_trim (xs (i + 1)) n)), .ref z])), (mo, .inr (2, [.ref mt, .int (nI (br_trim (xs (i + 1)) n)), .ref mh, .int (nI en), .int (nI ps)]))] := hD
  refine lv_goto (tgt := 241) hx hb dL_law_151 (by decide) ?_
  have htr := br_trim_le (xs (i + 1)) n
  have hP := hP.sub (ws' := [(xo, .inr (0, [.ref xt, .int (nI (br_trim (xs (i + 1)) n)), .ref z])), (xt, .inl (cB, 4096, .inl f)), (z, .inr (1, [.ref y, .int (nI bo), .int (nI bi)])), (y, .inl (cB, k, .inl g)), (mo, .inr (2, [.ref mt, .int (nI (br_trim (xs (i + 1)) n)), .ref mh, .int (nI en), .int (nI ps)])), (mt, .inl (cB, 4096, .inl f)), (mh, .inl (cB, 4096, .inl h))]) [5, 0, 1, 2, 6, 3, 4] rfl
  have hD := hD.sub (ws' := [(xo, .inr (0, [.ref xt, .int (nI (br_trim (xs (i + 1)) n)), .ref z])), (xt, .inl (cB, 4096, .inl f)), (z, .inr (1, [.ref y, .int (nI bo), .int (nI bi)])), (y, .inl (cB, k, .inl g)), (mo, .inr (2, [.ref mt, .int (nI (br_trim (xs (i + 1)) n)), .ref mh, .int (nI en), .int (nI ps)])), (mt, .inl (cB, 4096, .inl f)), (mh, .inl (cB, 4096, .inl h))]) [5, 0, 1, 2, 6, 3, 4] (by decide) rfl
  refine W.widen (k := cells + 2) (n := slots + 4099) (by omega) (by omega) ?_
  exact kx (br_trim (xs (i + 1)) n) k bo bi en ps f g h xt z y mt mh _ _ ls (⟨by omega, hk, hbi, hbo, hen, hps, hgh⟩) hP hD hS hl
set_option maxHeartbeats 4000000 in
set_option maxRecDepth 100000 in
/-- br_law_size -/
theorem br_law_size {p : Program} {l : Launch} {e : Env} {s : State} {m : MethodId} {below : List Frame} {meth : Method} {c : Code} {cells slots : Nat} {Q : State → Prop} {dC : Nat → ClassId} {dI : Nat → Nat → Nat} {cB : ClassId} {b L : Nat} {xs : Nat → Int32} (hx : p.tables.exec = Jvm.exec) (hb : c.code = cL_law) (hml : c.maxLocals = 4) (hown : s.vm.findClass R_law = some m.cls) (hts : ∀ w ∈ lw_all, w.before #[Value.ref b] s = true) (hK : va_K (dC, dI) vwCl [(cB, .byte)] s) (hX : va_X b L xs s s.heap) (hbl : b < s.heap.size) (hL : L ≤ 384) (hc : cells + 2 ≤ 600128) (hs : slots + 4099 ≤ 7301098) {i xo mo : Nat} (hi : i + 6 ≤ L) (kx : br_Next p l e s m below meth c dC dI cB b i xo mo (cells + 2) (slots + 4099) Q) {n k bo bi en ps : Nat} {f g h : Nat → Int32} {xt z y mt mh : Nat} {H : Heap} {locs : List Loc} {ls : Array Slot} (hI : br_I n k bo bi en ps g h)  : va_P (dC, dI) vwCl [(xo, .inr (0, [.ref xt, .int (nI n), .ref z])), (xt, .inl (cB, 4096, .inl f)), (z, .inr (1, [.ref y, .int (nI bo), .int (nI bi)])), (y, .inl (cB, k, .inl g)), (mo, .inr (2, [.ref mt, .int (nI n), .ref mh, .int (nI en), .int (nI ps)])), (mt, .inl (cB, 4096, .inl f)), (mh, .inl (cB, 4096, .inl h))] H → va_D (fun q : Nat => s.heap.size ≤ q) [(xo, .inr (0, [.ref xt, .int (nI n), .ref z])), (xt, .inl (cB, 4096, .inl f)), (z, .inr (1, [.ref y, .int (nI bo), .int (nI bi)])), (y, .inl (cB, k, .inl g)), (mo, .inr (2, [.ref mt, .int (nI n), .ref mh, .int (nI en), .int (nI ps)])), (mt, .inl (cB, 4096, .inl f)), (mh, .inl (cB, 4096, .inl h))] → va_S (fun q : Nat => s.heap.size ≤ q) s.heap H locs → lv_has ls 4 [(0, .ref b), (1, .ref xo), (2, .ref mo), (3, .int (nI i))] → W p l e room_1 s m #[Value.ref b] below meth c H locs cells slots Q (F0 m 154 ls []) := by
  intro hP hD hS hl
  have hA : ∀ q : Nat, s.heap.size ≤ q → (fun q : Nat => s.heap.size ≤ q) q := fun _ h => h
  have hbA : ¬ (fun q : Nat => s.heap.size ≤ q) b := Nat.not_le.mpr hbl
  obtain ⟨hn, hk, hbi, hbo, hen, hps, hgh⟩ := hI
  refine lv_aload_n hx hb dL_law_154 rfl (lv_at hl 1 rfl) ?_
  have hPc := hP.sub (ws' := [(xo, .inr (0, [.ref xt, .int (nI n), .ref z]))]) [0] rfl
  have hDc := hD.sub (ws' := [(xo, .inr (0, [.ref xt, .int (nI n), .ref z]))]) [0] (by decide) rfl
  have hFc := va_free (wc := [(xo, .inr (0, [.ref xt, .int (nI n), .ref z]))]) hD hS hA [0] rfl
  refine va_calli (va_runV (As := []) (rest := []) ⟨hx, hb, hml, hown, hts⟩ (br_rd_size l dC dI cB _ xo xt z n) (cwV 0 hts (lw_V q69 q70 q71 q5 q72) rfl rfl rfl (by decide +kernel) ⟨Nat.le_of_ble_eq_true rfl, Nat.le_of_ble_eq_true rfl⟩) ⟨br_blind, va_recv hK hPc (ci := 0) (q0 := 0) rfl rfl, fun U hU hW => br_start hU hW hPc hK hDc⟩ rfl rfl hl.1 rfl (lv_room (Nat.le_of_ble_eq_true rfl)) dL_law_155 ⟨by show _ ≤ 600128; omega, by show _ ≤ 7301098; omega⟩) hS (fun q _ h => hFc q h) hFc (fun r_155 u t H1 locs ht hvm hw_155 hB hz9 hk9 hS => ?_)
  obtain ⟨hP1, hK1, hD1⟩ := hB
  rw [ht] at hP1
  obtain ⟨hP, hD⟩ := va_join (wr := [(xt, .inl (cB, 4096, .inl f)), (z, .inr (1, [.ref y, .int (nI bo), .int (nI bi)])), (y, .inl (cB, k, .inl g)), (mo, .inr (2, [.ref mt, .int (nI n), .ref mh, .int (nI en), .int (nI ps)])), (mt, .inl (cB, 4096, .inl f)), (mh, .inl (cB, 4096, .inl h))]) (w1 := [(xo, .inr (0, [.ref xt, .int (nI n), .ref z]))]) hP hD [0] [1, 2, 3, 4, 5, 6] rfl rfl (by decide) (by decide) hk9 hFc hP1 hD1
  generalize H1 = H at hP hS ⊢
  have hP : va_P (dC, dI) vwCl [(xt, .inl (cB, 4096, .inl f)), (z, .inr (1, [.ref y, .int (nI bo), .int (nI bi)])), (y, .inl (cB, k, .inl g)), (mo, .inr (2, [.ref mt, .int (nI n), .ref mh, .int (nI en), .int (nI ps)])), (mt, .inl (cB, 4096, .inl f)), (mh, .inl (cB, 4096, .inl h)), (xo, .inr (0, [.ref xt, .int (nI n), .ref z]))] H := hP
  have hD : va_D (fun q : Nat => s.heap.size ≤ q) [(xt, .inl (cB, 4096, .inl f)), (z, .inr (1, [.ref y, .int (nI bo), .int (nI bi)])), (y, .inl (cB, k, .inl g)), (mo, .inr (2, [.ref mt, .int (nI n), .ref mh, .int (nI en), .int (nI ps)])), (mt, .inl (cB, 4096, .inl f)), (mh, .inl (cB, 4096, .inl h)), (xo, .inr (0, [.ref xt, .int (nI n), .ref z]))] := hD
  refine lv_aload_n hx hb dL_law_158 rfl (lv_at hl 2 rfl) ?_
  have hPc := hP.sub (ws' := [(mo, .inr (2, [.ref mt, .int (nI n), .ref mh, .int (nI en), .int (nI ps)]))]) [3] rfl
  have hDc := hD.sub (ws' := [(mo, .inr (2, [.ref mt, .int (nI n), .ref mh, .int (nI en), .int (nI ps)]))]) [3] (by decide) rfl
  have hFc := va_free (wc := [(mo, .inr (2, [.ref mt, .int (nI n), .ref mh, .int (nI en), .int (nI ps)]))]) hD hS hA [3] rfl
  refine va_calli (va_runV (As := []) (rest := [.int r_155]) ⟨hx, hb, hml, hown, hts⟩ (br_md_size l dC dI cB _ mo mt mh n en ps) (cwV 0 hts (lw_V q265 q266 q267 q7 q268) rfl rfl rfl (by decide +kernel) ⟨Nat.le_of_ble_eq_true rfl, Nat.le_of_ble_eq_true rfl⟩) ⟨br_blind, va_recv hK hPc (ci := 2) (q0 := 0) rfl rfl, fun U hU hW => br_start hU hW hPc hK hDc⟩ rfl rfl hl.1 rfl (lv_room (Nat.le_of_ble_eq_true rfl)) dL_law_159 ⟨by show _ ≤ 600128; omega, by show _ ≤ 7301098; omega⟩) hS (fun q _ h => hFc q h) hFc (fun r_159 u t H1 locs ht hvm hw_159 hB hz9 hk9 hS => ?_)
  obtain ⟨hP1, hK1, hD1⟩ := hB
  rw [ht] at hP1
  obtain ⟨hP, hD⟩ := va_join (wr := [(xt, .inl (cB, 4096, .inl f)), (z, .inr (1, [.ref y, .int (nI bo), .int (nI bi)])), (y, .inl (cB, k, .inl g)), (mt, .inl (cB, 4096, .inl f)), (mh, .inl (cB, 4096, .inl h)), (xo, .inr (0, [.ref xt, .int (nI n), .ref z]))]) (w1 := [(mo, .inr (2, [.ref mt, .int (nI n), .ref mh, .int (nI en), .int (nI ps)]))]) hP hD [3] [0, 1, 2, 4, 5, 6] rfl rfl (by decide) (by decide) hk9 hFc hP1 hD1
  generalize H1 = H at hP hS ⊢
  have hP : va_P (dC, dI) vwCl [(xt, .inl (cB, 4096, .inl f)), (z, .inr (1, [.ref y, .int (nI bo), .int (nI bi)])), (y, .inl (cB, k, .inl g)), (mt, .inl (cB, 4096, .inl f)), (mh, .inl (cB, 4096, .inl h)), (xo, .inr (0, [.ref xt, .int (nI n), .ref z])), (mo, .inr (2, [.ref mt, .int (nI n), .ref mh, .int (nI en), .int (nI ps)]))] H := hP
  have hD : va_D (fun q : Nat => s.heap.size ≤ q) [(xt, .inl (cB, 4096, .inl f)), (z, .inr (1, [.ref y, .int (nI bo), .int (nI bi)])), (y, .inl (cB, k, .inl g)), (mt, .inl (cB, 4096, .inl f)), (mh, .inl (cB, 4096, .inl h)), (xo, .inr (0, [.ref xt, .int (nI n), .ref z])), (mo, .inr (2, [.ref mt, .int (nI n), .ref mh, .int (nI en), .int (nI ps)]))] := hD
  refine lv_icmp_eq (tgt := 241) hx hb dL_law_162 (by decide) (fun c1 => ?_) (fun c1 => ?_)
  rotate_left
  · exact absurd (Eq.trans hw_155 (Eq.symm hw_159)) c1
  have hP := hP.sub (ws' := [(xo, .inr (0, [.ref xt, .int (nI n), .ref z])), (xt, .inl (cB, 4096, .inl f)), (z, .inr (1, [.ref y, .int (nI bo), .int (nI bi)])), (y, .inl (cB, k, .inl g)), (mo, .inr (2, [.ref mt, .int (nI n), .ref mh, .int (nI en), .int (nI ps)])), (mt, .inl (cB, 4096, .inl f)), (mh, .inl (cB, 4096, .inl h))]) [5, 0, 1, 2, 6, 3, 4] rfl
  have hD := hD.sub (ws' := [(xo, .inr (0, [.ref xt, .int (nI n), .ref z])), (xt, .inl (cB, 4096, .inl f)), (z, .inr (1, [.ref y, .int (nI bo), .int (nI bi)])), (y, .inl (cB, k, .inl g)), (mo, .inr (2, [.ref mt, .int (nI n), .ref mh, .int (nI en), .int (nI ps)])), (mt, .inl (cB, 4096, .inl f)), (mh, .inl (cB, 4096, .inl h))]) [5, 0, 1, 2, 6, 3, 4] (by decide) rfl
  refine W.widen (k := cells + 2) (n := slots + 4099) (by omega) (by omega) ?_
  exact kx n k bo bi en ps f g h xt z y mt mh _ _ ls (⟨hn, hk, hbi, hbo, hen, hps, hgh⟩) hP hD hS hl
set_option maxHeartbeats 4000000 in
set_option maxRecDepth 100000 in
/-- br_law_begin -/
theorem br_law_begin {p : Program} {l : Launch} {e : Env} {s : State} {m : MethodId} {below : List Frame} {meth : Method} {c : Code} {cells slots : Nat} {Q : State → Prop} {dC : Nat → ClassId} {dI : Nat → Nat → Nat} {cB : ClassId} {b L : Nat} {xs : Nat → Int32} (hx : p.tables.exec = Jvm.exec) (hb : c.code = cL_law) (hml : c.maxLocals = 4) (hown : s.vm.findClass R_law = some m.cls) (hts : ∀ w ∈ lw_all, w.before #[Value.ref b] s = true) (hK : va_K (dC, dI) vwCl [(cB, .byte)] s) (hX : va_X b L xs s s.heap) (hbl : b < s.heap.size) (hL : L ≤ 384) (hc : cells + 2 ≤ 600128) (hs : slots + 4099 ≤ 7301098) {i xo mo : Nat} (hi : i + 6 ≤ L) (kx : br_Next p l e s m below meth c dC dI cB b i xo mo (cells + 2) (slots + 4099) Q) {n k bo bi en ps : Nat} {f g h : Nat → Int32} {xt z y mt mh : Nat} {H : Heap} {locs : List Loc} {ls : Array Slot} (hI : br_I n k bo bi en ps g h)  : va_P (dC, dI) vwCl [(xo, .inr (0, [.ref xt, .int (nI n), .ref z])), (xt, .inl (cB, 4096, .inl f)), (z, .inr (1, [.ref y, .int (nI bo), .int (nI bi)])), (y, .inl (cB, k, .inl g)), (mo, .inr (2, [.ref mt, .int (nI n), .ref mh, .int (nI en), .int (nI ps)])), (mt, .inl (cB, 4096, .inl f)), (mh, .inl (cB, 4096, .inl h))] H → va_D (fun q : Nat => s.heap.size ≤ q) [(xo, .inr (0, [.ref xt, .int (nI n), .ref z])), (xt, .inl (cB, 4096, .inl f)), (z, .inr (1, [.ref y, .int (nI bo), .int (nI bi)])), (y, .inl (cB, k, .inl g)), (mo, .inr (2, [.ref mt, .int (nI n), .ref mh, .int (nI en), .int (nI ps)])), (mt, .inl (cB, 4096, .inl f)), (mh, .inl (cB, 4096, .inl h))] → va_S (fun q : Nat => s.heap.size ≤ q) s.heap H locs → lv_has ls 4 [(0, .ref b), (1, .ref xo), (2, .ref mo), (3, .int (nI i))] → W p l e room_1 s m #[Value.ref b] below meth c H locs cells slots Q (F0 m 167 ls []) := by
  intro hP hD hS hl
  have hA : ∀ q : Nat, s.heap.size ≤ q → (fun q : Nat => s.heap.size ≤ q) q := fun _ h => h
  have hbA : ¬ (fun q : Nat => s.heap.size ≤ q) b := Nat.not_le.mpr hbl
  obtain ⟨hn, hk, hbi, hbo, hen, hps, hgh⟩ := hI
  refine lv_aload_n hx hb dL_law_167 rfl (lv_at hl 1 rfl) ?_
  have hPc := hP.sub (ws' := [(xo, .inr (0, [.ref xt, .int (nI n), .ref z])), (xt, .inl (cB, 4096, .inl f))]) [0, 1] rfl
  have hDc := hD.sub (ws' := [(xo, .inr (0, [.ref xt, .int (nI n), .ref z])), (xt, .inl (cB, 4096, .inl f))]) [0, 1] (by decide) rfl
  have hFc := va_free (wc := [(xo, .inr (0, [.ref xt, .int (nI n), .ref z])), (xt, .inl (cB, 4096, .inl f))]) hD hS hA [0, 1] rfl
  refine va_callv (va_runV (As := []) (rest := []) ⟨hx, hb, hml, hown, hts⟩ (br_rd_begin l dC dI cB _ xo xt z n f hn) (cwV 0 hts (lw_V q73 q74 q75 q5 q76) rfl rfl rfl (by decide +kernel) ⟨Nat.le_of_ble_eq_true rfl, Nat.le_of_ble_eq_true rfl⟩) ⟨br_blind, va_recv hK hPc (ci := 0) (q0 := 0) rfl rfl, fun U hU hW => br_start hU hW hPc hK hDc⟩ rfl rfl hl.1 rfl (lv_room (Nat.le_of_ble_eq_true rfl)) dL_law_168 ⟨by show _ ≤ 600128; omega, by show _ ≤ 7301098; omega⟩) hS (fun q _ h => hFc q h) hFc (fun u t H1 locs ht hvm hw_168 hB hz9 hk9 hS => ?_)
  obtain ⟨z2, y2⟩ := u
  obtain ⟨hP1, hK1, hD1⟩ := hB
  rw [ht] at hP1
  obtain ⟨hP, hD⟩ := va_join (wr := [(z, .inr (1, [.ref y, .int (nI bo), .int (nI bi)])), (y, .inl (cB, k, .inl g)), (mo, .inr (2, [.ref mt, .int (nI n), .ref mh, .int (nI en), .int (nI ps)])), (mt, .inl (cB, 4096, .inl f)), (mh, .inl (cB, 4096, .inl h))]) (w1 := [(xo, .inr (0, [.ref xt, .int (nI n), .ref z2])), (xt, .inl (cB, 4096, .inl f)), (z2, .inr (1, [.ref y2, .int (nI 0), .int (nI 0)])), (y2, .inl (cB, n, .inl (br_cp (fun _ => 0) f n)))]) hP hD [0, 1] [2, 3, 4, 5, 6] rfl rfl (by decide) (by decide) hk9 hFc hP1 hD1
  generalize H1 = H at hP hS ⊢
  have hP : va_P (dC, dI) vwCl [(z, .inr (1, [.ref y, .int (nI bo), .int (nI bi)])), (y, .inl (cB, k, .inl g)), (mo, .inr (2, [.ref mt, .int (nI n), .ref mh, .int (nI en), .int (nI ps)])), (mt, .inl (cB, 4096, .inl f)), (mh, .inl (cB, 4096, .inl h)), (xo, .inr (0, [.ref xt, .int (nI n), .ref z2])), (xt, .inl (cB, 4096, .inl f)), (z2, .inr (1, [.ref y2, .int (nI 0), .int (nI 0)])), (y2, .inl (cB, n, .inl (br_cp (fun _ => 0) f n)))] H := hP
  have hD : va_D (fun q : Nat => s.heap.size ≤ q) [(z, .inr (1, [.ref y, .int (nI bo), .int (nI bi)])), (y, .inl (cB, k, .inl g)), (mo, .inr (2, [.ref mt, .int (nI n), .ref mh, .int (nI en), .int (nI ps)])), (mt, .inl (cB, 4096, .inl f)), (mh, .inl (cB, 4096, .inl h)), (xo, .inr (0, [.ref xt, .int (nI n), .ref z2])), (xt, .inl (cB, 4096, .inl f)), (z2, .inr (1, [.ref y2, .int (nI 0), .int (nI 0)])), (y2, .inl (cB, n, .inl (br_cp (fun _ => 0) f n)))] := hD
  refine lv_aload_n hx hb dL_law_171 rfl (lv_at hl 2 rfl) ?_
  have hPc := hP.sub (ws' := [(mo, .inr (2, [.ref mt, .int (nI n), .ref mh, .int (nI en), .int (nI ps)])), (mt, .inl (cB, 4096, .inl f)), (mh, .inl (cB, 4096, .inl h))]) [2, 3, 4] rfl
  have hDc := hD.sub (ws' := [(mo, .inr (2, [.ref mt, .int (nI n), .ref mh, .int (nI en), .int (nI ps)])), (mt, .inl (cB, 4096, .inl f)), (mh, .inl (cB, 4096, .inl h))]) [2, 3, 4] (by decide) rfl
  have hFc := va_free (wc := [(mo, .inr (2, [.ref mt, .int (nI n), .ref mh, .int (nI en), .int (nI ps)])), (mt, .inl (cB, 4096, .inl f)), (mh, .inl (cB, 4096, .inl h))]) hD hS hA [2, 3, 4] rfl
  refine va_callv (va_runV (As := []) (rest := []) ⟨hx, hb, hml, hown, hts⟩ (br_md_begin l dC dI cB _ mo mt mh n en ps f h hn) (cwV 0 hts (lw_V q269 q270 q271 q7 q272) rfl rfl rfl (by decide +kernel) ⟨Nat.le_of_ble_eq_true rfl, Nat.le_of_ble_eq_true rfl⟩) ⟨br_blind, va_recv hK hPc (ci := 2) (q0 := 0) rfl rfl, fun U hU hW => br_start hU hW hPc hK hDc⟩ rfl rfl hl.1 rfl (lv_room (Nat.le_of_ble_eq_true rfl)) dL_law_172 ⟨by show _ ≤ 600128; omega, by show _ ≤ 7301098; omega⟩) hS (fun q _ h => hFc q h) hFc (fun u t H1 locs ht hvm hw_172 hB hz9 hk9 hS => ?_)
  obtain ⟨hP1, hK1, hD1⟩ := hB
  rw [ht] at hP1
  obtain ⟨hP, hD⟩ := va_join (wr := [(z, .inr (1, [.ref y, .int (nI bo), .int (nI bi)])), (y, .inl (cB, k, .inl g)), (xo, .inr (0, [.ref xt, .int (nI n), .ref z2])), (xt, .inl (cB, 4096, .inl f)), (z2, .inr (1, [.ref y2, .int (nI 0), .int (nI 0)])), (y2, .inl (cB, n, .inl (br_cp (fun _ => 0) f n)))]) (w1 := [(mo, .inr (2, [.ref mt, .int (nI n), .ref mh, .int (nI (8 * n)), .int (nI 0)])), (mt, .inl (cB, 4096, .inl f)), (mh, .inl (cB, 4096, .inl (br_cp h f n)))]) hP hD [2, 3, 4] [0, 1, 5, 6, 7, 8] rfl rfl (by decide) (by decide) hk9 hFc hP1 hD1
  generalize H1 = H at hP hS ⊢
  have hP : va_P (dC, dI) vwCl [(z, .inr (1, [.ref y, .int (nI bo), .int (nI bi)])), (y, .inl (cB, k, .inl g)), (xo, .inr (0, [.ref xt, .int (nI n), .ref z2])), (xt, .inl (cB, 4096, .inl f)), (z2, .inr (1, [.ref y2, .int (nI 0), .int (nI 0)])), (y2, .inl (cB, n, .inl (br_cp (fun _ => 0) f n))), (mo, .inr (2, [.ref mt, .int (nI n), .ref mh, .int (nI (8 * n)), .int (nI 0)])), (mt, .inl (cB, 4096, .inl f)), (mh, .inl (cB, 4096, .inl (br_cp h f n)))] H := hP
  have hD : va_D (fun q : Nat => s.heap.size ≤ q) [(z, .inr (1, [.ref y, .int (nI bo), .int (nI bi)])), (y, .inl (cB, k, .inl g)), (xo, .inr (0, [.ref xt, .int (nI n), .ref z2])), (xt, .inl (cB, 4096, .inl f)), (z2, .inr (1, [.ref y2, .int (nI 0), .int (nI 0)])), (y2, .inl (cB, n, .inl (br_cp (fun _ => 0) f n))), (mo, .inr (2, [.ref mt, .int (nI n), .ref mh, .int (nI (8 * n)), .int (nI 0)])), (mt, .inl (cB, 4096, .inl f)), (mh, .inl (cB, 4096, .inl (br_cp h f n)))] := hD
  refine lv_goto (tgt := 241) hx hb dL_law_175 (by decide) ?_
  have hP := hP.sub (ws' := [(xo, .inr (0, [.ref xt, .int (nI n), .ref z2])), (xt, .inl (cB, 4096, .inl f)), (z2, .inr (1, [.ref y2, .int (nI 0), .int (nI 0)])), (y2, .inl (cB, n, .inl (br_cp (fun _ => 0) f n))), (mo, .inr (2, [.ref mt, .int (nI n), .ref mh, .int (nI (8 * n)), .int (nI 0)])), (mt, .inl (cB, 4096, .inl f)), (mh, .inl (cB, 4096, .inl (br_cp h f n)))]) [2, 3, 4, 5, 6, 7, 8] rfl
  have hD := hD.sub (ws' := [(xo, .inr (0, [.ref xt, .int (nI n), .ref z2])), (xt, .inl (cB, 4096, .inl f)), (z2, .inr (1, [.ref y2, .int (nI 0), .int (nI 0)])), (y2, .inl (cB, n, .inl (br_cp (fun _ => 0) f n))), (mo, .inr (2, [.ref mt, .int (nI n), .ref mh, .int (nI (8 * n)), .int (nI 0)])), (mt, .inl (cB, 4096, .inl f)), (mh, .inl (cB, 4096, .inl (br_cp h f n)))]) [2, 3, 4, 5, 6, 7, 8] (by decide) rfl
  refine W.widen (k := cells + 2) (n := slots + 4099) (by omega) (by omega) ?_
  exact kx n n 0 0 (8 * n) 0 f (br_cp (fun _ => 0) f n) (br_cp h f n) xt z2 y2 mt mh _ _ ls (⟨hn, hn, by omega, by omega, rfl, rfl, br_cp_eq⟩) hP hD hS hl
set_option maxHeartbeats 4000000 in
set_option maxRecDepth 100000 in
/-- br_law_left -/
theorem br_law_left {p : Program} {l : Launch} {e : Env} {s : State} {m : MethodId} {below : List Frame} {meth : Method} {c : Code} {cells slots : Nat} {Q : State → Prop} {dC : Nat → ClassId} {dI : Nat → Nat → Nat} {cB : ClassId} {b L : Nat} {xs : Nat → Int32} (hx : p.tables.exec = Jvm.exec) (hb : c.code = cL_law) (hml : c.maxLocals = 4) (hown : s.vm.findClass R_law = some m.cls) (hts : ∀ w ∈ lw_all, w.before #[Value.ref b] s = true) (hK : va_K (dC, dI) vwCl [(cB, .byte)] s) (hX : va_X b L xs s s.heap) (hbl : b < s.heap.size) (hL : L ≤ 384) (hc : cells + 2 ≤ 600128) (hs : slots + 4099 ≤ 7301098) {i xo mo : Nat} (hi : i + 6 ≤ L) (kx : br_Next p l e s m below meth c dC dI cB b i xo mo (cells + 2) (slots + 4099) Q) {n k bo bi en ps : Nat} {f g h : Nat → Int32} {xt z y mt mh : Nat} {H : Heap} {locs : List Loc} {ls : Array Slot} (hI : br_I n k bo bi en ps g h)  : va_P (dC, dI) vwCl [(xo, .inr (0, [.ref xt, .int (nI n), .ref z])), (xt, .inl (cB, 4096, .inl f)), (z, .inr (1, [.ref y, .int (nI bo), .int (nI bi)])), (y, .inl (cB, k, .inl g)), (mo, .inr (2, [.ref mt, .int (nI n), .ref mh, .int (nI en), .int (nI ps)])), (mt, .inl (cB, 4096, .inl f)), (mh, .inl (cB, 4096, .inl h))] H → va_D (fun q : Nat => s.heap.size ≤ q) [(xo, .inr (0, [.ref xt, .int (nI n), .ref z])), (xt, .inl (cB, 4096, .inl f)), (z, .inr (1, [.ref y, .int (nI bo), .int (nI bi)])), (y, .inl (cB, k, .inl g)), (mo, .inr (2, [.ref mt, .int (nI n), .ref mh, .int (nI en), .int (nI ps)])), (mt, .inl (cB, 4096, .inl f)), (mh, .inl (cB, 4096, .inl h))] → va_S (fun q : Nat => s.heap.size ≤ q) s.heap H locs → lv_has ls 4 [(0, .ref b), (1, .ref xo), (2, .ref mo), (3, .int (nI i))] → W p l e room_1 s m #[Value.ref b] below meth c H locs cells slots Q (F0 m 178 ls []) := by
  intro hP hD hS hl
  have hA : ∀ q : Nat, s.heap.size ≤ q → (fun q : Nat => s.heap.size ≤ q) q := fun _ h => h
  have hbA : ¬ (fun q : Nat => s.heap.size ≤ q) b := Nat.not_le.mpr hbl
  obtain ⟨hn, hk, hbi, hbo, hen, hps, hgh⟩ := hI
  refine lv_aload_n hx hb dL_law_178 rfl (lv_at hl 1 rfl) ?_
  have hPc := hP.sub (ws' := [(xo, .inr (0, [.ref xt, .int (nI n), .ref z])), (z, .inr (1, [.ref y, .int (nI bo), .int (nI bi)])), (y, .inl (cB, k, .inl g))]) [0, 2, 3] rfl
  have hDc := hD.sub (ws' := [(xo, .inr (0, [.ref xt, .int (nI n), .ref z])), (z, .inr (1, [.ref y, .int (nI bo), .int (nI bi)])), (y, .inl (cB, k, .inl g))]) [0, 2, 3] (by decide) rfl
  have hFc := va_free (wc := [(xo, .inr (0, [.ref xt, .int (nI n), .ref z])), (z, .inr (1, [.ref y, .int (nI bo), .int (nI bi)])), (y, .inl (cB, k, .inl g))]) hD hS hA [0, 2, 3] rfl
  refine va_calli (va_runV (As := []) (rest := []) ⟨hx, hb, hml, hown, hts⟩ (br_rd_left l dC dI cB _ xo xt z y n k g bo bi (by omega)) (cwV 0 hts (lw_V q77 q78 q79 q5 q80) rfl rfl rfl (by decide +kernel) ⟨Nat.le_of_ble_eq_true rfl, Nat.le_of_ble_eq_true rfl⟩) ⟨br_blind, va_recv hK hPc (ci := 0) (q0 := 0) rfl rfl, fun U hU hW => br_start hU hW hPc hK hDc⟩ rfl rfl hl.1 rfl (lv_room (Nat.le_of_ble_eq_true rfl)) dL_law_179 ⟨by show _ ≤ 600128; omega, by show _ ≤ 7301098; omega⟩) hS (fun q _ h => hFc q h) hFc (fun r_179 u t H1 locs ht hvm hw_179 hB hz9 hk9 hS => ?_)
  obtain ⟨hP1, hK1, hD1⟩ := hB
  rw [ht] at hP1
  obtain ⟨hP, hD⟩ := va_join (wr := [(xt, .inl (cB, 4096, .inl f)), (mo, .inr (2, [.ref mt, .int (nI n), .ref mh, .int (nI en), .int (nI ps)])), (mt, .inl (cB, 4096, .inl f)), (mh, .inl (cB, 4096, .inl h))]) (w1 := [(xo, .inr (0, [.ref xt, .int (nI n), .ref z])), (z, .inr (1, [.ref y, .int (nI bo), .int (nI bi)])), (y, .inl (cB, k, .inl g))]) hP hD [0, 2, 3] [1, 4, 5, 6] rfl rfl (by decide) (by decide) hk9 hFc hP1 hD1
  generalize H1 = H at hP hS ⊢
  have hP : va_P (dC, dI) vwCl [(xt, .inl (cB, 4096, .inl f)), (mo, .inr (2, [.ref mt, .int (nI n), .ref mh, .int (nI en), .int (nI ps)])), (mt, .inl (cB, 4096, .inl f)), (mh, .inl (cB, 4096, .inl h)), (xo, .inr (0, [.ref xt, .int (nI n), .ref z])), (z, .inr (1, [.ref y, .int (nI bo), .int (nI bi)])), (y, .inl (cB, k, .inl g))] H := hP
  have hD : va_D (fun q : Nat => s.heap.size ≤ q) [(xt, .inl (cB, 4096, .inl f)), (mo, .inr (2, [.ref mt, .int (nI n), .ref mh, .int (nI en), .int (nI ps)])), (mt, .inl (cB, 4096, .inl f)), (mh, .inl (cB, 4096, .inl h)), (xo, .inr (0, [.ref xt, .int (nI n), .ref z])), (z, .inr (1, [.ref y, .int (nI bo), .int (nI bi)])), (y, .inl (cB, k, .inl g))] := hD
  refine lv_aload_n hx hb dL_law_182 rfl (lv_at hl 2 rfl) ?_
  have hPc := hP.sub (ws' := [(mo, .inr (2, [.ref mt, .int (nI n), .ref mh, .int (nI en), .int (nI ps)]))]) [1] rfl
  have hDc := hD.sub (ws' := [(mo, .inr (2, [.ref mt, .int (nI n), .ref mh, .int (nI en), .int (nI ps)]))]) [1] (by decide) rfl
  have hFc := va_free (wc := [(mo, .inr (2, [.ref mt, .int (nI n), .ref mh, .int (nI en), .int (nI ps)]))]) hD hS hA [1] rfl
  refine va_calli (va_runV (As := []) (rest := [.int r_179]) ⟨hx, hb, hml, hown, hts⟩ (br_md_left l dC dI cB _ mo mt mh n en ps (by omega)) (cwV 0 hts (lw_V q273 q274 q275 q7 q276) rfl rfl rfl (by decide +kernel) ⟨Nat.le_of_ble_eq_true rfl, Nat.le_of_ble_eq_true rfl⟩) ⟨br_blind, va_recv hK hPc (ci := 2) (q0 := 0) rfl rfl, fun U hU hW => br_start hU hW hPc hK hDc⟩ rfl rfl hl.1 rfl (lv_room (Nat.le_of_ble_eq_true rfl)) dL_law_183 ⟨by show _ ≤ 600128; omega, by show _ ≤ 7301098; omega⟩) hS (fun q _ h => hFc q h) hFc (fun r_183 u t H1 locs ht hvm hw_183 hB hz9 hk9 hS => ?_)
  obtain ⟨hP1, hK1, hD1⟩ := hB
  rw [ht] at hP1
  obtain ⟨hP, hD⟩ := va_join (wr := [(xt, .inl (cB, 4096, .inl f)), (mt, .inl (cB, 4096, .inl f)), (mh, .inl (cB, 4096, .inl h)), (xo, .inr (0, [.ref xt, .int (nI n), .ref z])), (z, .inr (1, [.ref y, .int (nI bo), .int (nI bi)])), (y, .inl (cB, k, .inl g))]) (w1 := [(mo, .inr (2, [.ref mt, .int (nI n), .ref mh, .int (nI en), .int (nI ps)]))]) hP hD [1] [0, 2, 3, 4, 5, 6] rfl rfl (by decide) (by decide) hk9 hFc hP1 hD1
  generalize H1 = H at hP hS ⊢
  have hP : va_P (dC, dI) vwCl [(xt, .inl (cB, 4096, .inl f)), (mt, .inl (cB, 4096, .inl f)), (mh, .inl (cB, 4096, .inl h)), (xo, .inr (0, [.ref xt, .int (nI n), .ref z])), (z, .inr (1, [.ref y, .int (nI bo), .int (nI bi)])), (y, .inl (cB, k, .inl g)), (mo, .inr (2, [.ref mt, .int (nI n), .ref mh, .int (nI en), .int (nI ps)]))] H := hP
  have hD : va_D (fun q : Nat => s.heap.size ≤ q) [(xt, .inl (cB, 4096, .inl f)), (mt, .inl (cB, 4096, .inl f)), (mh, .inl (cB, 4096, .inl h)), (xo, .inr (0, [.ref xt, .int (nI n), .ref z])), (z, .inr (1, [.ref y, .int (nI bo), .int (nI bi)])), (y, .inl (cB, k, .inl g)), (mo, .inr (2, [.ref mt, .int (nI n), .ref mh, .int (nI en), .int (nI ps)]))] := hD
  refine lv_icmp_eq (tgt := 241) hx hb dL_law_186 (by decide) (fun c1 => ?_) (fun c1 => ?_)
  rotate_left
  · exact absurd (Eq.trans hw_179 (Eq.trans (congrArg nI (by omega)) (Eq.symm hw_183))) c1
  have hP := hP.sub (ws' := [(xo, .inr (0, [.ref xt, .int (nI n), .ref z])), (xt, .inl (cB, 4096, .inl f)), (z, .inr (1, [.ref y, .int (nI bo), .int (nI bi)])), (y, .inl (cB, k, .inl g)), (mo, .inr (2, [.ref mt, .int (nI n), .ref mh, .int (nI en), .int (nI ps)])), (mt, .inl (cB, 4096, .inl f)), (mh, .inl (cB, 4096, .inl h))]) [3, 0, 4, 5, 6, 1, 2] rfl
  have hD := hD.sub (ws' := [(xo, .inr (0, [.ref xt, .int (nI n), .ref z])), (xt, .inl (cB, 4096, .inl f)), (z, .inr (1, [.ref y, .int (nI bo), .int (nI bi)])), (y, .inl (cB, k, .inl g)), (mo, .inr (2, [.ref mt, .int (nI n), .ref mh, .int (nI en), .int (nI ps)])), (mt, .inl (cB, 4096, .inl f)), (mh, .inl (cB, 4096, .inl h))]) [3, 0, 4, 5, 6, 1, 2] (by decide) rfl
  refine W.widen (k := cells + 2) (n := slots + 4099) (by omega) (by omega) ?_
  exact kx n k bo bi en ps f g h xt z y mt mh _ _ ls (⟨hn, hk, hbi, hbo, hen, hps, hgh⟩) hP hD hS hl
set_option maxHeartbeats 4000000 in
set_option maxRecDepth 100000 in
/-- br_law_octet -/
theorem br_law_octet {p : Program} {l : Launch} {e : Env} {s : State} {m : MethodId} {below : List Frame} {meth : Method} {c : Code} {cells slots : Nat} {Q : State → Prop} {dC : Nat → ClassId} {dI : Nat → Nat → Nat} {cB : ClassId} {b L : Nat} {xs : Nat → Int32} (hx : p.tables.exec = Jvm.exec) (hb : c.code = cL_law) (hml : c.maxLocals = 4) (hown : s.vm.findClass R_law = some m.cls) (hts : ∀ w ∈ lw_all, w.before #[Value.ref b] s = true) (hK : va_K (dC, dI) vwCl [(cB, .byte)] s) (hX : va_X b L xs s s.heap) (hbl : b < s.heap.size) (hL : L ≤ 384) (hc : cells + 2 ≤ 600128) (hs : slots + 4099 ≤ 7301098) {i xo mo : Nat} (hi : i + 6 ≤ L) (kx : br_Next p l e s m below meth c dC dI cB b i xo mo (cells + 2) (slots + 4099) Q) {n k bo bi en ps : Nat} {f g h : Nat → Int32} {xt z y mt mh : Nat} {H : Heap} {locs : List Loc} {ls : Array Slot} (hI : br_I n k bo bi en ps g h)  : va_P (dC, dI) vwCl [(xo, .inr (0, [.ref xt, .int (nI n), .ref z])), (xt, .inl (cB, 4096, .inl f)), (z, .inr (1, [.ref y, .int (nI bo), .int (nI bi)])), (y, .inl (cB, k, .inl g)), (mo, .inr (2, [.ref mt, .int (nI n), .ref mh, .int (nI en), .int (nI ps)])), (mt, .inl (cB, 4096, .inl f)), (mh, .inl (cB, 4096, .inl h))] H → va_D (fun q : Nat => s.heap.size ≤ q) [(xo, .inr (0, [.ref xt, .int (nI n), .ref z])), (xt, .inl (cB, 4096, .inl f)), (z, .inr (1, [.ref y, .int (nI bo), .int (nI bi)])), (y, .inl (cB, k, .inl g)), (mo, .inr (2, [.ref mt, .int (nI n), .ref mh, .int (nI en), .int (nI ps)])), (mt, .inl (cB, 4096, .inl f)), (mh, .inl (cB, 4096, .inl h))] → va_S (fun q : Nat => s.heap.size ≤ q) s.heap H locs → lv_has ls 4 [(0, .ref b), (1, .ref xo), (2, .ref mo), (3, .int (nI i))] → W p l e room_1 s m #[Value.ref b] below meth c H locs cells slots Q (F0 m 215 ls []) := by
  intro hP hD hS hl
  have hA : ∀ q : Nat, s.heap.size ≤ q → (fun q : Nat => s.heap.size ≤ q) q := fun _ h => h
  have hbA : ¬ (fun q : Nat => s.heap.size ≤ q) b := Nat.not_le.mpr hbl
  obtain ⟨hn, hk, hbi, hbo, hen, hps, hgh⟩ := hI
  refine lv_aload_n hx hb dL_law_215 rfl (lv_at hl 1 rfl) ?_
  have hPc := hP.sub (ws' := [(xo, .inr (0, [.ref xt, .int (nI n), .ref z])), (z, .inr (1, [.ref y, .int (nI bo), .int (nI bi)])), (y, .inl (cB, k, .inl g))]) [0, 2, 3] rfl
  have hDc := hD.sub (ws' := [(xo, .inr (0, [.ref xt, .int (nI n), .ref z])), (z, .inr (1, [.ref y, .int (nI bo), .int (nI bi)])), (y, .inl (cB, k, .inl g))]) [0, 2, 3] (by decide) rfl
  have hFc := va_free (wc := [(xo, .inr (0, [.ref xt, .int (nI n), .ref z])), (z, .inr (1, [.ref y, .int (nI bo), .int (nI bi)])), (y, .inl (cB, k, .inl g))]) hD hS hA [0, 2, 3] rfl
  refine va_calli (va_runV (As := []) (rest := []) ⟨hx, hb, hml, hown, hts⟩ (br_rd_octet l dC dI cB _ xo xt z y n k g bo bi) (cwV 0 hts (lw_V q214 q215 q216 q5 q217) rfl rfl rfl (by decide +kernel) ⟨Nat.le_of_ble_eq_true rfl, Nat.le_of_ble_eq_true rfl⟩) ⟨br_blind, va_recv hK hPc (ci := 0) (q0 := 0) rfl rfl, fun U hU hW => br_start hU hW hPc hK hDc⟩ rfl rfl hl.1 rfl (lv_room (Nat.le_of_ble_eq_true rfl)) dL_law_216 ⟨by show _ ≤ 600128; omega, by show _ ≤ 7301098; omega⟩) hS (fun q _ h => hFc q h) hFc (fun r_216 u t H1 locs ht hvm hw_216 hB hz9 hk9 hS => ?_)
  obtain ⟨hP1, hK1, hD1⟩ := hB
  rw [ht] at hP1
  obtain ⟨hP, hD⟩ := va_join (wr := [(xt, .inl (cB, 4096, .inl f)), (mo, .inr (2, [.ref mt, .int (nI n), .ref mh, .int (nI en), .int (nI ps)])), (mt, .inl (cB, 4096, .inl f)), (mh, .inl (cB, 4096, .inl h))]) (w1 := [(xo, .inr (0, [.ref xt, .int (nI n), .ref z])), (z, .inr (1, [.ref y, .int (nI bo), .int (nI bi)])), (y, .inl (cB, k, .inl g))]) hP hD [0, 2, 3] [1, 4, 5, 6] rfl rfl (by decide) (by decide) hk9 hFc hP1 hD1
  generalize H1 = H at hP hS ⊢
  have hP : va_P (dC, dI) vwCl [(xt, .inl (cB, 4096, .inl f)), (mo, .inr (2, [.ref mt, .int (nI n), .ref mh, .int (nI en), .int (nI ps)])), (mt, .inl (cB, 4096, .inl f)), (mh, .inl (cB, 4096, .inl h)), (xo, .inr (0, [.ref xt, .int (nI n), .ref z])), (z, .inr (1, [.ref y, .int (nI bo), .int (nI bi)])), (y, .inl (cB, k, .inl g))] H := hP
  have hD : va_D (fun q : Nat => s.heap.size ≤ q) [(xt, .inl (cB, 4096, .inl f)), (mo, .inr (2, [.ref mt, .int (nI n), .ref mh, .int (nI en), .int (nI ps)])), (mt, .inl (cB, 4096, .inl f)), (mh, .inl (cB, 4096, .inl h)), (xo, .inr (0, [.ref xt, .int (nI n), .ref z])), (z, .inr (1, [.ref y, .int (nI bo), .int (nI bi)])), (y, .inl (cB, k, .inl g))] := hD
  refine lv_aload_n hx hb dL_law_219 rfl (lv_at hl 2 rfl) ?_
  have hPc := hP.sub (ws' := [(mo, .inr (2, [.ref mt, .int (nI n), .ref mh, .int (nI en), .int (nI ps)]))]) [1] rfl
  have hDc := hD.sub (ws' := [(mo, .inr (2, [.ref mt, .int (nI n), .ref mh, .int (nI en), .int (nI ps)]))]) [1] (by decide) rfl
  have hFc := va_free (wc := [(mo, .inr (2, [.ref mt, .int (nI n), .ref mh, .int (nI en), .int (nI ps)]))]) hD hS hA [1] rfl
  refine va_calli (va_runV (As := []) (rest := [.int r_216]) ⟨hx, hb, hml, hown, hts⟩ (br_md_octet l dC dI cB _ mo mt mh n en ps (by omega)) (cwV 0 hts (lw_V q282 q283 q284 q7 q285) rfl rfl rfl (by decide +kernel) ⟨Nat.le_of_ble_eq_true rfl, Nat.le_of_ble_eq_true rfl⟩) ⟨br_blind, va_recv hK hPc (ci := 2) (q0 := 0) rfl rfl, fun U hU hW => br_start hU hW hPc hK hDc⟩ rfl rfl hl.1 rfl (lv_room (Nat.le_of_ble_eq_true rfl)) dL_law_220 ⟨by show _ ≤ 600128; omega, by show _ ≤ 7301098; omega⟩) hS (fun q _ h => hFc q h) hFc (fun r_220 u t H1 locs ht hvm hw_220 hB hz9 hk9 hS => ?_)
  obtain ⟨hP1, hK1, hD1⟩ := hB
  rw [ht] at hP1
  obtain ⟨hP, hD⟩ := va_join (wr := [(xt, .inl (cB, 4096, .inl f)), (mt, .inl (cB, 4096, .inl f)), (mh, .inl (cB, 4096, .inl h)), (xo, .inr (0, [.ref xt, .int (nI n), .ref z])), (z, .inr (1, [.ref y, .int (nI bo), .int (nI bi)])), (y, .inl (cB, k, .inl g))]) (w1 := [(mo, .inr (2, [.ref mt, .int (nI n), .ref mh, .int (nI en), .int (nI ps)]))]) hP hD [1] [0, 2, 3, 4, 5, 6] rfl rfl (by decide) (by decide) hk9 hFc hP1 hD1
  generalize H1 = H at hP hS ⊢
  have hP : va_P (dC, dI) vwCl [(xt, .inl (cB, 4096, .inl f)), (mt, .inl (cB, 4096, .inl f)), (mh, .inl (cB, 4096, .inl h)), (xo, .inr (0, [.ref xt, .int (nI n), .ref z])), (z, .inr (1, [.ref y, .int (nI bo), .int (nI bi)])), (y, .inl (cB, k, .inl g)), (mo, .inr (2, [.ref mt, .int (nI n), .ref mh, .int (nI en), .int (nI ps)]))] H := hP
  have hD : va_D (fun q : Nat => s.heap.size ≤ q) [(xt, .inl (cB, 4096, .inl f)), (mt, .inl (cB, 4096, .inl f)), (mh, .inl (cB, 4096, .inl h)), (xo, .inr (0, [.ref xt, .int (nI n), .ref z])), (z, .inr (1, [.ref y, .int (nI bo), .int (nI bi)])), (y, .inl (cB, k, .inl g)), (mo, .inr (2, [.ref mt, .int (nI n), .ref mh, .int (nI en), .int (nI ps)]))] := hD
  refine lv_icmp_eq (tgt := 241) hx hb dL_law_223 (by decide) (fun c1 => ?_) (fun c1 => ?_)
  rotate_left
  · exact absurd (Eq.trans hw_216 (Eq.trans (congrArg nI (by omega)) (Eq.symm hw_220))) c1
  have hP := hP.sub (ws' := [(xo, .inr (0, [.ref xt, .int (nI n), .ref z])), (xt, .inl (cB, 4096, .inl f)), (z, .inr (1, [.ref y, .int (nI bo), .int (nI bi)])), (y, .inl (cB, k, .inl g)), (mo, .inr (2, [.ref mt, .int (nI n), .ref mh, .int (nI en), .int (nI ps)])), (mt, .inl (cB, 4096, .inl f)), (mh, .inl (cB, 4096, .inl h))]) [3, 0, 4, 5, 6, 1, 2] rfl
  have hD := hD.sub (ws' := [(xo, .inr (0, [.ref xt, .int (nI n), .ref z])), (xt, .inl (cB, 4096, .inl f)), (z, .inr (1, [.ref y, .int (nI bo), .int (nI bi)])), (y, .inl (cB, k, .inl g)), (mo, .inr (2, [.ref mt, .int (nI n), .ref mh, .int (nI en), .int (nI ps)])), (mt, .inl (cB, 4096, .inl f)), (mh, .inl (cB, 4096, .inl h))]) [3, 0, 4, 5, 6, 1, 2] (by decide) rfl
  refine W.widen (k := cells + 2) (n := slots + 4099) (by omega) (by omega) ?_
  exact kx n k bo bi en ps f g h xt z y mt mh _ _ ls (⟨hn, hk, hbi, hbo, hen, hps, hgh⟩) hP hD hS hl
set_option maxHeartbeats 4000000 in
set_option maxRecDepth 100000 in
/-- br_law_bit -/
theorem br_law_bit {p : Program} {l : Launch} {e : Env} {s : State} {m : MethodId} {below : List Frame} {meth : Method} {c : Code} {cells slots : Nat} {Q : State → Prop} {dC : Nat → ClassId} {dI : Nat → Nat → Nat} {cB : ClassId} {b L : Nat} {xs : Nat → Int32} (hx : p.tables.exec = Jvm.exec) (hb : c.code = cL_law) (hml : c.maxLocals = 4) (hown : s.vm.findClass R_law = some m.cls) (hts : ∀ w ∈ lw_all, w.before #[Value.ref b] s = true) (hK : va_K (dC, dI) vwCl [(cB, .byte)] s) (hX : va_X b L xs s s.heap) (hbl : b < s.heap.size) (hL : L ≤ 384) (hc : cells + 2 ≤ 600128) (hs : slots + 4099 ≤ 7301098) {i xo mo : Nat} (hi : i + 6 ≤ L) (kx : br_Next p l e s m below meth c dC dI cB b i xo mo (cells + 2) (slots + 4099) Q) {n k bo bi en ps : Nat} {f g h : Nat → Int32} {xt z y mt mh : Nat} {H : Heap} {locs : List Loc} {ls : Array Slot} (hI : br_I n k bo bi en ps g h)  : va_P (dC, dI) vwCl [(xo, .inr (0, [.ref xt, .int (nI n), .ref z])), (xt, .inl (cB, 4096, .inl f)), (z, .inr (1, [.ref y, .int (nI bo), .int (nI bi)])), (y, .inl (cB, k, .inl g)), (mo, .inr (2, [.ref mt, .int (nI n), .ref mh, .int (nI en), .int (nI ps)])), (mt, .inl (cB, 4096, .inl f)), (mh, .inl (cB, 4096, .inl h))] H → va_D (fun q : Nat => s.heap.size ≤ q) [(xo, .inr (0, [.ref xt, .int (nI n), .ref z])), (xt, .inl (cB, 4096, .inl f)), (z, .inr (1, [.ref y, .int (nI bo), .int (nI bi)])), (y, .inl (cB, k, .inl g)), (mo, .inr (2, [.ref mt, .int (nI n), .ref mh, .int (nI en), .int (nI ps)])), (mt, .inl (cB, 4096, .inl f)), (mh, .inl (cB, 4096, .inl h))] → va_S (fun q : Nat => s.heap.size ≤ q) s.heap H locs → lv_has ls 4 [(0, .ref b), (1, .ref xo), (2, .ref mo), (3, .int (nI i))] → W p l e room_1 s m #[Value.ref b] below meth c H locs cells slots Q (F0 m 228 ls []) := by
  intro hP hD hS hl
  have hA : ∀ q : Nat, s.heap.size ≤ q → (fun q : Nat => s.heap.size ≤ q) q := fun _ h => h
  have hbA : ¬ (fun q : Nat => s.heap.size ≤ q) b := Nat.not_le.mpr hbl
  obtain ⟨hn, hk, hbi, hbo, hen, hps, hgh⟩ := hI
  refine lv_aload_n hx hb dL_law_228 rfl (lv_at hl 1 rfl) ?_
  have hPc := hP.sub (ws' := [(xo, .inr (0, [.ref xt, .int (nI n), .ref z])), (z, .inr (1, [.ref y, .int (nI bo), .int (nI bi)])), (y, .inl (cB, k, .inl g))]) [0, 2, 3] rfl
  have hDc := hD.sub (ws' := [(xo, .inr (0, [.ref xt, .int (nI n), .ref z])), (z, .inr (1, [.ref y, .int (nI bo), .int (nI bi)])), (y, .inl (cB, k, .inl g))]) [0, 2, 3] (by decide) rfl
  have hFc := va_free (wc := [(xo, .inr (0, [.ref xt, .int (nI n), .ref z])), (z, .inr (1, [.ref y, .int (nI bo), .int (nI bi)])), (y, .inl (cB, k, .inl g))]) hD hS hA [0, 2, 3] rfl
  refine va_calli (va_runV (As := []) (rest := []) ⟨hx, hb, hml, hown, hts⟩ (br_rd_bit l dC dI cB _ xo xt z y n k g bo bi) (cwV 0 hts (lw_V q222 q223 q224 q5 q225) rfl rfl rfl (by decide +kernel) ⟨Nat.le_of_ble_eq_true rfl, Nat.le_of_ble_eq_true rfl⟩) ⟨br_blind, va_recv hK hPc (ci := 0) (q0 := 0) rfl rfl, fun U hU hW => br_start hU hW hPc hK hDc⟩ rfl rfl hl.1 rfl (lv_room (Nat.le_of_ble_eq_true rfl)) dL_law_229 ⟨by show _ ≤ 600128; omega, by show _ ≤ 7301098; omega⟩) hS (fun q _ h => hFc q h) hFc (fun r_229 u t H1 locs ht hvm hw_229 hB hz9 hk9 hS => ?_)
  obtain ⟨hP1, hK1, hD1⟩ := hB
  rw [ht] at hP1
  obtain ⟨hP, hD⟩ := va_join (wr := [(xt, .inl (cB, 4096, .inl f)), (mo, .inr (2, [.ref mt, .int (nI n), .ref mh, .int (nI en), .int (nI ps)])), (mt, .inl (cB, 4096, .inl f)), (mh, .inl (cB, 4096, .inl h))]) (w1 := [(xo, .inr (0, [.ref xt, .int (nI n), .ref z])), (z, .inr (1, [.ref y, .int (nI bo), .int (nI bi)])), (y, .inl (cB, k, .inl g))]) hP hD [0, 2, 3] [1, 4, 5, 6] rfl rfl (by decide) (by decide) hk9 hFc hP1 hD1
  generalize H1 = H at hP hS ⊢
  have hP : va_P (dC, dI) vwCl [(xt, .inl (cB, 4096, .inl f)), (mo, .inr (2, [.ref mt, .int (nI n), .ref mh, .int (nI en), .int (nI ps)])), (mt, .inl (cB, 4096, .inl f)), (mh, .inl (cB, 4096, .inl h)), (xo, .inr (0, [.ref xt, .int (nI n), .ref z])), (z, .inr (1, [.ref y, .int (nI bo), .int (nI bi)])), (y, .inl (cB, k, .inl g))] H := hP
  have hD : va_D (fun q : Nat => s.heap.size ≤ q) [(xt, .inl (cB, 4096, .inl f)), (mo, .inr (2, [.ref mt, .int (nI n), .ref mh, .int (nI en), .int (nI ps)])), (mt, .inl (cB, 4096, .inl f)), (mh, .inl (cB, 4096, .inl h)), (xo, .inr (0, [.ref xt, .int (nI n), .ref z])), (z, .inr (1, [.ref y, .int (nI bo), .int (nI bi)])), (y, .inl (cB, k, .inl g))] := hD
  refine lv_aload_n hx hb dL_law_232 rfl (lv_at hl 2 rfl) ?_
  have hPc := hP.sub (ws' := [(mo, .inr (2, [.ref mt, .int (nI n), .ref mh, .int (nI en), .int (nI ps)]))]) [1] rfl
  have hDc := hD.sub (ws' := [(mo, .inr (2, [.ref mt, .int (nI n), .ref mh, .int (nI en), .int (nI ps)]))]) [1] (by decide) rfl
  have hFc := va_free (wc := [(mo, .inr (2, [.ref mt, .int (nI n), .ref mh, .int (nI en), .int (nI ps)]))]) hD hS hA [1] rfl
  refine va_calli (va_runV (As := []) (rest := [.int r_229]) ⟨hx, hb, hml, hown, hts⟩ (br_md_bit l dC dI cB _ mo mt mh n en ps (by omega)) (cwV 0 hts (lw_V q286 q287 q288 q7 q289) rfl rfl rfl (by decide +kernel) ⟨Nat.le_of_ble_eq_true rfl, Nat.le_of_ble_eq_true rfl⟩) ⟨br_blind, va_recv hK hPc (ci := 2) (q0 := 0) rfl rfl, fun U hU hW => br_start hU hW hPc hK hDc⟩ rfl rfl hl.1 rfl (lv_room (Nat.le_of_ble_eq_true rfl)) dL_law_233 ⟨by show _ ≤ 600128; omega, by show _ ≤ 7301098; omega⟩) hS (fun q _ h => hFc q h) hFc (fun r_233 u t H1 locs ht hvm hw_233 hB hz9 hk9 hS => ?_)
  obtain ⟨hP1, hK1, hD1⟩ := hB
  rw [ht] at hP1
  obtain ⟨hP, hD⟩ := va_join (wr := [(xt, .inl (cB, 4096, .inl f)), (mt, .inl (cB, 4096, .inl f)), (mh, .inl (cB, 4096, .inl h)), (xo, .inr (0, [.ref xt, .int (nI n), .ref z])), (z, .inr (1, [.ref y, .int (nI bo), .int (nI bi)])), (y, .inl (cB, k, .inl g))]) (w1 := [(mo, .inr (2, [.ref mt, .int (nI n), .ref mh, .int (nI en), .int (nI ps)]))]) hP hD [1] [0, 2, 3, 4, 5, 6] rfl rfl (by decide) (by decide) hk9 hFc hP1 hD1
  generalize H1 = H at hP hS ⊢
  have hP : va_P (dC, dI) vwCl [(xt, .inl (cB, 4096, .inl f)), (mt, .inl (cB, 4096, .inl f)), (mh, .inl (cB, 4096, .inl h)), (xo, .inr (0, [.ref xt, .int (nI n), .ref z])), (z, .inr (1, [.ref y, .int (nI bo), .int (nI bi)])), (y, .inl (cB, k, .inl g)), (mo, .inr (2, [.ref mt, .int (nI n), .ref mh, .int (nI en), .int (nI ps)]))] H := hP
  have hD : va_D (fun q : Nat => s.heap.size ≤ q) [(xt, .inl (cB, 4096, .inl f)), (mt, .inl (cB, 4096, .inl f)), (mh, .inl (cB, 4096, .inl h)), (xo, .inr (0, [.ref xt, .int (nI n), .ref z])), (z, .inr (1, [.ref y, .int (nI bo), .int (nI bi)])), (y, .inl (cB, k, .inl g)), (mo, .inr (2, [.ref mt, .int (nI n), .ref mh, .int (nI en), .int (nI ps)]))] := hD
  refine lv_icmp_eq (tgt := 241) hx hb dL_law_236 (by decide) (fun c1 => ?_) (fun c1 => ?_)
  rotate_left
  · exact absurd (Eq.trans hw_229 (Eq.trans (congrArg nI (by omega)) (Eq.symm hw_233))) c1
  have hP := hP.sub (ws' := [(xo, .inr (0, [.ref xt, .int (nI n), .ref z])), (xt, .inl (cB, 4096, .inl f)), (z, .inr (1, [.ref y, .int (nI bo), .int (nI bi)])), (y, .inl (cB, k, .inl g)), (mo, .inr (2, [.ref mt, .int (nI n), .ref mh, .int (nI en), .int (nI ps)])), (mt, .inl (cB, 4096, .inl f)), (mh, .inl (cB, 4096, .inl h))]) [3, 0, 4, 5, 6, 1, 2] rfl
  have hD := hD.sub (ws' := [(xo, .inr (0, [.ref xt, .int (nI n), .ref z])), (xt, .inl (cB, 4096, .inl f)), (z, .inr (1, [.ref y, .int (nI bo), .int (nI bi)])), (y, .inl (cB, k, .inl g)), (mo, .inr (2, [.ref mt, .int (nI n), .ref mh, .int (nI en), .int (nI ps)])), (mt, .inl (cB, 4096, .inl f)), (mh, .inl (cB, 4096, .inl h))]) [3, 0, 4, 5, 6, 1, 2] (by decide) rfl
  refine W.widen (k := cells + 2) (n := slots + 4099) (by omega) (by omega) ?_
  exact kx n k bo bi en ps f g h xt z y mt mh _ _ ls (⟨hn, hk, hbi, hbo, hen, hps, hgh⟩) hP hD hS hl
set_option maxHeartbeats 4000000 in
set_option maxRecDepth 100000 in
/-- read -/
theorem br_law_read_no {p : Program} {l : Launch} {e : Env} {s : State} {m : MethodId} {below : List Frame} {meth : Method} {c : Code} {cells slots : Nat} {Q : State → Prop} {dC : Nat → ClassId} {dI : Nat → Nat → Nat} {cB : ClassId} {b L : Nat} {xs : Nat → Int32} (hx : p.tables.exec = Jvm.exec) (hb : c.code = cL_law) (hml : c.maxLocals = 4) (hown : s.vm.findClass R_law = some m.cls) (hts : ∀ w ∈ lw_all, w.before #[Value.ref b] s = true) (hK : va_K (dC, dI) vwCl [(cB, .byte)] s) (hX : va_X b L xs s s.heap) (hbl : b < s.heap.size) (hL : L ≤ 384) (hc : cells + 2 ≤ 600128) (hs : slots + 4099 ≤ 7301098) {i xo mo : Nat} (hi : i + 6 ≤ L) (kx : br_Next p l e s m below meth c dC dI cB b i xo mo (cells + 2) (slots + 4099) Q) {n k bo bi en ps : Nat} {f g h : Nat → Int32} {xt z y mt mh : Nat} {H : Heap} {locs : List Loc} {ls : Array Slot} (hI : br_I n k bo bi en ps g h) (hr : 8 * k < 8 * bo + bi + br_k (xs (i + 1))) : va_P (dC, dI) vwCl [(xo, .inr (0, [.ref xt, .int (nI n), .ref z])), (xt, .inl (cB, 4096, .inl f)), (z, .inr (1, [.ref y, .int (nI bo), .int (nI bi)])), (y, .inl (cB, k, .inl g)), (mo, .inr (2, [.ref mt, .int (nI n), .ref mh, .int (nI en), .int (nI ps)])), (mt, .inl (cB, 4096, .inl f)), (mh, .inl (cB, 4096, .inl h))] H → va_D (fun q : Nat => s.heap.size ≤ q) [(xo, .inr (0, [.ref xt, .int (nI n), .ref z])), (xt, .inl (cB, 4096, .inl f)), (z, .inr (1, [.ref y, .int (nI bo), .int (nI bi)])), (y, .inl (cB, k, .inl g)), (mo, .inr (2, [.ref mt, .int (nI n), .ref mh, .int (nI en), .int (nI ps)])), (mt, .inl (cB, 4096, .inl f)), (mh, .inl (cB, 4096, .inl h))] → va_S (fun q : Nat => s.heap.size ≤ q) s.heap H locs → lv_has ls 4 [(0, .ref b), (1, .ref xo), (2, .ref mo), (3, .int (nI i))] → W p l e room_1 s m #[Value.ref b] below meth c H locs cells slots Q (F0 m 191 ls []) := by
  intro hP hD hS hl
  have hA : ∀ q : Nat, s.heap.size ≤ q → (fun q : Nat => s.heap.size ≤ q) q := fun _ h => h
  have hbA : ¬ (fun q : Nat => s.heap.size ≤ q) b := Nat.not_le.mpr hbl
  obtain ⟨hn, hk, hbi, hbo, hen, hps, hgh⟩ := hI
  refine lv_aload_n hx hb dL_law_191 rfl (lv_at hl 1 rfl) ?_
  refine lv_aload_n hx hb dL_law_192 rfl (lv_at hl 0 rfl) ?_
  refine lv_iload_n hx hb dL_law_193 rfl (lv_at hl 3 rfl) ?_
  refine lv_iconst (v := nI 1) hx hb dL_law_194 (by decide +kernel) ?_
  refine lv_iadd hx hb dL_law_195 ?_
  refine wk_as (nI (i + 1)) (nI_add i 1) ?_
  refine wk_sld (i := i + 1) hx hb hX hbl hbA hS (by omega) (by omega) dL_law_196 ?_
  have hPc := hP.sub (ws' := [(xo, .inr (0, [.ref xt, .int (nI n), .ref z])), (z, .inr (1, [.ref y, .int (nI bo), .int (nI bi)])), (y, .inl (cB, k, .inl g))]) [0, 2, 3] rfl
  have hDc := hD.sub (ws' := [(xo, .inr (0, [.ref xt, .int (nI n), .ref z])), (z, .inr (1, [.ref y, .int (nI bo), .int (nI bi)])), (y, .inl (cB, k, .inl g))]) [0, 2, 3] (by decide) rfl
  have hFc := va_free (wc := [(xo, .inr (0, [.ref xt, .int (nI n), .ref z])), (z, .inr (1, [.ref y, .int (nI bo), .int (nI bi)])), (y, .inl (cB, k, .inl g))]) hD hS hA [0, 2, 3] rfl
  refine va_calll (va_runV (As := [.int (xs (i + 1))]) (rest := []) ⟨hx, hb, hml, hown, hts⟩ (br_rd_read_no l dC dI cB _ xo xt z y n k g bo bi (xs (i + 1)) hk hbo hr) (cwV 1 hts (lw_V q85 q86 q87 q5 q88) rfl rfl rfl (by decide +kernel) ⟨Nat.le_of_ble_eq_true rfl, Nat.le_of_ble_eq_true rfl⟩) ⟨br_blind, va_recv hK hPc (ci := 0) (q0 := 0) rfl rfl, fun U hU hW => br_start hU hW hPc hK hDc⟩ rfl rfl hl.1 rfl (lv_room (Nat.le_of_ble_eq_true rfl)) dL_law_197 ⟨by show _ ≤ 600128; omega, by show _ ≤ 7301098; omega⟩) hS (fun q _ h => hFc q h) hFc (fun r_197 u t H1 locs ht hvm hw_197 hB hz9 hk9 hS => ?_)
  obtain ⟨hP1, hK1, hD1⟩ := hB
  rw [ht] at hP1
  obtain ⟨hP, hD⟩ := va_join (wr := [(xt, .inl (cB, 4096, .inl f)), (mo, .inr (2, [.ref mt, .int (nI n), .ref mh, .int (nI en), .int (nI ps)])), (mt, .inl (cB, 4096, .inl f)), (mh, .inl (cB, 4096, .inl h))]) (w1 := [(xo, .inr (0, [.ref xt, .int (nI n), .ref z])), (z, .inr (1, [.ref y, .int (nI bo), .int (nI bi)])), (y, .inl (cB, k, .inl g))]) hP hD [0, 2, 3] [1, 4, 5, 6] rfl rfl (by decide) (by decide) hk9 hFc hP1 hD1
  generalize H1 = H at hP hS ⊢
  have hP : va_P (dC, dI) vwCl [(xt, .inl (cB, 4096, .inl f)), (mo, .inr (2, [.ref mt, .int (nI n), .ref mh, .int (nI en), .int (nI ps)])), (mt, .inl (cB, 4096, .inl f)), (mh, .inl (cB, 4096, .inl h)), (xo, .inr (0, [.ref xt, .int (nI n), .ref z])), (z, .inr (1, [.ref y, .int (nI bo), .int (nI bi)])), (y, .inl (cB, k, .inl g))] H := hP
  have hD : va_D (fun q : Nat => s.heap.size ≤ q) [(xt, .inl (cB, 4096, .inl f)), (mo, .inr (2, [.ref mt, .int (nI n), .ref mh, .int (nI en), .int (nI ps)])), (mt, .inl (cB, 4096, .inl f)), (mh, .inl (cB, 4096, .inl h)), (xo, .inr (0, [.ref xt, .int (nI n), .ref z])), (z, .inr (1, [.ref y, .int (nI bo), .int (nI bi)])), (y, .inl (cB, k, .inl g))] := hD
  refine lv_aload_n hx hb dL_law_200 rfl (lv_at hl 2 rfl) ?_
  refine lv_aload_n hx hb dL_law_201 rfl (lv_at hl 0 rfl) ?_
  refine lv_iload_n hx hb dL_law_202 rfl (lv_at hl 3 rfl) ?_
  refine lv_iconst (v := nI 1) hx hb dL_law_203 (by decide +kernel) ?_
  refine lv_iadd hx hb dL_law_204 ?_
  refine wk_as (nI (i + 1)) (nI_add i 1) ?_
  refine wk_sld (i := i + 1) hx hb hX hbl hbA hS (by omega) (by omega) dL_law_205 ?_
  have hPc := hP.sub (ws' := [(mo, .inr (2, [.ref mt, .int (nI n), .ref mh, .int (nI en), .int (nI ps)])), (mh, .inl (cB, 4096, .inl h))]) [1, 3] rfl
  have hDc := hD.sub (ws' := [(mo, .inr (2, [.ref mt, .int (nI n), .ref mh, .int (nI en), .int (nI ps)])), (mh, .inl (cB, 4096, .inl h))]) [1, 3] (by decide) rfl
  have hFc := va_free (wc := [(mo, .inr (2, [.ref mt, .int (nI n), .ref mh, .int (nI en), .int (nI ps)])), (mh, .inl (cB, 4096, .inl h))]) hD hS hA [1, 3] rfl
  refine va_calll (va_runV (As := [.int (xs (i + 1))]) (rest := [.long r_197]) ⟨hx, hb, hml, hown, hts⟩ (br_md_read_no l dC dI cB _ mo mt mh n en ps h (xs (i + 1)) (by omega) (by omega) (by omega)) (cwV 1 hts (lw_V q277 q278 q279 q7 q280) rfl rfl rfl (by decide +kernel) ⟨Nat.le_of_ble_eq_true rfl, Nat.le_of_ble_eq_true rfl⟩) ⟨br_blind, va_recv hK hPc (ci := 2) (q0 := 0) rfl rfl, fun U hU hW => br_start hU hW hPc hK hDc⟩ rfl rfl hl.1 rfl (lv_room (Nat.le_of_ble_eq_true rfl)) dL_law_206 ⟨by show _ ≤ 600128; omega, by show _ ≤ 7301098; omega⟩) hS (fun q _ h => hFc q h) hFc (fun r_206 u t H1 locs ht hvm hw_206 hB hz9 hk9 hS => ?_)
  obtain ⟨hP1, hK1, hD1⟩ := hB
  rw [ht] at hP1
  obtain ⟨hP, hD⟩ := va_join (wr := [(xt, .inl (cB, 4096, .inl f)), (mt, .inl (cB, 4096, .inl f)), (xo, .inr (0, [.ref xt, .int (nI n), .ref z])), (z, .inr (1, [.ref y, .int (nI bo), .int (nI bi)])), (y, .inl (cB, k, .inl g))]) (w1 := [(mo, .inr (2, [.ref mt, .int (nI n), .ref mh, .int (nI en), .int (nI ps)])), (mh, .inl (cB, 4096, .inl h))]) hP hD [1, 3] [0, 2, 4, 5, 6] rfl rfl (by decide) (by decide) hk9 hFc hP1 hD1
  generalize H1 = H at hP hS ⊢
  have hP : va_P (dC, dI) vwCl [(xt, .inl (cB, 4096, .inl f)), (mt, .inl (cB, 4096, .inl f)), (xo, .inr (0, [.ref xt, .int (nI n), .ref z])), (z, .inr (1, [.ref y, .int (nI bo), .int (nI bi)])), (y, .inl (cB, k, .inl g)), (mo, .inr (2, [.ref mt, .int (nI n), .ref mh, .int (nI en), .int (nI ps)])), (mh, .inl (cB, 4096, .inl h))] H := hP
  have hD : va_D (fun q : Nat => s.heap.size ≤ q) [(xt, .inl (cB, 4096, .inl f)), (mt, .inl (cB, 4096, .inl f)), (xo, .inr (0, [.ref xt, .int (nI n), .ref z])), (z, .inr (1, [.ref y, .int (nI bo), .int (nI bi)])), (y, .inl (cB, k, .inl g)), (mo, .inr (2, [.ref mt, .int (nI n), .ref mh, .int (nI en), .int (nI ps)])), (mh, .inl (cB, 4096, .inl h))] := hD
  have er : r_197 = r_206 := Eq.trans hw_197 (Eq.symm hw_206)
  refine W.lcmp hx hb dL_law_209 ?_
  rw [er, br_cmp]
  refine lv_if_eq (tgt := 241) hx hb dL_law_210 (by decide) (fun c1 => ?_) (fun c1 => ?_)
  rotate_left
  · exact absurd rfl c1
  have hP := hP.sub (ws' := [(xo, .inr (0, [.ref xt, .int (nI n), .ref z])), (xt, .inl (cB, 4096, .inl f)), (z, .inr (1, [.ref y, .int (nI bo), .int (nI bi)])), (y, .inl (cB, k, .inl g)), (mo, .inr (2, [.ref mt, .int (nI n), .ref mh, .int (nI en), .int (nI ps)])), (mt, .inl (cB, 4096, .inl f)), (mh, .inl (cB, 4096, .inl h))]) [2, 0, 3, 4, 5, 1, 6] rfl
  have hD := hD.sub (ws' := [(xo, .inr (0, [.ref xt, .int (nI n), .ref z])), (xt, .inl (cB, 4096, .inl f)), (z, .inr (1, [.ref y, .int (nI bo), .int (nI bi)])), (y, .inl (cB, k, .inl g)), (mo, .inr (2, [.ref mt, .int (nI n), .ref mh, .int (nI en), .int (nI ps)])), (mt, .inl (cB, 4096, .inl f)), (mh, .inl (cB, 4096, .inl h))]) [2, 0, 3, 4, 5, 1, 6] (by decide) rfl
  refine W.widen (k := cells + 2) (n := slots + 4099) (by omega) (by omega) ?_
  exact kx n k bo bi en ps f g h xt z y mt mh _ _ ls (⟨hn, hk, hbi, hbo, hen, hps, hgh⟩) hP hD hS hl
set_option maxHeartbeats 4000000 in
set_option maxRecDepth 100000 in
/-- read -/
theorem br_law_read {p : Program} {l : Launch} {e : Env} {s : State} {m : MethodId} {below : List Frame} {meth : Method} {c : Code} {cells slots : Nat} {Q : State → Prop} {dC : Nat → ClassId} {dI : Nat → Nat → Nat} {cB : ClassId} {b L : Nat} {xs : Nat → Int32} (hx : p.tables.exec = Jvm.exec) (hb : c.code = cL_law) (hml : c.maxLocals = 4) (hown : s.vm.findClass R_law = some m.cls) (hts : ∀ w ∈ lw_all, w.before #[Value.ref b] s = true) (hK : va_K (dC, dI) vwCl [(cB, .byte)] s) (hX : va_X b L xs s s.heap) (hbl : b < s.heap.size) (hL : L ≤ 384) (hc : cells + 2 ≤ 600128) (hs : slots + 4099 ≤ 7301098) {i xo mo : Nat} (hi : i + 6 ≤ L) (kx : br_Next p l e s m below meth c dC dI cB b i xo mo (cells + 2) (slots + 4099) Q) {n k bo bi en ps : Nat} {f g h : Nat → Int32} {xt z y mt mh : Nat} {H : Heap} {locs : List Loc} {ls : Array Slot} (hI : br_I n k bo bi en ps g h) (hr : 8 * bo + bi + br_k (xs (i + 1)) ≤ 8 * k) : va_P (dC, dI) vwCl [(xo, .inr (0, [.ref xt, .int (nI n), .ref z])), (xt, .inl (cB, 4096, .inl f)), (z, .inr (1, [.ref y, .int (nI bo), .int (nI bi)])), (y, .inl (cB, k, .inl g)), (mo, .inr (2, [.ref mt, .int (nI n), .ref mh, .int (nI en), .int (nI ps)])), (mt, .inl (cB, 4096, .inl f)), (mh, .inl (cB, 4096, .inl h))] H → va_D (fun q : Nat => s.heap.size ≤ q) [(xo, .inr (0, [.ref xt, .int (nI n), .ref z])), (xt, .inl (cB, 4096, .inl f)), (z, .inr (1, [.ref y, .int (nI bo), .int (nI bi)])), (y, .inl (cB, k, .inl g)), (mo, .inr (2, [.ref mt, .int (nI n), .ref mh, .int (nI en), .int (nI ps)])), (mt, .inl (cB, 4096, .inl f)), (mh, .inl (cB, 4096, .inl h))] → va_S (fun q : Nat => s.heap.size ≤ q) s.heap H locs → lv_has ls 4 [(0, .ref b), (1, .ref xo), (2, .ref mo), (3, .int (nI i))] → W p l e room_1 s m #[Value.ref b] below meth c H locs cells slots Q (F0 m 191 ls []) := by
  intro hP hD hS hl
  have hA : ∀ q : Nat, s.heap.size ≤ q → (fun q : Nat => s.heap.size ≤ q) q := fun _ h => h
  have hbA : ¬ (fun q : Nat => s.heap.size ≤ q) b := Nat.not_le.mpr hbl
  obtain ⟨hn, hk, hbi, hbo, hen, hps, hgh⟩ := hI
  refine lv_aload_n hx hb dL_law_191 rfl (lv_at hl 1 rfl) ?_
  refine lv_aload_n hx hb dL_law_192 rfl (lv_at hl 0 rfl) ?_
  refine lv_iload_n hx hb dL_law_193 rfl (lv_at hl 3 rfl) ?_
  refine lv_iconst (v := nI 1) hx hb dL_law_194 (by decide +kernel) ?_
  refine lv_iadd hx hb dL_law_195 ?_
  refine wk_as (nI (i + 1)) (nI_add i 1) ?_
  refine wk_sld (i := i + 1) hx hb hX hbl hbA hS (by omega) (by omega) dL_law_196 ?_
  have hPc := hP.sub (ws' := [(xo, .inr (0, [.ref xt, .int (nI n), .ref z])), (z, .inr (1, [.ref y, .int (nI bo), .int (nI bi)])), (y, .inl (cB, k, .inl g))]) [0, 2, 3] rfl
  have hDc := hD.sub (ws' := [(xo, .inr (0, [.ref xt, .int (nI n), .ref z])), (z, .inr (1, [.ref y, .int (nI bo), .int (nI bi)])), (y, .inl (cB, k, .inl g))]) [0, 2, 3] (by decide) rfl
  have hFc := va_free (wc := [(xo, .inr (0, [.ref xt, .int (nI n), .ref z])), (z, .inr (1, [.ref y, .int (nI bo), .int (nI bi)])), (y, .inl (cB, k, .inl g))]) hD hS hA [0, 2, 3] rfl
  refine va_calll (va_runV (As := [.int (xs (i + 1))]) (rest := []) ⟨hx, hb, hml, hown, hts⟩ (br_rd_read l dC dI cB _ xo xt z y n k g bo bi (xs (i + 1)) hk hbi hr) (cwV 1 hts (lw_V q85 q86 q87 q5 q88) rfl rfl rfl (by decide +kernel) ⟨Nat.le_of_ble_eq_true rfl, Nat.le_of_ble_eq_true rfl⟩) ⟨br_blind, va_recv hK hPc (ci := 0) (q0 := 0) rfl rfl, fun U hU hW => br_start hU hW hPc hK hDc⟩ rfl rfl hl.1 rfl (lv_room (Nat.le_of_ble_eq_true rfl)) dL_law_197 ⟨by show _ ≤ 600128; omega, by show _ ≤ 7301098; omega⟩) hS (fun q _ h => hFc q h) hFc (fun r_197 u t H1 locs ht hvm hw_197 hB hz9 hk9 hS => ?_)
  obtain ⟨hP1, hK1, hD1⟩ := hB
  rw [ht] at hP1
  obtain ⟨hP, hD⟩ := va_join (wr := [(xt, .inl (cB, 4096, .inl f)), (mo, .inr (2, [.ref mt, .int (nI n), .ref mh, .int (nI en), .int (nI ps)])), (mt, .inl (cB, 4096, .inl f)), (mh, .inl (cB, 4096, .inl h))]) (w1 := [(xo, .inr (0, [.ref xt, .int (nI n), .ref z])), (z, .inr (1, [.ref y, .int (nI ((8 * bo + bi + br_k (xs (i + 1))) / 8)), .int (nI ((8 * bo + bi + br_k (xs (i + 1))) % 8))])), (y, .inl (cB, k, .inl g))]) hP hD [0, 2, 3] [1, 4, 5, 6] rfl rfl (by decide) (by decide) hk9 hFc hP1 hD1
  generalize H1 = H at hP hS ⊢
  have hP : va_P (dC, dI) vwCl [(xt, .inl (cB, 4096, .inl f)), (mo, .inr (2, [.ref mt, .int (nI n), .ref mh, .int (nI en), .int (nI ps)])), (mt, .inl (cB, 4096, .inl f)), (mh, .inl (cB, 4096, .inl h)), (xo, .inr (0, [.ref xt, .int (nI n), .ref z])), (z, .inr (1, [.ref y, .int (nI ((8 * bo + bi + br_k (xs (i + 1))) / 8)), .int (nI ((8 * bo + bi + br_k (xs (i + 1))) % 8))])), (y, .inl (cB, k, .inl g))] H := hP
  have hD : va_D (fun q : Nat => s.heap.size ≤ q) [(xt, .inl (cB, 4096, .inl f)), (mo, .inr (2, [.ref mt, .int (nI n), .ref mh, .int (nI en), .int (nI ps)])), (mt, .inl (cB, 4096, .inl f)), (mh, .inl (cB, 4096, .inl h)), (xo, .inr (0, [.ref xt, .int (nI n), .ref z])), (z, .inr (1, [.ref y, .int (nI ((8 * bo + bi + br_k (xs (i + 1))) / 8)), .int (nI ((8 * bo + bi + br_k (xs (i + 1))) % 8))])), (y, .inl (cB, k, .inl g))] := hD
  refine lv_aload_n hx hb dL_law_200 rfl (lv_at hl 2 rfl) ?_
  refine lv_aload_n hx hb dL_law_201 rfl (lv_at hl 0 rfl) ?_
  refine lv_iload_n hx hb dL_law_202 rfl (lv_at hl 3 rfl) ?_
  refine lv_iconst (v := nI 1) hx hb dL_law_203 (by decide +kernel) ?_
  refine lv_iadd hx hb dL_law_204 ?_
  refine wk_as (nI (i + 1)) (nI_add i 1) ?_
  refine wk_sld (i := i + 1) hx hb hX hbl hbA hS (by omega) (by omega) dL_law_205 ?_
  have hPc := hP.sub (ws' := [(mo, .inr (2, [.ref mt, .int (nI n), .ref mh, .int (nI en), .int (nI ps)])), (mh, .inl (cB, 4096, .inl h))]) [1, 3] rfl
  have hDc := hD.sub (ws' := [(mo, .inr (2, [.ref mt, .int (nI n), .ref mh, .int (nI en), .int (nI ps)])), (mh, .inl (cB, 4096, .inl h))]) [1, 3] (by decide) rfl
  have hFc := va_free (wc := [(mo, .inr (2, [.ref mt, .int (nI n), .ref mh, .int (nI en), .int (nI ps)])), (mh, .inl (cB, 4096, .inl h))]) hD hS hA [1, 3] rfl
  refine va_calll (va_runV (As := [.int (xs (i + 1))]) (rest := [.long r_197]) ⟨hx, hb, hml, hown, hts⟩ (br_md_read l dC dI cB _ mo mt mh n en ps h (xs (i + 1)) (by omega) (by omega)) (cwV 1 hts (lw_V q277 q278 q279 q7 q280) rfl rfl rfl (by decide +kernel) ⟨Nat.le_of_ble_eq_true rfl, Nat.le_of_ble_eq_true rfl⟩) ⟨br_blind, va_recv hK hPc (ci := 2) (q0 := 0) rfl rfl, fun U hU hW => br_start hU hW hPc hK hDc⟩ rfl rfl hl.1 rfl (lv_room (Nat.le_of_ble_eq_true rfl)) dL_law_206 ⟨by show _ ≤ 600128; omega, by show _ ≤ 7301098; omega⟩) hS (fun q _ h => hFc q h) hFc (fun r_206 u t H1 locs ht hvm hw_206 hB hz9 hk9 hS => ?_)
  obtain ⟨hP1, hK1, hD1⟩ := hB
  rw [ht] at hP1
  obtain ⟨hP, hD⟩ := va_join (wr := [(xt, .inl (cB, 4096, .inl f)), (mt, .inl (cB, 4096, .inl f)), (xo, .inr (0, [.ref xt, .int (nI n), .ref z])), (z, .inr (1, [.ref y, .int (nI ((8 * bo + bi + br_k (xs (i + 1))) / 8)), .int (nI ((8 * bo + bi + br_k (xs (i + 1))) % 8))])), (y, .inl (cB, k, .inl g))]) (w1 := [(mo, .inr (2, [.ref mt, .int (nI n), .ref mh, .int (nI en), .int (nI (ps + br_k (xs (i + 1))))])), (mh, .inl (cB, 4096, .inl h))]) hP hD [1, 3] [0, 2, 4, 5, 6] rfl rfl (by decide) (by decide) hk9 hFc hP1 hD1
  generalize H1 = H at hP hS ⊢
  have hP : va_P (dC, dI) vwCl [(xt, .inl (cB, 4096, .inl f)), (mt, .inl (cB, 4096, .inl f)), (xo, .inr (0, [.ref xt, .int (nI n), .ref z])), (z, .inr (1, [.ref y, .int (nI ((8 * bo + bi + br_k (xs (i + 1))) / 8)), .int (nI ((8 * bo + bi + br_k (xs (i + 1))) % 8))])), (y, .inl (cB, k, .inl g)), (mo, .inr (2, [.ref mt, .int (nI n), .ref mh, .int (nI en), .int (nI (ps + br_k (xs (i + 1))))])), (mh, .inl (cB, 4096, .inl h))] H := hP
  have hD : va_D (fun q : Nat => s.heap.size ≤ q) [(xt, .inl (cB, 4096, .inl f)), (mt, .inl (cB, 4096, .inl f)), (xo, .inr (0, [.ref xt, .int (nI n), .ref z])), (z, .inr (1, [.ref y, .int (nI ((8 * bo + bi + br_k (xs (i + 1))) / 8)), .int (nI ((8 * bo + bi + br_k (xs (i + 1))) % 8))])), (y, .inl (cB, k, .inl g)), (mo, .inr (2, [.ref mt, .int (nI n), .ref mh, .int (nI en), .int (nI (ps + br_k (xs (i + 1))))])), (mh, .inl (cB, 4096, .inl h))] := hD
  obtain ⟨v1, e1, d1⟩ := hw_197
  obtain ⟨v2, e2, d2⟩ := hw_206
  rw [hps] at d2
  have er : r_197 = r_206 := by rw [e1, e2, br_Rd_eq d1 d2 hgh hr]
  refine W.lcmp hx hb dL_law_209 ?_
  rw [er, br_cmp]
  refine lv_if_eq (tgt := 241) hx hb dL_law_210 (by decide) (fun c1 => ?_) (fun c1 => ?_)
  rotate_left
  · exact absurd rfl c1
  have hP := hP.sub (ws' := [(xo, .inr (0, [.ref xt, .int (nI n), .ref z])), (xt, .inl (cB, 4096, .inl f)), (z, .inr (1, [.ref y, .int (nI ((8 * bo + bi + br_k (xs (i + 1))) / 8)), .int (nI ((8 * bo + bi + br_k (xs (i + 1))) % 8))])), (y, .inl (cB, k, .inl g)), (mo, .inr (2, [.ref mt, .int (nI n), .ref mh, .int (nI en), .int (nI (ps + br_k (xs (i + 1))))])), (mt, .inl (cB, 4096, .inl f)), (mh, .inl (cB, 4096, .inl h))]) [2, 0, 3, 4, 5, 1, 6] rfl
  have hD := hD.sub (ws' := [(xo, .inr (0, [.ref xt, .int (nI n), .ref z])), (xt, .inl (cB, 4096, .inl f)), (z, .inr (1, [.ref y, .int (nI ((8 * bo + bi + br_k (xs (i + 1))) / 8)), .int (nI ((8 * bo + bi + br_k (xs (i + 1))) % 8))])), (y, .inl (cB, k, .inl g)), (mo, .inr (2, [.ref mt, .int (nI n), .ref mh, .int (nI en), .int (nI (ps + br_k (xs (i + 1))))])), (mt, .inl (cB, 4096, .inl f)), (mh, .inl (cB, 4096, .inl h))]) [2, 0, 3, 4, 5, 1, 6] (by decide) rfl
  refine W.widen (k := cells + 2) (n := slots + 4099) (by omega) (by omega) ?_
  exact kx n k ((8 * bo + bi + br_k (xs (i + 1))) / 8) ((8 * bo + bi + br_k (xs (i + 1))) % 8) en (ps + br_k (xs (i + 1))) f g h xt z y mt mh _ _ ls (⟨hn, hk, by omega, by omega, hen, by omega, hgh⟩) hP hD hS hl
end
section
/-! the law: its loop and its start -/
set_option maxRecDepth 100000
def lw_P (b : Addr) (xs : List Int32) (args : Array Value) (s : State) : Prop := args = #[.ref b] ∧ s.IntsAt b xs ∧ xs.length ≤ 384 ∧ (Jvm.Cond.and given_1 narrow_1).before args s = true
def lw_Q (_ : Array Value) (s : State) (o : Outcome) (t : State) : Prop := o = .returned (some (.int 1)) ∧ Framed s o t [] 600128 7301098
def lw_Z (below : List Frame) (a : Array Value) (s : State) : State → Prop := fun t => ∃ o, t.status = .running ∧ Ended t below o ∧ lw_Q a s o t
/-- the law's own end, with 1 on the stack, nothing written that was there before, its room as the claim has it -/
theorem lw_ret {p : Program} {l : Launch} {e : Env} {s : State} {m : MethodId} {below : List Frame} {meth : Method} {c : Code} {b : Nat} (hx : p.tables.exec = Jvm.exec) (hb : c.code = code) (hr : meth.sig.returnType = ret) (hlocks : meth.locks = false) {pc : Nat} {H : Heap} {ls : Array Slot} (hdg : decode code pc = .ok (.ireturn, 1)) : W p l e room_1 s m #[Value.ref b] below meth c H [] 600128 7301098 (lw_Z below #[Value.ref b] s) (F0 m pc ls [.int 1]) := by
  intro T hT X
  obtain ⟨fs, hret, hrun, hended, hW, hframe⟩ := X.leave (v := some (.int 1)) (hlocks := hlocks) (fun h => by rw [hr] at h; cases h)
  have hmeth' : T.vm.method? m = some meth := X.method'
  refine ⟨T.setFrames fs, ?_, .returned (some (.int 1)), hrun, hended, rfl, ⟨_, rfl⟩, hW, hframe⟩
  jvm_step X.here [X.here.top, hx, hb, hdg, hmeth', hr, ret, narrow_b1]
  (try refine ⟨rfl, ?_⟩); (try refine ⟨rfl, ?_⟩)
  first | (intro acts; rw [hret _ acts rfl rfl rfl]) | rw [hret _ _ rfl rfl rfl]
  exact Steps.refl _
/-- what holds at the law's entry: the machine, the code, the tables' words (any of lw_tbl by 'hts w (by decide +kernel)'), the script of L ints xs at the cell b, what the Statement gives of the start (any of its parts by flat_of_before) -/
def lw_At (p : Program) (s : State) (m : MethodId) (meth : Method) (c : Code) (b L : Nat) (xs : Nat → Int32) : Prop :=
  p.tables.exec = Jvm.exec ∧ c.code = code ∧ meth.sig.returnType = ret ∧ c.maxLocals = 4 ∧ s.vm.findClass R_law = some m.cls ∧ (∀ w ∈ lw_tbl, w.before #[Value.ref b] s = true) ∧ va_X b L xs s s.heap ∧ b < s.heap.size ∧ meth.locks = false ∧ (Jvm.Cond.and given_1 narrow_1).before #[Value.ref b] s = true
set_option maxHeartbeats 4000000 in
set_option maxRecDepth 100000 in
/-- THE LAW'S LOOP: at its head, ct calls made, the two agree -/
theorem br_law_loop {p : Program} {l : Launch} {e : Env} {s : State} {m : MethodId} {below : List Frame} {meth : Method} {c : Code} {dC : Nat → ClassId} {dI : Nat → Nat → Nat} {cB : ClassId} {b L : Nat} {xs : Nat → Int32} (hL : L ≤ 384) (C0 : lw_At p s m meth c b L xs) (hK : va_K (dC, dI) vwCl [(cB, .byte)] s) :
    ∀ (N ct : Nat), 6 * ct ≤ L → L < 6 * (ct + N) → ∀ (n k bo bi en ps : Nat) (f g h : Nat → Int32) (xo xt z y mo mt mh : Nat) (H : Heap) (locs : List Loc) (ls : Array Slot), br_I n k bo bi en ps g h → va_P (dC, dI) vwCl [(xo, .inr (0, [.ref xt, .int (nI n), .ref z])), (xt, .inl (cB, 4096, .inl f)), (z, .inr (1, [.ref y, .int (nI bo), .int (nI bi)])), (y, .inl (cB, k, .inl g)), (mo, .inr (2, [.ref mt, .int (nI n), .ref mh, .int (nI en), .int (nI ps)])), (mt, .inl (cB, 4096, .inl f)), (mh, .inl (cB, 4096, .inl h))] H → va_D (fun q : Nat => s.heap.size ≤ q) [(xo, .inr (0, [.ref xt, .int (nI n), .ref z])), (xt, .inl (cB, 4096, .inl f)), (z, .inr (1, [.ref y, .int (nI bo), .int (nI bi)])), (y, .inl (cB, k, .inl g)), (mo, .inr (2, [.ref mt, .int (nI n), .ref mh, .int (nI en), .int (nI ps)])), (mt, .inl (cB, 4096, .inl f)), (mh, .inl (cB, 4096, .inl h))] → va_S (fun q : Nat => s.heap.size ≤ q) s.heap H locs → lv_has ls 4 [(0, .ref b), (1, .ref xo), (2, .ref mo), (3, .int (nI (6 * ct)))] → W p l e room_1 s m #[Value.ref b] below meth c H locs (8 + 2 * ct) (12500 + 4099 * ct) (lw_Z below #[Value.ref b] s) (F0 m 18 ls []) := by
  obtain ⟨hx, hb, hr, hml, hown, hts0, hX, hbl, hlocks, hgv⟩ := C0
  have hts : ∀ w ∈ lw_all, w.before #[Value.ref b] s = true := fun w h => hts0 w (lw_all_tbl h)
  have hbA : ¬ (fun q : Nat => s.heap.size ≤ q) b := Nat.not_le.mpr hbl
  intro N
  induction N with
  | zero =>
    intro ct h1 h2
    exact absurd h2 (by omega)
  | succ N ih =>
    intro ct h1 h2 n k bo bi en ps f g h xo xt z y mo mt mh H locs ls hI hP hD hS hl
    refine lv_iload_n hx hb dL_law_18 rfl (lv_at hl 3 rfl) ?_
    refine lv_aload_n hx hb dL_law_19 rfl (lv_at hl 0 rfl) ?_
    refine va_slen hx hb hX hbl hbA hS dL_law_20 ?_
    refine wk_as (nI L) (rfl) ?_
    refine lv_bipush (v := nI 6) hx hb dL_law_21 (by decide +kernel) ?_
    refine lv_isub hx hb dL_law_23 ?_
    refine lv_icmp_gt (tgt := 247) hx hb dL_law_24 (by decide) (fun c1 => ?_) (fun c1 => ?_)
    · refine lv_iconst (v := 1) hx hb dL_law_247 (by decide) ?_
      refine va_forget (fun q hq => hS.2.2 q hq) ?_
      refine W.widen (k := 600128) (n := 7301098) (by omega) (by omega) ?_
      exact lw_ret hx hb hr hlocks dL_law_248
    · have c1 : 6 * ct + 6 ≤ L := Nat.not_lt.mp (fun z => c1 ((br_subLt (by omega) (by omega) (by omega)).mpr z))
      have kx : br_Next p l e s m below meth c dC dI cB b (6 * ct) xo mo (8 + 2 * ct + 2) (12500 + 4099 * ct + 4099) (lw_Z below #[Value.ref b] s) := by
        intro n k bo bi en ps f g h xt z y mt mh H locs ls hI hP hD hS hl
        refine lv_iinc (v := nI (6 * (ct + 1))) (lv' := [(3, .int (nI (6 * (ct + 1)))), (0, .ref b), (1, .ref xo), (2, .ref mo)]) hx hb dL_law_241 hl (k := 3) rfl (br_p6 (6 * ct)) (by decide) rfl (fun ls hl => ?_)
        refine lv_goto (tgt := 18) hx hb dL_law_244 (by decide) ?_
        refine W.widen (k := 8 + 2 * (ct + 1)) (n := 12500 + 4099 * (ct + 1)) (by omega) (by omega) ?_
        exact ih (ct + 1) (by omega) (by omega) n k bo bi en ps f g h xo xt z y mo mt mh H locs ls hI hP hD hS (lv_sub hl [1, 2, 3, 0] rfl)
      refine lv_aload_n hx hb dL_law_27 rfl (lv_at hl 0 rfl) ?_
      refine lv_iload_n hx hb dL_law_28 rfl (lv_at hl 3 rfl) ?_
      refine wk_sld (i := 6 * ct) hx hb hX hbl hbA hS (by omega) (by omega) dL_law_29 ?_
      refine lv_bipush (v := nI 15) hx hb dL_law_30 (by decide +kernel) ?_
      obtain ⟨v, hv, ev⟩ := pk_andE (xs (6 * ct)) (m := nI 15) 4 (by decide +kernel)
      refine lv_iand hx hb dL_law_32 ?_
      refine wk_as (nI v) (ev) ?_
      rcases (show v = 0 ∨ v = 1 ∨ v = 2 ∨ v = 3 ∨ v = 4 ∨ v = 5 ∨ v = 6 ∨ v = 7 ∨ 8 ≤ v by omega) with rfl | rfl | rfl | rfl | rfl | rfl | rfl | rfl | hv8
      · refine lv_tableIn (off := 47) (tgt := 80) hx hb dL_law_33 (by decide +kernel) (by decide +kernel) (by decide +kernel) (by decide) ?_
        rcases Nat.lt_or_ge 4080 n with hp | hp
        · exact br_law_put_no hx hb hml hown hts hK hX hbl hL (by omega) (by omega) c1 kx hI hp hP hD hS hl
        · exact br_law_put hx hb hml hown hts hK hX hbl hL (by omega) (by omega) c1 kx hI hp hP hD hS hl
      · refine lv_tableIn (off := 100) (tgt := 133) hx hb dL_law_33 (by decide +kernel) (by decide +kernel) (by decide +kernel) (by decide) ?_
        exact br_law_trim hx hb hml hown hts hK hX hbl hL (by omega) (by omega) c1 kx hI hP hD hS hl
      · refine lv_tableIn (off := 121) (tgt := 154) hx hb dL_law_33 (by decide +kernel) (by decide +kernel) (by decide +kernel) (by decide) ?_
        exact br_law_size hx hb hml hown hts hK hX hbl hL (by omega) (by omega) c1 kx hI hP hD hS hl
      · refine lv_tableIn (off := 134) (tgt := 167) hx hb dL_law_33 (by decide +kernel) (by decide +kernel) (by decide +kernel) (by decide) ?_
        exact br_law_begin hx hb hml hown hts hK hX hbl hL (by omega) (by omega) c1 kx hI hP hD hS hl
      · refine lv_tableIn (off := 145) (tgt := 178) hx hb dL_law_33 (by decide +kernel) (by decide +kernel) (by decide +kernel) (by decide) ?_
        exact br_law_left hx hb hml hown hts hK hX hbl hL (by omega) (by omega) c1 kx hI hP hD hS hl
      · refine lv_tableIn (off := 158) (tgt := 191) hx hb dL_law_33 (by decide +kernel) (by decide +kernel) (by decide +kernel) (by decide) ?_
        rcases Nat.lt_or_ge (8 * k) (8 * bo + bi + br_k (xs (6 * ct + 1))) with hp | hp
        · exact br_law_read_no hx hb hml hown hts hK hX hbl hL (by omega) (by omega) c1 kx hI hp hP hD hS hl
        · exact br_law_read hx hb hml hown hts hK hX hbl hL (by omega) (by omega) c1 kx hI hp hP hD hS hl
      · refine lv_tableIn (off := 182) (tgt := 215) hx hb dL_law_33 (by decide +kernel) (by decide +kernel) (by decide +kernel) (by decide) ?_
        exact br_law_octet hx hb hml hown hts hK hX hbl hL (by omega) (by omega) c1 kx hI hP hD hS hl
      · refine lv_tableIn (off := 195) (tgt := 228) hx hb dL_law_33 (by decide +kernel) (by decide +kernel) (by decide +kernel) (by decide) ?_
        exact br_law_bit hx hb hml hown hts hK hX hbl hL (by omega) (by omega) c1 kx hI hP hD hS hl
      · refine lv_tableOut (tgt := 241) hx hb dL_law_33 (Or.inr (by rw [nI_toInt (by omega)]; omega)) (by decide) ?_
        refine W.widen (k := 8 + 2 * ct + 2) (n := 12500 + 4099 * ct + 4099) (by omega) (by omega) ?_
        exact kx n k bo bi en ps f g h xt z y mt mh _ _ ls hI hP hD hS hl
set_option maxHeartbeats 4000000 in
set_option maxRecDepth 100000 in
/-- THE LAW, from its entry -/
theorem whole_start {p : Program} {e : Env} {s : State} {m : MethodId} {below : List Frame} {meth : Method} {c : Code} (l : Launch) (hflags : l.flags = flags0) {b L : Nat} {xs : Nat → Int32} (hL : L ≤ 384) (C0 : lw_At p s m meth c b L xs) : W p l e room_1 s m #[Value.ref b] below meth c s.heap [] 0 0 (lw_Z below #[Value.ref b] s) (entryFrame m ([Value.ref b] : List Value).toArray 4) := by
  obtain ⟨hx, hb, hr, hml, hown, hts0, hX, hbl, hlocks, hgv⟩ := id C0
  have hts : ∀ w ∈ lw_all, w.before #[Value.ref b] s = true := fun w h => hts0 w (lw_all_tbl h)
  have hA : ∀ q : Nat, s.heap.size ≤ q → (fun q : Nat => s.heap.size ≤ q) q := fun _ h => h
  obtain ⟨c0, iS0, hKn0⟩ := u_known (C := RX0) (T := TX0) (N := 3) (n := 3) hts0 (fun w h => lw_all_tbl (in_X0 w h)) (hts _ q18)
  obtain ⟨c1, iS1, hKn1⟩ := u_known (C := RX1) (T := TX1) (N := 3) (n := 3) hts0 (fun w h => lw_all_tbl (in_X1 w h)) (hts _ q26)
  obtain ⟨c2, iS2, hKn2⟩ := u_known (C := RX2) (T := TX2) (N := 5) (n := 5) hts0 (fun w h => lw_all_tbl (in_X2 w h)) (hts _ q231)
  obtain ⟨dC, dI, hKc⟩ : ∃ (dC : Nat → ClassId) (dI : Nat → Nat → Nat), ∀ (k : Nat) (q : vw_C), vwCl[k]? = some q → u_Kn s q.1 q.2.1 q.2.2 (dC k) (dI k) := by
    refine ⟨fun k => if k = 0 then c0 else if k = 1 then c1 else c2, fun k => if k = 0 then iS0 else if k = 1 then iS1 else iS2, ?_⟩
    intro k q hq
    match k, hq with
    | 0, hq => cases hq; exact hKn0
    | 1, hq => cases hq; exact hKn1
    | 2, hq => cases hq; exact hKn2
    | k + 3, hq => simp [vwCl] at hq
  obtain ⟨cB, kA, comp, hnA, hkA, hkindA⟩ := Cond.arrayClass_spec (hts _ q41)
  have hS : va_S (fun q : Nat => s.heap.size ≤ q) s.heap s.heap [] := va_S.rf
  have hK : va_K (dC, dI) vwCl [(cB, .byte)] s := ⟨hKc, fun k q h => by
    match k, h with
    | 0, h => cases h; exact ⟨fun n z => ⟨fun k h => (by cases h), kA, hkA, comp, hkindA⟩, hnA⟩
    | k + 1, h => simp at h⟩
  have hP : va_P (dC, dI) vwCl [] s.heap := fun k q h => by simp at h
  have hD : va_D (fun q : Nat => s.heap.size ≤ q) [] := ⟨fun i j p q h => by simp at h, fun k q h => by simp at h⟩
  have hl := lv_entry ([.ref b]) (n := 4) (Nat.le_of_ble_eq_true rfl)
  rw [lg_entry_eq]
  generalize (lg_sl ([.ref b]) ++ List.replicate (4 - (lg_sl ([.ref b])).length) Slot.unset).toArray = ls at hl ⊢
  have hl : lv_has ls 4 [(0, .ref b)] := hl
  refine va_new (ci := 0) (fs := [.null, .int 0, .null]) (C := RX0) (T := TX0) (N := 3) hx hb hts in_X0 tyX0 tyX0_ok hown (hts _ q17) (hts _ q18) (hts _ q5) hK hP hD hS hA rfl (fun j hj => by rcases (show j = 0 ∨ j = 1 ∨ j = 2 by omega) with rfl | rfl | rfl <;> rfl) (Nat.le_of_ble_eq_true rfl) (Nat.le_of_ble_eq_true rfl) dL_law_0 (fun xo H hP hD hS => ?_)
  have hP : va_P (dC, dI) vwCl [(xo, .inr (0, [.null, .int 0, .null]))] H := hP
  have hD : va_D (fun q : Nat => s.heap.size ≤ q) [(xo, .inr (0, [.null, .int 0, .null]))] := hD
  refine lv_dup hx hb dL_law_3 rfl ?_
  have hPc := hP.sub (ws' := [(xo, .inr (0, [.null, .int 0, .null]))]) [0] rfl
  have hDc := hD.sub (ws' := [(xo, .inr (0, [.null, .int 0, .null]))]) [0] (by decide) rfl
  have hFc := va_free (wc := [(xo, .inr (0, [.null, .int 0, .null]))]) hD hS hA [0] rfl
  refine va_callv (va_runI (As := []) (rest := [.ref xo]) ⟨hx, hb, hml, hown, hts⟩ (br_rd_init l dC dI cB _ xo) (cwI 0 hts (lw_meth q21) rfl rfl rfl (hts _ q5) (hts _ q19) (hts _ q20) rfl (by decide +kernel) ⟨Nat.le_of_ble_eq_true rfl, Nat.le_of_ble_eq_true rfl⟩) ⟨br_blind, fun U hU hW => br_start hU hW hPc hK hDc⟩ rfl rfl hl.1 rfl (lv_room (Nat.le_of_ble_eq_true rfl)) dL_law_4 ⟨Nat.le_of_ble_eq_true rfl, Nat.le_of_ble_eq_true rfl⟩) hS (fun q _ h => hFc q h) hFc (fun u t H1 locs ht hvm hw_4 hB hz9 hk9 hS => ?_)
  obtain ⟨xt, z, y⟩ := u
  obtain ⟨hP1, hK1, hD1⟩ := hB
  rw [ht] at hP1
  obtain ⟨hP, hD⟩ := va_join (wr := []) (w1 := [(xo, .inr (0, [.ref xt, .int (nI 0), .ref z])), (xt, .inl (cB, 4096, .inl (fun _ => 0))), (z, .inr (1, [.ref y, .int (nI 0), .int (nI 0)])), (y, .inl (cB, 0, .inl (fun _ => 0)))]) hP hD [0] [] rfl rfl (by decide) (by decide) hk9 hFc hP1 hD1
  generalize H1 = H at hP hS ⊢
  have hP : va_P (dC, dI) vwCl [(xo, .inr (0, [.ref xt, .int (nI 0), .ref z])), (xt, .inl (cB, 4096, .inl (fun _ => 0))), (z, .inr (1, [.ref y, .int (nI 0), .int (nI 0)])), (y, .inl (cB, 0, .inl (fun _ => 0)))] H := hP
  have hD : va_D (fun q : Nat => s.heap.size ≤ q) [(xo, .inr (0, [.ref xt, .int (nI 0), .ref z])), (xt, .inl (cB, 4096, .inl (fun _ => 0))), (z, .inr (1, [.ref y, .int (nI 0), .int (nI 0)])), (y, .inl (cB, 0, .inl (fun _ => 0)))] := hD
  refine lv_astore_n (lv' := [(1, .ref xo), (0, .ref b)]) hx hb dL_law_7 rfl hl (by decide) rfl (fun ls hl => ?_)
  refine va_new (ci := 2) (fs := [.null, .int 0, .null, .int 0, .int 0]) (C := RX2) (T := TX2) (N := 5) hx hb hts in_X2 tyX2 tyX2_ok hown (hts _ q230) (hts _ q231) (hts _ q7) hK hP hD hS hA rfl (fun j hj => by rcases (show j = 0 ∨ j = 1 ∨ j = 2 ∨ j = 3 ∨ j = 4 by omega) with rfl | rfl | rfl | rfl | rfl <;> rfl) (Nat.le_of_ble_eq_true rfl) (Nat.le_of_ble_eq_true rfl) dL_law_8 (fun mo H hP hD hS => ?_)
  have hP : va_P (dC, dI) vwCl [(xo, .inr (0, [.ref xt, .int (nI 0), .ref z])), (xt, .inl (cB, 4096, .inl (fun _ => 0))), (z, .inr (1, [.ref y, .int (nI 0), .int (nI 0)])), (y, .inl (cB, 0, .inl (fun _ => 0))), (mo, .inr (2, [.null, .int 0, .null, .int 0, .int 0]))] H := hP
  have hD : va_D (fun q : Nat => s.heap.size ≤ q) [(xo, .inr (0, [.ref xt, .int (nI 0), .ref z])), (xt, .inl (cB, 4096, .inl (fun _ => 0))), (z, .inr (1, [.ref y, .int (nI 0), .int (nI 0)])), (y, .inl (cB, 0, .inl (fun _ => 0))), (mo, .inr (2, [.null, .int 0, .null, .int 0, .int 0]))] := hD
  refine lv_dup hx hb dL_law_11 rfl ?_
  have hPc := hP.sub (ws' := [(mo, .inr (2, [.null, .int 0, .null, .int 0, .int 0]))]) [4] rfl
  have hDc := hD.sub (ws' := [(mo, .inr (2, [.null, .int 0, .null, .int 0, .int 0]))]) [4] (by decide) rfl
  have hFc := va_free (wc := [(mo, .inr (2, [.null, .int 0, .null, .int 0, .int 0]))]) hD hS hA [4] rfl
  refine va_callv (va_runI (As := []) (rest := [.ref mo]) ⟨hx, hb, hml, hown, hts⟩ (br_md_init l dC dI cB _ mo) (cwI 0 hts (lw_meth q234) rfl rfl rfl (hts _ q7) (hts _ q232) (hts _ q233) rfl (by decide +kernel) ⟨Nat.le_of_ble_eq_true rfl, Nat.le_of_ble_eq_true rfl⟩) ⟨br_blind, fun U hU hW => br_start hU hW hPc hK hDc⟩ rfl rfl hl.1 rfl (lv_room (Nat.le_of_ble_eq_true rfl)) dL_law_12 ⟨Nat.le_of_ble_eq_true rfl, Nat.le_of_ble_eq_true rfl⟩) hS (fun q _ h => hFc q h) hFc (fun u t H1 locs ht hvm hw_12 hB hz9 hk9 hS => ?_)
  obtain ⟨mt, mh⟩ := u
  obtain ⟨hP1, hK1, hD1⟩ := hB
  rw [ht] at hP1
  obtain ⟨hP, hD⟩ := va_join (wr := [(xo, .inr (0, [.ref xt, .int (nI 0), .ref z])), (xt, .inl (cB, 4096, .inl (fun _ => 0))), (z, .inr (1, [.ref y, .int (nI 0), .int (nI 0)])), (y, .inl (cB, 0, .inl (fun _ => 0)))]) (w1 := [(mo, .inr (2, [.ref mt, .int (nI 0), .ref mh, .int (nI 0), .int (nI 0)])), (mt, .inl (cB, 4096, .inl (fun _ => 0))), (mh, .inl (cB, 4096, .inl (fun _ => 0)))]) hP hD [4] [0, 1, 2, 3] rfl rfl (by decide) (by decide) hk9 hFc hP1 hD1
  generalize H1 = H at hP hS ⊢
  have hP : va_P (dC, dI) vwCl [(xo, .inr (0, [.ref xt, .int (nI 0), .ref z])), (xt, .inl (cB, 4096, .inl (fun _ => 0))), (z, .inr (1, [.ref y, .int (nI 0), .int (nI 0)])), (y, .inl (cB, 0, .inl (fun _ => 0))), (mo, .inr (2, [.ref mt, .int (nI 0), .ref mh, .int (nI 0), .int (nI 0)])), (mt, .inl (cB, 4096, .inl (fun _ => 0))), (mh, .inl (cB, 4096, .inl (fun _ => 0)))] H := hP
  have hD : va_D (fun q : Nat => s.heap.size ≤ q) [(xo, .inr (0, [.ref xt, .int (nI 0), .ref z])), (xt, .inl (cB, 4096, .inl (fun _ => 0))), (z, .inr (1, [.ref y, .int (nI 0), .int (nI 0)])), (y, .inl (cB, 0, .inl (fun _ => 0))), (mo, .inr (2, [.ref mt, .int (nI 0), .ref mh, .int (nI 0), .int (nI 0)])), (mt, .inl (cB, 4096, .inl (fun _ => 0))), (mh, .inl (cB, 4096, .inl (fun _ => 0)))] := hD
  refine lv_astore_n (lv' := [(2, .ref mo), (1, .ref xo), (0, .ref b)]) hx hb dL_law_15 rfl hl (by decide) rfl (fun ls hl => ?_)
  refine lv_iconst (v := nI 0) hx hb dL_law_16 (by decide +kernel) ?_
  refine lv_istore_n (lv' := [(3, .int (nI 0)), (2, .ref mo), (1, .ref xo), (0, .ref b)]) hx hb dL_law_17 rfl hl (by decide) rfl (fun ls hl => ?_)
  have hP := hP.sub (ws' := [(xo, .inr (0, [.ref xt, .int (nI 0), .ref z])), (xt, .inl (cB, 4096, .inl (fun _ => 0))), (z, .inr (1, [.ref y, .int (nI 0), .int (nI 0)])), (y, .inl (cB, 0, .inl (fun _ => 0))), (mo, .inr (2, [.ref mt, .int (nI 0), .ref mh, .int (nI 0), .int (nI 0)])), (mt, .inl (cB, 4096, .inl (fun _ => 0))), (mh, .inl (cB, 4096, .inl (fun _ => 0)))]) [0, 1, 2, 3, 4, 5, 6] rfl
  have hD := hD.sub (ws' := [(xo, .inr (0, [.ref xt, .int (nI 0), .ref z])), (xt, .inl (cB, 4096, .inl (fun _ => 0))), (z, .inr (1, [.ref y, .int (nI 0), .int (nI 0)])), (y, .inl (cB, 0, .inl (fun _ => 0))), (mo, .inr (2, [.ref mt, .int (nI 0), .ref mh, .int (nI 0), .int (nI 0)])), (mt, .inl (cB, 4096, .inl (fun _ => 0))), (mh, .inl (cB, 4096, .inl (fun _ => 0)))]) [0, 1, 2, 3, 4, 5, 6] (by decide) rfl
  refine W.widen (k := 8 + 2 * 0) (n := 12500 + 4099 * 0) (Nat.le_of_ble_eq_true rfl) (Nat.le_of_ble_eq_true rfl) ?_
  exact br_law_loop hL C0 hK 65 0 (by omega) (by omega) 0 0 0 0 0 0 (fun _ => 0) (fun _ => 0) (fun _ => 0) xo xt z y mo mt mh _ _ ls ⟨by omega, by omega, by omega, by omega, rfl, rfl, fun _ _ => rfl⟩ hP hD hS (lv_sub hl [3, 2, 1, 0] rfl)
end
section
/-! the claim out of the walk (the rest of the skeleton) -/
set_option maxRecDepth 100000
set_option maxHeartbeats 4000000 in
theorem lw_walk (l : Launch) (hflags : l.flags = flags0) (b : Addr) (xs : List Int32) : MetFree l x (headSpec (Jvm.Cond.code x code maxLocals ret :: tables_1) room_1) (lw_P b xs) (fun _ _ _ _ _ => True) lw_Q := by
  refine MetFree.of_bodyS (code := code) (maxLocals := maxLocals) (ret := ret) (by decide) ?_ ?_
  · intro args s m h hn
    obtain ⟨meth, c, h1, h2, h3, h4, h5, h6, -, -⟩ := Cond.code_spec hn (atoms_spec (ws := Jvm.Cond.code x code maxLocals ret :: tables_1) h _ List.mem_cons_self)
    exact ⟨meth, c, h1, h2, h3, h4, h5, h6⟩
  · intro p e s m args below meth c s₁ B hml0 hP _
    obtain ⟨rfl, hx, hbd, hgv⟩ := hP
    obtain ⟨scr, harrAt, hlist, hof, hsmall⟩ := hx
    obtain ⟨hcb, hkn, -, -⟩ := State.arrayAt?_spec harrAt
    have hown : s.vm.findClass R_law = some m.cls := findClass_of_methodNamed B.named
    have hts0 : ∀ c ∈ (Jvm.Cond.code x code maxLocals ret :: tables_1), c.before #[Value.ref b] s = true := atoms_spec (ws := Jvm.Cond.code x code maxLocals ret :: tables_1) B.pre
    have hts : ∀ w ∈ lw_tbl, w.before #[Value.ref b] s = true := k2_hts_sels lw_privs (fun w hw => hts0 w (List.mem_cons_of_mem _ hw)) lw_privs_ok
    have hml : c.maxLocals = 4 := B.maxLocals_eq (hts0 _ List.mem_cons_self)
    have X₀ : Stand p l e room_1 s m #[Value.ref b] below meth c s₁ [] 0 0 := Stand.of_body B
    have hh0 : s₁.heap = s.heap := by rw [B.state]; rfl
    have hsz : scr.slots.size = xs.length := by rw [← Array.length_toList, hlist, List.length_map]
    have hval : ∀ j : Nat, j < xs.length → scr.slots[j]? = some (.int (xs.getD j 0)) := fun j hj => by
      rw [← Array.getElem?_toList, hlist]
      simp [hj]
    have hbl : b < s.heap.size := (Array.getElem?_eq_some_iff.mp hcb).1
    have hX : va_X b xs.length (fun j => xs.getD j 0) s s.heap := ⟨scr, hcb, hof, hkn, hsz, hval⟩
    have K : W p l e room_1 s m #[Value.ref b] below meth c s₁.heap [] 0 0 (lw_Z below #[Value.ref b] s) (entryFrame m ([Value.ref b] : List Value).toArray 4) := by
      rw [hh0]
      exact whole_start l hflags hbd ⟨B.exec, B.bytes, B.returns, hml, hown, hts, hX, hbl, B.notSynchronized, hgv⟩
    obtain ⟨t, a1, o, b1, b2, b3⟩ := K s₁ rfl X₀
    exact ⟨t, o, a1, b1, b2, b3⟩
theorem lw_pre_spec {args : Array Value} {s : State} (h : (Jvm.Cond.and given_1 narrow_1).before args s = true) (hr : rest_1_c.before args s = true) : ∃ (b : Addr) (xs : List Int32), lw_P b xs args s := by
  have hs := flat_of_before _ h
  have hq := flat_of_before _ hr
  have hc : (Cond.count 1).before args s = true := hs _ (by decide +kernel)
  have harr : (Cond.arrayOf (.arg 0) .int).before args s = true := hs _ (by decide +kernel)
  have hle : (Cond.le (.length (.arg 0)) (.int 384)).before args s = true := hs _ (by decide +kernel)
  have hlen : (Cond.isInt (.length (.arg 0))).before args s = true := hq _ (by decide +kernel)
  have hall : (Cond.all (.arg 0) (.isInt (.elem (.arg 0) (.index 0)))).before args s = true := hq _ (by decide +kernel)
  obtain ⟨b, xs, hb, hx⟩ := State.ints_of_pre rfl harr hlen hall
  have hsm : xs.length < 2 ^ 31 := hx.choose_spec.2.2.2
  have hev : (Term.length (.arg 0)).eval args s none [] s = some (.int xs.length.toInt32) := hx.length_eval hb
  have hv := Cond.le_ints hev (show (Term.int 384).eval args s none [] s = some (.int 384) from rfl)
  have hd : xs.length.toInt32 ≤ 384 := by
    simpa [Cond.before, Cond.holds, hv] using hle
  have hN : xs.length ≤ 384 := (Int32.ofNat_le_ofNat hsm (by decide)).mp (show Int32.ofNat xs.length ≤ Int32.ofNat 384 from hd)
  exact ⟨b, xs, Cond.one_arg hc (show args[0]? = some (.ref b) from hb), hx, hN, h⟩
theorem lw_comes (l : Launch) (hflags : l.flags = flags0) : Comes l x (Jvm.Cond.code x code maxLocals ret :: tables_1) room_1 (fun tb e args s => Calls_1 tb e args s ∧ rest_1 tb e args s ∧ Pre_1 tb e args s)
    (fun _ _ args s o t => lw_Q args s o t) := by
  intro p e ha hc hk s m args below hf hfit hheap happ hpre
  obtain ⟨b, xs, hP⟩ := lw_pre_spec hpre.2.2 hpre.2.1
  obtain ⟨k, o, h1, h2, h3, hQ⟩ := lw_walk l hflags b xs p e ha hc hk s m args below hf ((Spec.applies_iff_loose hf).mp happ).1 hP trivial
  exact ⟨k, o, h1, h2, h3, hQ⟩
theorem lw_frame {s t : State} {o : Outcome} {args : Array Value} (h : Framed s o t [] 600128 7301098) :
    Framed s o t (fieldLocs frame_1_writes args s ++ arrayLocs frame_1_arrays args s ++ staticLocs frame_1_statics s) 600128 7301098 := h
theorem lw_limb (L : Cond) (hL : ∀ (args : Array Value) (s t : State), L.after args s (.returned (some (.int 1))) t = true) :
    ArmFor flags0 classFile x code maxLocals ret World_1 tables_1 room_1 Calls_1 rest_1 Pre_1
      (fun tb e a s o t => postC L tb e a s o t ∧ Framed s o t (fieldLocs frame_1_writes a s ++ arrayLocs frame_1_arrays a s ++ staticLocs frame_1_statics s) 600128 7301098) := by
  intro l hflags _ _ p e ha hc hk s m args below hf hfit hheap happ hpre
  obtain ⟨k, o, h1, h2, h3, rfl, hF⟩ := lw_comes l hflags p e ha hc hk s m args below hf hfit hheap happ hpre
  exact ⟨k, _, h1, h2, h3, hL args s _, lw_frame hF⟩
theorem i_vc : Claimed_1_1 ∧ Claimed_1_2 := ⟨lw_limb limb_1_1 (fun args s t => by simp [limb_1_1, Cond.after, Cond.holds, Cond.value]), lw_limb limb_1_2 (fun args s t => Cond.after_iff.mpr (by
  first | (rw [show limb_1_2 = Cond.eq .result (.int 1) from rfl, Cond.eq_ints (x := 1) (y := 1) rfl rfl]; simp; done) | (simp [limb_1_2, Cond.value, Term.eval]; done)))⟩
end
