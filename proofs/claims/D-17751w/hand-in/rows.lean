section
-- ===== PART A: goes FIRST, ahead of the names: the tables' words, and 'selects' of the private methods out of them =====
/-- a private method of a class that the tables say can be made, by its rows of tables_1 -/
def lw_okq (q : MethodName × Nat) : Prop := (q.1.cls ≠ "java/lang/invoke/MethodHandle" ∧ q.1.cls ≠ "java/lang/invoke/VarHandle") ∧ Cond.instantiable q.1.cls q.2 ∈ tables_1 ∧ Cond.privateMethod q.1 ∈ tables_1 ∧ Cond.instanceMethod q.1 ∈ tables_1
set_option maxRecDepth 100000
theorem lw_t1 {w : Cond} (h : w ∈ tables_1_1) : w ∈ tables_1 := List.mem_append_left _ h
theorem lw_t2 {w : Cond} (h : w ∈ tables_1_2) : w ∈ tables_1 := List.mem_append_right _ h
theorem lw_p0 : lw_okq (⟨"java/lang/Throwable", "fillInStackTrace", "(I)Ljava/lang/Throwable;"⟩, 6) := ⟨⟨by decide +kernel, by decide +kernel⟩, lw_t1 (List.mem_of_getElem? (i := 68) rfl), lw_t1 (List.mem_of_getElem? (i := 66) rfl), lw_t1 (List.mem_of_getElem? (i := 67) rfl)⟩
theorem lw_p1 : lw_okq (⟨"Instant", "plus", "(JJ)LInstant;"⟩, 2) := ⟨⟨by decide +kernel, by decide +kernel⟩, lw_t1 (List.mem_of_getElem? (i := 125) rfl), lw_t1 (List.mem_of_getElem? (i := 167) rfl), lw_t1 (List.mem_of_getElem? (i := 168) rfl)⟩
def lw_privs_1 : List (MethodName × Nat) := [(⟨"java/lang/Throwable", "fillInStackTrace", "(I)Ljava/lang/Throwable;"⟩, 6), (⟨"Instant", "plus", "(JJ)LInstant;"⟩, 2)]
theorem lw_r1 : ∀ q ∈ lw_privs_1, lw_okq q := List.forall_mem_cons.mpr ⟨lw_p0, List.forall_mem_cons.mpr ⟨lw_p1, fun _ h => absurd h List.not_mem_nil⟩⟩
def lw_privs : List (MethodName × Nat) := lw_privs_1
def lw_tbl : List Cond := k2_sels lw_privs ++ tables_1
theorem lw_privs_ok : ∀ q ∈ lw_privs, lw_okq q := lw_r1
-- ===== ONE list of words for every method: the tables' words that hold all through a run =====
def lw_all : List Cond := lw_tbl.filter goodWord
/-- a word of the tables by its place: claim/WORDS.tsv -/
theorem lw_w {w : Cond} (i : Nat) (h : lw_tbl[i]? = some w) (g : goodWord w = true) : w ∈ lw_all := List.mem_filter.mpr ⟨List.mem_of_getElem? h, g⟩
theorem lw_all_tbl {w : Cond} (h : w ∈ lw_all) : w ∈ lw_tbl := (List.mem_filter.mp h).1
theorem lw_self : GoodIn lw_all lw_all := fun w h => ⟨h, good_of_word (List.mem_filter.mp h).2⟩
/-- a class's field words, by their places -/
theorem lw_in (ws : List Cond) (ps : List Nat) (hp : ws = ps.filterMap (fun i => lw_tbl[i]?)) (hg : ws.all goodWord = true) : ∀ w ∈ ws, w ∈ lw_all := by
  intro w h
  have h1 := List.all_eq_true.mp hg w h
  rw [hp] at h
  obtain ⟨i, -, hi⟩ := List.mem_filterMap.mp h
  exact lw_w i hi h1
/-- the words of a contract for the method y with code b, L locals, answer r -/
abbrev ws_ (y : MethodName) (b : ByteArray) (L : Nat) (r : Option FieldType) : List Cond := Cond.code y b L r :: lw_all
theorem lw_meth {y : MethodName} {b : ByteArray} {L : Nat} {r : Option FieldType} (h : Cond.code y b L r ∈ lw_all) : GoodIn lw_all (ws_ y b L r) := by
  intro w hw
  rcases List.mem_cons.mp hw with e | e
  · rw [e]
    exact lw_self _ h
  · exact lw_self _ e
theorem lw_app {a c : List Cond} (ha : ∀ w ∈ a, w ∈ lw_all) (hc : GoodIn lw_all c) : GoodIn lw_all (a ++ c) := by
  intro w hw
  rcases List.mem_append.mp hw with e | e
  · exact lw_self w (ha w e)
  · exact hc w e
/-- what a call through an object asks: cwV n hts (lw_V ..) -/
theorem lw_V {own : String} {idx : Nat} {C : String} {y : MethodName} {b : ByteArray} {L : Nat} {r : Option FieldType} (h1 : Cond.methodLink own idx y ∈ lw_all) (h2 : Cond.instanceMethod y ∈ lw_all) (h3 : Cond.selects C y y ∈ lw_all) (h4 : Cond.initialized C ∈ lw_all) (h5 : Cond.code y b L r ∈ lw_all) : GoodIn lw_all (wsV own idx C y (ws_ y b L r)) := by
  refine lw_app ?_ (lw_meth h5)
  intro w hw
  simp only [List.mem_cons, List.not_mem_nil, or_false] at hw
  rcases hw with e | e | e | e
  · rw [e]; exact h1
  · rw [e]; exact h2
  · rw [e]; exact h3
  · rw [e]; exact h4
/-- what a static call asks: va_cwS n hts (lw_S ..) -/
theorem lw_S {own : String} {idx : Nat} {y : MethodName} {b : ByteArray} {L : Nat} {r : Option FieldType} (h1 : Cond.methodLink own idx y ∈ lw_all) (h2 : Cond.static y ∈ lw_all) (h3 : Cond.initialized y.cls ∈ lw_all) (h4 : Cond.code y b L r ∈ lw_all) : GoodIn lw_all (va_wsS own idx y (ws_ y b L r)) := by
  refine lw_app ?_ (lw_meth h4)
  intro w hw
  simp only [List.mem_cons, List.not_mem_nil, or_false] at hw
  rcases hw with e | e | e
  · rw [e]; exact h1
  · rw [e]; exact h2
  · rw [e]; exact h3
/-- the words of a contract for a method WITH HANDLERS (hh: its table) -/
abbrev wsW_ (y : MethodName) (b : ByteArray) (L : Nat) (r : Option FieldType) (hh : List (Nat × Nat × Nat × Nat)) : List Cond := Cond.codeWith y b L r hh :: lw_all
theorem lw_methW {y : MethodName} {b : ByteArray} {L : Nat} {r : Option FieldType} {hh : List (Nat × Nat × Nat × Nat)} (h : Cond.codeWith y b L r hh ∈ lw_all) : GoodIn lw_all (wsW_ y b L r hh) := by
  intro w hw
  rcases List.mem_cons.mp hw with e | e
  · rw [e]
    exact lw_self _ h
  · exact lw_self _ e
/-- any list of words by their places (lw_in), good -/
theorem lw_good {ws : List Cond} (h : ∀ w ∈ ws, w ∈ lw_all) : GoodIn lw_all ws := fun w hw => lw_self w (h w hw)
/-- what a call of a method with handlers asks: vx_cwVW n hts (lw_VW ..), vx_cwSW n hts (lw_SW ..) -/
theorem lw_VW {own : String} {idx : Nat} {C : String} {y : MethodName} {b : ByteArray} {L : Nat} {r : Option FieldType} {hh : List (Nat × Nat × Nat × Nat)} (h1 : Cond.methodLink own idx y ∈ lw_all) (h2 : Cond.instanceMethod y ∈ lw_all) (h3 : Cond.selects C y y ∈ lw_all) (h4 : Cond.initialized C ∈ lw_all) (h5 : Cond.codeWith y b L r hh ∈ lw_all) : GoodIn lw_all (wsV own idx C y (wsW_ y b L r hh)) := by
  refine lw_app ?_ (lw_methW h5)
  intro w hw
  simp only [List.mem_cons, List.not_mem_nil, or_false] at hw
  rcases hw with e | e | e | e
  · rw [e]; exact h1
  · rw [e]; exact h2
  · rw [e]; exact h3
  · rw [e]; exact h4
theorem lw_SW {own : String} {idx : Nat} {y : MethodName} {b : ByteArray} {L : Nat} {r : Option FieldType} {hh : List (Nat × Nat × Nat × Nat)} (h1 : Cond.methodLink own idx y ∈ lw_all) (h2 : Cond.static y ∈ lw_all) (h3 : Cond.initialized y.cls ∈ lw_all) (h4 : Cond.codeWith y b L r hh ∈ lw_all) : GoodIn lw_all (va_wsS own idx y (wsW_ y b L r hh)) := by
  refine lw_app ?_ (lw_methW h4)
  intro w hw
  simp only [List.mem_cons, List.not_mem_nil, or_false] at hw
  rcases hw with e | e | e
  · rw [e]; exact h1
  · rw [e]; exact h2
  · rw [e]; exact h3
/-- a word by its place in its run of the tables -/
theorem lw_at {r : List Cond} (hr : ∀ w ∈ r, w ∈ lw_tbl) {w : Cond} (i : Nat) (h : r[i]? = some w) : w ∈ lw_tbl := hr w (List.mem_of_getElem? h)
theorem lw_g {w : Cond} (h : w ∈ lw_tbl) (g : goodWord w = true) : w ∈ lw_all := List.mem_filter.mpr ⟨h, g⟩
theorem lw_ms : ∀ w ∈ k2_sels lw_privs, w ∈ lw_tbl := fun w h => show w ∈ k2_sels lw_privs ++ tables_1 from List.mem_append_left _ h
theorem lw_m1 : ∀ w ∈ tables_1_1, w ∈ lw_tbl := fun w h => show w ∈ k2_sels lw_privs ++ tables_1 from List.mem_append_right (k2_sels lw_privs) (show w ∈ tables_1 from List.mem_append_left _ h)
theorem lw_m2 : ∀ w ∈ tables_1_2, w ∈ lw_tbl := fun w h => show w ∈ k2_sels lw_privs ++ tables_1 from List.mem_append_right (k2_sels lw_privs) (show w ∈ tables_1 from List.mem_append_right _ h)
theorem qs0 : (Cond.selects "java/lang/Throwable" ⟨"java/lang/Throwable", "fillInStackTrace", "(I)Ljava/lang/Throwable;"⟩ ⟨"java/lang/Throwable", "fillInStackTrace", "(I)Ljava/lang/Throwable;"⟩) ∈ lw_all := lw_g (lw_at lw_ms 0 rfl) rfl
theorem qs1 : (Cond.selects "Instant" ⟨"Instant", "plus", "(JJ)LInstant;"⟩ ⟨"Instant", "plus", "(JJ)LInstant;"⟩) ∈ lw_all := lw_g (lw_at lw_ms 1 rfl) rfl
/-! DECODE ROWS BY BYTES: one lemma an opcode; a method's code is cut into short pieces once, and a row reads its own piece alone. -/
set_option maxRecDepth 100000
/-- the code has just these bytes from pc on -/
def DkAt (code : ByteArray) (pc : Nat) (bs : List UInt8) : Prop := ∀ (j : Nat) (b : UInt8), bs[j]? = some b → code.data.toList[pc + j]? = some b
/-- the piece W has the bytes bs from its place j on -/
def dkIn (W : List UInt8) (j : Nat) (bs : List UInt8) : Bool := decide ((W.drop j).take bs.length = bs)
theorem dk_seg {l W T : List UInt8} {o o2 : Nat} (h : l.drop o = W ++ T) (n : Nat) (hn : W.length = n) (ho : o + n = o2) : l.drop o2 = T := by
  subst ho
  rw [← List.drop_drop, h, List.drop_left' hn]
theorem dk_at {code : ByteArray} {W T bs : List UInt8} {o pc : Nat} (h : code.data.toList.drop o = W ++ T) (j : Nat) (hp : o + j = pc) (hw : dkIn W j bs = true) : DkAt code pc bs := by
  subst hp
  intro i b e
  have h1 := of_decide_eq_true hw
  have h2 : i < bs.length := (List.getElem?_eq_some_iff.mp e).1
  have h3 : W[j + i]? = some b := by
    rw [← h1, List.getElem?_take, if_pos h2, List.getElem?_drop] at e
    exact e
  have h4 : j + i < W.length := (List.getElem?_eq_some_iff.mp h3).1
  have h5 : (code.data.toList.drop o)[j + i]? = some b := by
    rw [h, List.getElem?_append_left h4]
    exact h3
  rw [List.getElem?_drop, ← Nat.add_assoc] at h5
  exact h5
theorem dk_u1 {A : ByteArray} {p : Nat} {b : UInt8} (h : A.data.toList[p]? = some b) : (Reader.u1 : Reader DecodeError Nat) A p = .ok (b.toNat, p + 1) := by
  obtain ⟨h1, h2⟩ := List.getElem?_eq_some_iff.mp h
  have h3 : p < A.size := by simpa using h1
  have h4 : A[p]'h3 = b := h2
  have e : (Reader.u1 : Reader DecodeError Nat) A p = (if h : p < A.size then .ok (A[p].toNat, p + 1) else .error (HasTruncated.truncated p)) := by
    show (do if h : p < A.size then do set (p + 1); Pure.pure A[p].toNat else MonadExcept.throw (HasTruncated.truncated p) : Reader DecodeError Nat) A p = _
    by_cases hi : p < A.size
    · rw [dif_pos hi, dif_pos hi]; rfl
    · rw [dif_neg hi, dif_neg hi]; rfl
  rw [e, dif_pos h3, h4]
theorem dk_bind {α β : Type} {r : Reader DecodeError α} {f : α → Reader DecodeError β} {A : ByteArray} {p s : Nat} {a : α} (h : r A p = .ok (a, s)) : (r >>= f) A p = f a A s := by
  show (do let (a, s) ← r A p; f a A s : Except DecodeError (β × Nat)) = _
  rw [h]
  rfl
theorem dk_map {α β : Type} {r : Reader DecodeError α} {g : α → β} {A : ByteArray} {p s : Nat} {a : α} (h : r A p = .ok (a, s)) : (g <$> r) A p = .ok (g a, s) := by
  show (do let (a, s) ← r A p; .ok (g a, s) : Except DecodeError (β × Nat)) = _
  rw [h]
  rfl
theorem dk_u2 {A : ByteArray} {p : Nat} {a b : UInt8} (h : A.data.toList[p]? = some a) (h2 : A.data.toList[p + 1]? = some b) : (Reader.u2 : Reader DecodeError Nat) A p = .ok (a.toNat * 256 + b.toNat, p + 2) := by
  show (Reader.u1 >>= fun hi => Reader.u1 >>= fun lo => Pure.pure (hi * 256 + lo) : Reader DecodeError Nat) A p = _
  rw [dk_bind (dk_u1 h), dk_bind (dk_u1 h2)]
  rfl
theorem dk_of {code : ByteArray} {pc n : Nat} {i : Instr} (h : Decoder.instr pc code pc = .ok (i, pc + n)) : decode code pc = .ok (i, n) := by
  have e : decode code pc = (match Decoder.instr pc code pc with | .error x => .error x | .ok (j, s) => .ok (j, s - pc)) := by
    show (do let (j, s) ← Decoder.instr pc code pc; Pure.pure (j, s - pc) : Except DecodeError (Instr × Nat)) = _
    cases Decoder.instr pc code pc <;> rfl
  rw [e, h]
  show Except.ok (i, pc + n - pc) = _
  rw [Nat.add_sub_cancel_left]
theorem dk_2 {code : ByteArray} {pc : Nat} (h : DkAt code pc [2]) : decode code pc = .ok (.iconst (-1), 1) := dk_of ((dk_bind (dk_u1 (h 0 _ rfl))).trans rfl)
theorem dk_3 {code : ByteArray} {pc : Nat} (h : DkAt code pc [3]) : decode code pc = .ok (.iconst 0, 1) := dk_of ((dk_bind (dk_u1 (h 0 _ rfl))).trans rfl)
theorem dk_4 {code : ByteArray} {pc : Nat} (h : DkAt code pc [4]) : decode code pc = .ok (.iconst 1, 1) := dk_of ((dk_bind (dk_u1 (h 0 _ rfl))).trans rfl)
theorem dk_5 {code : ByteArray} {pc : Nat} (h : DkAt code pc [5]) : decode code pc = .ok (.iconst 2, 1) := dk_of ((dk_bind (dk_u1 (h 0 _ rfl))).trans rfl)
theorem dk_6 {code : ByteArray} {pc : Nat} (h : DkAt code pc [6]) : decode code pc = .ok (.iconst 3, 1) := dk_of ((dk_bind (dk_u1 (h 0 _ rfl))).trans rfl)
theorem dk_7 {code : ByteArray} {pc : Nat} (h : DkAt code pc [7]) : decode code pc = .ok (.iconst 4, 1) := dk_of ((dk_bind (dk_u1 (h 0 _ rfl))).trans rfl)
theorem dk_8 {code : ByteArray} {pc : Nat} (h : DkAt code pc [8]) : decode code pc = .ok (.iconst 5, 1) := dk_of ((dk_bind (dk_u1 (h 0 _ rfl))).trans rfl)
theorem dk_9 {code : ByteArray} {pc : Nat} (h : DkAt code pc [9]) : decode code pc = .ok (.lconst 0, 1) := dk_of ((dk_bind (dk_u1 (h 0 _ rfl))).trans rfl)
theorem dk_10 {code : ByteArray} {pc : Nat} (h : DkAt code pc [10]) : decode code pc = .ok (.lconst 1, 1) := dk_of ((dk_bind (dk_u1 (h 0 _ rfl))).trans rfl)
theorem dk_16 {code : ByteArray} {pc : Nat} (a : UInt8) (h : DkAt code pc [16, a]) : decode code pc = .ok (.bipush (Reader.signed 8 a.toNat), 2) := dk_of ((dk_bind (dk_u1 (h 0 _ rfl))).trans ((dk_bind (dk_map (dk_u1 (h 1 _ rfl)))).trans rfl))
theorem dk_17 {code : ByteArray} {pc : Nat} (a b : UInt8) (h : DkAt code pc [17, a, b]) : decode code pc = .ok (.sipush (Reader.signed 16 (a.toNat * 256 + b.toNat)), 3) := dk_of ((dk_bind (dk_u1 (h 0 _ rfl))).trans ((dk_bind (dk_map (dk_u2 (h 1 _ rfl) (h 2 _ rfl)))).trans rfl))
theorem dk_18 {code : ByteArray} {pc : Nat} (a : UInt8) (h : DkAt code pc [18, a]) : decode code pc = .ok (.ldc a.toNat, 2) := dk_of ((dk_bind (dk_u1 (h 0 _ rfl))).trans ((dk_bind (dk_u1 (h 1 _ rfl))).trans rfl))
theorem dk_20 {code : ByteArray} {pc : Nat} (a b : UInt8) (h : DkAt code pc [20, a, b]) : decode code pc = .ok (.ldc2_w (a.toNat * 256 + b.toNat), 3) := dk_of ((dk_bind (dk_u1 (h 0 _ rfl))).trans ((dk_bind (dk_u2 (h 1 _ rfl) (h 2 _ rfl))).trans rfl))
theorem dk_21 {code : ByteArray} {pc : Nat} (a : UInt8) (h : DkAt code pc [21, a]) : decode code pc = .ok (.iload a.toNat, 2) := dk_of ((dk_bind (dk_u1 (h 0 _ rfl))).trans ((dk_bind (dk_u1 (h 1 _ rfl))).trans rfl))
theorem dk_22 {code : ByteArray} {pc : Nat} (a : UInt8) (h : DkAt code pc [22, a]) : decode code pc = .ok (.lload a.toNat, 2) := dk_of ((dk_bind (dk_u1 (h 0 _ rfl))).trans ((dk_bind (dk_u1 (h 1 _ rfl))).trans rfl))
theorem dk_26 {code : ByteArray} {pc : Nat} (h : DkAt code pc [26]) : decode code pc = .ok (.iload_n 0, 1) := dk_of ((dk_bind (dk_u1 (h 0 _ rfl))).trans rfl)
theorem dk_27 {code : ByteArray} {pc : Nat} (h : DkAt code pc [27]) : decode code pc = .ok (.iload_n 1, 1) := dk_of ((dk_bind (dk_u1 (h 0 _ rfl))).trans rfl)
theorem dk_28 {code : ByteArray} {pc : Nat} (h : DkAt code pc [28]) : decode code pc = .ok (.iload_n 2, 1) := dk_of ((dk_bind (dk_u1 (h 0 _ rfl))).trans rfl)
theorem dk_29 {code : ByteArray} {pc : Nat} (h : DkAt code pc [29]) : decode code pc = .ok (.iload_n 3, 1) := dk_of ((dk_bind (dk_u1 (h 0 _ rfl))).trans rfl)
theorem dk_30 {code : ByteArray} {pc : Nat} (h : DkAt code pc [30]) : decode code pc = .ok (.lload_n 0, 1) := dk_of ((dk_bind (dk_u1 (h 0 _ rfl))).trans rfl)
theorem dk_31 {code : ByteArray} {pc : Nat} (h : DkAt code pc [31]) : decode code pc = .ok (.lload_n 1, 1) := dk_of ((dk_bind (dk_u1 (h 0 _ rfl))).trans rfl)
theorem dk_32 {code : ByteArray} {pc : Nat} (h : DkAt code pc [32]) : decode code pc = .ok (.lload_n 2, 1) := dk_of ((dk_bind (dk_u1 (h 0 _ rfl))).trans rfl)
theorem dk_33 {code : ByteArray} {pc : Nat} (h : DkAt code pc [33]) : decode code pc = .ok (.lload_n 3, 1) := dk_of ((dk_bind (dk_u1 (h 0 _ rfl))).trans rfl)
theorem dk_42 {code : ByteArray} {pc : Nat} (h : DkAt code pc [42]) : decode code pc = .ok (.aload_n 0, 1) := dk_of ((dk_bind (dk_u1 (h 0 _ rfl))).trans rfl)
theorem dk_43 {code : ByteArray} {pc : Nat} (h : DkAt code pc [43]) : decode code pc = .ok (.aload_n 1, 1) := dk_of ((dk_bind (dk_u1 (h 0 _ rfl))).trans rfl)
theorem dk_44 {code : ByteArray} {pc : Nat} (h : DkAt code pc [44]) : decode code pc = .ok (.aload_n 2, 1) := dk_of ((dk_bind (dk_u1 (h 0 _ rfl))).trans rfl)
theorem dk_45 {code : ByteArray} {pc : Nat} (h : DkAt code pc [45]) : decode code pc = .ok (.aload_n 3, 1) := dk_of ((dk_bind (dk_u1 (h 0 _ rfl))).trans rfl)
theorem dk_46 {code : ByteArray} {pc : Nat} (h : DkAt code pc [46]) : decode code pc = .ok (.iaload, 1) := dk_of ((dk_bind (dk_u1 (h 0 _ rfl))).trans rfl)
theorem dk_47 {code : ByteArray} {pc : Nat} (h : DkAt code pc [47]) : decode code pc = .ok (.laload, 1) := dk_of ((dk_bind (dk_u1 (h 0 _ rfl))).trans rfl)
theorem dk_50 {code : ByteArray} {pc : Nat} (h : DkAt code pc [50]) : decode code pc = .ok (.aaload, 1) := dk_of ((dk_bind (dk_u1 (h 0 _ rfl))).trans rfl)
theorem dk_54 {code : ByteArray} {pc : Nat} (a : UInt8) (h : DkAt code pc [54, a]) : decode code pc = .ok (.istore a.toNat, 2) := dk_of ((dk_bind (dk_u1 (h 0 _ rfl))).trans ((dk_bind (dk_u1 (h 1 _ rfl))).trans rfl))
theorem dk_55 {code : ByteArray} {pc : Nat} (a : UInt8) (h : DkAt code pc [55, a]) : decode code pc = .ok (.lstore a.toNat, 2) := dk_of ((dk_bind (dk_u1 (h 0 _ rfl))).trans ((dk_bind (dk_u1 (h 1 _ rfl))).trans rfl))
theorem dk_60 {code : ByteArray} {pc : Nat} (h : DkAt code pc [60]) : decode code pc = .ok (.istore_n 1, 1) := dk_of ((dk_bind (dk_u1 (h 0 _ rfl))).trans rfl)
theorem dk_61 {code : ByteArray} {pc : Nat} (h : DkAt code pc [61]) : decode code pc = .ok (.istore_n 2, 1) := dk_of ((dk_bind (dk_u1 (h 0 _ rfl))).trans rfl)
theorem dk_64 {code : ByteArray} {pc : Nat} (h : DkAt code pc [64]) : decode code pc = .ok (.lstore_n 1, 1) := dk_of ((dk_bind (dk_u1 (h 0 _ rfl))).trans rfl)
theorem dk_65 {code : ByteArray} {pc : Nat} (h : DkAt code pc [65]) : decode code pc = .ok (.lstore_n 2, 1) := dk_of ((dk_bind (dk_u1 (h 0 _ rfl))).trans rfl)
theorem dk_66 {code : ByteArray} {pc : Nat} (h : DkAt code pc [66]) : decode code pc = .ok (.lstore_n 3, 1) := dk_of ((dk_bind (dk_u1 (h 0 _ rfl))).trans rfl)
theorem dk_76 {code : ByteArray} {pc : Nat} (h : DkAt code pc [76]) : decode code pc = .ok (.astore_n 1, 1) := dk_of ((dk_bind (dk_u1 (h 0 _ rfl))).trans rfl)
theorem dk_77 {code : ByteArray} {pc : Nat} (h : DkAt code pc [77]) : decode code pc = .ok (.astore_n 2, 1) := dk_of ((dk_bind (dk_u1 (h 0 _ rfl))).trans rfl)
theorem dk_78 {code : ByteArray} {pc : Nat} (h : DkAt code pc [78]) : decode code pc = .ok (.astore_n 3, 1) := dk_of ((dk_bind (dk_u1 (h 0 _ rfl))).trans rfl)
theorem dk_80 {code : ByteArray} {pc : Nat} (h : DkAt code pc [80]) : decode code pc = .ok (.lastore, 1) := dk_of ((dk_bind (dk_u1 (h 0 _ rfl))).trans rfl)
theorem dk_83 {code : ByteArray} {pc : Nat} (h : DkAt code pc [83]) : decode code pc = .ok (.aastore, 1) := dk_of ((dk_bind (dk_u1 (h 0 _ rfl))).trans rfl)
theorem dk_87 {code : ByteArray} {pc : Nat} (h : DkAt code pc [87]) : decode code pc = .ok (.pop, 1) := dk_of ((dk_bind (dk_u1 (h 0 _ rfl))).trans rfl)
theorem dk_89 {code : ByteArray} {pc : Nat} (h : DkAt code pc [89]) : decode code pc = .ok (.dup, 1) := dk_of ((dk_bind (dk_u1 (h 0 _ rfl))).trans rfl)
theorem dk_92 {code : ByteArray} {pc : Nat} (h : DkAt code pc [92]) : decode code pc = .ok (.dup2, 1) := dk_of ((dk_bind (dk_u1 (h 0 _ rfl))).trans rfl)
theorem dk_96 {code : ByteArray} {pc : Nat} (h : DkAt code pc [96]) : decode code pc = .ok (.iadd, 1) := dk_of ((dk_bind (dk_u1 (h 0 _ rfl))).trans rfl)
theorem dk_97 {code : ByteArray} {pc : Nat} (h : DkAt code pc [97]) : decode code pc = .ok (.ladd, 1) := dk_of ((dk_bind (dk_u1 (h 0 _ rfl))).trans rfl)
theorem dk_100 {code : ByteArray} {pc : Nat} (h : DkAt code pc [100]) : decode code pc = .ok (.isub, 1) := dk_of ((dk_bind (dk_u1 (h 0 _ rfl))).trans rfl)
theorem dk_101 {code : ByteArray} {pc : Nat} (h : DkAt code pc [101]) : decode code pc = .ok (.lsub, 1) := dk_of ((dk_bind (dk_u1 (h 0 _ rfl))).trans rfl)
theorem dk_104 {code : ByteArray} {pc : Nat} (h : DkAt code pc [104]) : decode code pc = .ok (.imul, 1) := dk_of ((dk_bind (dk_u1 (h 0 _ rfl))).trans rfl)
theorem dk_105 {code : ByteArray} {pc : Nat} (h : DkAt code pc [105]) : decode code pc = .ok (.lmul, 1) := dk_of ((dk_bind (dk_u1 (h 0 _ rfl))).trans rfl)
theorem dk_108 {code : ByteArray} {pc : Nat} (h : DkAt code pc [108]) : decode code pc = .ok (.idiv, 1) := dk_of ((dk_bind (dk_u1 (h 0 _ rfl))).trans rfl)
theorem dk_109 {code : ByteArray} {pc : Nat} (h : DkAt code pc [109]) : decode code pc = .ok (.ldiv, 1) := dk_of ((dk_bind (dk_u1 (h 0 _ rfl))).trans rfl)
theorem dk_112 {code : ByteArray} {pc : Nat} (h : DkAt code pc [112]) : decode code pc = .ok (.irem, 1) := dk_of ((dk_bind (dk_u1 (h 0 _ rfl))).trans rfl)
theorem dk_113 {code : ByteArray} {pc : Nat} (h : DkAt code pc [113]) : decode code pc = .ok (.lrem, 1) := dk_of ((dk_bind (dk_u1 (h 0 _ rfl))).trans rfl)
theorem dk_120 {code : ByteArray} {pc : Nat} (h : DkAt code pc [120]) : decode code pc = .ok (.ishl, 1) := dk_of ((dk_bind (dk_u1 (h 0 _ rfl))).trans rfl)
theorem dk_121 {code : ByteArray} {pc : Nat} (h : DkAt code pc [121]) : decode code pc = .ok (.lshl, 1) := dk_of ((dk_bind (dk_u1 (h 0 _ rfl))).trans rfl)
theorem dk_122 {code : ByteArray} {pc : Nat} (h : DkAt code pc [122]) : decode code pc = .ok (.ishr, 1) := dk_of ((dk_bind (dk_u1 (h 0 _ rfl))).trans rfl)
theorem dk_123 {code : ByteArray} {pc : Nat} (h : DkAt code pc [123]) : decode code pc = .ok (.lshr, 1) := dk_of ((dk_bind (dk_u1 (h 0 _ rfl))).trans rfl)
theorem dk_126 {code : ByteArray} {pc : Nat} (h : DkAt code pc [126]) : decode code pc = .ok (.iand, 1) := dk_of ((dk_bind (dk_u1 (h 0 _ rfl))).trans rfl)
theorem dk_127 {code : ByteArray} {pc : Nat} (h : DkAt code pc [127]) : decode code pc = .ok (.land, 1) := dk_of ((dk_bind (dk_u1 (h 0 _ rfl))).trans rfl)
theorem dk_128 {code : ByteArray} {pc : Nat} (h : DkAt code pc [128]) : decode code pc = .ok (.ior, 1) := dk_of ((dk_bind (dk_u1 (h 0 _ rfl))).trans rfl)
theorem dk_129 {code : ByteArray} {pc : Nat} (h : DkAt code pc [129]) : decode code pc = .ok (.lor, 1) := dk_of ((dk_bind (dk_u1 (h 0 _ rfl))).trans rfl)
theorem dk_130 {code : ByteArray} {pc : Nat} (h : DkAt code pc [130]) : decode code pc = .ok (.ixor, 1) := dk_of ((dk_bind (dk_u1 (h 0 _ rfl))).trans rfl)
theorem dk_131 {code : ByteArray} {pc : Nat} (h : DkAt code pc [131]) : decode code pc = .ok (.lxor, 1) := dk_of ((dk_bind (dk_u1 (h 0 _ rfl))).trans rfl)
theorem dk_132 {code : ByteArray} {pc : Nat} (a b : UInt8) (h : DkAt code pc [132, a, b]) : decode code pc = .ok (.iinc a.toNat (Reader.signed 8 b.toNat), 3) := dk_of ((dk_bind (dk_u1 (h 0 _ rfl))).trans ((dk_bind (dk_u1 (h 1 _ rfl))).trans ((dk_bind (dk_map (dk_u1 (h 2 _ rfl)))).trans rfl)))
theorem dk_133 {code : ByteArray} {pc : Nat} (h : DkAt code pc [133]) : decode code pc = .ok (.i2l, 1) := dk_of ((dk_bind (dk_u1 (h 0 _ rfl))).trans rfl)
theorem dk_136 {code : ByteArray} {pc : Nat} (h : DkAt code pc [136]) : decode code pc = .ok (.l2i, 1) := dk_of ((dk_bind (dk_u1 (h 0 _ rfl))).trans rfl)
theorem dk_148 {code : ByteArray} {pc : Nat} (h : DkAt code pc [148]) : decode code pc = .ok (.lcmp, 1) := dk_of ((dk_bind (dk_u1 (h 0 _ rfl))).trans rfl)
theorem dk_153 {code : ByteArray} {pc : Nat} (a b : UInt8) (h : DkAt code pc [153, a, b]) : decode code pc = .ok (.ifCond .eq (Reader.signed 16 (a.toNat * 256 + b.toNat)), 3) := dk_of ((dk_bind (dk_u1 (h 0 _ rfl))).trans ((dk_bind (dk_map (dk_u2 (h 1 _ rfl) (h 2 _ rfl)))).trans rfl))
theorem dk_154 {code : ByteArray} {pc : Nat} (a b : UInt8) (h : DkAt code pc [154, a, b]) : decode code pc = .ok (.ifCond .ne (Reader.signed 16 (a.toNat * 256 + b.toNat)), 3) := dk_of ((dk_bind (dk_u1 (h 0 _ rfl))).trans ((dk_bind (dk_map (dk_u2 (h 1 _ rfl) (h 2 _ rfl)))).trans rfl))
theorem dk_155 {code : ByteArray} {pc : Nat} (a b : UInt8) (h : DkAt code pc [155, a, b]) : decode code pc = .ok (.ifCond .lt (Reader.signed 16 (a.toNat * 256 + b.toNat)), 3) := dk_of ((dk_bind (dk_u1 (h 0 _ rfl))).trans ((dk_bind (dk_map (dk_u2 (h 1 _ rfl) (h 2 _ rfl)))).trans rfl))
theorem dk_156 {code : ByteArray} {pc : Nat} (a b : UInt8) (h : DkAt code pc [156, a, b]) : decode code pc = .ok (.ifCond .ge (Reader.signed 16 (a.toNat * 256 + b.toNat)), 3) := dk_of ((dk_bind (dk_u1 (h 0 _ rfl))).trans ((dk_bind (dk_map (dk_u2 (h 1 _ rfl) (h 2 _ rfl)))).trans rfl))
theorem dk_157 {code : ByteArray} {pc : Nat} (a b : UInt8) (h : DkAt code pc [157, a, b]) : decode code pc = .ok (.ifCond .gt (Reader.signed 16 (a.toNat * 256 + b.toNat)), 3) := dk_of ((dk_bind (dk_u1 (h 0 _ rfl))).trans ((dk_bind (dk_map (dk_u2 (h 1 _ rfl) (h 2 _ rfl)))).trans rfl))
theorem dk_158 {code : ByteArray} {pc : Nat} (a b : UInt8) (h : DkAt code pc [158, a, b]) : decode code pc = .ok (.ifCond .le (Reader.signed 16 (a.toNat * 256 + b.toNat)), 3) := dk_of ((dk_bind (dk_u1 (h 0 _ rfl))).trans ((dk_bind (dk_map (dk_u2 (h 1 _ rfl) (h 2 _ rfl)))).trans rfl))
theorem dk_159 {code : ByteArray} {pc : Nat} (a b : UInt8) (h : DkAt code pc [159, a, b]) : decode code pc = .ok (.if_icmp .eq (Reader.signed 16 (a.toNat * 256 + b.toNat)), 3) := dk_of ((dk_bind (dk_u1 (h 0 _ rfl))).trans ((dk_bind (dk_map (dk_u2 (h 1 _ rfl) (h 2 _ rfl)))).trans rfl))
theorem dk_160 {code : ByteArray} {pc : Nat} (a b : UInt8) (h : DkAt code pc [160, a, b]) : decode code pc = .ok (.if_icmp .ne (Reader.signed 16 (a.toNat * 256 + b.toNat)), 3) := dk_of ((dk_bind (dk_u1 (h 0 _ rfl))).trans ((dk_bind (dk_map (dk_u2 (h 1 _ rfl) (h 2 _ rfl)))).trans rfl))
theorem dk_162 {code : ByteArray} {pc : Nat} (a b : UInt8) (h : DkAt code pc [162, a, b]) : decode code pc = .ok (.if_icmp .ge (Reader.signed 16 (a.toNat * 256 + b.toNat)), 3) := dk_of ((dk_bind (dk_u1 (h 0 _ rfl))).trans ((dk_bind (dk_map (dk_u2 (h 1 _ rfl) (h 2 _ rfl)))).trans rfl))
theorem dk_167 {code : ByteArray} {pc : Nat} (a b : UInt8) (h : DkAt code pc [167, a, b]) : decode code pc = .ok (.goto (Reader.signed 16 (a.toNat * 256 + b.toNat)), 3) := dk_of ((dk_bind (dk_u1 (h 0 _ rfl))).trans ((dk_bind (dk_map (dk_u2 (h 1 _ rfl) (h 2 _ rfl)))).trans rfl))
theorem dk_172 {code : ByteArray} {pc : Nat} (h : DkAt code pc [172]) : decode code pc = .ok (.ireturn, 1) := dk_of ((dk_bind (dk_u1 (h 0 _ rfl))).trans rfl)
theorem dk_173 {code : ByteArray} {pc : Nat} (h : DkAt code pc [173]) : decode code pc = .ok (.lreturn, 1) := dk_of ((dk_bind (dk_u1 (h 0 _ rfl))).trans rfl)
theorem dk_176 {code : ByteArray} {pc : Nat} (h : DkAt code pc [176]) : decode code pc = .ok (.areturn, 1) := dk_of ((dk_bind (dk_u1 (h 0 _ rfl))).trans rfl)
theorem dk_177 {code : ByteArray} {pc : Nat} (h : DkAt code pc [177]) : decode code pc = .ok (.return_, 1) := dk_of ((dk_bind (dk_u1 (h 0 _ rfl))).trans rfl)
theorem dk_178 {code : ByteArray} {pc : Nat} (a b : UInt8) (h : DkAt code pc [178, a, b]) : decode code pc = .ok (.getstatic (a.toNat * 256 + b.toNat), 3) := dk_of ((dk_bind (dk_u1 (h 0 _ rfl))).trans ((dk_bind (dk_u2 (h 1 _ rfl) (h 2 _ rfl))).trans rfl))
theorem dk_180 {code : ByteArray} {pc : Nat} (a b : UInt8) (h : DkAt code pc [180, a, b]) : decode code pc = .ok (.getfield (a.toNat * 256 + b.toNat), 3) := dk_of ((dk_bind (dk_u1 (h 0 _ rfl))).trans ((dk_bind (dk_u2 (h 1 _ rfl) (h 2 _ rfl))).trans rfl))
theorem dk_181 {code : ByteArray} {pc : Nat} (a b : UInt8) (h : DkAt code pc [181, a, b]) : decode code pc = .ok (.putfield (a.toNat * 256 + b.toNat), 3) := dk_of ((dk_bind (dk_u1 (h 0 _ rfl))).trans ((dk_bind (dk_u2 (h 1 _ rfl) (h 2 _ rfl))).trans rfl))
theorem dk_182 {code : ByteArray} {pc : Nat} (a b : UInt8) (h : DkAt code pc [182, a, b]) : decode code pc = .ok (.invokevirtual (a.toNat * 256 + b.toNat), 3) := dk_of ((dk_bind (dk_u1 (h 0 _ rfl))).trans ((dk_bind (dk_u2 (h 1 _ rfl) (h 2 _ rfl))).trans rfl))
theorem dk_183 {code : ByteArray} {pc : Nat} (a b : UInt8) (h : DkAt code pc [183, a, b]) : decode code pc = .ok (.invokespecial (a.toNat * 256 + b.toNat), 3) := dk_of ((dk_bind (dk_u1 (h 0 _ rfl))).trans ((dk_bind (dk_u2 (h 1 _ rfl) (h 2 _ rfl))).trans rfl))
theorem dk_184 {code : ByteArray} {pc : Nat} (a b : UInt8) (h : DkAt code pc [184, a, b]) : decode code pc = .ok (.invokestatic (a.toNat * 256 + b.toNat), 3) := dk_of ((dk_bind (dk_u1 (h 0 _ rfl))).trans ((dk_bind (dk_u2 (h 1 _ rfl) (h 2 _ rfl))).trans rfl))
theorem dk_187 {code : ByteArray} {pc : Nat} (a b : UInt8) (h : DkAt code pc [187, a, b]) : decode code pc = .ok (.new (a.toNat * 256 + b.toNat), 3) := dk_of ((dk_bind (dk_u1 (h 0 _ rfl))).trans ((dk_bind (dk_u2 (h 1 _ rfl) (h 2 _ rfl))).trans rfl))
theorem dk_188_11 {code : ByteArray} {pc : Nat} (h : DkAt code pc [188, 11]) : decode code pc = .ok (.newarray .long, 2) := dk_of ((dk_bind (dk_u1 (h 0 _ rfl))).trans ((dk_bind (dk_u1 (h 1 _ rfl))).trans rfl))
theorem dk_189 {code : ByteArray} {pc : Nat} (a b : UInt8) (h : DkAt code pc [189, a, b]) : decode code pc = .ok (.anewarray (a.toNat * 256 + b.toNat), 3) := dk_of ((dk_bind (dk_u1 (h 0 _ rfl))).trans ((dk_bind (dk_u2 (h 1 _ rfl) (h 2 _ rfl))).trans rfl))
theorem dk_190 {code : ByteArray} {pc : Nat} (h : DkAt code pc [190]) : decode code pc = .ok (.arraylength, 1) := dk_of ((dk_bind (dk_u1 (h 0 _ rfl))).trans rfl)
theorem dk_191 {code : ByteArray} {pc : Nat} (h : DkAt code pc [191]) : decode code pc = .ok (.athrow, 1) := dk_of ((dk_bind (dk_u1 (h 0 _ rfl))).trans rfl)
/-! java/lang/Object -/
set_option maxRecDepth 100000
def RJ4 : String := "java/lang/Object"
abbrev cJ4_init : ByteArray := object_method_1_code
def yJ4_init : MethodName := ⟨RJ4, "<init>", "()V"⟩
theorem dJ4_init_0 : decode cJ4_init 0 = .ok (.return_, 1) := by decide +kernel
theorem q18 : (Jvm.Cond.instanceMethod ({ cls := "java/lang/Object", name := "<init>", desc := "()V" } : Jvm.MethodName)) ∈ lw_all := lw_g (lw_at lw_m1 16 rfl) rfl
theorem q19 : (Jvm.Cond.code ({ cls := "java/lang/Object", name := "<init>", desc := "()V" } : Jvm.MethodName) object_method_1_code (1 : Nat) (Option.none : Option Jvm.ClassFile.FieldType)) ∈ lw_all := lw_g (lw_at lw_m1 17 rfl) rfl
theorem q21 : (Jvm.Cond.arrayOver (Jvm.ClassFile.FieldType.object "Instant")) ∈ lw_tbl := lw_at lw_m1 19 rfl
set_option maxRecDepth 100000
theorem q98 : (Jvm.Cond.arrayClass Jvm.ClassFile.FieldType.byte) ∈ lw_all := lw_g (lw_at lw_m1 96 rfl) rfl
theorem q280 : (Jvm.Cond.arrayClass Jvm.ClassFile.FieldType.long) ∈ lw_all := lw_g (lw_at lw_m2 38 rfl) rfl
/-! DefaultInterfaceTemporalAccessor -/
set_option maxRecDepth 100000
def RX2 : String := "DefaultInterfaceTemporalAccessor"
abbrev cX2_init : ByteArray := prog_2_method_1_code
def yX2_init : MethodName := ⟨RX2, "<init>", "()V"⟩
theorem dX2_init_0 : decode cX2_init 0 = .ok (.aload_n 0, 1) := by decide +kernel
theorem dX2_init_1 : decode cX2_init 1 = .ok (.invokespecial 1, 3) := by decide +kernel
theorem dX2_init_4 : decode cX2_init 4 = .ok (.return_, 1) := by decide +kernel
theorem q4 : (Jvm.Cond.initialized "DefaultInterfaceTemporalAccessor") ∈ lw_all := lw_g (lw_at lw_m1 2 rfl) rfl
theorem q132 : (Jvm.Cond.instanceMethod ({ cls := "DefaultInterfaceTemporalAccessor", name := "<init>", desc := "()V" } : Jvm.MethodName)) ∈ lw_all := lw_g (lw_at lw_m1 130 rfl) rfl
theorem q133 : (Jvm.Cond.code ({ cls := "DefaultInterfaceTemporalAccessor", name := "<init>", desc := "()V" } : Jvm.MethodName) prog_2_method_1_code (1 : Nat) (Option.none : Option Jvm.ClassFile.FieldType)) ∈ lw_all := lw_g (lw_at lw_m1 131 rfl) rfl
theorem q134 : (Jvm.Cond.methodLink "DefaultInterfaceTemporalAccessor" (1 : Nat) ({ cls := "java/lang/Object", name := "<init>", desc := "()V" } : Jvm.MethodName)) ∈ lw_all := lw_g (lw_at lw_m1 132 rfl) rfl
/-! Jdk8Methods -/
set_option maxRecDepth 100000
def RX4 : String := "Jdk8Methods"
abbrev cX4_floorDiv : ByteArray := prog_6_method_5_code
def yX4_floorDiv : MethodName := ⟨RX4, "floorDiv", "(JJ)J"⟩
def dkwX4_floorDiv_0 : List UInt8 := [30, 9, 148, 155, 0, 9, 30, 32, 109, 167, 0, 10, 30, 10, 97, 32, 109, 10, 101, 173]
abbrev dktX4_floorDiv_0 : List UInt8 := dkwX4_floorDiv_0 ++ []
theorem dksX4_floorDiv_0 : cX4_floorDiv.data.toList.drop 0 = dktX4_floorDiv_0 := by decide +kernel
theorem dX4_floorDiv_0 : decode cX4_floorDiv 0 = .ok (.lload_n 0, 1) := dk_30 (dk_at dksX4_floorDiv_0 0 rfl rfl)
theorem dX4_floorDiv_1 : decode cX4_floorDiv 1 = .ok (.lconst 0, 1) := dk_9 (dk_at dksX4_floorDiv_0 1 rfl rfl)
theorem dX4_floorDiv_2 : decode cX4_floorDiv 2 = .ok (.lcmp, 1) := dk_148 (dk_at dksX4_floorDiv_0 2 rfl rfl)
theorem dX4_floorDiv_3 : decode cX4_floorDiv 3 = .ok (.ifCond .lt 9, 3) := dk_155 0 9 (dk_at dksX4_floorDiv_0 3 rfl rfl)
theorem dX4_floorDiv_6 : decode cX4_floorDiv 6 = .ok (.lload_n 0, 1) := dk_30 (dk_at dksX4_floorDiv_0 6 rfl rfl)
theorem dX4_floorDiv_7 : decode cX4_floorDiv 7 = .ok (.lload_n 2, 1) := dk_32 (dk_at dksX4_floorDiv_0 7 rfl rfl)
theorem dX4_floorDiv_8 : decode cX4_floorDiv 8 = .ok (.ldiv, 1) := dk_109 (dk_at dksX4_floorDiv_0 8 rfl rfl)
theorem dX4_floorDiv_9 : decode cX4_floorDiv 9 = .ok (.goto 10, 3) := dk_167 0 10 (dk_at dksX4_floorDiv_0 9 rfl rfl)
theorem dX4_floorDiv_12 : decode cX4_floorDiv 12 = .ok (.lload_n 0, 1) := dk_30 (dk_at dksX4_floorDiv_0 12 rfl rfl)
theorem dX4_floorDiv_13 : decode cX4_floorDiv 13 = .ok (.lconst 1, 1) := dk_10 (dk_at dksX4_floorDiv_0 13 rfl rfl)
theorem dX4_floorDiv_14 : decode cX4_floorDiv 14 = .ok (.ladd, 1) := dk_97 (dk_at dksX4_floorDiv_0 14 rfl rfl)
theorem dX4_floorDiv_15 : decode cX4_floorDiv 15 = .ok (.lload_n 2, 1) := dk_32 (dk_at dksX4_floorDiv_0 15 rfl rfl)
theorem dX4_floorDiv_16 : decode cX4_floorDiv 16 = .ok (.ldiv, 1) := dk_109 (dk_at dksX4_floorDiv_0 16 rfl rfl)
theorem dX4_floorDiv_17 : decode cX4_floorDiv 17 = .ok (.lconst 1, 1) := dk_10 (dk_at dksX4_floorDiv_0 17 rfl rfl)
theorem dX4_floorDiv_18 : decode cX4_floorDiv 18 = .ok (.lsub, 1) := dk_101 (dk_at dksX4_floorDiv_0 18 rfl rfl)
theorem dX4_floorDiv_19 : decode cX4_floorDiv 19 = .ok (.lreturn, 1) := dk_173 (dk_at dksX4_floorDiv_0 19 rfl rfl)
abbrev cX4_safeAdd : ByteArray := prog_6_method_2_code
def yX4_safeAdd : MethodName := ⟨RX4, "safeAdd", "(JJ)J"⟩
def dkwX4_safeAdd_1 : List UInt8 := [187, 0, 1, 89, 18, 3, 183, 0, 5, 191, 22, 4, 173]
abbrev dktX4_safeAdd_1 : List UInt8 := dkwX4_safeAdd_1 ++ []
def dkwX4_safeAdd_0 : List UInt8 := [30, 32, 97, 55, 4, 30, 22, 4, 131, 9, 148, 156, 0, 21, 30, 32, 131, 9, 148, 155, 0, 13]
abbrev dktX4_safeAdd_0 : List UInt8 := dkwX4_safeAdd_0 ++ dktX4_safeAdd_1
theorem dksX4_safeAdd_0 : cX4_safeAdd.data.toList.drop 0 = dktX4_safeAdd_0 := by decide +kernel
theorem dksX4_safeAdd_1 : cX4_safeAdd.data.toList.drop 22 = dktX4_safeAdd_1 := dk_seg dksX4_safeAdd_0 22 rfl rfl
theorem dX4_safeAdd_0 : decode cX4_safeAdd 0 = .ok (.lload_n 0, 1) := dk_30 (dk_at dksX4_safeAdd_0 0 rfl rfl)
theorem dX4_safeAdd_1 : decode cX4_safeAdd 1 = .ok (.lload_n 2, 1) := dk_32 (dk_at dksX4_safeAdd_0 1 rfl rfl)
theorem dX4_safeAdd_2 : decode cX4_safeAdd 2 = .ok (.ladd, 1) := dk_97 (dk_at dksX4_safeAdd_0 2 rfl rfl)
theorem dX4_safeAdd_3 : decode cX4_safeAdd 3 = .ok (.lstore 4, 2) := dk_55 4 (dk_at dksX4_safeAdd_0 3 rfl rfl)
theorem dX4_safeAdd_5 : decode cX4_safeAdd 5 = .ok (.lload_n 0, 1) := dk_30 (dk_at dksX4_safeAdd_0 5 rfl rfl)
theorem dX4_safeAdd_6 : decode cX4_safeAdd 6 = .ok (.lload 4, 2) := dk_22 4 (dk_at dksX4_safeAdd_0 6 rfl rfl)
theorem dX4_safeAdd_8 : decode cX4_safeAdd 8 = .ok (.lxor, 1) := dk_131 (dk_at dksX4_safeAdd_0 8 rfl rfl)
theorem dX4_safeAdd_9 : decode cX4_safeAdd 9 = .ok (.lconst 0, 1) := dk_9 (dk_at dksX4_safeAdd_0 9 rfl rfl)
theorem dX4_safeAdd_10 : decode cX4_safeAdd 10 = .ok (.lcmp, 1) := dk_148 (dk_at dksX4_safeAdd_0 10 rfl rfl)
theorem dX4_safeAdd_11 : decode cX4_safeAdd 11 = .ok (.ifCond .ge 21, 3) := dk_156 0 21 (dk_at dksX4_safeAdd_0 11 rfl rfl)
theorem dX4_safeAdd_14 : decode cX4_safeAdd 14 = .ok (.lload_n 0, 1) := dk_30 (dk_at dksX4_safeAdd_0 14 rfl rfl)
theorem dX4_safeAdd_15 : decode cX4_safeAdd 15 = .ok (.lload_n 2, 1) := dk_32 (dk_at dksX4_safeAdd_0 15 rfl rfl)
theorem dX4_safeAdd_16 : decode cX4_safeAdd 16 = .ok (.lxor, 1) := dk_131 (dk_at dksX4_safeAdd_0 16 rfl rfl)
theorem dX4_safeAdd_17 : decode cX4_safeAdd 17 = .ok (.lconst 0, 1) := dk_9 (dk_at dksX4_safeAdd_0 17 rfl rfl)
theorem dX4_safeAdd_18 : decode cX4_safeAdd 18 = .ok (.lcmp, 1) := dk_148 (dk_at dksX4_safeAdd_0 18 rfl rfl)
theorem dX4_safeAdd_19 : decode cX4_safeAdd 19 = .ok (.ifCond .lt 13, 3) := dk_155 0 13 (dk_at dksX4_safeAdd_0 19 rfl rfl)
theorem dX4_safeAdd_22 : decode cX4_safeAdd 22 = .ok (.new 1, 3) := dk_187 0 1 (dk_at dksX4_safeAdd_1 0 rfl rfl)
theorem dX4_safeAdd_25 : decode cX4_safeAdd 25 = .ok (.dup, 1) := dk_89 (dk_at dksX4_safeAdd_1 3 rfl rfl)
theorem dX4_safeAdd_26 : decode cX4_safeAdd 26 = .ok (.ldc 3, 2) := dk_18 3 (dk_at dksX4_safeAdd_1 4 rfl rfl)
theorem dX4_safeAdd_28 : decode cX4_safeAdd 28 = .ok (.invokespecial 5, 3) := dk_183 0 5 (dk_at dksX4_safeAdd_1 6 rfl rfl)
theorem dX4_safeAdd_31 : decode cX4_safeAdd 31 = .ok (.athrow, 1) := dk_191 (dk_at dksX4_safeAdd_1 9 rfl rfl)
theorem dX4_safeAdd_32 : decode cX4_safeAdd 32 = .ok (.lload 4, 2) := dk_22 4 (dk_at dksX4_safeAdd_1 10 rfl rfl)
theorem dX4_safeAdd_34 : decode cX4_safeAdd 34 = .ok (.lreturn, 1) := dk_173 (dk_at dksX4_safeAdd_1 12 rfl rfl)
abbrev cX4_floorMod : ByteArray := prog_6_method_6_code
def yX4_floorMod : MethodName := ⟨RX4, "floorMod", "(JI)I"⟩
def dkwX4_floorMod_0 : List UInt8 := [30, 28, 133, 113, 28, 133, 97, 28, 133, 113, 136, 172]
abbrev dktX4_floorMod_0 : List UInt8 := dkwX4_floorMod_0 ++ []
theorem dksX4_floorMod_0 : cX4_floorMod.data.toList.drop 0 = dktX4_floorMod_0 := by decide +kernel
theorem dX4_floorMod_0 : decode cX4_floorMod 0 = .ok (.lload_n 0, 1) := dk_30 (dk_at dksX4_floorMod_0 0 rfl rfl)
theorem dX4_floorMod_1 : decode cX4_floorMod 1 = .ok (.iload_n 2, 1) := dk_28 (dk_at dksX4_floorMod_0 1 rfl rfl)
theorem dX4_floorMod_2 : decode cX4_floorMod 2 = .ok (.i2l, 1) := dk_133 (dk_at dksX4_floorMod_0 2 rfl rfl)
theorem dX4_floorMod_3 : decode cX4_floorMod 3 = .ok (.lrem, 1) := dk_113 (dk_at dksX4_floorMod_0 3 rfl rfl)
theorem dX4_floorMod_4 : decode cX4_floorMod 4 = .ok (.iload_n 2, 1) := dk_28 (dk_at dksX4_floorMod_0 4 rfl rfl)
theorem dX4_floorMod_5 : decode cX4_floorMod 5 = .ok (.i2l, 1) := dk_133 (dk_at dksX4_floorMod_0 5 rfl rfl)
theorem dX4_floorMod_6 : decode cX4_floorMod 6 = .ok (.ladd, 1) := dk_97 (dk_at dksX4_floorMod_0 6 rfl rfl)
theorem dX4_floorMod_7 : decode cX4_floorMod 7 = .ok (.iload_n 2, 1) := dk_28 (dk_at dksX4_floorMod_0 7 rfl rfl)
theorem dX4_floorMod_8 : decode cX4_floorMod 8 = .ok (.i2l, 1) := dk_133 (dk_at dksX4_floorMod_0 8 rfl rfl)
theorem dX4_floorMod_9 : decode cX4_floorMod 9 = .ok (.lrem, 1) := dk_113 (dk_at dksX4_floorMod_0 9 rfl rfl)
theorem dX4_floorMod_10 : decode cX4_floorMod 10 = .ok (.l2i, 1) := dk_136 (dk_at dksX4_floorMod_0 10 rfl rfl)
theorem dX4_floorMod_11 : decode cX4_floorMod 11 = .ok (.ireturn, 1) := dk_172 (dk_at dksX4_floorMod_0 11 rfl rfl)
abbrev cX4_safeMultiply : ByteArray := prog_6_method_4_code
def yX4_safeMultiply : MethodName := ⟨RX4, "safeMultiply", "(JJ)J"⟩
def dkwX4_safeMultiply_3 : List UInt8 := [148, 154, 0, 13, 187, 0, 1, 89, 18, 3, 183, 0, 5, 191, 22, 4, 173]
abbrev dktX4_safeMultiply_3 : List UInt8 := dkwX4_safeMultiply_3 ++ []
def dkwX4_safeMultiply_2 : List UInt8 := [148, 154, 0, 11, 32, 20, 0, 13, 148, 153, 0, 19, 32, 20, 0, 11, 148, 154, 0, 21, 30, 20, 0, 13]
abbrev dktX4_safeMultiply_2 : List UInt8 := dkwX4_safeMultiply_2 ++ dktX4_safeMultiply_3
def dkwX4_safeMultiply_1 : List UInt8 := [148, 154, 0, 5, 9, 173, 30, 32, 105, 55, 4, 22, 4, 32, 109, 30, 148, 154, 0, 35, 30, 20, 0, 11]
abbrev dktX4_safeMultiply_1 : List UInt8 := dkwX4_safeMultiply_1 ++ dktX4_safeMultiply_2
def dkwX4_safeMultiply_0 : List UInt8 := [32, 10, 148, 154, 0, 5, 30, 173, 30, 10, 148, 154, 0, 5, 32, 173, 30, 9, 148, 153, 0, 9, 32, 9]
abbrev dktX4_safeMultiply_0 : List UInt8 := dkwX4_safeMultiply_0 ++ dktX4_safeMultiply_1
theorem dksX4_safeMultiply_0 : cX4_safeMultiply.data.toList.drop 0 = dktX4_safeMultiply_0 := by decide +kernel
theorem dksX4_safeMultiply_1 : cX4_safeMultiply.data.toList.drop 24 = dktX4_safeMultiply_1 := dk_seg dksX4_safeMultiply_0 24 rfl rfl
theorem dksX4_safeMultiply_2 : cX4_safeMultiply.data.toList.drop 48 = dktX4_safeMultiply_2 := dk_seg dksX4_safeMultiply_1 24 rfl rfl
theorem dksX4_safeMultiply_3 : cX4_safeMultiply.data.toList.drop 72 = dktX4_safeMultiply_3 := dk_seg dksX4_safeMultiply_2 24 rfl rfl
theorem dX4_safeMultiply_0 : decode cX4_safeMultiply 0 = .ok (.lload_n 2, 1) := dk_32 (dk_at dksX4_safeMultiply_0 0 rfl rfl)
theorem dX4_safeMultiply_1 : decode cX4_safeMultiply 1 = .ok (.lconst 1, 1) := dk_10 (dk_at dksX4_safeMultiply_0 1 rfl rfl)
theorem dX4_safeMultiply_2 : decode cX4_safeMultiply 2 = .ok (.lcmp, 1) := dk_148 (dk_at dksX4_safeMultiply_0 2 rfl rfl)
theorem dX4_safeMultiply_3 : decode cX4_safeMultiply 3 = .ok (.ifCond .ne 5, 3) := dk_154 0 5 (dk_at dksX4_safeMultiply_0 3 rfl rfl)
theorem dX4_safeMultiply_6 : decode cX4_safeMultiply 6 = .ok (.lload_n 0, 1) := dk_30 (dk_at dksX4_safeMultiply_0 6 rfl rfl)
theorem dX4_safeMultiply_7 : decode cX4_safeMultiply 7 = .ok (.lreturn, 1) := dk_173 (dk_at dksX4_safeMultiply_0 7 rfl rfl)
theorem dX4_safeMultiply_8 : decode cX4_safeMultiply 8 = .ok (.lload_n 0, 1) := dk_30 (dk_at dksX4_safeMultiply_0 8 rfl rfl)
theorem dX4_safeMultiply_9 : decode cX4_safeMultiply 9 = .ok (.lconst 1, 1) := dk_10 (dk_at dksX4_safeMultiply_0 9 rfl rfl)
theorem dX4_safeMultiply_10 : decode cX4_safeMultiply 10 = .ok (.lcmp, 1) := dk_148 (dk_at dksX4_safeMultiply_0 10 rfl rfl)
theorem dX4_safeMultiply_11 : decode cX4_safeMultiply 11 = .ok (.ifCond .ne 5, 3) := dk_154 0 5 (dk_at dksX4_safeMultiply_0 11 rfl rfl)
theorem dX4_safeMultiply_14 : decode cX4_safeMultiply 14 = .ok (.lload_n 2, 1) := dk_32 (dk_at dksX4_safeMultiply_0 14 rfl rfl)
theorem dX4_safeMultiply_15 : decode cX4_safeMultiply 15 = .ok (.lreturn, 1) := dk_173 (dk_at dksX4_safeMultiply_0 15 rfl rfl)
theorem dX4_safeMultiply_16 : decode cX4_safeMultiply 16 = .ok (.lload_n 0, 1) := dk_30 (dk_at dksX4_safeMultiply_0 16 rfl rfl)
theorem dX4_safeMultiply_17 : decode cX4_safeMultiply 17 = .ok (.lconst 0, 1) := dk_9 (dk_at dksX4_safeMultiply_0 17 rfl rfl)
theorem dX4_safeMultiply_18 : decode cX4_safeMultiply 18 = .ok (.lcmp, 1) := dk_148 (dk_at dksX4_safeMultiply_0 18 rfl rfl)
theorem dX4_safeMultiply_19 : decode cX4_safeMultiply 19 = .ok (.ifCond .eq 9, 3) := dk_153 0 9 (dk_at dksX4_safeMultiply_0 19 rfl rfl)
theorem dX4_safeMultiply_22 : decode cX4_safeMultiply 22 = .ok (.lload_n 2, 1) := dk_32 (dk_at dksX4_safeMultiply_0 22 rfl rfl)
theorem dX4_safeMultiply_23 : decode cX4_safeMultiply 23 = .ok (.lconst 0, 1) := dk_9 (dk_at dksX4_safeMultiply_0 23 rfl rfl)
theorem dX4_safeMultiply_24 : decode cX4_safeMultiply 24 = .ok (.lcmp, 1) := dk_148 (dk_at dksX4_safeMultiply_1 0 rfl rfl)
theorem dX4_safeMultiply_25 : decode cX4_safeMultiply 25 = .ok (.ifCond .ne 5, 3) := dk_154 0 5 (dk_at dksX4_safeMultiply_1 1 rfl rfl)
theorem dX4_safeMultiply_28 : decode cX4_safeMultiply 28 = .ok (.lconst 0, 1) := dk_9 (dk_at dksX4_safeMultiply_1 4 rfl rfl)
theorem dX4_safeMultiply_29 : decode cX4_safeMultiply 29 = .ok (.lreturn, 1) := dk_173 (dk_at dksX4_safeMultiply_1 5 rfl rfl)
theorem dX4_safeMultiply_30 : decode cX4_safeMultiply 30 = .ok (.lload_n 0, 1) := dk_30 (dk_at dksX4_safeMultiply_1 6 rfl rfl)
theorem dX4_safeMultiply_31 : decode cX4_safeMultiply 31 = .ok (.lload_n 2, 1) := dk_32 (dk_at dksX4_safeMultiply_1 7 rfl rfl)
theorem dX4_safeMultiply_32 : decode cX4_safeMultiply 32 = .ok (.lmul, 1) := dk_105 (dk_at dksX4_safeMultiply_1 8 rfl rfl)
theorem dX4_safeMultiply_33 : decode cX4_safeMultiply 33 = .ok (.lstore 4, 2) := dk_55 4 (dk_at dksX4_safeMultiply_1 9 rfl rfl)
theorem dX4_safeMultiply_35 : decode cX4_safeMultiply 35 = .ok (.lload 4, 2) := dk_22 4 (dk_at dksX4_safeMultiply_1 11 rfl rfl)
theorem dX4_safeMultiply_37 : decode cX4_safeMultiply 37 = .ok (.lload_n 2, 1) := dk_32 (dk_at dksX4_safeMultiply_1 13 rfl rfl)
theorem dX4_safeMultiply_38 : decode cX4_safeMultiply 38 = .ok (.ldiv, 1) := dk_109 (dk_at dksX4_safeMultiply_1 14 rfl rfl)
theorem dX4_safeMultiply_39 : decode cX4_safeMultiply 39 = .ok (.lload_n 0, 1) := dk_30 (dk_at dksX4_safeMultiply_1 15 rfl rfl)
theorem dX4_safeMultiply_40 : decode cX4_safeMultiply 40 = .ok (.lcmp, 1) := dk_148 (dk_at dksX4_safeMultiply_1 16 rfl rfl)
theorem dX4_safeMultiply_41 : decode cX4_safeMultiply 41 = .ok (.ifCond .ne 35, 3) := dk_154 0 35 (dk_at dksX4_safeMultiply_1 17 rfl rfl)
theorem dX4_safeMultiply_44 : decode cX4_safeMultiply 44 = .ok (.lload_n 0, 1) := dk_30 (dk_at dksX4_safeMultiply_1 20 rfl rfl)
theorem dX4_safeMultiply_45 : decode cX4_safeMultiply 45 = .ok (.ldc2_w 11, 3) := dk_20 0 11 (dk_at dksX4_safeMultiply_1 21 rfl rfl)
theorem dX4_safeMultiply_48 : decode cX4_safeMultiply 48 = .ok (.lcmp, 1) := dk_148 (dk_at dksX4_safeMultiply_2 0 rfl rfl)
theorem dX4_safeMultiply_49 : decode cX4_safeMultiply 49 = .ok (.ifCond .ne 11, 3) := dk_154 0 11 (dk_at dksX4_safeMultiply_2 1 rfl rfl)
theorem dX4_safeMultiply_52 : decode cX4_safeMultiply 52 = .ok (.lload_n 2, 1) := dk_32 (dk_at dksX4_safeMultiply_2 4 rfl rfl)
theorem dX4_safeMultiply_53 : decode cX4_safeMultiply 53 = .ok (.ldc2_w 13, 3) := dk_20 0 13 (dk_at dksX4_safeMultiply_2 5 rfl rfl)
theorem dX4_safeMultiply_56 : decode cX4_safeMultiply 56 = .ok (.lcmp, 1) := dk_148 (dk_at dksX4_safeMultiply_2 8 rfl rfl)
theorem dX4_safeMultiply_57 : decode cX4_safeMultiply 57 = .ok (.ifCond .eq 19, 3) := dk_153 0 19 (dk_at dksX4_safeMultiply_2 9 rfl rfl)
theorem dX4_safeMultiply_60 : decode cX4_safeMultiply 60 = .ok (.lload_n 2, 1) := dk_32 (dk_at dksX4_safeMultiply_2 12 rfl rfl)
theorem dX4_safeMultiply_61 : decode cX4_safeMultiply 61 = .ok (.ldc2_w 11, 3) := dk_20 0 11 (dk_at dksX4_safeMultiply_2 13 rfl rfl)
theorem dX4_safeMultiply_64 : decode cX4_safeMultiply 64 = .ok (.lcmp, 1) := dk_148 (dk_at dksX4_safeMultiply_2 16 rfl rfl)
theorem dX4_safeMultiply_65 : decode cX4_safeMultiply 65 = .ok (.ifCond .ne 21, 3) := dk_154 0 21 (dk_at dksX4_safeMultiply_2 17 rfl rfl)
theorem dX4_safeMultiply_68 : decode cX4_safeMultiply 68 = .ok (.lload_n 0, 1) := dk_30 (dk_at dksX4_safeMultiply_2 20 rfl rfl)
theorem dX4_safeMultiply_69 : decode cX4_safeMultiply 69 = .ok (.ldc2_w 13, 3) := dk_20 0 13 (dk_at dksX4_safeMultiply_2 21 rfl rfl)
theorem dX4_safeMultiply_72 : decode cX4_safeMultiply 72 = .ok (.lcmp, 1) := dk_148 (dk_at dksX4_safeMultiply_3 0 rfl rfl)
theorem dX4_safeMultiply_73 : decode cX4_safeMultiply 73 = .ok (.ifCond .ne 13, 3) := dk_154 0 13 (dk_at dksX4_safeMultiply_3 1 rfl rfl)
theorem dX4_safeMultiply_76 : decode cX4_safeMultiply 76 = .ok (.new 1, 3) := dk_187 0 1 (dk_at dksX4_safeMultiply_3 4 rfl rfl)
theorem dX4_safeMultiply_79 : decode cX4_safeMultiply 79 = .ok (.dup, 1) := dk_89 (dk_at dksX4_safeMultiply_3 7 rfl rfl)
theorem dX4_safeMultiply_80 : decode cX4_safeMultiply 80 = .ok (.ldc 3, 2) := dk_18 3 (dk_at dksX4_safeMultiply_3 8 rfl rfl)
theorem dX4_safeMultiply_82 : decode cX4_safeMultiply 82 = .ok (.invokespecial 5, 3) := dk_183 0 5 (dk_at dksX4_safeMultiply_3 10 rfl rfl)
theorem dX4_safeMultiply_85 : decode cX4_safeMultiply 85 = .ok (.athrow, 1) := dk_191 (dk_at dksX4_safeMultiply_3 13 rfl rfl)
theorem dX4_safeMultiply_86 : decode cX4_safeMultiply 86 = .ok (.lload 4, 2) := dk_22 4 (dk_at dksX4_safeMultiply_3 14 rfl rfl)
theorem dX4_safeMultiply_88 : decode cX4_safeMultiply 88 = .ok (.lreturn, 1) := dk_173 (dk_at dksX4_safeMultiply_3 16 rfl rfl)
abbrev cX4_safeSubtract : ByteArray := prog_6_method_3_code
def yX4_safeSubtract : MethodName := ⟨RX4, "safeSubtract", "(JJ)J"⟩
def dkwX4_safeSubtract_1 : List UInt8 := [187, 0, 1, 89, 18, 3, 183, 0, 5, 191, 22, 4, 173]
abbrev dktX4_safeSubtract_1 : List UInt8 := dkwX4_safeSubtract_1 ++ []
def dkwX4_safeSubtract_0 : List UInt8 := [30, 32, 101, 55, 4, 30, 22, 4, 131, 9, 148, 156, 0, 21, 30, 32, 131, 9, 148, 156, 0, 13]
abbrev dktX4_safeSubtract_0 : List UInt8 := dkwX4_safeSubtract_0 ++ dktX4_safeSubtract_1
theorem dksX4_safeSubtract_0 : cX4_safeSubtract.data.toList.drop 0 = dktX4_safeSubtract_0 := by decide +kernel
theorem dksX4_safeSubtract_1 : cX4_safeSubtract.data.toList.drop 22 = dktX4_safeSubtract_1 := dk_seg dksX4_safeSubtract_0 22 rfl rfl
theorem dX4_safeSubtract_0 : decode cX4_safeSubtract 0 = .ok (.lload_n 0, 1) := dk_30 (dk_at dksX4_safeSubtract_0 0 rfl rfl)
theorem dX4_safeSubtract_1 : decode cX4_safeSubtract 1 = .ok (.lload_n 2, 1) := dk_32 (dk_at dksX4_safeSubtract_0 1 rfl rfl)
theorem dX4_safeSubtract_2 : decode cX4_safeSubtract 2 = .ok (.lsub, 1) := dk_101 (dk_at dksX4_safeSubtract_0 2 rfl rfl)
theorem dX4_safeSubtract_3 : decode cX4_safeSubtract 3 = .ok (.lstore 4, 2) := dk_55 4 (dk_at dksX4_safeSubtract_0 3 rfl rfl)
theorem dX4_safeSubtract_5 : decode cX4_safeSubtract 5 = .ok (.lload_n 0, 1) := dk_30 (dk_at dksX4_safeSubtract_0 5 rfl rfl)
theorem dX4_safeSubtract_6 : decode cX4_safeSubtract 6 = .ok (.lload 4, 2) := dk_22 4 (dk_at dksX4_safeSubtract_0 6 rfl rfl)
theorem dX4_safeSubtract_8 : decode cX4_safeSubtract 8 = .ok (.lxor, 1) := dk_131 (dk_at dksX4_safeSubtract_0 8 rfl rfl)
theorem dX4_safeSubtract_9 : decode cX4_safeSubtract 9 = .ok (.lconst 0, 1) := dk_9 (dk_at dksX4_safeSubtract_0 9 rfl rfl)
theorem dX4_safeSubtract_10 : decode cX4_safeSubtract 10 = .ok (.lcmp, 1) := dk_148 (dk_at dksX4_safeSubtract_0 10 rfl rfl)
theorem dX4_safeSubtract_11 : decode cX4_safeSubtract 11 = .ok (.ifCond .ge 21, 3) := dk_156 0 21 (dk_at dksX4_safeSubtract_0 11 rfl rfl)
theorem dX4_safeSubtract_14 : decode cX4_safeSubtract 14 = .ok (.lload_n 0, 1) := dk_30 (dk_at dksX4_safeSubtract_0 14 rfl rfl)
theorem dX4_safeSubtract_15 : decode cX4_safeSubtract 15 = .ok (.lload_n 2, 1) := dk_32 (dk_at dksX4_safeSubtract_0 15 rfl rfl)
theorem dX4_safeSubtract_16 : decode cX4_safeSubtract 16 = .ok (.lxor, 1) := dk_131 (dk_at dksX4_safeSubtract_0 16 rfl rfl)
theorem dX4_safeSubtract_17 : decode cX4_safeSubtract 17 = .ok (.lconst 0, 1) := dk_9 (dk_at dksX4_safeSubtract_0 17 rfl rfl)
theorem dX4_safeSubtract_18 : decode cX4_safeSubtract 18 = .ok (.lcmp, 1) := dk_148 (dk_at dksX4_safeSubtract_0 18 rfl rfl)
theorem dX4_safeSubtract_19 : decode cX4_safeSubtract 19 = .ok (.ifCond .ge 13, 3) := dk_156 0 13 (dk_at dksX4_safeSubtract_0 19 rfl rfl)
theorem dX4_safeSubtract_22 : decode cX4_safeSubtract 22 = .ok (.new 1, 3) := dk_187 0 1 (dk_at dksX4_safeSubtract_1 0 rfl rfl)
theorem dX4_safeSubtract_25 : decode cX4_safeSubtract 25 = .ok (.dup, 1) := dk_89 (dk_at dksX4_safeSubtract_1 3 rfl rfl)
theorem dX4_safeSubtract_26 : decode cX4_safeSubtract 26 = .ok (.ldc 3, 2) := dk_18 3 (dk_at dksX4_safeSubtract_1 4 rfl rfl)
theorem dX4_safeSubtract_28 : decode cX4_safeSubtract 28 = .ok (.invokespecial 5, 3) := dk_183 0 5 (dk_at dksX4_safeSubtract_1 6 rfl rfl)
theorem dX4_safeSubtract_31 : decode cX4_safeSubtract 31 = .ok (.athrow, 1) := dk_191 (dk_at dksX4_safeSubtract_1 9 rfl rfl)
theorem dX4_safeSubtract_32 : decode cX4_safeSubtract 32 = .ok (.lload 4, 2) := dk_22 4 (dk_at dksX4_safeSubtract_1 10 rfl rfl)
theorem dX4_safeSubtract_34 : decode cX4_safeSubtract 34 = .ok (.lreturn, 1) := dk_173 (dk_at dksX4_safeSubtract_1 12 rfl rfl)
abbrev cX4_compareLongs : ByteArray := prog_6_method_1_code
def yX4_compareLongs : MethodName := ⟨RX4, "compareLongs", "(JJ)I"⟩
def dkwX4_compareLongs_0 : List UInt8 := [30, 32, 148, 156, 0, 5, 2, 172, 30, 32, 148, 158, 0, 5, 4, 172, 3, 172]
abbrev dktX4_compareLongs_0 : List UInt8 := dkwX4_compareLongs_0 ++ []
theorem dksX4_compareLongs_0 : cX4_compareLongs.data.toList.drop 0 = dktX4_compareLongs_0 := by decide +kernel
theorem dX4_compareLongs_0 : decode cX4_compareLongs 0 = .ok (.lload_n 0, 1) := dk_30 (dk_at dksX4_compareLongs_0 0 rfl rfl)
theorem dX4_compareLongs_1 : decode cX4_compareLongs 1 = .ok (.lload_n 2, 1) := dk_32 (dk_at dksX4_compareLongs_0 1 rfl rfl)
theorem dX4_compareLongs_2 : decode cX4_compareLongs 2 = .ok (.lcmp, 1) := dk_148 (dk_at dksX4_compareLongs_0 2 rfl rfl)
theorem dX4_compareLongs_3 : decode cX4_compareLongs 3 = .ok (.ifCond .ge 5, 3) := dk_156 0 5 (dk_at dksX4_compareLongs_0 3 rfl rfl)
theorem dX4_compareLongs_6 : decode cX4_compareLongs 6 = .ok (.iconst (-1), 1) := dk_2 (dk_at dksX4_compareLongs_0 6 rfl rfl)
theorem dX4_compareLongs_7 : decode cX4_compareLongs 7 = .ok (.ireturn, 1) := dk_172 (dk_at dksX4_compareLongs_0 7 rfl rfl)
theorem dX4_compareLongs_8 : decode cX4_compareLongs 8 = .ok (.lload_n 0, 1) := dk_30 (dk_at dksX4_compareLongs_0 8 rfl rfl)
theorem dX4_compareLongs_9 : decode cX4_compareLongs 9 = .ok (.lload_n 2, 1) := dk_32 (dk_at dksX4_compareLongs_0 9 rfl rfl)
theorem dX4_compareLongs_10 : decode cX4_compareLongs 10 = .ok (.lcmp, 1) := dk_148 (dk_at dksX4_compareLongs_0 10 rfl rfl)
theorem dX4_compareLongs_11 : decode cX4_compareLongs 11 = .ok (.ifCond .le 5, 3) := dk_158 0 5 (dk_at dksX4_compareLongs_0 11 rfl rfl)
theorem dX4_compareLongs_14 : decode cX4_compareLongs 14 = .ok (.iconst 1, 1) := dk_4 (dk_at dksX4_compareLongs_0 14 rfl rfl)
theorem dX4_compareLongs_15 : decode cX4_compareLongs 15 = .ok (.ireturn, 1) := dk_172 (dk_at dksX4_compareLongs_0 15 rfl rfl)
theorem dX4_compareLongs_16 : decode cX4_compareLongs 16 = .ok (.iconst 0, 1) := dk_3 (dk_at dksX4_compareLongs_0 16 rfl rfl)
theorem dX4_compareLongs_17 : decode cX4_compareLongs 17 = .ok (.ireturn, 1) := dk_172 (dk_at dksX4_compareLongs_0 17 rfl rfl)
theorem q6 : (Jvm.Cond.initialized "Jdk8Methods") ∈ lw_all := lw_g (lw_at lw_m1 4 rfl) rfl
theorem q27 : (Jvm.Cond.static ({ cls := "Jdk8Methods", name := "floorDiv", desc := "(JJ)J" } : Jvm.MethodName)) ∈ lw_all := lw_g (lw_at lw_m1 25 rfl) rfl
theorem q28 : (Jvm.Cond.code ({ cls := "Jdk8Methods", name := "floorDiv", desc := "(JJ)J" } : Jvm.MethodName) prog_6_method_5_code (4 : Nat) (Option.some Jvm.ClassFile.FieldType.long)) ∈ lw_all := lw_g (lw_at lw_m1 26 rfl) rfl
theorem q30 : (Jvm.Cond.static ({ cls := "Jdk8Methods", name := "safeAdd", desc := "(JJ)J" } : Jvm.MethodName)) ∈ lw_all := lw_g (lw_at lw_m1 28 rfl) rfl
theorem q31 : (Jvm.Cond.code ({ cls := "Jdk8Methods", name := "safeAdd", desc := "(JJ)J" } : Jvm.MethodName) prog_6_method_2_code (6 : Nat) (Option.some Jvm.ClassFile.FieldType.long)) ∈ lw_all := lw_g (lw_at lw_m1 29 rfl) rfl
theorem q32 : (Jvm.Cond.classLink "Jdk8Methods" (1 : Nat) "java/lang/ArithmeticException") ∈ lw_all := lw_g (lw_at lw_m1 30 rfl) rfl
theorem q72 : (Jvm.Cond.stringRef "Jdk8Methods" (3 : Nat) "left out") ∈ lw_tbl := lw_at lw_m1 70 rfl
theorem q73 : (Jvm.Cond.methodLink "Jdk8Methods" (5 : Nat) ({ cls := "java/lang/ArithmeticException", name := "<init>", desc := "(Ljava/lang/String;)V" } : Jvm.MethodName)) ∈ lw_all := lw_g (lw_at lw_m1 71 rfl) rfl
theorem q101 : (Jvm.Cond.static ({ cls := "Jdk8Methods", name := "floorMod", desc := "(JI)I" } : Jvm.MethodName)) ∈ lw_all := lw_g (lw_at lw_m1 99 rfl) rfl
theorem q102 : (Jvm.Cond.code ({ cls := "Jdk8Methods", name := "floorMod", desc := "(JI)I" } : Jvm.MethodName) prog_6_method_6_code (3 : Nat) (Option.some Jvm.ClassFile.FieldType.int)) ∈ lw_all := lw_g (lw_at lw_m1 100 rfl) rfl
theorem q237 : (Jvm.Cond.static ({ cls := "Jdk8Methods", name := "safeMultiply", desc := "(JJ)J" } : Jvm.MethodName)) ∈ lw_all := lw_g (lw_at lw_m1 235 rfl) rfl
theorem q238 : (Jvm.Cond.code ({ cls := "Jdk8Methods", name := "safeMultiply", desc := "(JJ)J" } : Jvm.MethodName) prog_6_method_4_code (6 : Nat) (Option.some Jvm.ClassFile.FieldType.long)) ∈ lw_all := lw_g (lw_at lw_m1 236 rfl) rfl
theorem q239 : (Jvm.Cond.constantLong "Jdk8Methods" (11 : Nat) (-9223372036854775808 : Int64)) ∈ lw_all := lw_g (lw_at lw_m1 237 rfl) rfl
theorem q240 : (Jvm.Cond.constantLong "Jdk8Methods" (13 : Nat) (-1 : Int64)) ∈ lw_all := lw_g (lw_at lw_m1 238 rfl) rfl
theorem q242 : (Jvm.Cond.static ({ cls := "Jdk8Methods", name := "safeSubtract", desc := "(JJ)J" } : Jvm.MethodName)) ∈ lw_all := lw_g (lw_at lw_m2 0 rfl) rfl
theorem q243 : (Jvm.Cond.code ({ cls := "Jdk8Methods", name := "safeSubtract", desc := "(JJ)J" } : Jvm.MethodName) prog_6_method_3_code (6 : Nat) (Option.some Jvm.ClassFile.FieldType.long)) ∈ lw_all := lw_g (lw_at lw_m2 1 rfl) rfl
theorem q255 : (Jvm.Cond.static ({ cls := "Jdk8Methods", name := "compareLongs", desc := "(JJ)I" } : Jvm.MethodName)) ∈ lw_all := lw_g (lw_at lw_m2 13 rfl) rfl
theorem q256 : (Jvm.Cond.code ({ cls := "Jdk8Methods", name := "compareLongs", desc := "(JJ)I" } : Jvm.MethodName) prog_6_method_1_code (4 : Nat) (Option.some Jvm.ClassFile.FieldType.int)) ∈ lw_all := lw_g (lw_at lw_m2 14 rfl) rfl
end
section
/-! Instant -/
set_option maxRecDepth 100000
def RX3 : String := "Instant"
def TX3 : u_T := fun k => match k with
  | 0 => ("Instant", "seconds", "J", true)
  | _ => ("Instant", "nanos", "I", true)
def tyX3 : Nat → FieldType := fun k => match k with
  | 0 => .long
  | _ => .int
abbrev wsX30 : List Cond := u_ws RX3 TX3 2
theorem nmX3 : ∀ a, a < 2 → ∀ b, b < 2 → a ≠ b → (TX3 a).2.1 ≠ (TX3 b).2.1 := by decide +kernel
theorem tyX3_ok : ∀ k, k < 2 → parseFieldDescriptor (TX3 k).2.2.1 = some (tyX3 k) := by decide +kernel
abbrev cX3_ofEpochSecond : ByteArray := prog_3_method_1_code
def yX3_ofEpochSecond : MethodName := ⟨RX3, "ofEpochSecond", "(JJ)LInstant;"⟩
def dkwX3_ofEpochSecond_1 : List UInt8 := [21, 6, 184, 0, 19, 176]
abbrev dktX3_ofEpochSecond_1 : List UInt8 := dkwX3_ofEpochSecond_1 ++ []
def dkwX3_ofEpochSecond_0 : List UInt8 := [30, 32, 20, 0, 3, 184, 0, 5, 184, 0, 11, 55, 4, 32, 18, 14, 184, 0, 15, 54, 6, 22, 4]
abbrev dktX3_ofEpochSecond_0 : List UInt8 := dkwX3_ofEpochSecond_0 ++ dktX3_ofEpochSecond_1
theorem dksX3_ofEpochSecond_0 : cX3_ofEpochSecond.data.toList.drop 0 = dktX3_ofEpochSecond_0 := by decide +kernel
theorem dksX3_ofEpochSecond_1 : cX3_ofEpochSecond.data.toList.drop 23 = dktX3_ofEpochSecond_1 := dk_seg dksX3_ofEpochSecond_0 23 rfl rfl
theorem dX3_ofEpochSecond_0 : decode cX3_ofEpochSecond 0 = .ok (.lload_n 0, 1) := dk_30 (dk_at dksX3_ofEpochSecond_0 0 rfl rfl)
theorem dX3_ofEpochSecond_1 : decode cX3_ofEpochSecond 1 = .ok (.lload_n 2, 1) := dk_32 (dk_at dksX3_ofEpochSecond_0 1 rfl rfl)
theorem dX3_ofEpochSecond_2 : decode cX3_ofEpochSecond 2 = .ok (.ldc2_w 3, 3) := dk_20 0 3 (dk_at dksX3_ofEpochSecond_0 2 rfl rfl)
theorem dX3_ofEpochSecond_5 : decode cX3_ofEpochSecond 5 = .ok (.invokestatic 5, 3) := dk_184 0 5 (dk_at dksX3_ofEpochSecond_0 5 rfl rfl)
theorem dX3_ofEpochSecond_8 : decode cX3_ofEpochSecond 8 = .ok (.invokestatic 11, 3) := dk_184 0 11 (dk_at dksX3_ofEpochSecond_0 8 rfl rfl)
theorem dX3_ofEpochSecond_11 : decode cX3_ofEpochSecond 11 = .ok (.lstore 4, 2) := dk_55 4 (dk_at dksX3_ofEpochSecond_0 11 rfl rfl)
theorem dX3_ofEpochSecond_13 : decode cX3_ofEpochSecond 13 = .ok (.lload_n 2, 1) := dk_32 (dk_at dksX3_ofEpochSecond_0 13 rfl rfl)
theorem dX3_ofEpochSecond_14 : decode cX3_ofEpochSecond 14 = .ok (.ldc 14, 2) := dk_18 14 (dk_at dksX3_ofEpochSecond_0 14 rfl rfl)
theorem dX3_ofEpochSecond_16 : decode cX3_ofEpochSecond 16 = .ok (.invokestatic 15, 3) := dk_184 0 15 (dk_at dksX3_ofEpochSecond_0 16 rfl rfl)
theorem dX3_ofEpochSecond_19 : decode cX3_ofEpochSecond 19 = .ok (.istore 6, 2) := dk_54 6 (dk_at dksX3_ofEpochSecond_0 19 rfl rfl)
theorem dX3_ofEpochSecond_21 : decode cX3_ofEpochSecond 21 = .ok (.lload 4, 2) := dk_22 4 (dk_at dksX3_ofEpochSecond_0 21 rfl rfl)
theorem dX3_ofEpochSecond_23 : decode cX3_ofEpochSecond 23 = .ok (.iload 6, 2) := dk_21 6 (dk_at dksX3_ofEpochSecond_1 0 rfl rfl)
theorem dX3_ofEpochSecond_25 : decode cX3_ofEpochSecond 25 = .ok (.invokestatic 19, 3) := dk_184 0 19 (dk_at dksX3_ofEpochSecond_1 2 rfl rfl)
theorem dX3_ofEpochSecond_28 : decode cX3_ofEpochSecond 28 = .ok (.areturn, 1) := dk_176 (dk_at dksX3_ofEpochSecond_1 5 rfl rfl)
abbrev cX3_create : ByteArray := prog_3_method_3_code
def yX3_create : MethodName := ⟨RX3, "create", "(JI)LInstant;"⟩
def dkwX3_create_2 : List UInt8 := [183, 0, 42, 176]
abbrev dktX3_create_2 : List UInt8 := dkwX3_create_2 ++ []
def dkwX3_create_1 : List UInt8 := [20, 0, 32, 148, 158, 0, 13, 187, 0, 34, 89, 18, 36, 183, 0, 38, 191, 187, 0, 1, 89, 30, 28]
abbrev dktX3_create_1 : List UInt8 := dkwX3_create_1 ++ dktX3_create_2
def dkwX3_create_0 : List UInt8 := [30, 28, 133, 129, 9, 148, 154, 0, 7, 178, 0, 26, 176, 30, 20, 0, 30, 148, 155, 0, 11, 30]
abbrev dktX3_create_0 : List UInt8 := dkwX3_create_0 ++ dktX3_create_1
theorem dksX3_create_0 : cX3_create.data.toList.drop 0 = dktX3_create_0 := by decide +kernel
theorem dksX3_create_1 : cX3_create.data.toList.drop 22 = dktX3_create_1 := dk_seg dksX3_create_0 22 rfl rfl
theorem dksX3_create_2 : cX3_create.data.toList.drop 45 = dktX3_create_2 := dk_seg dksX3_create_1 23 rfl rfl
theorem dX3_create_0 : decode cX3_create 0 = .ok (.lload_n 0, 1) := dk_30 (dk_at dksX3_create_0 0 rfl rfl)
theorem dX3_create_1 : decode cX3_create 1 = .ok (.iload_n 2, 1) := dk_28 (dk_at dksX3_create_0 1 rfl rfl)
theorem dX3_create_2 : decode cX3_create 2 = .ok (.i2l, 1) := dk_133 (dk_at dksX3_create_0 2 rfl rfl)
theorem dX3_create_3 : decode cX3_create 3 = .ok (.lor, 1) := dk_129 (dk_at dksX3_create_0 3 rfl rfl)
theorem dX3_create_4 : decode cX3_create 4 = .ok (.lconst 0, 1) := dk_9 (dk_at dksX3_create_0 4 rfl rfl)
theorem dX3_create_5 : decode cX3_create 5 = .ok (.lcmp, 1) := dk_148 (dk_at dksX3_create_0 5 rfl rfl)
theorem dX3_create_6 : decode cX3_create 6 = .ok (.ifCond .ne 7, 3) := dk_154 0 7 (dk_at dksX3_create_0 6 rfl rfl)
theorem dX3_create_9 : decode cX3_create 9 = .ok (.getstatic 26, 3) := dk_178 0 26 (dk_at dksX3_create_0 9 rfl rfl)
theorem dX3_create_12 : decode cX3_create 12 = .ok (.areturn, 1) := dk_176 (dk_at dksX3_create_0 12 rfl rfl)
theorem dX3_create_13 : decode cX3_create 13 = .ok (.lload_n 0, 1) := dk_30 (dk_at dksX3_create_0 13 rfl rfl)
theorem dX3_create_14 : decode cX3_create 14 = .ok (.ldc2_w 30, 3) := dk_20 0 30 (dk_at dksX3_create_0 14 rfl rfl)
theorem dX3_create_17 : decode cX3_create 17 = .ok (.lcmp, 1) := dk_148 (dk_at dksX3_create_0 17 rfl rfl)
theorem dX3_create_18 : decode cX3_create 18 = .ok (.ifCond .lt 11, 3) := dk_155 0 11 (dk_at dksX3_create_0 18 rfl rfl)
theorem dX3_create_21 : decode cX3_create 21 = .ok (.lload_n 0, 1) := dk_30 (dk_at dksX3_create_0 21 rfl rfl)
theorem dX3_create_22 : decode cX3_create 22 = .ok (.ldc2_w 32, 3) := dk_20 0 32 (dk_at dksX3_create_1 0 rfl rfl)
theorem dX3_create_25 : decode cX3_create 25 = .ok (.lcmp, 1) := dk_148 (dk_at dksX3_create_1 3 rfl rfl)
theorem dX3_create_26 : decode cX3_create 26 = .ok (.ifCond .le 13, 3) := dk_158 0 13 (dk_at dksX3_create_1 4 rfl rfl)
theorem dX3_create_29 : decode cX3_create 29 = .ok (.new 34, 3) := dk_187 0 34 (dk_at dksX3_create_1 7 rfl rfl)
theorem dX3_create_32 : decode cX3_create 32 = .ok (.dup, 1) := dk_89 (dk_at dksX3_create_1 10 rfl rfl)
theorem dX3_create_33 : decode cX3_create 33 = .ok (.ldc 36, 2) := dk_18 36 (dk_at dksX3_create_1 11 rfl rfl)
theorem dX3_create_35 : decode cX3_create 35 = .ok (.invokespecial 38, 3) := dk_183 0 38 (dk_at dksX3_create_1 13 rfl rfl)
theorem dX3_create_38 : decode cX3_create 38 = .ok (.athrow, 1) := dk_191 (dk_at dksX3_create_1 16 rfl rfl)
theorem dX3_create_39 : decode cX3_create 39 = .ok (.new 1, 3) := dk_187 0 1 (dk_at dksX3_create_1 17 rfl rfl)
theorem dX3_create_42 : decode cX3_create 42 = .ok (.dup, 1) := dk_89 (dk_at dksX3_create_1 20 rfl rfl)
theorem dX3_create_43 : decode cX3_create 43 = .ok (.lload_n 0, 1) := dk_30 (dk_at dksX3_create_1 21 rfl rfl)
theorem dX3_create_44 : decode cX3_create 44 = .ok (.iload_n 2, 1) := dk_28 (dk_at dksX3_create_1 22 rfl rfl)
theorem dX3_create_45 : decode cX3_create 45 = .ok (.invokespecial 42, 3) := dk_183 0 42 (dk_at dksX3_create_2 0 rfl rfl)
theorem dX3_create_48 : decode cX3_create 48 = .ok (.areturn, 1) := dk_176 (dk_at dksX3_create_2 3 rfl rfl)
abbrev cX3_init : ByteArray := prog_3_method_4_code
def yX3_init : MethodName := ⟨RX3, "<init>", "(JI)V"⟩
def dkwX3_init_0 : List UInt8 := [42, 183, 0, 45, 42, 31, 181, 0, 50, 42, 29, 181, 0, 54, 177]
abbrev dktX3_init_0 : List UInt8 := dkwX3_init_0 ++ []
theorem dksX3_init_0 : cX3_init.data.toList.drop 0 = dktX3_init_0 := by decide +kernel
theorem dX3_init_0 : decode cX3_init 0 = .ok (.aload_n 0, 1) := dk_42 (dk_at dksX3_init_0 0 rfl rfl)
theorem dX3_init_1 : decode cX3_init 1 = .ok (.invokespecial 45, 3) := dk_183 0 45 (dk_at dksX3_init_0 1 rfl rfl)
theorem dX3_init_4 : decode cX3_init 4 = .ok (.aload_n 0, 1) := dk_42 (dk_at dksX3_init_0 4 rfl rfl)
theorem dX3_init_5 : decode cX3_init 5 = .ok (.lload_n 1, 1) := dk_31 (dk_at dksX3_init_0 5 rfl rfl)
theorem dX3_init_6 : decode cX3_init 6 = .ok (.putfield 50, 3) := dk_181 0 50 (dk_at dksX3_init_0 6 rfl rfl)
theorem dX3_init_9 : decode cX3_init 9 = .ok (.aload_n 0, 1) := dk_42 (dk_at dksX3_init_0 9 rfl rfl)
theorem dX3_init_10 : decode cX3_init 10 = .ok (.iload_n 3, 1) := dk_29 (dk_at dksX3_init_0 10 rfl rfl)
theorem dX3_init_11 : decode cX3_init 11 = .ok (.putfield 54, 3) := dk_181 0 54 (dk_at dksX3_init_0 11 rfl rfl)
theorem dX3_init_14 : decode cX3_init 14 = .ok (.return_, 1) := dk_177 (dk_at dksX3_init_0 14 rfl rfl)
abbrev cX3_getEpochSecond : ByteArray := prog_3_method_5_code
def yX3_getEpochSecond : MethodName := ⟨RX3, "getEpochSecond", "()J"⟩
theorem dX3_getEpochSecond_0 : decode cX3_getEpochSecond 0 = .ok (.aload_n 0, 1) := by decide +kernel
theorem dX3_getEpochSecond_1 : decode cX3_getEpochSecond 1 = .ok (.getfield 50, 3) := by decide +kernel
theorem dX3_getEpochSecond_4 : decode cX3_getEpochSecond 4 = .ok (.lreturn, 1) := by decide +kernel
abbrev cX3_plusSeconds : ByteArray := prog_3_method_7_code
def yX3_plusSeconds : MethodName := ⟨RX3, "plusSeconds", "(J)LInstant;"⟩
def dkwX3_plusSeconds_0 : List UInt8 := [42, 31, 9, 182, 0, 58, 176]
abbrev dktX3_plusSeconds_0 : List UInt8 := dkwX3_plusSeconds_0 ++ []
theorem dksX3_plusSeconds_0 : cX3_plusSeconds.data.toList.drop 0 = dktX3_plusSeconds_0 := by decide +kernel
theorem dX3_plusSeconds_0 : decode cX3_plusSeconds 0 = .ok (.aload_n 0, 1) := dk_42 (dk_at dksX3_plusSeconds_0 0 rfl rfl)
theorem dX3_plusSeconds_1 : decode cX3_plusSeconds 1 = .ok (.lload_n 1, 1) := dk_31 (dk_at dksX3_plusSeconds_0 1 rfl rfl)
theorem dX3_plusSeconds_2 : decode cX3_plusSeconds 2 = .ok (.lconst 0, 1) := dk_9 (dk_at dksX3_plusSeconds_0 2 rfl rfl)
theorem dX3_plusSeconds_3 : decode cX3_plusSeconds 3 = .ok (.invokevirtual 58, 3) := dk_182 0 58 (dk_at dksX3_plusSeconds_0 3 rfl rfl)
theorem dX3_plusSeconds_6 : decode cX3_plusSeconds 6 = .ok (.areturn, 1) := dk_176 (dk_at dksX3_plusSeconds_0 6 rfl rfl)
abbrev cX3_plus : ByteArray := prog_3_method_10_code
def yX3_plus : MethodName := ⟨RX3, "plus", "(JJ)LInstant;"⟩
def dkwX3_plus_2 : List UInt8 := [22, 5, 22, 7, 184, 0, 64, 176]
abbrev dktX3_plus_2 : List UInt8 := dkwX3_plus_2 ++ []
def dkwX3_plus_1 : List UInt8 := [20, 0, 3, 109, 184, 0, 11, 55, 5, 33, 20, 0, 3, 113, 66, 42, 180, 0, 54, 133, 33, 97, 55, 7]
abbrev dktX3_plus_1 : List UInt8 := dkwX3_plus_1 ++ dktX3_plus_2
def dkwX3_plus_0 : List UInt8 := [31, 33, 129, 9, 148, 154, 0, 5, 42, 176, 42, 180, 0, 50, 31, 184, 0, 11, 55, 5, 22, 5, 33]
abbrev dktX3_plus_0 : List UInt8 := dkwX3_plus_0 ++ dktX3_plus_1
theorem dksX3_plus_0 : cX3_plus.data.toList.drop 0 = dktX3_plus_0 := by decide +kernel
theorem dksX3_plus_1 : cX3_plus.data.toList.drop 23 = dktX3_plus_1 := dk_seg dksX3_plus_0 23 rfl rfl
theorem dksX3_plus_2 : cX3_plus.data.toList.drop 47 = dktX3_plus_2 := dk_seg dksX3_plus_1 24 rfl rfl
theorem dX3_plus_0 : decode cX3_plus 0 = .ok (.lload_n 1, 1) := dk_31 (dk_at dksX3_plus_0 0 rfl rfl)
theorem dX3_plus_1 : decode cX3_plus 1 = .ok (.lload_n 3, 1) := dk_33 (dk_at dksX3_plus_0 1 rfl rfl)
theorem dX3_plus_2 : decode cX3_plus 2 = .ok (.lor, 1) := dk_129 (dk_at dksX3_plus_0 2 rfl rfl)
theorem dX3_plus_3 : decode cX3_plus 3 = .ok (.lconst 0, 1) := dk_9 (dk_at dksX3_plus_0 3 rfl rfl)
theorem dX3_plus_4 : decode cX3_plus 4 = .ok (.lcmp, 1) := dk_148 (dk_at dksX3_plus_0 4 rfl rfl)
theorem dX3_plus_5 : decode cX3_plus 5 = .ok (.ifCond .ne 5, 3) := dk_154 0 5 (dk_at dksX3_plus_0 5 rfl rfl)
theorem dX3_plus_8 : decode cX3_plus 8 = .ok (.aload_n 0, 1) := dk_42 (dk_at dksX3_plus_0 8 rfl rfl)
theorem dX3_plus_9 : decode cX3_plus 9 = .ok (.areturn, 1) := dk_176 (dk_at dksX3_plus_0 9 rfl rfl)
theorem dX3_plus_10 : decode cX3_plus 10 = .ok (.aload_n 0, 1) := dk_42 (dk_at dksX3_plus_0 10 rfl rfl)
theorem dX3_plus_11 : decode cX3_plus 11 = .ok (.getfield 50, 3) := dk_180 0 50 (dk_at dksX3_plus_0 11 rfl rfl)
theorem dX3_plus_14 : decode cX3_plus 14 = .ok (.lload_n 1, 1) := dk_31 (dk_at dksX3_plus_0 14 rfl rfl)
theorem dX3_plus_15 : decode cX3_plus 15 = .ok (.invokestatic 11, 3) := dk_184 0 11 (dk_at dksX3_plus_0 15 rfl rfl)
theorem dX3_plus_18 : decode cX3_plus 18 = .ok (.lstore 5, 2) := dk_55 5 (dk_at dksX3_plus_0 18 rfl rfl)
theorem dX3_plus_20 : decode cX3_plus 20 = .ok (.lload 5, 2) := dk_22 5 (dk_at dksX3_plus_0 20 rfl rfl)
theorem dX3_plus_22 : decode cX3_plus 22 = .ok (.lload_n 3, 1) := dk_33 (dk_at dksX3_plus_0 22 rfl rfl)
theorem dX3_plus_23 : decode cX3_plus 23 = .ok (.ldc2_w 3, 3) := dk_20 0 3 (dk_at dksX3_plus_1 0 rfl rfl)
theorem dX3_plus_26 : decode cX3_plus 26 = .ok (.ldiv, 1) := dk_109 (dk_at dksX3_plus_1 3 rfl rfl)
theorem dX3_plus_27 : decode cX3_plus 27 = .ok (.invokestatic 11, 3) := dk_184 0 11 (dk_at dksX3_plus_1 4 rfl rfl)
theorem dX3_plus_30 : decode cX3_plus 30 = .ok (.lstore 5, 2) := dk_55 5 (dk_at dksX3_plus_1 7 rfl rfl)
theorem dX3_plus_32 : decode cX3_plus 32 = .ok (.lload_n 3, 1) := dk_33 (dk_at dksX3_plus_1 9 rfl rfl)
theorem dX3_plus_33 : decode cX3_plus 33 = .ok (.ldc2_w 3, 3) := dk_20 0 3 (dk_at dksX3_plus_1 10 rfl rfl)
theorem dX3_plus_36 : decode cX3_plus 36 = .ok (.lrem, 1) := dk_113 (dk_at dksX3_plus_1 13 rfl rfl)
theorem dX3_plus_37 : decode cX3_plus 37 = .ok (.lstore_n 3, 1) := dk_66 (dk_at dksX3_plus_1 14 rfl rfl)
theorem dX3_plus_38 : decode cX3_plus 38 = .ok (.aload_n 0, 1) := dk_42 (dk_at dksX3_plus_1 15 rfl rfl)
theorem dX3_plus_39 : decode cX3_plus 39 = .ok (.getfield 54, 3) := dk_180 0 54 (dk_at dksX3_plus_1 16 rfl rfl)
theorem dX3_plus_42 : decode cX3_plus 42 = .ok (.i2l, 1) := dk_133 (dk_at dksX3_plus_1 19 rfl rfl)
theorem dX3_plus_43 : decode cX3_plus 43 = .ok (.lload_n 3, 1) := dk_33 (dk_at dksX3_plus_1 20 rfl rfl)
theorem dX3_plus_44 : decode cX3_plus 44 = .ok (.ladd, 1) := dk_97 (dk_at dksX3_plus_1 21 rfl rfl)
theorem dX3_plus_45 : decode cX3_plus 45 = .ok (.lstore 7, 2) := dk_55 7 (dk_at dksX3_plus_1 22 rfl rfl)
theorem dX3_plus_47 : decode cX3_plus 47 = .ok (.lload 5, 2) := dk_22 5 (dk_at dksX3_plus_2 0 rfl rfl)
theorem dX3_plus_49 : decode cX3_plus 49 = .ok (.lload 7, 2) := dk_22 7 (dk_at dksX3_plus_2 2 rfl rfl)
theorem dX3_plus_51 : decode cX3_plus 51 = .ok (.invokestatic 64, 3) := dk_184 0 64 (dk_at dksX3_plus_2 4 rfl rfl)
theorem dX3_plus_54 : decode cX3_plus 54 = .ok (.areturn, 1) := dk_176 (dk_at dksX3_plus_2 7 rfl rfl)
abbrev cX3_plusMillis : ByteArray := prog_3_method_8_code
def yX3_plusMillis : MethodName := ⟨RX3, "plusMillis", "(J)LInstant;"⟩
def dkwX3_plusMillis_0 : List UInt8 := [42, 31, 20, 0, 23, 109, 31, 20, 0, 23, 113, 20, 0, 62, 105, 182, 0, 58, 176]
abbrev dktX3_plusMillis_0 : List UInt8 := dkwX3_plusMillis_0 ++ []
theorem dksX3_plusMillis_0 : cX3_plusMillis.data.toList.drop 0 = dktX3_plusMillis_0 := by decide +kernel
theorem dX3_plusMillis_0 : decode cX3_plusMillis 0 = .ok (.aload_n 0, 1) := dk_42 (dk_at dksX3_plusMillis_0 0 rfl rfl)
theorem dX3_plusMillis_1 : decode cX3_plusMillis 1 = .ok (.lload_n 1, 1) := dk_31 (dk_at dksX3_plusMillis_0 1 rfl rfl)
theorem dX3_plusMillis_2 : decode cX3_plusMillis 2 = .ok (.ldc2_w 23, 3) := dk_20 0 23 (dk_at dksX3_plusMillis_0 2 rfl rfl)
theorem dX3_plusMillis_5 : decode cX3_plusMillis 5 = .ok (.ldiv, 1) := dk_109 (dk_at dksX3_plusMillis_0 5 rfl rfl)
theorem dX3_plusMillis_6 : decode cX3_plusMillis 6 = .ok (.lload_n 1, 1) := dk_31 (dk_at dksX3_plusMillis_0 6 rfl rfl)
theorem dX3_plusMillis_7 : decode cX3_plusMillis 7 = .ok (.ldc2_w 23, 3) := dk_20 0 23 (dk_at dksX3_plusMillis_0 7 rfl rfl)
theorem dX3_plusMillis_10 : decode cX3_plusMillis 10 = .ok (.lrem, 1) := dk_113 (dk_at dksX3_plusMillis_0 10 rfl rfl)
theorem dX3_plusMillis_11 : decode cX3_plusMillis 11 = .ok (.ldc2_w 62, 3) := dk_20 0 62 (dk_at dksX3_plusMillis_0 11 rfl rfl)
theorem dX3_plusMillis_14 : decode cX3_plusMillis 14 = .ok (.lmul, 1) := dk_105 (dk_at dksX3_plusMillis_0 14 rfl rfl)
theorem dX3_plusMillis_15 : decode cX3_plusMillis 15 = .ok (.invokevirtual 58, 3) := dk_182 0 58 (dk_at dksX3_plusMillis_0 15 rfl rfl)
theorem dX3_plusMillis_18 : decode cX3_plusMillis 18 = .ok (.areturn, 1) := dk_176 (dk_at dksX3_plusMillis_0 18 rfl rfl)
abbrev cX3_plusNanos : ByteArray := prog_3_method_9_code
def yX3_plusNanos : MethodName := ⟨RX3, "plusNanos", "(J)LInstant;"⟩
def dkwX3_plusNanos_0 : List UInt8 := [42, 9, 31, 182, 0, 58, 176]
abbrev dktX3_plusNanos_0 : List UInt8 := dkwX3_plusNanos_0 ++ []
theorem dksX3_plusNanos_0 : cX3_plusNanos.data.toList.drop 0 = dktX3_plusNanos_0 := by decide +kernel
theorem dX3_plusNanos_0 : decode cX3_plusNanos 0 = .ok (.aload_n 0, 1) := dk_42 (dk_at dksX3_plusNanos_0 0 rfl rfl)
theorem dX3_plusNanos_1 : decode cX3_plusNanos 1 = .ok (.lconst 0, 1) := dk_9 (dk_at dksX3_plusNanos_0 1 rfl rfl)
theorem dX3_plusNanos_2 : decode cX3_plusNanos 2 = .ok (.lload_n 1, 1) := dk_31 (dk_at dksX3_plusNanos_0 2 rfl rfl)
theorem dX3_plusNanos_3 : decode cX3_plusNanos 3 = .ok (.invokevirtual 58, 3) := dk_182 0 58 (dk_at dksX3_plusNanos_0 3 rfl rfl)
theorem dX3_plusNanos_6 : decode cX3_plusNanos 6 = .ok (.areturn, 1) := dk_176 (dk_at dksX3_plusNanos_0 6 rfl rfl)
abbrev cX3_ofEpochMilli : ByteArray := prog_3_method_2_code
def yX3_ofEpochMilli : MethodName := ⟨RX3, "ofEpochMilli", "(J)LInstant;"⟩
def dkwX3_ofEpochMilli_1 : List UInt8 := [184, 0, 19, 176]
abbrev dktX3_ofEpochMilli_1 : List UInt8 := dkwX3_ofEpochMilli_1 ++ []
def dkwX3_ofEpochMilli_0 : List UInt8 := [30, 20, 0, 23, 184, 0, 5, 65, 30, 17, 3, 232, 184, 0, 15, 54, 4, 32, 21, 4, 18, 25, 104]
abbrev dktX3_ofEpochMilli_0 : List UInt8 := dkwX3_ofEpochMilli_0 ++ dktX3_ofEpochMilli_1
theorem dksX3_ofEpochMilli_0 : cX3_ofEpochMilli.data.toList.drop 0 = dktX3_ofEpochMilli_0 := by decide +kernel
theorem dksX3_ofEpochMilli_1 : cX3_ofEpochMilli.data.toList.drop 23 = dktX3_ofEpochMilli_1 := dk_seg dksX3_ofEpochMilli_0 23 rfl rfl
theorem dX3_ofEpochMilli_0 : decode cX3_ofEpochMilli 0 = .ok (.lload_n 0, 1) := dk_30 (dk_at dksX3_ofEpochMilli_0 0 rfl rfl)
theorem dX3_ofEpochMilli_1 : decode cX3_ofEpochMilli 1 = .ok (.ldc2_w 23, 3) := dk_20 0 23 (dk_at dksX3_ofEpochMilli_0 1 rfl rfl)
theorem dX3_ofEpochMilli_4 : decode cX3_ofEpochMilli 4 = .ok (.invokestatic 5, 3) := dk_184 0 5 (dk_at dksX3_ofEpochMilli_0 4 rfl rfl)
theorem dX3_ofEpochMilli_7 : decode cX3_ofEpochMilli 7 = .ok (.lstore_n 2, 1) := dk_65 (dk_at dksX3_ofEpochMilli_0 7 rfl rfl)
theorem dX3_ofEpochMilli_8 : decode cX3_ofEpochMilli 8 = .ok (.lload_n 0, 1) := dk_30 (dk_at dksX3_ofEpochMilli_0 8 rfl rfl)
theorem dX3_ofEpochMilli_9 : decode cX3_ofEpochMilli 9 = .ok (.sipush 1000, 3) := dk_17 3 232 (dk_at dksX3_ofEpochMilli_0 9 rfl rfl)
theorem dX3_ofEpochMilli_12 : decode cX3_ofEpochMilli 12 = .ok (.invokestatic 15, 3) := dk_184 0 15 (dk_at dksX3_ofEpochMilli_0 12 rfl rfl)
theorem dX3_ofEpochMilli_15 : decode cX3_ofEpochMilli 15 = .ok (.istore 4, 2) := dk_54 4 (dk_at dksX3_ofEpochMilli_0 15 rfl rfl)
theorem dX3_ofEpochMilli_17 : decode cX3_ofEpochMilli 17 = .ok (.lload_n 2, 1) := dk_32 (dk_at dksX3_ofEpochMilli_0 17 rfl rfl)
theorem dX3_ofEpochMilli_18 : decode cX3_ofEpochMilli 18 = .ok (.iload 4, 2) := dk_21 4 (dk_at dksX3_ofEpochMilli_0 18 rfl rfl)
theorem dX3_ofEpochMilli_20 : decode cX3_ofEpochMilli 20 = .ok (.ldc 25, 2) := dk_18 25 (dk_at dksX3_ofEpochMilli_0 20 rfl rfl)
theorem dX3_ofEpochMilli_22 : decode cX3_ofEpochMilli 22 = .ok (.imul, 1) := dk_104 (dk_at dksX3_ofEpochMilli_0 22 rfl rfl)
theorem dX3_ofEpochMilli_23 : decode cX3_ofEpochMilli 23 = .ok (.invokestatic 19, 3) := dk_184 0 19 (dk_at dksX3_ofEpochMilli_1 0 rfl rfl)
theorem dX3_ofEpochMilli_26 : decode cX3_ofEpochMilli 26 = .ok (.areturn, 1) := dk_176 (dk_at dksX3_ofEpochMilli_1 3 rfl rfl)
abbrev cX3_getNano : ByteArray := prog_3_method_6_code
def yX3_getNano : MethodName := ⟨RX3, "getNano", "()I"⟩
theorem dX3_getNano_0 : decode cX3_getNano 0 = .ok (.aload_n 0, 1) := by decide +kernel
theorem dX3_getNano_1 : decode cX3_getNano 1 = .ok (.getfield 54, 3) := by decide +kernel
theorem dX3_getNano_4 : decode cX3_getNano 4 = .ok (.ireturn, 1) := by decide +kernel
abbrev cX3_toEpochMilli : ByteArray := prog_3_method_11_code
def yX3_toEpochMilli : MethodName := ⟨RX3, "toEpochMilli", "()J"⟩
def dkwX3_toEpochMilli_2 : List UInt8 := [31, 20, 0, 23, 42, 180, 0, 54, 18, 25, 108, 133, 101, 184, 0, 70, 173]
abbrev dktX3_toEpochMilli_2 : List UInt8 := dkwX3_toEpochMilli_2 ++ []
def dkwX3_toEpochMilli_1 : List UInt8 := [180, 0, 54, 18, 25, 108, 133, 184, 0, 11, 173, 42, 180, 0, 50, 10, 97, 20, 0, 23, 184, 0, 67, 64]
abbrev dktX3_toEpochMilli_1 : List UInt8 := dkwX3_toEpochMilli_1 ++ dktX3_toEpochMilli_2
def dkwX3_toEpochMilli_0 : List UInt8 := [42, 180, 0, 50, 9, 148, 155, 0, 27, 42, 180, 0, 50, 20, 0, 23, 184, 0, 67, 64, 31, 42]
abbrev dktX3_toEpochMilli_0 : List UInt8 := dkwX3_toEpochMilli_0 ++ dktX3_toEpochMilli_1
theorem dksX3_toEpochMilli_0 : cX3_toEpochMilli.data.toList.drop 0 = dktX3_toEpochMilli_0 := by decide +kernel
theorem dksX3_toEpochMilli_1 : cX3_toEpochMilli.data.toList.drop 22 = dktX3_toEpochMilli_1 := dk_seg dksX3_toEpochMilli_0 22 rfl rfl
theorem dksX3_toEpochMilli_2 : cX3_toEpochMilli.data.toList.drop 46 = dktX3_toEpochMilli_2 := dk_seg dksX3_toEpochMilli_1 24 rfl rfl
theorem dX3_toEpochMilli_0 : decode cX3_toEpochMilli 0 = .ok (.aload_n 0, 1) := dk_42 (dk_at dksX3_toEpochMilli_0 0 rfl rfl)
theorem dX3_toEpochMilli_1 : decode cX3_toEpochMilli 1 = .ok (.getfield 50, 3) := dk_180 0 50 (dk_at dksX3_toEpochMilli_0 1 rfl rfl)
theorem dX3_toEpochMilli_4 : decode cX3_toEpochMilli 4 = .ok (.lconst 0, 1) := dk_9 (dk_at dksX3_toEpochMilli_0 4 rfl rfl)
theorem dX3_toEpochMilli_5 : decode cX3_toEpochMilli 5 = .ok (.lcmp, 1) := dk_148 (dk_at dksX3_toEpochMilli_0 5 rfl rfl)
theorem dX3_toEpochMilli_6 : decode cX3_toEpochMilli 6 = .ok (.ifCond .lt 27, 3) := dk_155 0 27 (dk_at dksX3_toEpochMilli_0 6 rfl rfl)
theorem dX3_toEpochMilli_9 : decode cX3_toEpochMilli 9 = .ok (.aload_n 0, 1) := dk_42 (dk_at dksX3_toEpochMilli_0 9 rfl rfl)
theorem dX3_toEpochMilli_10 : decode cX3_toEpochMilli 10 = .ok (.getfield 50, 3) := dk_180 0 50 (dk_at dksX3_toEpochMilli_0 10 rfl rfl)
theorem dX3_toEpochMilli_13 : decode cX3_toEpochMilli 13 = .ok (.ldc2_w 23, 3) := dk_20 0 23 (dk_at dksX3_toEpochMilli_0 13 rfl rfl)
theorem dX3_toEpochMilli_16 : decode cX3_toEpochMilli 16 = .ok (.invokestatic 67, 3) := dk_184 0 67 (dk_at dksX3_toEpochMilli_0 16 rfl rfl)
theorem dX3_toEpochMilli_19 : decode cX3_toEpochMilli 19 = .ok (.lstore_n 1, 1) := dk_64 (dk_at dksX3_toEpochMilli_0 19 rfl rfl)
theorem dX3_toEpochMilli_20 : decode cX3_toEpochMilli 20 = .ok (.lload_n 1, 1) := dk_31 (dk_at dksX3_toEpochMilli_0 20 rfl rfl)
theorem dX3_toEpochMilli_21 : decode cX3_toEpochMilli 21 = .ok (.aload_n 0, 1) := dk_42 (dk_at dksX3_toEpochMilli_0 21 rfl rfl)
theorem dX3_toEpochMilli_22 : decode cX3_toEpochMilli 22 = .ok (.getfield 54, 3) := dk_180 0 54 (dk_at dksX3_toEpochMilli_1 0 rfl rfl)
theorem dX3_toEpochMilli_25 : decode cX3_toEpochMilli 25 = .ok (.ldc 25, 2) := dk_18 25 (dk_at dksX3_toEpochMilli_1 3 rfl rfl)
theorem dX3_toEpochMilli_27 : decode cX3_toEpochMilli 27 = .ok (.idiv, 1) := dk_108 (dk_at dksX3_toEpochMilli_1 5 rfl rfl)
theorem dX3_toEpochMilli_28 : decode cX3_toEpochMilli 28 = .ok (.i2l, 1) := dk_133 (dk_at dksX3_toEpochMilli_1 6 rfl rfl)
theorem dX3_toEpochMilli_29 : decode cX3_toEpochMilli 29 = .ok (.invokestatic 11, 3) := dk_184 0 11 (dk_at dksX3_toEpochMilli_1 7 rfl rfl)
theorem dX3_toEpochMilli_32 : decode cX3_toEpochMilli 32 = .ok (.lreturn, 1) := dk_173 (dk_at dksX3_toEpochMilli_1 10 rfl rfl)
theorem dX3_toEpochMilli_33 : decode cX3_toEpochMilli 33 = .ok (.aload_n 0, 1) := dk_42 (dk_at dksX3_toEpochMilli_1 11 rfl rfl)
theorem dX3_toEpochMilli_34 : decode cX3_toEpochMilli 34 = .ok (.getfield 50, 3) := dk_180 0 50 (dk_at dksX3_toEpochMilli_1 12 rfl rfl)
theorem dX3_toEpochMilli_37 : decode cX3_toEpochMilli 37 = .ok (.lconst 1, 1) := dk_10 (dk_at dksX3_toEpochMilli_1 15 rfl rfl)
theorem dX3_toEpochMilli_38 : decode cX3_toEpochMilli 38 = .ok (.ladd, 1) := dk_97 (dk_at dksX3_toEpochMilli_1 16 rfl rfl)
theorem dX3_toEpochMilli_39 : decode cX3_toEpochMilli 39 = .ok (.ldc2_w 23, 3) := dk_20 0 23 (dk_at dksX3_toEpochMilli_1 17 rfl rfl)
theorem dX3_toEpochMilli_42 : decode cX3_toEpochMilli 42 = .ok (.invokestatic 67, 3) := dk_184 0 67 (dk_at dksX3_toEpochMilli_1 20 rfl rfl)
theorem dX3_toEpochMilli_45 : decode cX3_toEpochMilli 45 = .ok (.lstore_n 1, 1) := dk_64 (dk_at dksX3_toEpochMilli_1 23 rfl rfl)
theorem dX3_toEpochMilli_46 : decode cX3_toEpochMilli 46 = .ok (.lload_n 1, 1) := dk_31 (dk_at dksX3_toEpochMilli_2 0 rfl rfl)
theorem dX3_toEpochMilli_47 : decode cX3_toEpochMilli 47 = .ok (.ldc2_w 23, 3) := dk_20 0 23 (dk_at dksX3_toEpochMilli_2 1 rfl rfl)
theorem dX3_toEpochMilli_50 : decode cX3_toEpochMilli 50 = .ok (.aload_n 0, 1) := dk_42 (dk_at dksX3_toEpochMilli_2 4 rfl rfl)
theorem dX3_toEpochMilli_51 : decode cX3_toEpochMilli 51 = .ok (.getfield 54, 3) := dk_180 0 54 (dk_at dksX3_toEpochMilli_2 5 rfl rfl)
theorem dX3_toEpochMilli_54 : decode cX3_toEpochMilli 54 = .ok (.ldc 25, 2) := dk_18 25 (dk_at dksX3_toEpochMilli_2 8 rfl rfl)
theorem dX3_toEpochMilli_56 : decode cX3_toEpochMilli 56 = .ok (.idiv, 1) := dk_108 (dk_at dksX3_toEpochMilli_2 10 rfl rfl)
theorem dX3_toEpochMilli_57 : decode cX3_toEpochMilli 57 = .ok (.i2l, 1) := dk_133 (dk_at dksX3_toEpochMilli_2 11 rfl rfl)
theorem dX3_toEpochMilli_58 : decode cX3_toEpochMilli 58 = .ok (.lsub, 1) := dk_101 (dk_at dksX3_toEpochMilli_2 12 rfl rfl)
theorem dX3_toEpochMilli_59 : decode cX3_toEpochMilli 59 = .ok (.invokestatic 70, 3) := dk_184 0 70 (dk_at dksX3_toEpochMilli_2 13 rfl rfl)
theorem dX3_toEpochMilli_62 : decode cX3_toEpochMilli 62 = .ok (.lreturn, 1) := dk_173 (dk_at dksX3_toEpochMilli_2 16 rfl rfl)
abbrev cX3_compareTo : ByteArray := prog_3_method_12_code
def yX3_compareTo : MethodName := ⟨RX3, "compareTo", "(LInstant;)I"⟩
def dkwX3_compareTo_1 : List UInt8 := [180, 0, 54, 100, 172]
abbrev dktX3_compareTo_1 : List UInt8 := dkwX3_compareTo_1 ++ []
def dkwX3_compareTo_0 : List UInt8 := [42, 180, 0, 50, 43, 180, 0, 50, 184, 0, 73, 61, 28, 153, 0, 5, 28, 172, 42, 180, 0, 54, 43]
abbrev dktX3_compareTo_0 : List UInt8 := dkwX3_compareTo_0 ++ dktX3_compareTo_1
theorem dksX3_compareTo_0 : cX3_compareTo.data.toList.drop 0 = dktX3_compareTo_0 := by decide +kernel
theorem dksX3_compareTo_1 : cX3_compareTo.data.toList.drop 23 = dktX3_compareTo_1 := dk_seg dksX3_compareTo_0 23 rfl rfl
theorem dX3_compareTo_0 : decode cX3_compareTo 0 = .ok (.aload_n 0, 1) := dk_42 (dk_at dksX3_compareTo_0 0 rfl rfl)
theorem dX3_compareTo_1 : decode cX3_compareTo 1 = .ok (.getfield 50, 3) := dk_180 0 50 (dk_at dksX3_compareTo_0 1 rfl rfl)
theorem dX3_compareTo_4 : decode cX3_compareTo 4 = .ok (.aload_n 1, 1) := dk_43 (dk_at dksX3_compareTo_0 4 rfl rfl)
theorem dX3_compareTo_5 : decode cX3_compareTo 5 = .ok (.getfield 50, 3) := dk_180 0 50 (dk_at dksX3_compareTo_0 5 rfl rfl)
theorem dX3_compareTo_8 : decode cX3_compareTo 8 = .ok (.invokestatic 73, 3) := dk_184 0 73 (dk_at dksX3_compareTo_0 8 rfl rfl)
theorem dX3_compareTo_11 : decode cX3_compareTo 11 = .ok (.istore_n 2, 1) := dk_61 (dk_at dksX3_compareTo_0 11 rfl rfl)
theorem dX3_compareTo_12 : decode cX3_compareTo 12 = .ok (.iload_n 2, 1) := dk_28 (dk_at dksX3_compareTo_0 12 rfl rfl)
theorem dX3_compareTo_13 : decode cX3_compareTo 13 = .ok (.ifCond .eq 5, 3) := dk_153 0 5 (dk_at dksX3_compareTo_0 13 rfl rfl)
theorem dX3_compareTo_16 : decode cX3_compareTo 16 = .ok (.iload_n 2, 1) := dk_28 (dk_at dksX3_compareTo_0 16 rfl rfl)
theorem dX3_compareTo_17 : decode cX3_compareTo 17 = .ok (.ireturn, 1) := dk_172 (dk_at dksX3_compareTo_0 17 rfl rfl)
theorem dX3_compareTo_18 : decode cX3_compareTo 18 = .ok (.aload_n 0, 1) := dk_42 (dk_at dksX3_compareTo_0 18 rfl rfl)
theorem dX3_compareTo_19 : decode cX3_compareTo 19 = .ok (.getfield 54, 3) := dk_180 0 54 (dk_at dksX3_compareTo_0 19 rfl rfl)
theorem dX3_compareTo_22 : decode cX3_compareTo 22 = .ok (.aload_n 1, 1) := dk_43 (dk_at dksX3_compareTo_0 22 rfl rfl)
theorem dX3_compareTo_23 : decode cX3_compareTo 23 = .ok (.getfield 54, 3) := dk_180 0 54 (dk_at dksX3_compareTo_1 0 rfl rfl)
theorem dX3_compareTo_26 : decode cX3_compareTo 26 = .ok (.isub, 1) := dk_100 (dk_at dksX3_compareTo_1 3 rfl rfl)
theorem dX3_compareTo_27 : decode cX3_compareTo 27 = .ok (.ireturn, 1) := dk_172 (dk_at dksX3_compareTo_1 4 rfl rfl)
abbrev cX3_isBefore : ByteArray := prog_3_method_14_code
def yX3_isBefore : MethodName := ⟨RX3, "isBefore", "(LInstant;)Z"⟩
def dkwX3_isBefore_0 : List UInt8 := [42, 43, 182, 0, 77, 156, 0, 7, 4, 167, 0, 4, 3, 172]
abbrev dktX3_isBefore_0 : List UInt8 := dkwX3_isBefore_0 ++ []
theorem dksX3_isBefore_0 : cX3_isBefore.data.toList.drop 0 = dktX3_isBefore_0 := by decide +kernel
theorem dX3_isBefore_0 : decode cX3_isBefore 0 = .ok (.aload_n 0, 1) := dk_42 (dk_at dksX3_isBefore_0 0 rfl rfl)
theorem dX3_isBefore_1 : decode cX3_isBefore 1 = .ok (.aload_n 1, 1) := dk_43 (dk_at dksX3_isBefore_0 1 rfl rfl)
theorem dX3_isBefore_2 : decode cX3_isBefore 2 = .ok (.invokevirtual 77, 3) := dk_182 0 77 (dk_at dksX3_isBefore_0 2 rfl rfl)
theorem dX3_isBefore_5 : decode cX3_isBefore 5 = .ok (.ifCond .ge 7, 3) := dk_156 0 7 (dk_at dksX3_isBefore_0 5 rfl rfl)
theorem dX3_isBefore_8 : decode cX3_isBefore 8 = .ok (.iconst 1, 1) := dk_4 (dk_at dksX3_isBefore_0 8 rfl rfl)
theorem dX3_isBefore_9 : decode cX3_isBefore 9 = .ok (.goto 4, 3) := dk_167 0 4 (dk_at dksX3_isBefore_0 9 rfl rfl)
theorem dX3_isBefore_12 : decode cX3_isBefore 12 = .ok (.iconst 0, 1) := dk_3 (dk_at dksX3_isBefore_0 12 rfl rfl)
theorem dX3_isBefore_13 : decode cX3_isBefore 13 = .ok (.ireturn, 1) := dk_172 (dk_at dksX3_isBefore_0 13 rfl rfl)
abbrev cX3_isAfter : ByteArray := prog_3_method_13_code
def yX3_isAfter : MethodName := ⟨RX3, "isAfter", "(LInstant;)Z"⟩
def dkwX3_isAfter_0 : List UInt8 := [42, 43, 182, 0, 77, 158, 0, 7, 4, 167, 0, 4, 3, 172]
abbrev dktX3_isAfter_0 : List UInt8 := dkwX3_isAfter_0 ++ []
theorem dksX3_isAfter_0 : cX3_isAfter.data.toList.drop 0 = dktX3_isAfter_0 := by decide +kernel
theorem dX3_isAfter_0 : decode cX3_isAfter 0 = .ok (.aload_n 0, 1) := dk_42 (dk_at dksX3_isAfter_0 0 rfl rfl)
theorem dX3_isAfter_1 : decode cX3_isAfter 1 = .ok (.aload_n 1, 1) := dk_43 (dk_at dksX3_isAfter_0 1 rfl rfl)
theorem dX3_isAfter_2 : decode cX3_isAfter 2 = .ok (.invokevirtual 77, 3) := dk_182 0 77 (dk_at dksX3_isAfter_0 2 rfl rfl)
theorem dX3_isAfter_5 : decode cX3_isAfter 5 = .ok (.ifCond .le 7, 3) := dk_158 0 7 (dk_at dksX3_isAfter_0 5 rfl rfl)
theorem dX3_isAfter_8 : decode cX3_isAfter 8 = .ok (.iconst 1, 1) := dk_4 (dk_at dksX3_isAfter_0 8 rfl rfl)
theorem dX3_isAfter_9 : decode cX3_isAfter 9 = .ok (.goto 4, 3) := dk_167 0 4 (dk_at dksX3_isAfter_0 9 rfl rfl)
theorem dX3_isAfter_12 : decode cX3_isAfter 12 = .ok (.iconst 0, 1) := dk_3 (dk_at dksX3_isAfter_0 12 rfl rfl)
theorem dX3_isAfter_13 : decode cX3_isAfter 13 = .ok (.ireturn, 1) := dk_172 (dk_at dksX3_isAfter_0 13 rfl rfl)
theorem q5 : (Jvm.Cond.initialized "Instant") ∈ lw_all := lw_g (lw_at lw_m1 3 rfl) rfl
theorem q23 : (Jvm.Cond.static ({ cls := "Instant", name := "ofEpochSecond", desc := "(JJ)LInstant;" } : Jvm.MethodName)) ∈ lw_all := lw_g (lw_at lw_m1 21 rfl) rfl
theorem q24 : (Jvm.Cond.code ({ cls := "Instant", name := "ofEpochSecond", desc := "(JJ)LInstant;" } : Jvm.MethodName) prog_3_method_1_code (7 : Nat) (Option.some (Jvm.ClassFile.FieldType.object "Instant"))) ∈ lw_all := lw_g (lw_at lw_m1 22 rfl) rfl
theorem q25 : (Jvm.Cond.constantLong "Instant" (3 : Nat) (1000000000 : Int64)) ∈ lw_all := lw_g (lw_at lw_m1 23 rfl) rfl
theorem q26 : (Jvm.Cond.methodLink "Instant" (5 : Nat) ({ cls := "Jdk8Methods", name := "floorDiv", desc := "(JJ)J" } : Jvm.MethodName)) ∈ lw_all := lw_g (lw_at lw_m1 24 rfl) rfl
theorem q29 : (Jvm.Cond.methodLink "Instant" (11 : Nat) ({ cls := "Jdk8Methods", name := "safeAdd", desc := "(JJ)J" } : Jvm.MethodName)) ∈ lw_all := lw_g (lw_at lw_m1 27 rfl) rfl
theorem q99 : (Jvm.Cond.constant "Instant" (14 : Nat) (1000000000 : Int32)) ∈ lw_all := lw_g (lw_at lw_m1 97 rfl) rfl
theorem q100 : (Jvm.Cond.methodLink "Instant" (15 : Nat) ({ cls := "Jdk8Methods", name := "floorMod", desc := "(JI)I" } : Jvm.MethodName)) ∈ lw_all := lw_g (lw_at lw_m1 98 rfl) rfl
theorem q103 : (Jvm.Cond.methodLink "Instant" (19 : Nat) ({ cls := "Instant", name := "create", desc := "(JI)LInstant;" } : Jvm.MethodName)) ∈ lw_all := lw_g (lw_at lw_m1 101 rfl) rfl
theorem q104 : (Jvm.Cond.static ({ cls := "Instant", name := "create", desc := "(JI)LInstant;" } : Jvm.MethodName)) ∈ lw_all := lw_g (lw_at lw_m1 102 rfl) rfl
theorem q105 : (Jvm.Cond.code ({ cls := "Instant", name := "create", desc := "(JI)LInstant;" } : Jvm.MethodName) prog_3_method_3_code (3 : Nat) (Option.some (Jvm.ClassFile.FieldType.object "Instant"))) ∈ lw_all := lw_g (lw_at lw_m1 103 rfl) rfl
theorem q106 : (Jvm.Cond.fieldLink "Instant" (26 : Nat) "Instant" "EPOCH" "LInstant;") ∈ lw_all := lw_g (lw_at lw_m1 104 rfl) rfl
theorem q107 : (Jvm.Cond.laysStatic "Instant" "EPOCH" "LInstant;") ∈ lw_tbl := lw_at lw_m1 105 rfl
theorem q108 : (Jvm.Cond.constantLong "Instant" (30 : Nat) (-31557014167219200 : Int64)) ∈ lw_all := lw_g (lw_at lw_m1 106 rfl) rfl
theorem q109 : (Jvm.Cond.constantLong "Instant" (32 : Nat) (31556889864403199 : Int64)) ∈ lw_all := lw_g (lw_at lw_m1 107 rfl) rfl
theorem q110 : (Jvm.Cond.classLink "Instant" (34 : Nat) "DateTimeException") ∈ lw_all := lw_g (lw_at lw_m1 108 rfl) rfl
theorem q119 : (Jvm.Cond.stringRef "Instant" (36 : Nat) "Instant exceeds minimum or maximum instant") ∈ lw_tbl := lw_at lw_m1 117 rfl
theorem q120 : (Jvm.Cond.methodLink "Instant" (38 : Nat) ({ cls := "DateTimeException", name := "<init>", desc := "(Ljava/lang/String;)V" } : Jvm.MethodName)) ∈ lw_all := lw_g (lw_at lw_m1 118 rfl) rfl
theorem q126 : (Jvm.Cond.classLink "Instant" (1 : Nat) "Instant") ∈ lw_all := lw_g (lw_at lw_m1 124 rfl) rfl
theorem q127 : (Jvm.Cond.instantiable "Instant" (2 : Nat)) ∈ lw_all := lw_g (lw_at lw_m1 125 rfl) rfl
theorem q128 : (Jvm.Cond.methodLink "Instant" (42 : Nat) ({ cls := "Instant", name := "<init>", desc := "(JI)V" } : Jvm.MethodName)) ∈ lw_all := lw_g (lw_at lw_m1 126 rfl) rfl
theorem q129 : (Jvm.Cond.instanceMethod ({ cls := "Instant", name := "<init>", desc := "(JI)V" } : Jvm.MethodName)) ∈ lw_all := lw_g (lw_at lw_m1 127 rfl) rfl
theorem q130 : (Jvm.Cond.code ({ cls := "Instant", name := "<init>", desc := "(JI)V" } : Jvm.MethodName) prog_3_method_4_code (4 : Nat) (Option.none : Option Jvm.ClassFile.FieldType)) ∈ lw_all := lw_g (lw_at lw_m1 128 rfl) rfl
theorem q131 : (Jvm.Cond.methodLink "Instant" (45 : Nat) ({ cls := "DefaultInterfaceTemporalAccessor", name := "<init>", desc := "()V" } : Jvm.MethodName)) ∈ lw_all := lw_g (lw_at lw_m1 129 rfl) rfl
theorem q135 : (Jvm.Cond.fieldLink "Instant" (50 : Nat) "Instant" "seconds" "J") ∈ lw_all := lw_g (lw_at lw_m1 133 rfl) rfl
theorem q136 : (Jvm.Cond.fieldLink "Instant" (54 : Nat) "Instant" "nanos" "I") ∈ lw_all := lw_g (lw_at lw_m1 134 rfl) rfl
theorem q137 : (Jvm.Cond.laysFinal "Instant" "Instant" "seconds" "J") ∈ lw_all := lw_g (lw_at lw_m1 135 rfl) rfl
theorem q138 : (Jvm.Cond.soleField "Instant" "seconds") ∈ lw_all := lw_g (lw_at lw_m1 136 rfl) rfl
theorem q139 : (Jvm.Cond.laysFinal "Instant" "Instant" "nanos" "I") ∈ lw_all := lw_g (lw_at lw_m1 137 rfl) rfl
theorem q140 : (Jvm.Cond.soleField "Instant" "nanos") ∈ lw_all := lw_g (lw_at lw_m1 138 rfl) rfl
theorem q141 : (Jvm.Cond.superclass "Instant" "DefaultInterfaceTemporalAccessor") ∈ lw_all := lw_g (lw_at lw_m1 139 rfl) rfl
theorem q160 : (Jvm.Cond.instanceMethod ({ cls := "Instant", name := "getEpochSecond", desc := "()J" } : Jvm.MethodName)) ∈ lw_all := lw_g (lw_at lw_m1 158 rfl) rfl
theorem q161 : (Jvm.Cond.selects "Instant" ({ cls := "Instant", name := "getEpochSecond", desc := "()J" } : Jvm.MethodName) ({ cls := "Instant", name := "getEpochSecond", desc := "()J" } : Jvm.MethodName)) ∈ lw_all := lw_g (lw_at lw_m1 159 rfl) rfl
theorem q162 : (Jvm.Cond.code ({ cls := "Instant", name := "getEpochSecond", desc := "()J" } : Jvm.MethodName) prog_3_method_5_code (1 : Nat) (Option.some Jvm.ClassFile.FieldType.long)) ∈ lw_all := lw_g (lw_at lw_m1 160 rfl) rfl
theorem q165 : (Jvm.Cond.instanceMethod ({ cls := "Instant", name := "plusSeconds", desc := "(J)LInstant;" } : Jvm.MethodName)) ∈ lw_all := lw_g (lw_at lw_m1 163 rfl) rfl
theorem q166 : (Jvm.Cond.selects "Instant" ({ cls := "Instant", name := "plusSeconds", desc := "(J)LInstant;" } : Jvm.MethodName) ({ cls := "Instant", name := "plusSeconds", desc := "(J)LInstant;" } : Jvm.MethodName)) ∈ lw_all := lw_g (lw_at lw_m1 164 rfl) rfl
theorem q167 : (Jvm.Cond.code ({ cls := "Instant", name := "plusSeconds", desc := "(J)LInstant;" } : Jvm.MethodName) prog_3_method_7_code (3 : Nat) (Option.some (Jvm.ClassFile.FieldType.object "Instant"))) ∈ lw_all := lw_g (lw_at lw_m1 165 rfl) rfl
theorem q168 : (Jvm.Cond.methodLink "Instant" (58 : Nat) ({ cls := "Instant", name := "plus", desc := "(JJ)LInstant;" } : Jvm.MethodName)) ∈ lw_all := lw_g (lw_at lw_m1 166 rfl) rfl
theorem q169 : (Jvm.Cond.privateMethod ({ cls := "Instant", name := "plus", desc := "(JJ)LInstant;" } : Jvm.MethodName)) ∈ lw_tbl := lw_at lw_m1 167 rfl
theorem q170 : (Jvm.Cond.instanceMethod ({ cls := "Instant", name := "plus", desc := "(JJ)LInstant;" } : Jvm.MethodName)) ∈ lw_all := lw_g (lw_at lw_m1 168 rfl) rfl
theorem q171 : (Jvm.Cond.code ({ cls := "Instant", name := "plus", desc := "(JJ)LInstant;" } : Jvm.MethodName) prog_3_method_10_code (9 : Nat) (Option.some (Jvm.ClassFile.FieldType.object "Instant"))) ∈ lw_all := lw_g (lw_at lw_m1 169 rfl) rfl
theorem q172 : (Jvm.Cond.methodLink "Instant" (64 : Nat) ({ cls := "Instant", name := "ofEpochSecond", desc := "(JJ)LInstant;" } : Jvm.MethodName)) ∈ lw_all := lw_g (lw_at lw_m1 170 rfl) rfl
theorem q178 : (Jvm.Cond.instanceMethod ({ cls := "Instant", name := "plusMillis", desc := "(J)LInstant;" } : Jvm.MethodName)) ∈ lw_all := lw_g (lw_at lw_m1 176 rfl) rfl
theorem q179 : (Jvm.Cond.selects "Instant" ({ cls := "Instant", name := "plusMillis", desc := "(J)LInstant;" } : Jvm.MethodName) ({ cls := "Instant", name := "plusMillis", desc := "(J)LInstant;" } : Jvm.MethodName)) ∈ lw_all := lw_g (lw_at lw_m1 177 rfl) rfl
theorem q180 : (Jvm.Cond.code ({ cls := "Instant", name := "plusMillis", desc := "(J)LInstant;" } : Jvm.MethodName) prog_3_method_8_code (3 : Nat) (Option.some (Jvm.ClassFile.FieldType.object "Instant"))) ∈ lw_all := lw_g (lw_at lw_m1 178 rfl) rfl
theorem q181 : (Jvm.Cond.constantLong "Instant" (23 : Nat) (1000 : Int64)) ∈ lw_all := lw_g (lw_at lw_m1 179 rfl) rfl
theorem q182 : (Jvm.Cond.constantLong "Instant" (62 : Nat) (1000000 : Int64)) ∈ lw_all := lw_g (lw_at lw_m1 180 rfl) rfl
theorem q188 : (Jvm.Cond.instanceMethod ({ cls := "Instant", name := "plusNanos", desc := "(J)LInstant;" } : Jvm.MethodName)) ∈ lw_all := lw_g (lw_at lw_m1 186 rfl) rfl
theorem q189 : (Jvm.Cond.selects "Instant" ({ cls := "Instant", name := "plusNanos", desc := "(J)LInstant;" } : Jvm.MethodName) ({ cls := "Instant", name := "plusNanos", desc := "(J)LInstant;" } : Jvm.MethodName)) ∈ lw_all := lw_g (lw_at lw_m1 187 rfl) rfl
theorem q190 : (Jvm.Cond.code ({ cls := "Instant", name := "plusNanos", desc := "(J)LInstant;" } : Jvm.MethodName) prog_3_method_9_code (3 : Nat) (Option.some (Jvm.ClassFile.FieldType.object "Instant"))) ∈ lw_all := lw_g (lw_at lw_m1 188 rfl) rfl
theorem q196 : (Jvm.Cond.static ({ cls := "Instant", name := "ofEpochMilli", desc := "(J)LInstant;" } : Jvm.MethodName)) ∈ lw_all := lw_g (lw_at lw_m1 194 rfl) rfl
theorem q197 : (Jvm.Cond.code ({ cls := "Instant", name := "ofEpochMilli", desc := "(J)LInstant;" } : Jvm.MethodName) prog_3_method_2_code (5 : Nat) (Option.some (Jvm.ClassFile.FieldType.object "Instant"))) ∈ lw_all := lw_g (lw_at lw_m1 195 rfl) rfl
theorem q198 : (Jvm.Cond.constant "Instant" (25 : Nat) (1000000 : Int32)) ∈ lw_all := lw_g (lw_at lw_m1 196 rfl) rfl
theorem q223 : (Jvm.Cond.instanceMethod ({ cls := "Instant", name := "getNano", desc := "()I" } : Jvm.MethodName)) ∈ lw_all := lw_g (lw_at lw_m1 221 rfl) rfl
theorem q224 : (Jvm.Cond.selects "Instant" ({ cls := "Instant", name := "getNano", desc := "()I" } : Jvm.MethodName) ({ cls := "Instant", name := "getNano", desc := "()I" } : Jvm.MethodName)) ∈ lw_all := lw_g (lw_at lw_m1 222 rfl) rfl
theorem q225 : (Jvm.Cond.code ({ cls := "Instant", name := "getNano", desc := "()I" } : Jvm.MethodName) prog_3_method_6_code (1 : Nat) (Option.some Jvm.ClassFile.FieldType.int)) ∈ lw_all := lw_g (lw_at lw_m1 223 rfl) rfl
theorem q233 : (Jvm.Cond.instanceMethod ({ cls := "Instant", name := "toEpochMilli", desc := "()J" } : Jvm.MethodName)) ∈ lw_all := lw_g (lw_at lw_m1 231 rfl) rfl
theorem q234 : (Jvm.Cond.selects "Instant" ({ cls := "Instant", name := "toEpochMilli", desc := "()J" } : Jvm.MethodName) ({ cls := "Instant", name := "toEpochMilli", desc := "()J" } : Jvm.MethodName)) ∈ lw_all := lw_g (lw_at lw_m1 232 rfl) rfl
theorem q235 : (Jvm.Cond.code ({ cls := "Instant", name := "toEpochMilli", desc := "()J" } : Jvm.MethodName) prog_3_method_11_code (3 : Nat) (Option.some Jvm.ClassFile.FieldType.long)) ∈ lw_all := lw_g (lw_at lw_m1 233 rfl) rfl
theorem q236 : (Jvm.Cond.methodLink "Instant" (67 : Nat) ({ cls := "Jdk8Methods", name := "safeMultiply", desc := "(JJ)J" } : Jvm.MethodName)) ∈ lw_all := lw_g (lw_at lw_m1 234 rfl) rfl
theorem q241 : (Jvm.Cond.methodLink "Instant" (70 : Nat) ({ cls := "Jdk8Methods", name := "safeSubtract", desc := "(JJ)J" } : Jvm.MethodName)) ∈ lw_all := lw_g (lw_at lw_m1 239 rfl) rfl
theorem q251 : (Jvm.Cond.instanceMethod ({ cls := "Instant", name := "compareTo", desc := "(LInstant;)I" } : Jvm.MethodName)) ∈ lw_all := lw_g (lw_at lw_m2 9 rfl) rfl
theorem q252 : (Jvm.Cond.selects "Instant" ({ cls := "Instant", name := "compareTo", desc := "(LInstant;)I" } : Jvm.MethodName) ({ cls := "Instant", name := "compareTo", desc := "(LInstant;)I" } : Jvm.MethodName)) ∈ lw_all := lw_g (lw_at lw_m2 10 rfl) rfl
theorem q253 : (Jvm.Cond.code ({ cls := "Instant", name := "compareTo", desc := "(LInstant;)I" } : Jvm.MethodName) prog_3_method_12_code (3 : Nat) (Option.some Jvm.ClassFile.FieldType.int)) ∈ lw_all := lw_g (lw_at lw_m2 11 rfl) rfl
theorem q254 : (Jvm.Cond.methodLink "Instant" (73 : Nat) ({ cls := "Jdk8Methods", name := "compareLongs", desc := "(JJ)I" } : Jvm.MethodName)) ∈ lw_all := lw_g (lw_at lw_m2 12 rfl) rfl
theorem q262 : (Jvm.Cond.instanceMethod ({ cls := "Instant", name := "isBefore", desc := "(LInstant;)Z" } : Jvm.MethodName)) ∈ lw_all := lw_g (lw_at lw_m2 20 rfl) rfl
theorem q263 : (Jvm.Cond.selects "Instant" ({ cls := "Instant", name := "isBefore", desc := "(LInstant;)Z" } : Jvm.MethodName) ({ cls := "Instant", name := "isBefore", desc := "(LInstant;)Z" } : Jvm.MethodName)) ∈ lw_all := lw_g (lw_at lw_m2 21 rfl) rfl
theorem q264 : (Jvm.Cond.code ({ cls := "Instant", name := "isBefore", desc := "(LInstant;)Z" } : Jvm.MethodName) prog_3_method_14_code (2 : Nat) (Option.some Jvm.ClassFile.FieldType.boolean)) ∈ lw_all := lw_g (lw_at lw_m2 22 rfl) rfl
theorem q265 : (Jvm.Cond.methodLink "Instant" (77 : Nat) ({ cls := "Instant", name := "compareTo", desc := "(LInstant;)I" } : Jvm.MethodName)) ∈ lw_all := lw_g (lw_at lw_m2 23 rfl) rfl
theorem q271 : (Jvm.Cond.instanceMethod ({ cls := "Instant", name := "isAfter", desc := "(LInstant;)Z" } : Jvm.MethodName)) ∈ lw_all := lw_g (lw_at lw_m2 29 rfl) rfl
theorem q272 : (Jvm.Cond.selects "Instant" ({ cls := "Instant", name := "isAfter", desc := "(LInstant;)Z" } : Jvm.MethodName) ({ cls := "Instant", name := "isAfter", desc := "(LInstant;)Z" } : Jvm.MethodName)) ∈ lw_all := lw_g (lw_at lw_m2 30 rfl) rfl
theorem q273 : (Jvm.Cond.code ({ cls := "Instant", name := "isAfter", desc := "(LInstant;)Z" } : Jvm.MethodName) prog_3_method_13_code (2 : Nat) (Option.some Jvm.ClassFile.FieldType.boolean)) ∈ lw_all := lw_g (lw_at lw_m2 31 rfl) rfl
theorem in_X3 : ∀ w ∈ wsX30, w ∈ lw_all := lw_in wsX30 [137, 139] (by decide +kernel) (by decide +kernel)
/-! InstantDesk -/
set_option maxRecDepth 100000
def RX1 : String := "InstantDesk"
def TX1 : u_T := fun k => match k with
  | _ => ("InstantDesk", "at", "[LInstant;", true)
def tyX1 : Nat → FieldType := fun k => match k with
  | _ => .array (.object "Instant")
abbrev wsX10 : List Cond := u_ws RX1 TX1 1
theorem nmX1 : ∀ a, a < 1 → ∀ b, b < 1 → a ≠ b → (TX1 a).2.1 ≠ (TX1 b).2.1 := by decide +kernel
theorem tyX1_ok : ∀ k, k < 1 → parseFieldDescriptor (TX1 k).2.2.1 = some (tyX1 k) := by decide +kernel
abbrev cX1_init : ByteArray := prog_4_method_1_code
def yX1_init : MethodName := ⟨RX1, "<init>", "()V"⟩
def dkwX1_init_1 : List UInt8 := [83, 181, 0, 13, 177]
abbrev dktX1_init_1 : List UInt8 := dkwX1_init_1 ++ []
def dkwX1_init_0 : List UInt8 := [42, 183, 0, 1, 42, 5, 189, 0, 7, 89, 3, 9, 9, 184, 0, 9, 83, 89, 4, 9, 9, 184, 0, 9]
abbrev dktX1_init_0 : List UInt8 := dkwX1_init_0 ++ dktX1_init_1
theorem dksX1_init_0 : cX1_init.data.toList.drop 0 = dktX1_init_0 := by decide +kernel
theorem dksX1_init_1 : cX1_init.data.toList.drop 24 = dktX1_init_1 := dk_seg dksX1_init_0 24 rfl rfl
theorem dX1_init_0 : decode cX1_init 0 = .ok (.aload_n 0, 1) := dk_42 (dk_at dksX1_init_0 0 rfl rfl)
theorem dX1_init_1 : decode cX1_init 1 = .ok (.invokespecial 1, 3) := dk_183 0 1 (dk_at dksX1_init_0 1 rfl rfl)
theorem dX1_init_4 : decode cX1_init 4 = .ok (.aload_n 0, 1) := dk_42 (dk_at dksX1_init_0 4 rfl rfl)
theorem dX1_init_5 : decode cX1_init 5 = .ok (.iconst 2, 1) := dk_5 (dk_at dksX1_init_0 5 rfl rfl)
theorem dX1_init_6 : decode cX1_init 6 = .ok (.anewarray 7, 3) := dk_189 0 7 (dk_at dksX1_init_0 6 rfl rfl)
theorem dX1_init_9 : decode cX1_init 9 = .ok (.dup, 1) := dk_89 (dk_at dksX1_init_0 9 rfl rfl)
theorem dX1_init_10 : decode cX1_init 10 = .ok (.iconst 0, 1) := dk_3 (dk_at dksX1_init_0 10 rfl rfl)
theorem dX1_init_11 : decode cX1_init 11 = .ok (.lconst 0, 1) := dk_9 (dk_at dksX1_init_0 11 rfl rfl)
theorem dX1_init_12 : decode cX1_init 12 = .ok (.lconst 0, 1) := dk_9 (dk_at dksX1_init_0 12 rfl rfl)
theorem dX1_init_13 : decode cX1_init 13 = .ok (.invokestatic 9, 3) := dk_184 0 9 (dk_at dksX1_init_0 13 rfl rfl)
theorem dX1_init_16 : decode cX1_init 16 = .ok (.aastore, 1) := dk_83 (dk_at dksX1_init_0 16 rfl rfl)
theorem dX1_init_17 : decode cX1_init 17 = .ok (.dup, 1) := dk_89 (dk_at dksX1_init_0 17 rfl rfl)
theorem dX1_init_18 : decode cX1_init 18 = .ok (.iconst 1, 1) := dk_4 (dk_at dksX1_init_0 18 rfl rfl)
theorem dX1_init_19 : decode cX1_init 19 = .ok (.lconst 0, 1) := dk_9 (dk_at dksX1_init_0 19 rfl rfl)
theorem dX1_init_20 : decode cX1_init 20 = .ok (.lconst 0, 1) := dk_9 (dk_at dksX1_init_0 20 rfl rfl)
theorem dX1_init_21 : decode cX1_init 21 = .ok (.invokestatic 9, 3) := dk_184 0 9 (dk_at dksX1_init_0 21 rfl rfl)
theorem dX1_init_24 : decode cX1_init 24 = .ok (.aastore, 1) := dk_83 (dk_at dksX1_init_1 0 rfl rfl)
theorem dX1_init_25 : decode cX1_init 25 = .ok (.putfield 13, 3) := dk_181 0 13 (dk_at dksX1_init_1 1 rfl rfl)
theorem dX1_init_28 : decode cX1_init 28 = .ok (.return_, 1) := dk_177 (dk_at dksX1_init_1 4 rfl rfl)
abbrev cX1_set : ByteArray := prog_4_method_3_code
def yX1_set : MethodName := ⟨RX1, "set", "(IIII)V"⟩
def dkwX1_set_0 : List UInt8 := [42, 180, 0, 13, 27, 4, 126, 28, 29, 184, 0, 23, 21, 4, 133, 184, 0, 9, 83, 177]
abbrev dktX1_set_0 : List UInt8 := dkwX1_set_0 ++ []
theorem dksX1_set_0 : cX1_set.data.toList.drop 0 = dktX1_set_0 := by decide +kernel
theorem dX1_set_0 : decode cX1_set 0 = .ok (.aload_n 0, 1) := dk_42 (dk_at dksX1_set_0 0 rfl rfl)
theorem dX1_set_1 : decode cX1_set 1 = .ok (.getfield 13, 3) := dk_180 0 13 (dk_at dksX1_set_0 1 rfl rfl)
theorem dX1_set_4 : decode cX1_set 4 = .ok (.iload_n 1, 1) := dk_27 (dk_at dksX1_set_0 4 rfl rfl)
theorem dX1_set_5 : decode cX1_set 5 = .ok (.iconst 1, 1) := dk_4 (dk_at dksX1_set_0 5 rfl rfl)
theorem dX1_set_6 : decode cX1_set 6 = .ok (.iand, 1) := dk_126 (dk_at dksX1_set_0 6 rfl rfl)
theorem dX1_set_7 : decode cX1_set 7 = .ok (.iload_n 2, 1) := dk_28 (dk_at dksX1_set_0 7 rfl rfl)
theorem dX1_set_8 : decode cX1_set 8 = .ok (.iload_n 3, 1) := dk_29 (dk_at dksX1_set_0 8 rfl rfl)
theorem dX1_set_9 : decode cX1_set 9 = .ok (.invokestatic 23, 3) := dk_184 0 23 (dk_at dksX1_set_0 9 rfl rfl)
theorem dX1_set_12 : decode cX1_set 12 = .ok (.iload 4, 2) := dk_21 4 (dk_at dksX1_set_0 12 rfl rfl)
theorem dX1_set_14 : decode cX1_set 14 = .ok (.i2l, 1) := dk_133 (dk_at dksX1_set_0 14 rfl rfl)
theorem dX1_set_15 : decode cX1_set 15 = .ok (.invokestatic 9, 3) := dk_184 0 9 (dk_at dksX1_set_0 15 rfl rfl)
theorem dX1_set_18 : decode cX1_set 18 = .ok (.aastore, 1) := dk_83 (dk_at dksX1_set_0 18 rfl rfl)
theorem dX1_set_19 : decode cX1_set 19 = .ok (.return_, 1) := dk_177 (dk_at dksX1_set_0 19 rfl rfl)
abbrev cX1_second : ByteArray := prog_4_method_2_code
def yX1_second : MethodName := ⟨RX1, "second", "(II)J"⟩
def dkwX1_second_0 : List UInt8 := [26, 133, 16, 32, 121, 27, 133, 20, 0, 19, 127, 129, 20, 0, 21, 113, 173]
abbrev dktX1_second_0 : List UInt8 := dkwX1_second_0 ++ []
theorem dksX1_second_0 : cX1_second.data.toList.drop 0 = dktX1_second_0 := by decide +kernel
theorem dX1_second_0 : decode cX1_second 0 = .ok (.iload_n 0, 1) := dk_26 (dk_at dksX1_second_0 0 rfl rfl)
theorem dX1_second_1 : decode cX1_second 1 = .ok (.i2l, 1) := dk_133 (dk_at dksX1_second_0 1 rfl rfl)
theorem dX1_second_2 : decode cX1_second 2 = .ok (.bipush 32, 2) := dk_16 32 (dk_at dksX1_second_0 2 rfl rfl)
theorem dX1_second_4 : decode cX1_second 4 = .ok (.lshl, 1) := dk_121 (dk_at dksX1_second_0 4 rfl rfl)
theorem dX1_second_5 : decode cX1_second 5 = .ok (.iload_n 1, 1) := dk_27 (dk_at dksX1_second_0 5 rfl rfl)
theorem dX1_second_6 : decode cX1_second 6 = .ok (.i2l, 1) := dk_133 (dk_at dksX1_second_0 6 rfl rfl)
theorem dX1_second_7 : decode cX1_second 7 = .ok (.ldc2_w 19, 3) := dk_20 0 19 (dk_at dksX1_second_0 7 rfl rfl)
theorem dX1_second_10 : decode cX1_second 10 = .ok (.land, 1) := dk_127 (dk_at dksX1_second_0 10 rfl rfl)
theorem dX1_second_11 : decode cX1_second 11 = .ok (.lor, 1) := dk_129 (dk_at dksX1_second_0 11 rfl rfl)
theorem dX1_second_12 : decode cX1_second 12 = .ok (.ldc2_w 21, 3) := dk_20 0 21 (dk_at dksX1_second_0 12 rfl rfl)
theorem dX1_second_15 : decode cX1_second 15 = .ok (.lrem, 1) := dk_113 (dk_at dksX1_second_0 15 rfl rfl)
theorem dX1_second_16 : decode cX1_second 16 = .ok (.lreturn, 1) := dk_173 (dk_at dksX1_second_0 16 rfl rfl)
abbrev cX1_seconds : ByteArray := prog_4_method_4_code
def yX1_seconds : MethodName := ⟨RX1, "seconds", "(II)Z"⟩
def dkwX1_seconds_2 : List UInt8 := [182, 0, 33, 83, 4, 172]
abbrev dktX1_seconds_2 : List UInt8 := dkwX1_seconds_2 ++ []
def dkwX1_seconds_1 : List UInt8 := [148, 156, 0, 5, 3, 172, 42, 180, 0, 13, 27, 4, 126, 42, 180, 0, 13, 27, 4, 126, 50, 28, 133]
abbrev dktX1_seconds_1 : List UInt8 := dkwX1_seconds_1 ++ dktX1_seconds_2
def dkwX1_seconds_0 : List UInt8 := [42, 180, 0, 13, 27, 4, 126, 50, 182, 0, 27, 66, 33, 20, 0, 21, 148, 157, 0, 11, 33, 20, 0, 31]
abbrev dktX1_seconds_0 : List UInt8 := dkwX1_seconds_0 ++ dktX1_seconds_1
theorem dksX1_seconds_0 : cX1_seconds.data.toList.drop 0 = dktX1_seconds_0 := by decide +kernel
theorem dksX1_seconds_1 : cX1_seconds.data.toList.drop 24 = dktX1_seconds_1 := dk_seg dksX1_seconds_0 24 rfl rfl
theorem dksX1_seconds_2 : cX1_seconds.data.toList.drop 47 = dktX1_seconds_2 := dk_seg dksX1_seconds_1 23 rfl rfl
theorem dX1_seconds_0 : decode cX1_seconds 0 = .ok (.aload_n 0, 1) := dk_42 (dk_at dksX1_seconds_0 0 rfl rfl)
theorem dX1_seconds_1 : decode cX1_seconds 1 = .ok (.getfield 13, 3) := dk_180 0 13 (dk_at dksX1_seconds_0 1 rfl rfl)
theorem dX1_seconds_4 : decode cX1_seconds 4 = .ok (.iload_n 1, 1) := dk_27 (dk_at dksX1_seconds_0 4 rfl rfl)
theorem dX1_seconds_5 : decode cX1_seconds 5 = .ok (.iconst 1, 1) := dk_4 (dk_at dksX1_seconds_0 5 rfl rfl)
theorem dX1_seconds_6 : decode cX1_seconds 6 = .ok (.iand, 1) := dk_126 (dk_at dksX1_seconds_0 6 rfl rfl)
theorem dX1_seconds_7 : decode cX1_seconds 7 = .ok (.aaload, 1) := dk_50 (dk_at dksX1_seconds_0 7 rfl rfl)
theorem dX1_seconds_8 : decode cX1_seconds 8 = .ok (.invokevirtual 27, 3) := dk_182 0 27 (dk_at dksX1_seconds_0 8 rfl rfl)
theorem dX1_seconds_11 : decode cX1_seconds 11 = .ok (.lstore_n 3, 1) := dk_66 (dk_at dksX1_seconds_0 11 rfl rfl)
theorem dX1_seconds_12 : decode cX1_seconds 12 = .ok (.lload_n 3, 1) := dk_33 (dk_at dksX1_seconds_0 12 rfl rfl)
theorem dX1_seconds_13 : decode cX1_seconds 13 = .ok (.ldc2_w 21, 3) := dk_20 0 21 (dk_at dksX1_seconds_0 13 rfl rfl)
theorem dX1_seconds_16 : decode cX1_seconds 16 = .ok (.lcmp, 1) := dk_148 (dk_at dksX1_seconds_0 16 rfl rfl)
theorem dX1_seconds_17 : decode cX1_seconds 17 = .ok (.ifCond .gt 11, 3) := dk_157 0 11 (dk_at dksX1_seconds_0 17 rfl rfl)
theorem dX1_seconds_20 : decode cX1_seconds 20 = .ok (.lload_n 3, 1) := dk_33 (dk_at dksX1_seconds_0 20 rfl rfl)
theorem dX1_seconds_21 : decode cX1_seconds 21 = .ok (.ldc2_w 31, 3) := dk_20 0 31 (dk_at dksX1_seconds_0 21 rfl rfl)
theorem dX1_seconds_24 : decode cX1_seconds 24 = .ok (.lcmp, 1) := dk_148 (dk_at dksX1_seconds_1 0 rfl rfl)
theorem dX1_seconds_25 : decode cX1_seconds 25 = .ok (.ifCond .ge 5, 3) := dk_156 0 5 (dk_at dksX1_seconds_1 1 rfl rfl)
theorem dX1_seconds_28 : decode cX1_seconds 28 = .ok (.iconst 0, 1) := dk_3 (dk_at dksX1_seconds_1 4 rfl rfl)
theorem dX1_seconds_29 : decode cX1_seconds 29 = .ok (.ireturn, 1) := dk_172 (dk_at dksX1_seconds_1 5 rfl rfl)
theorem dX1_seconds_30 : decode cX1_seconds 30 = .ok (.aload_n 0, 1) := dk_42 (dk_at dksX1_seconds_1 6 rfl rfl)
theorem dX1_seconds_31 : decode cX1_seconds 31 = .ok (.getfield 13, 3) := dk_180 0 13 (dk_at dksX1_seconds_1 7 rfl rfl)
theorem dX1_seconds_34 : decode cX1_seconds 34 = .ok (.iload_n 1, 1) := dk_27 (dk_at dksX1_seconds_1 10 rfl rfl)
theorem dX1_seconds_35 : decode cX1_seconds 35 = .ok (.iconst 1, 1) := dk_4 (dk_at dksX1_seconds_1 11 rfl rfl)
theorem dX1_seconds_36 : decode cX1_seconds 36 = .ok (.iand, 1) := dk_126 (dk_at dksX1_seconds_1 12 rfl rfl)
theorem dX1_seconds_37 : decode cX1_seconds 37 = .ok (.aload_n 0, 1) := dk_42 (dk_at dksX1_seconds_1 13 rfl rfl)
theorem dX1_seconds_38 : decode cX1_seconds 38 = .ok (.getfield 13, 3) := dk_180 0 13 (dk_at dksX1_seconds_1 14 rfl rfl)
theorem dX1_seconds_41 : decode cX1_seconds 41 = .ok (.iload_n 1, 1) := dk_27 (dk_at dksX1_seconds_1 17 rfl rfl)
theorem dX1_seconds_42 : decode cX1_seconds 42 = .ok (.iconst 1, 1) := dk_4 (dk_at dksX1_seconds_1 18 rfl rfl)
theorem dX1_seconds_43 : decode cX1_seconds 43 = .ok (.iand, 1) := dk_126 (dk_at dksX1_seconds_1 19 rfl rfl)
theorem dX1_seconds_44 : decode cX1_seconds 44 = .ok (.aaload, 1) := dk_50 (dk_at dksX1_seconds_1 20 rfl rfl)
theorem dX1_seconds_45 : decode cX1_seconds 45 = .ok (.iload_n 2, 1) := dk_28 (dk_at dksX1_seconds_1 21 rfl rfl)
theorem dX1_seconds_46 : decode cX1_seconds 46 = .ok (.i2l, 1) := dk_133 (dk_at dksX1_seconds_1 22 rfl rfl)
theorem dX1_seconds_47 : decode cX1_seconds 47 = .ok (.invokevirtual 33, 3) := dk_182 0 33 (dk_at dksX1_seconds_2 0 rfl rfl)
theorem dX1_seconds_50 : decode cX1_seconds 50 = .ok (.aastore, 1) := dk_83 (dk_at dksX1_seconds_2 3 rfl rfl)
theorem dX1_seconds_51 : decode cX1_seconds 51 = .ok (.iconst 1, 1) := dk_4 (dk_at dksX1_seconds_2 4 rfl rfl)
theorem dX1_seconds_52 : decode cX1_seconds 52 = .ok (.ireturn, 1) := dk_172 (dk_at dksX1_seconds_2 5 rfl rfl)
abbrev cX1_millis : ByteArray := prog_4_method_5_code
def yX1_millis : MethodName := ⟨RX1, "millis", "(II)Z"⟩
def dkwX1_millis_2 : List UInt8 := [182, 0, 37, 83, 4, 172]
abbrev dktX1_millis_2 : List UInt8 := dkwX1_millis_2 ++ []
def dkwX1_millis_1 : List UInt8 := [148, 156, 0, 5, 3, 172, 42, 180, 0, 13, 27, 4, 126, 42, 180, 0, 13, 27, 4, 126, 50, 28, 133]
abbrev dktX1_millis_1 : List UInt8 := dkwX1_millis_1 ++ dktX1_millis_2
def dkwX1_millis_0 : List UInt8 := [42, 180, 0, 13, 27, 4, 126, 50, 182, 0, 27, 66, 33, 20, 0, 21, 148, 157, 0, 11, 33, 20, 0, 31]
abbrev dktX1_millis_0 : List UInt8 := dkwX1_millis_0 ++ dktX1_millis_1
theorem dksX1_millis_0 : cX1_millis.data.toList.drop 0 = dktX1_millis_0 := by decide +kernel
theorem dksX1_millis_1 : cX1_millis.data.toList.drop 24 = dktX1_millis_1 := dk_seg dksX1_millis_0 24 rfl rfl
theorem dksX1_millis_2 : cX1_millis.data.toList.drop 47 = dktX1_millis_2 := dk_seg dksX1_millis_1 23 rfl rfl
theorem dX1_millis_0 : decode cX1_millis 0 = .ok (.aload_n 0, 1) := dk_42 (dk_at dksX1_millis_0 0 rfl rfl)
theorem dX1_millis_1 : decode cX1_millis 1 = .ok (.getfield 13, 3) := dk_180 0 13 (dk_at dksX1_millis_0 1 rfl rfl)
theorem dX1_millis_4 : decode cX1_millis 4 = .ok (.iload_n 1, 1) := dk_27 (dk_at dksX1_millis_0 4 rfl rfl)
theorem dX1_millis_5 : decode cX1_millis 5 = .ok (.iconst 1, 1) := dk_4 (dk_at dksX1_millis_0 5 rfl rfl)
theorem dX1_millis_6 : decode cX1_millis 6 = .ok (.iand, 1) := dk_126 (dk_at dksX1_millis_0 6 rfl rfl)
theorem dX1_millis_7 : decode cX1_millis 7 = .ok (.aaload, 1) := dk_50 (dk_at dksX1_millis_0 7 rfl rfl)
theorem dX1_millis_8 : decode cX1_millis 8 = .ok (.invokevirtual 27, 3) := dk_182 0 27 (dk_at dksX1_millis_0 8 rfl rfl)
theorem dX1_millis_11 : decode cX1_millis 11 = .ok (.lstore_n 3, 1) := dk_66 (dk_at dksX1_millis_0 11 rfl rfl)
theorem dX1_millis_12 : decode cX1_millis 12 = .ok (.lload_n 3, 1) := dk_33 (dk_at dksX1_millis_0 12 rfl rfl)
theorem dX1_millis_13 : decode cX1_millis 13 = .ok (.ldc2_w 21, 3) := dk_20 0 21 (dk_at dksX1_millis_0 13 rfl rfl)
theorem dX1_millis_16 : decode cX1_millis 16 = .ok (.lcmp, 1) := dk_148 (dk_at dksX1_millis_0 16 rfl rfl)
theorem dX1_millis_17 : decode cX1_millis 17 = .ok (.ifCond .gt 11, 3) := dk_157 0 11 (dk_at dksX1_millis_0 17 rfl rfl)
theorem dX1_millis_20 : decode cX1_millis 20 = .ok (.lload_n 3, 1) := dk_33 (dk_at dksX1_millis_0 20 rfl rfl)
theorem dX1_millis_21 : decode cX1_millis 21 = .ok (.ldc2_w 31, 3) := dk_20 0 31 (dk_at dksX1_millis_0 21 rfl rfl)
theorem dX1_millis_24 : decode cX1_millis 24 = .ok (.lcmp, 1) := dk_148 (dk_at dksX1_millis_1 0 rfl rfl)
theorem dX1_millis_25 : decode cX1_millis 25 = .ok (.ifCond .ge 5, 3) := dk_156 0 5 (dk_at dksX1_millis_1 1 rfl rfl)
theorem dX1_millis_28 : decode cX1_millis 28 = .ok (.iconst 0, 1) := dk_3 (dk_at dksX1_millis_1 4 rfl rfl)
theorem dX1_millis_29 : decode cX1_millis 29 = .ok (.ireturn, 1) := dk_172 (dk_at dksX1_millis_1 5 rfl rfl)
theorem dX1_millis_30 : decode cX1_millis 30 = .ok (.aload_n 0, 1) := dk_42 (dk_at dksX1_millis_1 6 rfl rfl)
theorem dX1_millis_31 : decode cX1_millis 31 = .ok (.getfield 13, 3) := dk_180 0 13 (dk_at dksX1_millis_1 7 rfl rfl)
theorem dX1_millis_34 : decode cX1_millis 34 = .ok (.iload_n 1, 1) := dk_27 (dk_at dksX1_millis_1 10 rfl rfl)
theorem dX1_millis_35 : decode cX1_millis 35 = .ok (.iconst 1, 1) := dk_4 (dk_at dksX1_millis_1 11 rfl rfl)
theorem dX1_millis_36 : decode cX1_millis 36 = .ok (.iand, 1) := dk_126 (dk_at dksX1_millis_1 12 rfl rfl)
theorem dX1_millis_37 : decode cX1_millis 37 = .ok (.aload_n 0, 1) := dk_42 (dk_at dksX1_millis_1 13 rfl rfl)
theorem dX1_millis_38 : decode cX1_millis 38 = .ok (.getfield 13, 3) := dk_180 0 13 (dk_at dksX1_millis_1 14 rfl rfl)
theorem dX1_millis_41 : decode cX1_millis 41 = .ok (.iload_n 1, 1) := dk_27 (dk_at dksX1_millis_1 17 rfl rfl)
theorem dX1_millis_42 : decode cX1_millis 42 = .ok (.iconst 1, 1) := dk_4 (dk_at dksX1_millis_1 18 rfl rfl)
theorem dX1_millis_43 : decode cX1_millis 43 = .ok (.iand, 1) := dk_126 (dk_at dksX1_millis_1 19 rfl rfl)
theorem dX1_millis_44 : decode cX1_millis 44 = .ok (.aaload, 1) := dk_50 (dk_at dksX1_millis_1 20 rfl rfl)
theorem dX1_millis_45 : decode cX1_millis 45 = .ok (.iload_n 2, 1) := dk_28 (dk_at dksX1_millis_1 21 rfl rfl)
theorem dX1_millis_46 : decode cX1_millis 46 = .ok (.i2l, 1) := dk_133 (dk_at dksX1_millis_1 22 rfl rfl)
theorem dX1_millis_47 : decode cX1_millis 47 = .ok (.invokevirtual 37, 3) := dk_182 0 37 (dk_at dksX1_millis_2 0 rfl rfl)
theorem dX1_millis_50 : decode cX1_millis 50 = .ok (.aastore, 1) := dk_83 (dk_at dksX1_millis_2 3 rfl rfl)
theorem dX1_millis_51 : decode cX1_millis 51 = .ok (.iconst 1, 1) := dk_4 (dk_at dksX1_millis_2 4 rfl rfl)
theorem dX1_millis_52 : decode cX1_millis 52 = .ok (.ireturn, 1) := dk_172 (dk_at dksX1_millis_2 5 rfl rfl)
abbrev cX1_nanos : ByteArray := prog_4_method_6_code
def yX1_nanos : MethodName := ⟨RX1, "nanos", "(II)Z"⟩
def dkwX1_nanos_2 : List UInt8 := [182, 0, 40, 83, 4, 172]
abbrev dktX1_nanos_2 : List UInt8 := dkwX1_nanos_2 ++ []
def dkwX1_nanos_1 : List UInt8 := [148, 156, 0, 5, 3, 172, 42, 180, 0, 13, 27, 4, 126, 42, 180, 0, 13, 27, 4, 126, 50, 28, 133]
abbrev dktX1_nanos_1 : List UInt8 := dkwX1_nanos_1 ++ dktX1_nanos_2
def dkwX1_nanos_0 : List UInt8 := [42, 180, 0, 13, 27, 4, 126, 50, 182, 0, 27, 66, 33, 20, 0, 21, 148, 157, 0, 11, 33, 20, 0, 31]
abbrev dktX1_nanos_0 : List UInt8 := dkwX1_nanos_0 ++ dktX1_nanos_1
theorem dksX1_nanos_0 : cX1_nanos.data.toList.drop 0 = dktX1_nanos_0 := by decide +kernel
theorem dksX1_nanos_1 : cX1_nanos.data.toList.drop 24 = dktX1_nanos_1 := dk_seg dksX1_nanos_0 24 rfl rfl
theorem dksX1_nanos_2 : cX1_nanos.data.toList.drop 47 = dktX1_nanos_2 := dk_seg dksX1_nanos_1 23 rfl rfl
theorem dX1_nanos_0 : decode cX1_nanos 0 = .ok (.aload_n 0, 1) := dk_42 (dk_at dksX1_nanos_0 0 rfl rfl)
theorem dX1_nanos_1 : decode cX1_nanos 1 = .ok (.getfield 13, 3) := dk_180 0 13 (dk_at dksX1_nanos_0 1 rfl rfl)
theorem dX1_nanos_4 : decode cX1_nanos 4 = .ok (.iload_n 1, 1) := dk_27 (dk_at dksX1_nanos_0 4 rfl rfl)
theorem dX1_nanos_5 : decode cX1_nanos 5 = .ok (.iconst 1, 1) := dk_4 (dk_at dksX1_nanos_0 5 rfl rfl)
theorem dX1_nanos_6 : decode cX1_nanos 6 = .ok (.iand, 1) := dk_126 (dk_at dksX1_nanos_0 6 rfl rfl)
theorem dX1_nanos_7 : decode cX1_nanos 7 = .ok (.aaload, 1) := dk_50 (dk_at dksX1_nanos_0 7 rfl rfl)
theorem dX1_nanos_8 : decode cX1_nanos 8 = .ok (.invokevirtual 27, 3) := dk_182 0 27 (dk_at dksX1_nanos_0 8 rfl rfl)
theorem dX1_nanos_11 : decode cX1_nanos 11 = .ok (.lstore_n 3, 1) := dk_66 (dk_at dksX1_nanos_0 11 rfl rfl)
theorem dX1_nanos_12 : decode cX1_nanos 12 = .ok (.lload_n 3, 1) := dk_33 (dk_at dksX1_nanos_0 12 rfl rfl)
theorem dX1_nanos_13 : decode cX1_nanos 13 = .ok (.ldc2_w 21, 3) := dk_20 0 21 (dk_at dksX1_nanos_0 13 rfl rfl)
theorem dX1_nanos_16 : decode cX1_nanos 16 = .ok (.lcmp, 1) := dk_148 (dk_at dksX1_nanos_0 16 rfl rfl)
theorem dX1_nanos_17 : decode cX1_nanos 17 = .ok (.ifCond .gt 11, 3) := dk_157 0 11 (dk_at dksX1_nanos_0 17 rfl rfl)
theorem dX1_nanos_20 : decode cX1_nanos 20 = .ok (.lload_n 3, 1) := dk_33 (dk_at dksX1_nanos_0 20 rfl rfl)
theorem dX1_nanos_21 : decode cX1_nanos 21 = .ok (.ldc2_w 31, 3) := dk_20 0 31 (dk_at dksX1_nanos_0 21 rfl rfl)
theorem dX1_nanos_24 : decode cX1_nanos 24 = .ok (.lcmp, 1) := dk_148 (dk_at dksX1_nanos_1 0 rfl rfl)
theorem dX1_nanos_25 : decode cX1_nanos 25 = .ok (.ifCond .ge 5, 3) := dk_156 0 5 (dk_at dksX1_nanos_1 1 rfl rfl)
theorem dX1_nanos_28 : decode cX1_nanos 28 = .ok (.iconst 0, 1) := dk_3 (dk_at dksX1_nanos_1 4 rfl rfl)
theorem dX1_nanos_29 : decode cX1_nanos 29 = .ok (.ireturn, 1) := dk_172 (dk_at dksX1_nanos_1 5 rfl rfl)
theorem dX1_nanos_30 : decode cX1_nanos 30 = .ok (.aload_n 0, 1) := dk_42 (dk_at dksX1_nanos_1 6 rfl rfl)
theorem dX1_nanos_31 : decode cX1_nanos 31 = .ok (.getfield 13, 3) := dk_180 0 13 (dk_at dksX1_nanos_1 7 rfl rfl)
theorem dX1_nanos_34 : decode cX1_nanos 34 = .ok (.iload_n 1, 1) := dk_27 (dk_at dksX1_nanos_1 10 rfl rfl)
theorem dX1_nanos_35 : decode cX1_nanos 35 = .ok (.iconst 1, 1) := dk_4 (dk_at dksX1_nanos_1 11 rfl rfl)
theorem dX1_nanos_36 : decode cX1_nanos 36 = .ok (.iand, 1) := dk_126 (dk_at dksX1_nanos_1 12 rfl rfl)
theorem dX1_nanos_37 : decode cX1_nanos 37 = .ok (.aload_n 0, 1) := dk_42 (dk_at dksX1_nanos_1 13 rfl rfl)
theorem dX1_nanos_38 : decode cX1_nanos 38 = .ok (.getfield 13, 3) := dk_180 0 13 (dk_at dksX1_nanos_1 14 rfl rfl)
theorem dX1_nanos_41 : decode cX1_nanos 41 = .ok (.iload_n 1, 1) := dk_27 (dk_at dksX1_nanos_1 17 rfl rfl)
theorem dX1_nanos_42 : decode cX1_nanos 42 = .ok (.iconst 1, 1) := dk_4 (dk_at dksX1_nanos_1 18 rfl rfl)
theorem dX1_nanos_43 : decode cX1_nanos 43 = .ok (.iand, 1) := dk_126 (dk_at dksX1_nanos_1 19 rfl rfl)
theorem dX1_nanos_44 : decode cX1_nanos 44 = .ok (.aaload, 1) := dk_50 (dk_at dksX1_nanos_1 20 rfl rfl)
theorem dX1_nanos_45 : decode cX1_nanos 45 = .ok (.iload_n 2, 1) := dk_28 (dk_at dksX1_nanos_1 21 rfl rfl)
theorem dX1_nanos_46 : decode cX1_nanos 46 = .ok (.i2l, 1) := dk_133 (dk_at dksX1_nanos_1 22 rfl rfl)
theorem dX1_nanos_47 : decode cX1_nanos 47 = .ok (.invokevirtual 40, 3) := dk_182 0 40 (dk_at dksX1_nanos_2 0 rfl rfl)
theorem dX1_nanos_50 : decode cX1_nanos 50 = .ok (.aastore, 1) := dk_83 (dk_at dksX1_nanos_2 3 rfl rfl)
theorem dX1_nanos_51 : decode cX1_nanos 51 = .ok (.iconst 1, 1) := dk_4 (dk_at dksX1_nanos_2 4 rfl rfl)
theorem dX1_nanos_52 : decode cX1_nanos 52 = .ok (.ireturn, 1) := dk_172 (dk_at dksX1_nanos_2 5 rfl rfl)
abbrev cX1_ofMilli : ByteArray := prog_4_method_7_code
def yX1_ofMilli : MethodName := ⟨RX1, "ofMilli", "(III)V"⟩
def dkwX1_ofMilli_0 : List UInt8 := [42, 180, 0, 13, 27, 4, 126, 28, 133, 16, 32, 121, 29, 133, 20, 0, 19, 127, 129, 184, 0, 43, 83, 177]
abbrev dktX1_ofMilli_0 : List UInt8 := dkwX1_ofMilli_0 ++ []
theorem dksX1_ofMilli_0 : cX1_ofMilli.data.toList.drop 0 = dktX1_ofMilli_0 := by decide +kernel
theorem dX1_ofMilli_0 : decode cX1_ofMilli 0 = .ok (.aload_n 0, 1) := dk_42 (dk_at dksX1_ofMilli_0 0 rfl rfl)
theorem dX1_ofMilli_1 : decode cX1_ofMilli 1 = .ok (.getfield 13, 3) := dk_180 0 13 (dk_at dksX1_ofMilli_0 1 rfl rfl)
theorem dX1_ofMilli_4 : decode cX1_ofMilli 4 = .ok (.iload_n 1, 1) := dk_27 (dk_at dksX1_ofMilli_0 4 rfl rfl)
theorem dX1_ofMilli_5 : decode cX1_ofMilli 5 = .ok (.iconst 1, 1) := dk_4 (dk_at dksX1_ofMilli_0 5 rfl rfl)
theorem dX1_ofMilli_6 : decode cX1_ofMilli 6 = .ok (.iand, 1) := dk_126 (dk_at dksX1_ofMilli_0 6 rfl rfl)
theorem dX1_ofMilli_7 : decode cX1_ofMilli 7 = .ok (.iload_n 2, 1) := dk_28 (dk_at dksX1_ofMilli_0 7 rfl rfl)
theorem dX1_ofMilli_8 : decode cX1_ofMilli 8 = .ok (.i2l, 1) := dk_133 (dk_at dksX1_ofMilli_0 8 rfl rfl)
theorem dX1_ofMilli_9 : decode cX1_ofMilli 9 = .ok (.bipush 32, 2) := dk_16 32 (dk_at dksX1_ofMilli_0 9 rfl rfl)
theorem dX1_ofMilli_11 : decode cX1_ofMilli 11 = .ok (.lshl, 1) := dk_121 (dk_at dksX1_ofMilli_0 11 rfl rfl)
theorem dX1_ofMilli_12 : decode cX1_ofMilli 12 = .ok (.iload_n 3, 1) := dk_29 (dk_at dksX1_ofMilli_0 12 rfl rfl)
theorem dX1_ofMilli_13 : decode cX1_ofMilli 13 = .ok (.i2l, 1) := dk_133 (dk_at dksX1_ofMilli_0 13 rfl rfl)
theorem dX1_ofMilli_14 : decode cX1_ofMilli 14 = .ok (.ldc2_w 19, 3) := dk_20 0 19 (dk_at dksX1_ofMilli_0 14 rfl rfl)
theorem dX1_ofMilli_17 : decode cX1_ofMilli 17 = .ok (.land, 1) := dk_127 (dk_at dksX1_ofMilli_0 17 rfl rfl)
theorem dX1_ofMilli_18 : decode cX1_ofMilli 18 = .ok (.lor, 1) := dk_129 (dk_at dksX1_ofMilli_0 18 rfl rfl)
theorem dX1_ofMilli_19 : decode cX1_ofMilli 19 = .ok (.invokestatic 43, 3) := dk_184 0 43 (dk_at dksX1_ofMilli_0 19 rfl rfl)
theorem dX1_ofMilli_22 : decode cX1_ofMilli 22 = .ok (.aastore, 1) := dk_83 (dk_at dksX1_ofMilli_0 22 rfl rfl)
theorem dX1_ofMilli_23 : decode cX1_ofMilli 23 = .ok (.return_, 1) := dk_177 (dk_at dksX1_ofMilli_0 23 rfl rfl)
abbrev cX1_whole : ByteArray := prog_4_method_8_code
def yX1_whole : MethodName := ⟨RX1, "whole", "(I)J"⟩
def dkwX1_whole_0 : List UInt8 := [42, 180, 0, 13, 27, 4, 126, 50, 182, 0, 27, 173]
abbrev dktX1_whole_0 : List UInt8 := dkwX1_whole_0 ++ []
theorem dksX1_whole_0 : cX1_whole.data.toList.drop 0 = dktX1_whole_0 := by decide +kernel
theorem dX1_whole_0 : decode cX1_whole 0 = .ok (.aload_n 0, 1) := dk_42 (dk_at dksX1_whole_0 0 rfl rfl)
theorem dX1_whole_1 : decode cX1_whole 1 = .ok (.getfield 13, 3) := dk_180 0 13 (dk_at dksX1_whole_0 1 rfl rfl)
theorem dX1_whole_4 : decode cX1_whole 4 = .ok (.iload_n 1, 1) := dk_27 (dk_at dksX1_whole_0 4 rfl rfl)
theorem dX1_whole_5 : decode cX1_whole 5 = .ok (.iconst 1, 1) := dk_4 (dk_at dksX1_whole_0 5 rfl rfl)
theorem dX1_whole_6 : decode cX1_whole 6 = .ok (.iand, 1) := dk_126 (dk_at dksX1_whole_0 6 rfl rfl)
theorem dX1_whole_7 : decode cX1_whole 7 = .ok (.aaload, 1) := dk_50 (dk_at dksX1_whole_0 7 rfl rfl)
theorem dX1_whole_8 : decode cX1_whole 8 = .ok (.invokevirtual 27, 3) := dk_182 0 27 (dk_at dksX1_whole_0 8 rfl rfl)
theorem dX1_whole_11 : decode cX1_whole 11 = .ok (.lreturn, 1) := dk_173 (dk_at dksX1_whole_0 11 rfl rfl)
abbrev cX1_nano : ByteArray := prog_4_method_9_code
def yX1_nano : MethodName := ⟨RX1, "nano", "(I)I"⟩
def dkwX1_nano_0 : List UInt8 := [42, 180, 0, 13, 27, 4, 126, 50, 182, 0, 46, 172]
abbrev dktX1_nano_0 : List UInt8 := dkwX1_nano_0 ++ []
theorem dksX1_nano_0 : cX1_nano.data.toList.drop 0 = dktX1_nano_0 := by decide +kernel
theorem dX1_nano_0 : decode cX1_nano 0 = .ok (.aload_n 0, 1) := dk_42 (dk_at dksX1_nano_0 0 rfl rfl)
theorem dX1_nano_1 : decode cX1_nano 1 = .ok (.getfield 13, 3) := dk_180 0 13 (dk_at dksX1_nano_0 1 rfl rfl)
theorem dX1_nano_4 : decode cX1_nano 4 = .ok (.iload_n 1, 1) := dk_27 (dk_at dksX1_nano_0 4 rfl rfl)
theorem dX1_nano_5 : decode cX1_nano 5 = .ok (.iconst 1, 1) := dk_4 (dk_at dksX1_nano_0 5 rfl rfl)
theorem dX1_nano_6 : decode cX1_nano 6 = .ok (.iand, 1) := dk_126 (dk_at dksX1_nano_0 6 rfl rfl)
theorem dX1_nano_7 : decode cX1_nano 7 = .ok (.aaload, 1) := dk_50 (dk_at dksX1_nano_0 7 rfl rfl)
theorem dX1_nano_8 : decode cX1_nano 8 = .ok (.invokevirtual 46, 3) := dk_182 0 46 (dk_at dksX1_nano_0 8 rfl rfl)
theorem dX1_nano_11 : decode cX1_nano 11 = .ok (.ireturn, 1) := dk_172 (dk_at dksX1_nano_0 11 rfl rfl)
abbrev cX1_milli : ByteArray := prog_4_method_13_code
def yX1_milli : MethodName := ⟨RX1, "milli", "(I)J"⟩
def dkwX1_milli_1 : List UInt8 := [148, 156, 0, 7, 9, 167, 0, 14, 42, 180, 0, 13, 27, 4, 126, 50, 182, 0, 65, 173]
abbrev dktX1_milli_1 : List UInt8 := dkwX1_milli_1 ++ []
def dkwX1_milli_0 : List UInt8 := [42, 180, 0, 13, 27, 4, 126, 50, 182, 0, 27, 65, 32, 20, 0, 61, 148, 157, 0, 11, 32, 20, 0, 63]
abbrev dktX1_milli_0 : List UInt8 := dkwX1_milli_0 ++ dktX1_milli_1
theorem dksX1_milli_0 : cX1_milli.data.toList.drop 0 = dktX1_milli_0 := by decide +kernel
theorem dksX1_milli_1 : cX1_milli.data.toList.drop 24 = dktX1_milli_1 := dk_seg dksX1_milli_0 24 rfl rfl
theorem dX1_milli_0 : decode cX1_milli 0 = .ok (.aload_n 0, 1) := dk_42 (dk_at dksX1_milli_0 0 rfl rfl)
theorem dX1_milli_1 : decode cX1_milli 1 = .ok (.getfield 13, 3) := dk_180 0 13 (dk_at dksX1_milli_0 1 rfl rfl)
theorem dX1_milli_4 : decode cX1_milli 4 = .ok (.iload_n 1, 1) := dk_27 (dk_at dksX1_milli_0 4 rfl rfl)
theorem dX1_milli_5 : decode cX1_milli 5 = .ok (.iconst 1, 1) := dk_4 (dk_at dksX1_milli_0 5 rfl rfl)
theorem dX1_milli_6 : decode cX1_milli 6 = .ok (.iand, 1) := dk_126 (dk_at dksX1_milli_0 6 rfl rfl)
theorem dX1_milli_7 : decode cX1_milli 7 = .ok (.aaload, 1) := dk_50 (dk_at dksX1_milli_0 7 rfl rfl)
theorem dX1_milli_8 : decode cX1_milli 8 = .ok (.invokevirtual 27, 3) := dk_182 0 27 (dk_at dksX1_milli_0 8 rfl rfl)
theorem dX1_milli_11 : decode cX1_milli 11 = .ok (.lstore_n 2, 1) := dk_65 (dk_at dksX1_milli_0 11 rfl rfl)
theorem dX1_milli_12 : decode cX1_milli 12 = .ok (.lload_n 2, 1) := dk_32 (dk_at dksX1_milli_0 12 rfl rfl)
theorem dX1_milli_13 : decode cX1_milli 13 = .ok (.ldc2_w 61, 3) := dk_20 0 61 (dk_at dksX1_milli_0 13 rfl rfl)
theorem dX1_milli_16 : decode cX1_milli 16 = .ok (.lcmp, 1) := dk_148 (dk_at dksX1_milli_0 16 rfl rfl)
theorem dX1_milli_17 : decode cX1_milli 17 = .ok (.ifCond .gt 11, 3) := dk_157 0 11 (dk_at dksX1_milli_0 17 rfl rfl)
theorem dX1_milli_20 : decode cX1_milli 20 = .ok (.lload_n 2, 1) := dk_32 (dk_at dksX1_milli_0 20 rfl rfl)
theorem dX1_milli_21 : decode cX1_milli 21 = .ok (.ldc2_w 63, 3) := dk_20 0 63 (dk_at dksX1_milli_0 21 rfl rfl)
theorem dX1_milli_24 : decode cX1_milli 24 = .ok (.lcmp, 1) := dk_148 (dk_at dksX1_milli_1 0 rfl rfl)
theorem dX1_milli_25 : decode cX1_milli 25 = .ok (.ifCond .ge 7, 3) := dk_156 0 7 (dk_at dksX1_milli_1 1 rfl rfl)
theorem dX1_milli_28 : decode cX1_milli 28 = .ok (.lconst 0, 1) := dk_9 (dk_at dksX1_milli_1 4 rfl rfl)
theorem dX1_milli_29 : decode cX1_milli 29 = .ok (.goto 14, 3) := dk_167 0 14 (dk_at dksX1_milli_1 5 rfl rfl)
theorem dX1_milli_32 : decode cX1_milli 32 = .ok (.aload_n 0, 1) := dk_42 (dk_at dksX1_milli_1 8 rfl rfl)
theorem dX1_milli_33 : decode cX1_milli 33 = .ok (.getfield 13, 3) := dk_180 0 13 (dk_at dksX1_milli_1 9 rfl rfl)
theorem dX1_milli_36 : decode cX1_milli 36 = .ok (.iload_n 1, 1) := dk_27 (dk_at dksX1_milli_1 12 rfl rfl)
theorem dX1_milli_37 : decode cX1_milli 37 = .ok (.iconst 1, 1) := dk_4 (dk_at dksX1_milli_1 13 rfl rfl)
theorem dX1_milli_38 : decode cX1_milli 38 = .ok (.iand, 1) := dk_126 (dk_at dksX1_milli_1 14 rfl rfl)
theorem dX1_milli_39 : decode cX1_milli 39 = .ok (.aaload, 1) := dk_50 (dk_at dksX1_milli_1 15 rfl rfl)
theorem dX1_milli_40 : decode cX1_milli 40 = .ok (.invokevirtual 65, 3) := dk_182 0 65 (dk_at dksX1_milli_1 16 rfl rfl)
theorem dX1_milli_43 : decode cX1_milli 43 = .ok (.lreturn, 1) := dk_173 (dk_at dksX1_milli_1 19 rfl rfl)
abbrev cX1_order : ByteArray := prog_4_method_12_code
def yX1_order : MethodName := ⟨RX1, "order", "()I"⟩
def dkwX1_order_1 : List UInt8 := [27, 158, 0, 7, 4, 167, 0, 4, 3, 172]
abbrev dktX1_order_1 : List UInt8 := dkwX1_order_1 ++ []
def dkwX1_order_0 : List UInt8 := [42, 180, 0, 13, 3, 50, 42, 180, 0, 13, 4, 50, 182, 0, 57, 60, 27, 156, 0, 7, 2, 167, 0, 12]
abbrev dktX1_order_0 : List UInt8 := dkwX1_order_0 ++ dktX1_order_1
theorem dksX1_order_0 : cX1_order.data.toList.drop 0 = dktX1_order_0 := by decide +kernel
theorem dksX1_order_1 : cX1_order.data.toList.drop 24 = dktX1_order_1 := dk_seg dksX1_order_0 24 rfl rfl
theorem dX1_order_0 : decode cX1_order 0 = .ok (.aload_n 0, 1) := dk_42 (dk_at dksX1_order_0 0 rfl rfl)
theorem dX1_order_1 : decode cX1_order 1 = .ok (.getfield 13, 3) := dk_180 0 13 (dk_at dksX1_order_0 1 rfl rfl)
theorem dX1_order_4 : decode cX1_order 4 = .ok (.iconst 0, 1) := dk_3 (dk_at dksX1_order_0 4 rfl rfl)
theorem dX1_order_5 : decode cX1_order 5 = .ok (.aaload, 1) := dk_50 (dk_at dksX1_order_0 5 rfl rfl)
theorem dX1_order_6 : decode cX1_order 6 = .ok (.aload_n 0, 1) := dk_42 (dk_at dksX1_order_0 6 rfl rfl)
theorem dX1_order_7 : decode cX1_order 7 = .ok (.getfield 13, 3) := dk_180 0 13 (dk_at dksX1_order_0 7 rfl rfl)
theorem dX1_order_10 : decode cX1_order 10 = .ok (.iconst 1, 1) := dk_4 (dk_at dksX1_order_0 10 rfl rfl)
theorem dX1_order_11 : decode cX1_order 11 = .ok (.aaload, 1) := dk_50 (dk_at dksX1_order_0 11 rfl rfl)
theorem dX1_order_12 : decode cX1_order 12 = .ok (.invokevirtual 57, 3) := dk_182 0 57 (dk_at dksX1_order_0 12 rfl rfl)
theorem dX1_order_15 : decode cX1_order 15 = .ok (.istore_n 1, 1) := dk_60 (dk_at dksX1_order_0 15 rfl rfl)
theorem dX1_order_16 : decode cX1_order 16 = .ok (.iload_n 1, 1) := dk_27 (dk_at dksX1_order_0 16 rfl rfl)
theorem dX1_order_17 : decode cX1_order 17 = .ok (.ifCond .ge 7, 3) := dk_156 0 7 (dk_at dksX1_order_0 17 rfl rfl)
theorem dX1_order_20 : decode cX1_order 20 = .ok (.iconst (-1), 1) := dk_2 (dk_at dksX1_order_0 20 rfl rfl)
theorem dX1_order_21 : decode cX1_order 21 = .ok (.goto 12, 3) := dk_167 0 12 (dk_at dksX1_order_0 21 rfl rfl)
theorem dX1_order_24 : decode cX1_order 24 = .ok (.iload_n 1, 1) := dk_27 (dk_at dksX1_order_1 0 rfl rfl)
theorem dX1_order_25 : decode cX1_order 25 = .ok (.ifCond .le 7, 3) := dk_158 0 7 (dk_at dksX1_order_1 1 rfl rfl)
theorem dX1_order_28 : decode cX1_order 28 = .ok (.iconst 1, 1) := dk_4 (dk_at dksX1_order_1 4 rfl rfl)
theorem dX1_order_29 : decode cX1_order 29 = .ok (.goto 4, 3) := dk_167 0 4 (dk_at dksX1_order_1 5 rfl rfl)
theorem dX1_order_32 : decode cX1_order 32 = .ok (.iconst 0, 1) := dk_3 (dk_at dksX1_order_1 8 rfl rfl)
theorem dX1_order_33 : decode cX1_order 33 = .ok (.ireturn, 1) := dk_172 (dk_at dksX1_order_1 9 rfl rfl)
abbrev cX1_before : ByteArray := prog_4_method_10_code
def yX1_before : MethodName := ⟨RX1, "before", "()Z"⟩
def dkwX1_before_0 : List UInt8 := [42, 180, 0, 13, 3, 50, 42, 180, 0, 13, 4, 50, 182, 0, 50, 172]
abbrev dktX1_before_0 : List UInt8 := dkwX1_before_0 ++ []
theorem dksX1_before_0 : cX1_before.data.toList.drop 0 = dktX1_before_0 := by decide +kernel
theorem dX1_before_0 : decode cX1_before 0 = .ok (.aload_n 0, 1) := dk_42 (dk_at dksX1_before_0 0 rfl rfl)
theorem dX1_before_1 : decode cX1_before 1 = .ok (.getfield 13, 3) := dk_180 0 13 (dk_at dksX1_before_0 1 rfl rfl)
theorem dX1_before_4 : decode cX1_before 4 = .ok (.iconst 0, 1) := dk_3 (dk_at dksX1_before_0 4 rfl rfl)
theorem dX1_before_5 : decode cX1_before 5 = .ok (.aaload, 1) := dk_50 (dk_at dksX1_before_0 5 rfl rfl)
theorem dX1_before_6 : decode cX1_before 6 = .ok (.aload_n 0, 1) := dk_42 (dk_at dksX1_before_0 6 rfl rfl)
theorem dX1_before_7 : decode cX1_before 7 = .ok (.getfield 13, 3) := dk_180 0 13 (dk_at dksX1_before_0 7 rfl rfl)
theorem dX1_before_10 : decode cX1_before 10 = .ok (.iconst 1, 1) := dk_4 (dk_at dksX1_before_0 10 rfl rfl)
theorem dX1_before_11 : decode cX1_before 11 = .ok (.aaload, 1) := dk_50 (dk_at dksX1_before_0 11 rfl rfl)
theorem dX1_before_12 : decode cX1_before 12 = .ok (.invokevirtual 50, 3) := dk_182 0 50 (dk_at dksX1_before_0 12 rfl rfl)
theorem dX1_before_15 : decode cX1_before 15 = .ok (.ireturn, 1) := dk_172 (dk_at dksX1_before_0 15 rfl rfl)
abbrev cX1_after : ByteArray := prog_4_method_11_code
def yX1_after : MethodName := ⟨RX1, "after", "()Z"⟩
def dkwX1_after_0 : List UInt8 := [42, 180, 0, 13, 3, 50, 42, 180, 0, 13, 4, 50, 182, 0, 54, 172]
abbrev dktX1_after_0 : List UInt8 := dkwX1_after_0 ++ []
theorem dksX1_after_0 : cX1_after.data.toList.drop 0 = dktX1_after_0 := by decide +kernel
theorem dX1_after_0 : decode cX1_after 0 = .ok (.aload_n 0, 1) := dk_42 (dk_at dksX1_after_0 0 rfl rfl)
theorem dX1_after_1 : decode cX1_after 1 = .ok (.getfield 13, 3) := dk_180 0 13 (dk_at dksX1_after_0 1 rfl rfl)
theorem dX1_after_4 : decode cX1_after 4 = .ok (.iconst 0, 1) := dk_3 (dk_at dksX1_after_0 4 rfl rfl)
theorem dX1_after_5 : decode cX1_after 5 = .ok (.aaload, 1) := dk_50 (dk_at dksX1_after_0 5 rfl rfl)
theorem dX1_after_6 : decode cX1_after 6 = .ok (.aload_n 0, 1) := dk_42 (dk_at dksX1_after_0 6 rfl rfl)
theorem dX1_after_7 : decode cX1_after 7 = .ok (.getfield 13, 3) := dk_180 0 13 (dk_at dksX1_after_0 7 rfl rfl)
theorem dX1_after_10 : decode cX1_after 10 = .ok (.iconst 1, 1) := dk_4 (dk_at dksX1_after_0 10 rfl rfl)
theorem dX1_after_11 : decode cX1_after 11 = .ok (.aaload, 1) := dk_50 (dk_at dksX1_after_0 11 rfl rfl)
theorem dX1_after_12 : decode cX1_after 12 = .ok (.invokevirtual 54, 3) := dk_182 0 54 (dk_at dksX1_after_0 12 rfl rfl)
theorem dX1_after_15 : decode cX1_after 15 = .ok (.ireturn, 1) := dk_172 (dk_at dksX1_after_0 15 rfl rfl)
theorem q3 : (Jvm.Cond.initialized "InstantDesk") ∈ lw_all := lw_g (lw_at lw_m1 1 rfl) rfl
theorem q13 : (Jvm.Cond.instantiable "InstantDesk" (1 : Nat)) ∈ lw_all := lw_g (lw_at lw_m1 11 rfl) rfl
theorem q15 : (Jvm.Cond.instanceMethod ({ cls := "InstantDesk", name := "<init>", desc := "()V" } : Jvm.MethodName)) ∈ lw_all := lw_g (lw_at lw_m1 13 rfl) rfl
theorem q16 : (Jvm.Cond.code ({ cls := "InstantDesk", name := "<init>", desc := "()V" } : Jvm.MethodName) prog_4_method_1_code (1 : Nat) (Option.none : Option Jvm.ClassFile.FieldType)) ∈ lw_all := lw_g (lw_at lw_m1 14 rfl) rfl
theorem q17 : (Jvm.Cond.methodLink "InstantDesk" (1 : Nat) ({ cls := "java/lang/Object", name := "<init>", desc := "()V" } : Jvm.MethodName)) ∈ lw_all := lw_g (lw_at lw_m1 15 rfl) rfl
theorem q20 : (Jvm.Cond.classLink "InstantDesk" (7 : Nat) "Instant") ∈ lw_all := lw_g (lw_at lw_m1 18 rfl) rfl
theorem q22 : (Jvm.Cond.methodLink "InstantDesk" (9 : Nat) ({ cls := "Instant", name := "ofEpochSecond", desc := "(JJ)LInstant;" } : Jvm.MethodName)) ∈ lw_all := lw_g (lw_at lw_m1 20 rfl) rfl
theorem q142 : (Jvm.Cond.fieldLink "InstantDesk" (13 : Nat) "InstantDesk" "at" "[LInstant;") ∈ lw_all := lw_g (lw_at lw_m1 140 rfl) rfl
theorem q143 : (Jvm.Cond.laysFinal "InstantDesk" "InstantDesk" "at" "[LInstant;") ∈ lw_all := lw_g (lw_at lw_m1 141 rfl) rfl
theorem q144 : (Jvm.Cond.soleField "InstantDesk" "at") ∈ lw_all := lw_g (lw_at lw_m1 142 rfl) rfl
theorem q145 : (Jvm.Cond.superclass "InstantDesk" "java/lang/Object") ∈ lw_all := lw_g (lw_at lw_m1 143 rfl) rfl
theorem q147 : (Jvm.Cond.instanceMethod ({ cls := "InstantDesk", name := "set", desc := "(IIII)V" } : Jvm.MethodName)) ∈ lw_all := lw_g (lw_at lw_m1 145 rfl) rfl
theorem q148 : (Jvm.Cond.selects "InstantDesk" ({ cls := "InstantDesk", name := "set", desc := "(IIII)V" } : Jvm.MethodName) ({ cls := "InstantDesk", name := "set", desc := "(IIII)V" } : Jvm.MethodName)) ∈ lw_all := lw_g (lw_at lw_m1 146 rfl) rfl
theorem q149 : (Jvm.Cond.code ({ cls := "InstantDesk", name := "set", desc := "(IIII)V" } : Jvm.MethodName) prog_4_method_3_code (5 : Nat) (Option.none : Option Jvm.ClassFile.FieldType)) ∈ lw_all := lw_g (lw_at lw_m1 147 rfl) rfl
theorem q150 : (Jvm.Cond.methodLink "InstantDesk" (23 : Nat) ({ cls := "InstantDesk", name := "second", desc := "(II)J" } : Jvm.MethodName)) ∈ lw_all := lw_g (lw_at lw_m1 148 rfl) rfl
theorem q151 : (Jvm.Cond.static ({ cls := "InstantDesk", name := "second", desc := "(II)J" } : Jvm.MethodName)) ∈ lw_all := lw_g (lw_at lw_m1 149 rfl) rfl
theorem q152 : (Jvm.Cond.code ({ cls := "InstantDesk", name := "second", desc := "(II)J" } : Jvm.MethodName) prog_4_method_2_code (2 : Nat) (Option.some Jvm.ClassFile.FieldType.long)) ∈ lw_all := lw_g (lw_at lw_m1 150 rfl) rfl
theorem q153 : (Jvm.Cond.constantLong "InstantDesk" (19 : Nat) (4294967295 : Int64)) ∈ lw_all := lw_g (lw_at lw_m1 151 rfl) rfl
theorem q154 : (Jvm.Cond.constantLong "InstantDesk" (21 : Nat) (31000000000000000 : Int64)) ∈ lw_all := lw_g (lw_at lw_m1 152 rfl) rfl
theorem q156 : (Jvm.Cond.instanceMethod ({ cls := "InstantDesk", name := "seconds", desc := "(II)Z" } : Jvm.MethodName)) ∈ lw_all := lw_g (lw_at lw_m1 154 rfl) rfl
theorem q157 : (Jvm.Cond.selects "InstantDesk" ({ cls := "InstantDesk", name := "seconds", desc := "(II)Z" } : Jvm.MethodName) ({ cls := "InstantDesk", name := "seconds", desc := "(II)Z" } : Jvm.MethodName)) ∈ lw_all := lw_g (lw_at lw_m1 155 rfl) rfl
theorem q158 : (Jvm.Cond.code ({ cls := "InstantDesk", name := "seconds", desc := "(II)Z" } : Jvm.MethodName) prog_4_method_4_code (5 : Nat) (Option.some Jvm.ClassFile.FieldType.boolean)) ∈ lw_all := lw_g (lw_at lw_m1 156 rfl) rfl
theorem q159 : (Jvm.Cond.methodLink "InstantDesk" (27 : Nat) ({ cls := "Instant", name := "getEpochSecond", desc := "()J" } : Jvm.MethodName)) ∈ lw_all := lw_g (lw_at lw_m1 157 rfl) rfl
theorem q163 : (Jvm.Cond.constantLong "InstantDesk" (31 : Nat) (-31000000000000000 : Int64)) ∈ lw_all := lw_g (lw_at lw_m1 161 rfl) rfl
theorem q164 : (Jvm.Cond.methodLink "InstantDesk" (33 : Nat) ({ cls := "Instant", name := "plusSeconds", desc := "(J)LInstant;" } : Jvm.MethodName)) ∈ lw_all := lw_g (lw_at lw_m1 162 rfl) rfl
theorem q174 : (Jvm.Cond.instanceMethod ({ cls := "InstantDesk", name := "millis", desc := "(II)Z" } : Jvm.MethodName)) ∈ lw_all := lw_g (lw_at lw_m1 172 rfl) rfl
theorem q175 : (Jvm.Cond.selects "InstantDesk" ({ cls := "InstantDesk", name := "millis", desc := "(II)Z" } : Jvm.MethodName) ({ cls := "InstantDesk", name := "millis", desc := "(II)Z" } : Jvm.MethodName)) ∈ lw_all := lw_g (lw_at lw_m1 173 rfl) rfl
theorem q176 : (Jvm.Cond.code ({ cls := "InstantDesk", name := "millis", desc := "(II)Z" } : Jvm.MethodName) prog_4_method_5_code (5 : Nat) (Option.some Jvm.ClassFile.FieldType.boolean)) ∈ lw_all := lw_g (lw_at lw_m1 174 rfl) rfl
theorem q177 : (Jvm.Cond.methodLink "InstantDesk" (37 : Nat) ({ cls := "Instant", name := "plusMillis", desc := "(J)LInstant;" } : Jvm.MethodName)) ∈ lw_all := lw_g (lw_at lw_m1 175 rfl) rfl
theorem q184 : (Jvm.Cond.instanceMethod ({ cls := "InstantDesk", name := "nanos", desc := "(II)Z" } : Jvm.MethodName)) ∈ lw_all := lw_g (lw_at lw_m1 182 rfl) rfl
theorem q185 : (Jvm.Cond.selects "InstantDesk" ({ cls := "InstantDesk", name := "nanos", desc := "(II)Z" } : Jvm.MethodName) ({ cls := "InstantDesk", name := "nanos", desc := "(II)Z" } : Jvm.MethodName)) ∈ lw_all := lw_g (lw_at lw_m1 183 rfl) rfl
theorem q186 : (Jvm.Cond.code ({ cls := "InstantDesk", name := "nanos", desc := "(II)Z" } : Jvm.MethodName) prog_4_method_6_code (5 : Nat) (Option.some Jvm.ClassFile.FieldType.boolean)) ∈ lw_all := lw_g (lw_at lw_m1 184 rfl) rfl
theorem q187 : (Jvm.Cond.methodLink "InstantDesk" (40 : Nat) ({ cls := "Instant", name := "plusNanos", desc := "(J)LInstant;" } : Jvm.MethodName)) ∈ lw_all := lw_g (lw_at lw_m1 185 rfl) rfl
theorem q192 : (Jvm.Cond.instanceMethod ({ cls := "InstantDesk", name := "ofMilli", desc := "(III)V" } : Jvm.MethodName)) ∈ lw_all := lw_g (lw_at lw_m1 190 rfl) rfl
theorem q193 : (Jvm.Cond.selects "InstantDesk" ({ cls := "InstantDesk", name := "ofMilli", desc := "(III)V" } : Jvm.MethodName) ({ cls := "InstantDesk", name := "ofMilli", desc := "(III)V" } : Jvm.MethodName)) ∈ lw_all := lw_g (lw_at lw_m1 191 rfl) rfl
theorem q194 : (Jvm.Cond.code ({ cls := "InstantDesk", name := "ofMilli", desc := "(III)V" } : Jvm.MethodName) prog_4_method_7_code (4 : Nat) (Option.none : Option Jvm.ClassFile.FieldType)) ∈ lw_all := lw_g (lw_at lw_m1 192 rfl) rfl
theorem q195 : (Jvm.Cond.methodLink "InstantDesk" (43 : Nat) ({ cls := "Instant", name := "ofEpochMilli", desc := "(J)LInstant;" } : Jvm.MethodName)) ∈ lw_all := lw_g (lw_at lw_m1 193 rfl) rfl
theorem q215 : (Jvm.Cond.instanceMethod ({ cls := "InstantDesk", name := "whole", desc := "(I)J" } : Jvm.MethodName)) ∈ lw_all := lw_g (lw_at lw_m1 213 rfl) rfl
theorem q216 : (Jvm.Cond.selects "InstantDesk" ({ cls := "InstantDesk", name := "whole", desc := "(I)J" } : Jvm.MethodName) ({ cls := "InstantDesk", name := "whole", desc := "(I)J" } : Jvm.MethodName)) ∈ lw_all := lw_g (lw_at lw_m1 214 rfl) rfl
theorem q217 : (Jvm.Cond.code ({ cls := "InstantDesk", name := "whole", desc := "(I)J" } : Jvm.MethodName) prog_4_method_8_code (2 : Nat) (Option.some Jvm.ClassFile.FieldType.long)) ∈ lw_all := lw_g (lw_at lw_m1 215 rfl) rfl
theorem q219 : (Jvm.Cond.instanceMethod ({ cls := "InstantDesk", name := "nano", desc := "(I)I" } : Jvm.MethodName)) ∈ lw_all := lw_g (lw_at lw_m1 217 rfl) rfl
theorem q220 : (Jvm.Cond.selects "InstantDesk" ({ cls := "InstantDesk", name := "nano", desc := "(I)I" } : Jvm.MethodName) ({ cls := "InstantDesk", name := "nano", desc := "(I)I" } : Jvm.MethodName)) ∈ lw_all := lw_g (lw_at lw_m1 218 rfl) rfl
theorem q221 : (Jvm.Cond.code ({ cls := "InstantDesk", name := "nano", desc := "(I)I" } : Jvm.MethodName) prog_4_method_9_code (2 : Nat) (Option.some Jvm.ClassFile.FieldType.int)) ∈ lw_all := lw_g (lw_at lw_m1 219 rfl) rfl
theorem q222 : (Jvm.Cond.methodLink "InstantDesk" (46 : Nat) ({ cls := "Instant", name := "getNano", desc := "()I" } : Jvm.MethodName)) ∈ lw_all := lw_g (lw_at lw_m1 220 rfl) rfl
theorem q227 : (Jvm.Cond.instanceMethod ({ cls := "InstantDesk", name := "milli", desc := "(I)J" } : Jvm.MethodName)) ∈ lw_all := lw_g (lw_at lw_m1 225 rfl) rfl
theorem q228 : (Jvm.Cond.selects "InstantDesk" ({ cls := "InstantDesk", name := "milli", desc := "(I)J" } : Jvm.MethodName) ({ cls := "InstantDesk", name := "milli", desc := "(I)J" } : Jvm.MethodName)) ∈ lw_all := lw_g (lw_at lw_m1 226 rfl) rfl
theorem q229 : (Jvm.Cond.code ({ cls := "InstantDesk", name := "milli", desc := "(I)J" } : Jvm.MethodName) prog_4_method_13_code (4 : Nat) (Option.some Jvm.ClassFile.FieldType.long)) ∈ lw_all := lw_g (lw_at lw_m1 227 rfl) rfl
theorem q230 : (Jvm.Cond.constantLong "InstantDesk" (61 : Nat) (9000000000000000 : Int64)) ∈ lw_all := lw_g (lw_at lw_m1 228 rfl) rfl
theorem q231 : (Jvm.Cond.constantLong "InstantDesk" (63 : Nat) (-9000000000000000 : Int64)) ∈ lw_all := lw_g (lw_at lw_m1 229 rfl) rfl
theorem q232 : (Jvm.Cond.methodLink "InstantDesk" (65 : Nat) ({ cls := "Instant", name := "toEpochMilli", desc := "()J" } : Jvm.MethodName)) ∈ lw_all := lw_g (lw_at lw_m1 230 rfl) rfl
theorem q247 : (Jvm.Cond.instanceMethod ({ cls := "InstantDesk", name := "order", desc := "()I" } : Jvm.MethodName)) ∈ lw_all := lw_g (lw_at lw_m2 5 rfl) rfl
theorem q248 : (Jvm.Cond.selects "InstantDesk" ({ cls := "InstantDesk", name := "order", desc := "()I" } : Jvm.MethodName) ({ cls := "InstantDesk", name := "order", desc := "()I" } : Jvm.MethodName)) ∈ lw_all := lw_g (lw_at lw_m2 6 rfl) rfl
theorem q249 : (Jvm.Cond.code ({ cls := "InstantDesk", name := "order", desc := "()I" } : Jvm.MethodName) prog_4_method_12_code (2 : Nat) (Option.some Jvm.ClassFile.FieldType.int)) ∈ lw_all := lw_g (lw_at lw_m2 7 rfl) rfl
theorem q250 : (Jvm.Cond.methodLink "InstantDesk" (57 : Nat) ({ cls := "Instant", name := "compareTo", desc := "(LInstant;)I" } : Jvm.MethodName)) ∈ lw_all := lw_g (lw_at lw_m2 8 rfl) rfl
theorem q258 : (Jvm.Cond.instanceMethod ({ cls := "InstantDesk", name := "before", desc := "()Z" } : Jvm.MethodName)) ∈ lw_all := lw_g (lw_at lw_m2 16 rfl) rfl
theorem q259 : (Jvm.Cond.selects "InstantDesk" ({ cls := "InstantDesk", name := "before", desc := "()Z" } : Jvm.MethodName) ({ cls := "InstantDesk", name := "before", desc := "()Z" } : Jvm.MethodName)) ∈ lw_all := lw_g (lw_at lw_m2 17 rfl) rfl
theorem q260 : (Jvm.Cond.code ({ cls := "InstantDesk", name := "before", desc := "()Z" } : Jvm.MethodName) prog_4_method_10_code (1 : Nat) (Option.some Jvm.ClassFile.FieldType.boolean)) ∈ lw_all := lw_g (lw_at lw_m2 18 rfl) rfl
theorem q261 : (Jvm.Cond.methodLink "InstantDesk" (50 : Nat) ({ cls := "Instant", name := "isBefore", desc := "(LInstant;)Z" } : Jvm.MethodName)) ∈ lw_all := lw_g (lw_at lw_m2 19 rfl) rfl
theorem q267 : (Jvm.Cond.instanceMethod ({ cls := "InstantDesk", name := "after", desc := "()Z" } : Jvm.MethodName)) ∈ lw_all := lw_g (lw_at lw_m2 25 rfl) rfl
theorem q268 : (Jvm.Cond.selects "InstantDesk" ({ cls := "InstantDesk", name := "after", desc := "()Z" } : Jvm.MethodName) ({ cls := "InstantDesk", name := "after", desc := "()Z" } : Jvm.MethodName)) ∈ lw_all := lw_g (lw_at lw_m2 26 rfl) rfl
theorem q269 : (Jvm.Cond.code ({ cls := "InstantDesk", name := "after", desc := "()Z" } : Jvm.MethodName) prog_4_method_11_code (1 : Nat) (Option.some Jvm.ClassFile.FieldType.boolean)) ∈ lw_all := lw_g (lw_at lw_m2 27 rfl) rfl
theorem q270 : (Jvm.Cond.methodLink "InstantDesk" (54 : Nat) ({ cls := "Instant", name := "isAfter", desc := "(LInstant;)Z" } : Jvm.MethodName)) ∈ lw_all := lw_g (lw_at lw_m2 28 rfl) rfl
theorem in_X1 : ∀ w ∈ wsX10, w ∈ lw_all := lw_in wsX10 [143] (by decide +kernel) (by decide +kernel)
end
section
/-! InstantDeskLaw -/
set_option maxRecDepth 100000
def RX0 : String := "InstantDeskLaw"
abbrev cX0_cell : ByteArray := method_2_code
def yX0_cell : MethodName := ⟨RX0, "cell", "([II)I"⟩
def dkwX0_cell_0 : List UInt8 := [27, 42, 190, 162, 0, 15, 27, 16, 96, 162, 0, 9, 42, 27, 46, 167, 0, 4, 3, 172]
abbrev dktX0_cell_0 : List UInt8 := dkwX0_cell_0 ++ []
theorem dksX0_cell_0 : cX0_cell.data.toList.drop 0 = dktX0_cell_0 := by decide +kernel
theorem dX0_cell_0 : decode cX0_cell 0 = .ok (.iload_n 1, 1) := dk_27 (dk_at dksX0_cell_0 0 rfl rfl)
theorem dX0_cell_1 : decode cX0_cell 1 = .ok (.aload_n 0, 1) := dk_42 (dk_at dksX0_cell_0 1 rfl rfl)
theorem dX0_cell_2 : decode cX0_cell 2 = .ok (.arraylength, 1) := dk_190 (dk_at dksX0_cell_0 2 rfl rfl)
theorem dX0_cell_3 : decode cX0_cell 3 = .ok (.if_icmp .ge 15, 3) := dk_162 0 15 (dk_at dksX0_cell_0 3 rfl rfl)
theorem dX0_cell_6 : decode cX0_cell 6 = .ok (.iload_n 1, 1) := dk_27 (dk_at dksX0_cell_0 6 rfl rfl)
theorem dX0_cell_7 : decode cX0_cell 7 = .ok (.bipush 96, 2) := dk_16 96 (dk_at dksX0_cell_0 7 rfl rfl)
theorem dX0_cell_9 : decode cX0_cell 9 = .ok (.if_icmp .ge 9, 3) := dk_162 0 9 (dk_at dksX0_cell_0 9 rfl rfl)
theorem dX0_cell_12 : decode cX0_cell 12 = .ok (.aload_n 0, 1) := dk_42 (dk_at dksX0_cell_0 12 rfl rfl)
theorem dX0_cell_13 : decode cX0_cell 13 = .ok (.iload_n 1, 1) := dk_27 (dk_at dksX0_cell_0 13 rfl rfl)
theorem dX0_cell_14 : decode cX0_cell 14 = .ok (.iaload, 1) := dk_46 (dk_at dksX0_cell_0 14 rfl rfl)
theorem dX0_cell_15 : decode cX0_cell 15 = .ok (.goto 4, 3) := dk_167 0 4 (dk_at dksX0_cell_0 15 rfl rfl)
theorem dX0_cell_18 : decode cX0_cell 18 = .ok (.iconst 0, 1) := dk_3 (dk_at dksX0_cell_0 18 rfl rfl)
theorem dX0_cell_19 : decode cX0_cell 19 = .ok (.ireturn, 1) := dk_172 (dk_at dksX0_cell_0 19 rfl rfl)
abbrev cX0_floor : ByteArray := method_3_code
def yX0_floor : MethodName := ⟨RX0, "floor", "(JJ)J"⟩
def dkwX0_floor_0 : List UInt8 := [30, 32, 109, 55, 4, 30, 32, 113, 9, 148, 156, 0, 10, 22, 4, 10, 101, 167, 0, 5, 22, 4, 173]
abbrev dktX0_floor_0 : List UInt8 := dkwX0_floor_0 ++ []
theorem dksX0_floor_0 : cX0_floor.data.toList.drop 0 = dktX0_floor_0 := by decide +kernel
theorem dX0_floor_0 : decode cX0_floor 0 = .ok (.lload_n 0, 1) := dk_30 (dk_at dksX0_floor_0 0 rfl rfl)
theorem dX0_floor_1 : decode cX0_floor 1 = .ok (.lload_n 2, 1) := dk_32 (dk_at dksX0_floor_0 1 rfl rfl)
theorem dX0_floor_2 : decode cX0_floor 2 = .ok (.ldiv, 1) := dk_109 (dk_at dksX0_floor_0 2 rfl rfl)
theorem dX0_floor_3 : decode cX0_floor 3 = .ok (.lstore 4, 2) := dk_55 4 (dk_at dksX0_floor_0 3 rfl rfl)
theorem dX0_floor_5 : decode cX0_floor 5 = .ok (.lload_n 0, 1) := dk_30 (dk_at dksX0_floor_0 5 rfl rfl)
theorem dX0_floor_6 : decode cX0_floor 6 = .ok (.lload_n 2, 1) := dk_32 (dk_at dksX0_floor_0 6 rfl rfl)
theorem dX0_floor_7 : decode cX0_floor 7 = .ok (.lrem, 1) := dk_113 (dk_at dksX0_floor_0 7 rfl rfl)
theorem dX0_floor_8 : decode cX0_floor 8 = .ok (.lconst 0, 1) := dk_9 (dk_at dksX0_floor_0 8 rfl rfl)
theorem dX0_floor_9 : decode cX0_floor 9 = .ok (.lcmp, 1) := dk_148 (dk_at dksX0_floor_0 9 rfl rfl)
theorem dX0_floor_10 : decode cX0_floor 10 = .ok (.ifCond .ge 10, 3) := dk_156 0 10 (dk_at dksX0_floor_0 10 rfl rfl)
theorem dX0_floor_13 : decode cX0_floor 13 = .ok (.lload 4, 2) := dk_22 4 (dk_at dksX0_floor_0 13 rfl rfl)
theorem dX0_floor_15 : decode cX0_floor 15 = .ok (.lconst 1, 1) := dk_10 (dk_at dksX0_floor_0 15 rfl rfl)
theorem dX0_floor_16 : decode cX0_floor 16 = .ok (.lsub, 1) := dk_101 (dk_at dksX0_floor_0 16 rfl rfl)
theorem dX0_floor_17 : decode cX0_floor 17 = .ok (.goto 5, 3) := dk_167 0 5 (dk_at dksX0_floor_0 17 rfl rfl)
theorem dX0_floor_20 : decode cX0_floor 20 = .ok (.lload 4, 2) := dk_22 4 (dk_at dksX0_floor_0 20 rfl rfl)
theorem dX0_floor_22 : decode cX0_floor 22 = .ok (.lreturn, 1) := dk_173 (dk_at dksX0_floor_0 22 rfl rfl)
abbrev cX0_of : ByteArray := method_4_code
def yX0_of : MethodName := ⟨RX0, "of", "(II)J"⟩
def dkwX0_of_0 : List UInt8 := [26, 133, 16, 32, 121, 27, 133, 20, 0, 9, 127, 129, 173]
abbrev dktX0_of_0 : List UInt8 := dkwX0_of_0 ++ []
theorem dksX0_of_0 : cX0_of.data.toList.drop 0 = dktX0_of_0 := by decide +kernel
theorem dX0_of_0 : decode cX0_of 0 = .ok (.iload_n 0, 1) := dk_26 (dk_at dksX0_of_0 0 rfl rfl)
theorem dX0_of_1 : decode cX0_of 1 = .ok (.i2l, 1) := dk_133 (dk_at dksX0_of_0 1 rfl rfl)
theorem dX0_of_2 : decode cX0_of 2 = .ok (.bipush 32, 2) := dk_16 32 (dk_at dksX0_of_0 2 rfl rfl)
theorem dX0_of_4 : decode cX0_of 4 = .ok (.lshl, 1) := dk_121 (dk_at dksX0_of_0 4 rfl rfl)
theorem dX0_of_5 : decode cX0_of 5 = .ok (.iload_n 1, 1) := dk_27 (dk_at dksX0_of_0 5 rfl rfl)
theorem dX0_of_6 : decode cX0_of 6 = .ok (.i2l, 1) := dk_133 (dk_at dksX0_of_0 6 rfl rfl)
theorem dX0_of_7 : decode cX0_of 7 = .ok (.ldc2_w 9, 3) := dk_20 0 9 (dk_at dksX0_of_0 7 rfl rfl)
theorem dX0_of_10 : decode cX0_of 10 = .ok (.land, 1) := dk_127 (dk_at dksX0_of_0 10 rfl rfl)
theorem dX0_of_11 : decode cX0_of 11 = .ok (.lor, 1) := dk_129 (dk_at dksX0_of_0 11 rfl rfl)
theorem dX0_of_12 : decode cX0_of 12 = .ok (.lreturn, 1) := dk_173 (dk_at dksX0_of_0 12 rfl rfl)
abbrev cX0_areTold : ByteArray := method_5_code
def yX0_areTold : MethodName := ⟨RX0, "areTold", "(LInstantDesk;[J[JI)Z"⟩
def dkwX0_areTold_10 : List UInt8 := [4, 167, 0, 4, 3, 172]
abbrev dktX0_areTold_10 : List UInt8 := dkwX0_areTold_10 ++ []
def dkwX0_areTold_9 : List UInt8 := [167, 0, 4, 3, 160, 0, 24, 42, 182, 0, 40, 21, 5, 158, 0, 7, 4, 167, 0, 4, 3, 160, 0, 7]
abbrev dktX0_areTold_9 : List UInt8 := dkwX0_areTold_9 ++ dktX0_areTold_10
def dkwX0_areTold_8 : List UInt8 := [21, 4, 153, 0, 50, 42, 182, 0, 32, 21, 5, 160, 0, 41, 42, 182, 0, 36, 21, 5, 156, 0, 7, 4]
abbrev dktX0_areTold_8 : List UInt8 := dkwX0_areTold_8 ++ dktX0_areTold_9
def dkwX0_areTold_7 : List UInt8 := [156, 0, 7, 2, 167, 0, 18, 44, 3, 47, 44, 4, 47, 148, 158, 0, 7, 4, 167, 0, 4, 3, 54, 5]
abbrev dktX0_areTold_7 : List UInt8 := dkwX0_areTold_7 ++ dktX0_areTold_8
def dkwX0_areTold_6 : List UInt8 := [3, 47, 43, 4, 47, 148, 156, 0, 7, 2, 167, 0, 36, 4, 167, 0, 32, 44, 3, 47, 44, 4, 47, 148]
abbrev dktX0_areTold_6 : List UInt8 := dkwX0_areTold_6 ++ dktX0_areTold_7
def dkwX0_areTold_5 : List UInt8 := [4, 167, 0, 4, 3, 54, 4, 132, 5, 1, 167, 255, 133, 43, 3, 47, 43, 4, 47, 148, 153, 0, 21, 43]
abbrev dktX0_areTold_5 : List UInt8 := dkwX0_areTold_5 ++ dktX0_areTold_6
def dkwX0_areTold_4 : List UInt8 := [167, 0, 20, 43, 21, 5, 47, 20, 0, 28, 105, 44, 21, 5, 47, 20, 0, 30, 109, 97, 148, 154, 0, 7]
abbrev dktX0_areTold_4 : List UInt8 := dkwX0_areTold_4 ++ dktX0_areTold_5
def dkwX0_areTold_3 : List UInt8 := [182, 0, 21, 133, 44, 21, 5, 47, 148, 154, 0, 43, 42, 21, 6, 182, 0, 25, 21, 7, 153, 0, 7, 9]
abbrev dktX0_areTold_3 : List UInt8 := dkwX0_areTold_3 ++ dktX0_areTold_4
def dkwX0_areTold_2 : List UInt8 := [54, 7, 21, 4, 153, 0, 72, 42, 21, 6, 182, 0, 15, 43, 21, 5, 47, 148, 154, 0, 58, 42, 21, 6]
abbrev dktX0_areTold_2 : List UInt8 := dkwX0_areTold_2 ++ dktX0_areTold_3
def dkwX0_areTold_1 : List UInt8 := [20, 0, 11, 148, 157, 0, 14, 43, 21, 5, 47, 20, 0, 13, 148, 156, 0, 7, 4, 167, 0, 4, 3]
abbrev dktX0_areTold_1 : List UInt8 := dkwX0_areTold_1 ++ dktX0_areTold_2
def dkwX0_areTold_0 : List UInt8 := [4, 54, 4, 3, 54, 5, 21, 5, 5, 162, 0, 123, 29, 4, 120, 21, 5, 128, 54, 6, 43, 21, 5, 47]
abbrev dktX0_areTold_0 : List UInt8 := dkwX0_areTold_0 ++ dktX0_areTold_1
theorem dksX0_areTold_0 : cX0_areTold.data.toList.drop 0 = dktX0_areTold_0 := by decide +kernel
theorem dksX0_areTold_1 : cX0_areTold.data.toList.drop 24 = dktX0_areTold_1 := dk_seg dksX0_areTold_0 24 rfl rfl
theorem dksX0_areTold_2 : cX0_areTold.data.toList.drop 47 = dktX0_areTold_2 := dk_seg dksX0_areTold_1 23 rfl rfl
theorem dksX0_areTold_3 : cX0_areTold.data.toList.drop 71 = dktX0_areTold_3 := dk_seg dksX0_areTold_2 24 rfl rfl
theorem dksX0_areTold_4 : cX0_areTold.data.toList.drop 95 = dktX0_areTold_4 := dk_seg dksX0_areTold_3 24 rfl rfl
theorem dksX0_areTold_5 : cX0_areTold.data.toList.drop 119 = dktX0_areTold_5 := dk_seg dksX0_areTold_4 24 rfl rfl
theorem dksX0_areTold_6 : cX0_areTold.data.toList.drop 143 = dktX0_areTold_6 := dk_seg dksX0_areTold_5 24 rfl rfl
theorem dksX0_areTold_7 : cX0_areTold.data.toList.drop 167 = dktX0_areTold_7 := dk_seg dksX0_areTold_6 24 rfl rfl
theorem dksX0_areTold_8 : cX0_areTold.data.toList.drop 191 = dktX0_areTold_8 := dk_seg dksX0_areTold_7 24 rfl rfl
theorem dksX0_areTold_9 : cX0_areTold.data.toList.drop 215 = dktX0_areTold_9 := dk_seg dksX0_areTold_8 24 rfl rfl
theorem dksX0_areTold_10 : cX0_areTold.data.toList.drop 239 = dktX0_areTold_10 := dk_seg dksX0_areTold_9 24 rfl rfl
theorem dX0_areTold_0 : decode cX0_areTold 0 = .ok (.iconst 1, 1) := dk_4 (dk_at dksX0_areTold_0 0 rfl rfl)
theorem dX0_areTold_1 : decode cX0_areTold 1 = .ok (.istore 4, 2) := dk_54 4 (dk_at dksX0_areTold_0 1 rfl rfl)
theorem dX0_areTold_3 : decode cX0_areTold 3 = .ok (.iconst 0, 1) := dk_3 (dk_at dksX0_areTold_0 3 rfl rfl)
theorem dX0_areTold_4 : decode cX0_areTold 4 = .ok (.istore 5, 2) := dk_54 5 (dk_at dksX0_areTold_0 4 rfl rfl)
theorem dX0_areTold_6 : decode cX0_areTold 6 = .ok (.iload 5, 2) := dk_21 5 (dk_at dksX0_areTold_0 6 rfl rfl)
theorem dX0_areTold_8 : decode cX0_areTold 8 = .ok (.iconst 2, 1) := dk_5 (dk_at dksX0_areTold_0 8 rfl rfl)
theorem dX0_areTold_9 : decode cX0_areTold 9 = .ok (.if_icmp .ge 123, 3) := dk_162 0 123 (dk_at dksX0_areTold_0 9 rfl rfl)
theorem dX0_areTold_12 : decode cX0_areTold 12 = .ok (.iload_n 3, 1) := dk_29 (dk_at dksX0_areTold_0 12 rfl rfl)
theorem dX0_areTold_13 : decode cX0_areTold 13 = .ok (.iconst 1, 1) := dk_4 (dk_at dksX0_areTold_0 13 rfl rfl)
theorem dX0_areTold_14 : decode cX0_areTold 14 = .ok (.ishl, 1) := dk_120 (dk_at dksX0_areTold_0 14 rfl rfl)
theorem dX0_areTold_15 : decode cX0_areTold 15 = .ok (.iload 5, 2) := dk_21 5 (dk_at dksX0_areTold_0 15 rfl rfl)
theorem dX0_areTold_17 : decode cX0_areTold 17 = .ok (.ior, 1) := dk_128 (dk_at dksX0_areTold_0 17 rfl rfl)
theorem dX0_areTold_18 : decode cX0_areTold 18 = .ok (.istore 6, 2) := dk_54 6 (dk_at dksX0_areTold_0 18 rfl rfl)
theorem dX0_areTold_20 : decode cX0_areTold 20 = .ok (.aload_n 1, 1) := dk_43 (dk_at dksX0_areTold_0 20 rfl rfl)
theorem dX0_areTold_21 : decode cX0_areTold 21 = .ok (.iload 5, 2) := dk_21 5 (dk_at dksX0_areTold_0 21 rfl rfl)
theorem dX0_areTold_23 : decode cX0_areTold 23 = .ok (.laload, 1) := dk_47 (dk_at dksX0_areTold_0 23 rfl rfl)
theorem dX0_areTold_24 : decode cX0_areTold 24 = .ok (.ldc2_w 11, 3) := dk_20 0 11 (dk_at dksX0_areTold_1 0 rfl rfl)
theorem dX0_areTold_27 : decode cX0_areTold 27 = .ok (.lcmp, 1) := dk_148 (dk_at dksX0_areTold_1 3 rfl rfl)
theorem dX0_areTold_28 : decode cX0_areTold 28 = .ok (.ifCond .gt 14, 3) := dk_157 0 14 (dk_at dksX0_areTold_1 4 rfl rfl)
theorem dX0_areTold_31 : decode cX0_areTold 31 = .ok (.aload_n 1, 1) := dk_43 (dk_at dksX0_areTold_1 7 rfl rfl)
theorem dX0_areTold_32 : decode cX0_areTold 32 = .ok (.iload 5, 2) := dk_21 5 (dk_at dksX0_areTold_1 8 rfl rfl)
theorem dX0_areTold_34 : decode cX0_areTold 34 = .ok (.laload, 1) := dk_47 (dk_at dksX0_areTold_1 10 rfl rfl)
theorem dX0_areTold_35 : decode cX0_areTold 35 = .ok (.ldc2_w 13, 3) := dk_20 0 13 (dk_at dksX0_areTold_1 11 rfl rfl)
theorem dX0_areTold_38 : decode cX0_areTold 38 = .ok (.lcmp, 1) := dk_148 (dk_at dksX0_areTold_1 14 rfl rfl)
theorem dX0_areTold_39 : decode cX0_areTold 39 = .ok (.ifCond .ge 7, 3) := dk_156 0 7 (dk_at dksX0_areTold_1 15 rfl rfl)
theorem dX0_areTold_42 : decode cX0_areTold 42 = .ok (.iconst 1, 1) := dk_4 (dk_at dksX0_areTold_1 18 rfl rfl)
theorem dX0_areTold_43 : decode cX0_areTold 43 = .ok (.goto 4, 3) := dk_167 0 4 (dk_at dksX0_areTold_1 19 rfl rfl)
theorem dX0_areTold_46 : decode cX0_areTold 46 = .ok (.iconst 0, 1) := dk_3 (dk_at dksX0_areTold_1 22 rfl rfl)
theorem dX0_areTold_47 : decode cX0_areTold 47 = .ok (.istore 7, 2) := dk_54 7 (dk_at dksX0_areTold_2 0 rfl rfl)
theorem dX0_areTold_49 : decode cX0_areTold 49 = .ok (.iload 4, 2) := dk_21 4 (dk_at dksX0_areTold_2 2 rfl rfl)
theorem dX0_areTold_51 : decode cX0_areTold 51 = .ok (.ifCond .eq 72, 3) := dk_153 0 72 (dk_at dksX0_areTold_2 4 rfl rfl)
theorem dX0_areTold_54 : decode cX0_areTold 54 = .ok (.aload_n 0, 1) := dk_42 (dk_at dksX0_areTold_2 7 rfl rfl)
theorem dX0_areTold_55 : decode cX0_areTold 55 = .ok (.iload 6, 2) := dk_21 6 (dk_at dksX0_areTold_2 8 rfl rfl)
theorem dX0_areTold_57 : decode cX0_areTold 57 = .ok (.invokevirtual 15, 3) := dk_182 0 15 (dk_at dksX0_areTold_2 10 rfl rfl)
theorem dX0_areTold_60 : decode cX0_areTold 60 = .ok (.aload_n 1, 1) := dk_43 (dk_at dksX0_areTold_2 13 rfl rfl)
theorem dX0_areTold_61 : decode cX0_areTold 61 = .ok (.iload 5, 2) := dk_21 5 (dk_at dksX0_areTold_2 14 rfl rfl)
theorem dX0_areTold_63 : decode cX0_areTold 63 = .ok (.laload, 1) := dk_47 (dk_at dksX0_areTold_2 16 rfl rfl)
theorem dX0_areTold_64 : decode cX0_areTold 64 = .ok (.lcmp, 1) := dk_148 (dk_at dksX0_areTold_2 17 rfl rfl)
theorem dX0_areTold_65 : decode cX0_areTold 65 = .ok (.ifCond .ne 58, 3) := dk_154 0 58 (dk_at dksX0_areTold_2 18 rfl rfl)
theorem dX0_areTold_68 : decode cX0_areTold 68 = .ok (.aload_n 0, 1) := dk_42 (dk_at dksX0_areTold_2 21 rfl rfl)
theorem dX0_areTold_69 : decode cX0_areTold 69 = .ok (.iload 6, 2) := dk_21 6 (dk_at dksX0_areTold_2 22 rfl rfl)
theorem dX0_areTold_71 : decode cX0_areTold 71 = .ok (.invokevirtual 21, 3) := dk_182 0 21 (dk_at dksX0_areTold_3 0 rfl rfl)
theorem dX0_areTold_74 : decode cX0_areTold 74 = .ok (.i2l, 1) := dk_133 (dk_at dksX0_areTold_3 3 rfl rfl)
theorem dX0_areTold_75 : decode cX0_areTold 75 = .ok (.aload_n 2, 1) := dk_44 (dk_at dksX0_areTold_3 4 rfl rfl)
theorem dX0_areTold_76 : decode cX0_areTold 76 = .ok (.iload 5, 2) := dk_21 5 (dk_at dksX0_areTold_3 5 rfl rfl)
theorem dX0_areTold_78 : decode cX0_areTold 78 = .ok (.laload, 1) := dk_47 (dk_at dksX0_areTold_3 7 rfl rfl)
theorem dX0_areTold_79 : decode cX0_areTold 79 = .ok (.lcmp, 1) := dk_148 (dk_at dksX0_areTold_3 8 rfl rfl)
theorem dX0_areTold_80 : decode cX0_areTold 80 = .ok (.ifCond .ne 43, 3) := dk_154 0 43 (dk_at dksX0_areTold_3 9 rfl rfl)
theorem dX0_areTold_83 : decode cX0_areTold 83 = .ok (.aload_n 0, 1) := dk_42 (dk_at dksX0_areTold_3 12 rfl rfl)
theorem dX0_areTold_84 : decode cX0_areTold 84 = .ok (.iload 6, 2) := dk_21 6 (dk_at dksX0_areTold_3 13 rfl rfl)
theorem dX0_areTold_86 : decode cX0_areTold 86 = .ok (.invokevirtual 25, 3) := dk_182 0 25 (dk_at dksX0_areTold_3 15 rfl rfl)
theorem dX0_areTold_89 : decode cX0_areTold 89 = .ok (.iload 7, 2) := dk_21 7 (dk_at dksX0_areTold_3 18 rfl rfl)
theorem dX0_areTold_91 : decode cX0_areTold 91 = .ok (.ifCond .eq 7, 3) := dk_153 0 7 (dk_at dksX0_areTold_3 20 rfl rfl)
theorem dX0_areTold_94 : decode cX0_areTold 94 = .ok (.lconst 0, 1) := dk_9 (dk_at dksX0_areTold_3 23 rfl rfl)
theorem dX0_areTold_95 : decode cX0_areTold 95 = .ok (.goto 20, 3) := dk_167 0 20 (dk_at dksX0_areTold_4 0 rfl rfl)
theorem dX0_areTold_98 : decode cX0_areTold 98 = .ok (.aload_n 1, 1) := dk_43 (dk_at dksX0_areTold_4 3 rfl rfl)
theorem dX0_areTold_99 : decode cX0_areTold 99 = .ok (.iload 5, 2) := dk_21 5 (dk_at dksX0_areTold_4 4 rfl rfl)
theorem dX0_areTold_101 : decode cX0_areTold 101 = .ok (.laload, 1) := dk_47 (dk_at dksX0_areTold_4 6 rfl rfl)
theorem dX0_areTold_102 : decode cX0_areTold 102 = .ok (.ldc2_w 28, 3) := dk_20 0 28 (dk_at dksX0_areTold_4 7 rfl rfl)
theorem dX0_areTold_105 : decode cX0_areTold 105 = .ok (.lmul, 1) := dk_105 (dk_at dksX0_areTold_4 10 rfl rfl)
theorem dX0_areTold_106 : decode cX0_areTold 106 = .ok (.aload_n 2, 1) := dk_44 (dk_at dksX0_areTold_4 11 rfl rfl)
theorem dX0_areTold_107 : decode cX0_areTold 107 = .ok (.iload 5, 2) := dk_21 5 (dk_at dksX0_areTold_4 12 rfl rfl)
theorem dX0_areTold_109 : decode cX0_areTold 109 = .ok (.laload, 1) := dk_47 (dk_at dksX0_areTold_4 14 rfl rfl)
theorem dX0_areTold_110 : decode cX0_areTold 110 = .ok (.ldc2_w 30, 3) := dk_20 0 30 (dk_at dksX0_areTold_4 15 rfl rfl)
theorem dX0_areTold_113 : decode cX0_areTold 113 = .ok (.ldiv, 1) := dk_109 (dk_at dksX0_areTold_4 18 rfl rfl)
theorem dX0_areTold_114 : decode cX0_areTold 114 = .ok (.ladd, 1) := dk_97 (dk_at dksX0_areTold_4 19 rfl rfl)
theorem dX0_areTold_115 : decode cX0_areTold 115 = .ok (.lcmp, 1) := dk_148 (dk_at dksX0_areTold_4 20 rfl rfl)
theorem dX0_areTold_116 : decode cX0_areTold 116 = .ok (.ifCond .ne 7, 3) := dk_154 0 7 (dk_at dksX0_areTold_4 21 rfl rfl)
theorem dX0_areTold_119 : decode cX0_areTold 119 = .ok (.iconst 1, 1) := dk_4 (dk_at dksX0_areTold_5 0 rfl rfl)
theorem dX0_areTold_120 : decode cX0_areTold 120 = .ok (.goto 4, 3) := dk_167 0 4 (dk_at dksX0_areTold_5 1 rfl rfl)
theorem dX0_areTold_123 : decode cX0_areTold 123 = .ok (.iconst 0, 1) := dk_3 (dk_at dksX0_areTold_5 4 rfl rfl)
theorem dX0_areTold_124 : decode cX0_areTold 124 = .ok (.istore 4, 2) := dk_54 4 (dk_at dksX0_areTold_5 5 rfl rfl)
theorem dX0_areTold_126 : decode cX0_areTold 126 = .ok (.iinc 5 1, 3) := dk_132 5 1 (dk_at dksX0_areTold_5 7 rfl rfl)
theorem dX0_areTold_129 : decode cX0_areTold 129 = .ok (.goto (-123), 3) := dk_167 255 133 (dk_at dksX0_areTold_5 10 rfl rfl)
theorem dX0_areTold_132 : decode cX0_areTold 132 = .ok (.aload_n 1, 1) := dk_43 (dk_at dksX0_areTold_5 13 rfl rfl)
theorem dX0_areTold_133 : decode cX0_areTold 133 = .ok (.iconst 0, 1) := dk_3 (dk_at dksX0_areTold_5 14 rfl rfl)
theorem dX0_areTold_134 : decode cX0_areTold 134 = .ok (.laload, 1) := dk_47 (dk_at dksX0_areTold_5 15 rfl rfl)
theorem dX0_areTold_135 : decode cX0_areTold 135 = .ok (.aload_n 1, 1) := dk_43 (dk_at dksX0_areTold_5 16 rfl rfl)
theorem dX0_areTold_136 : decode cX0_areTold 136 = .ok (.iconst 1, 1) := dk_4 (dk_at dksX0_areTold_5 17 rfl rfl)
theorem dX0_areTold_137 : decode cX0_areTold 137 = .ok (.laload, 1) := dk_47 (dk_at dksX0_areTold_5 18 rfl rfl)
theorem dX0_areTold_138 : decode cX0_areTold 138 = .ok (.lcmp, 1) := dk_148 (dk_at dksX0_areTold_5 19 rfl rfl)
theorem dX0_areTold_139 : decode cX0_areTold 139 = .ok (.ifCond .eq 21, 3) := dk_153 0 21 (dk_at dksX0_areTold_5 20 rfl rfl)
theorem dX0_areTold_142 : decode cX0_areTold 142 = .ok (.aload_n 1, 1) := dk_43 (dk_at dksX0_areTold_5 23 rfl rfl)
theorem dX0_areTold_143 : decode cX0_areTold 143 = .ok (.iconst 0, 1) := dk_3 (dk_at dksX0_areTold_6 0 rfl rfl)
theorem dX0_areTold_144 : decode cX0_areTold 144 = .ok (.laload, 1) := dk_47 (dk_at dksX0_areTold_6 1 rfl rfl)
theorem dX0_areTold_145 : decode cX0_areTold 145 = .ok (.aload_n 1, 1) := dk_43 (dk_at dksX0_areTold_6 2 rfl rfl)
theorem dX0_areTold_146 : decode cX0_areTold 146 = .ok (.iconst 1, 1) := dk_4 (dk_at dksX0_areTold_6 3 rfl rfl)
theorem dX0_areTold_147 : decode cX0_areTold 147 = .ok (.laload, 1) := dk_47 (dk_at dksX0_areTold_6 4 rfl rfl)
theorem dX0_areTold_148 : decode cX0_areTold 148 = .ok (.lcmp, 1) := dk_148 (dk_at dksX0_areTold_6 5 rfl rfl)
theorem dX0_areTold_149 : decode cX0_areTold 149 = .ok (.ifCond .ge 7, 3) := dk_156 0 7 (dk_at dksX0_areTold_6 6 rfl rfl)
theorem dX0_areTold_152 : decode cX0_areTold 152 = .ok (.iconst (-1), 1) := dk_2 (dk_at dksX0_areTold_6 9 rfl rfl)
theorem dX0_areTold_153 : decode cX0_areTold 153 = .ok (.goto 36, 3) := dk_167 0 36 (dk_at dksX0_areTold_6 10 rfl rfl)
theorem dX0_areTold_156 : decode cX0_areTold 156 = .ok (.iconst 1, 1) := dk_4 (dk_at dksX0_areTold_6 13 rfl rfl)
theorem dX0_areTold_157 : decode cX0_areTold 157 = .ok (.goto 32, 3) := dk_167 0 32 (dk_at dksX0_areTold_6 14 rfl rfl)
theorem dX0_areTold_160 : decode cX0_areTold 160 = .ok (.aload_n 2, 1) := dk_44 (dk_at dksX0_areTold_6 17 rfl rfl)
theorem dX0_areTold_161 : decode cX0_areTold 161 = .ok (.iconst 0, 1) := dk_3 (dk_at dksX0_areTold_6 18 rfl rfl)
theorem dX0_areTold_162 : decode cX0_areTold 162 = .ok (.laload, 1) := dk_47 (dk_at dksX0_areTold_6 19 rfl rfl)
theorem dX0_areTold_163 : decode cX0_areTold 163 = .ok (.aload_n 2, 1) := dk_44 (dk_at dksX0_areTold_6 20 rfl rfl)
theorem dX0_areTold_164 : decode cX0_areTold 164 = .ok (.iconst 1, 1) := dk_4 (dk_at dksX0_areTold_6 21 rfl rfl)
theorem dX0_areTold_165 : decode cX0_areTold 165 = .ok (.laload, 1) := dk_47 (dk_at dksX0_areTold_6 22 rfl rfl)
theorem dX0_areTold_166 : decode cX0_areTold 166 = .ok (.lcmp, 1) := dk_148 (dk_at dksX0_areTold_6 23 rfl rfl)
theorem dX0_areTold_167 : decode cX0_areTold 167 = .ok (.ifCond .ge 7, 3) := dk_156 0 7 (dk_at dksX0_areTold_7 0 rfl rfl)
theorem dX0_areTold_170 : decode cX0_areTold 170 = .ok (.iconst (-1), 1) := dk_2 (dk_at dksX0_areTold_7 3 rfl rfl)
theorem dX0_areTold_171 : decode cX0_areTold 171 = .ok (.goto 18, 3) := dk_167 0 18 (dk_at dksX0_areTold_7 4 rfl rfl)
theorem dX0_areTold_174 : decode cX0_areTold 174 = .ok (.aload_n 2, 1) := dk_44 (dk_at dksX0_areTold_7 7 rfl rfl)
theorem dX0_areTold_175 : decode cX0_areTold 175 = .ok (.iconst 0, 1) := dk_3 (dk_at dksX0_areTold_7 8 rfl rfl)
theorem dX0_areTold_176 : decode cX0_areTold 176 = .ok (.laload, 1) := dk_47 (dk_at dksX0_areTold_7 9 rfl rfl)
theorem dX0_areTold_177 : decode cX0_areTold 177 = .ok (.aload_n 2, 1) := dk_44 (dk_at dksX0_areTold_7 10 rfl rfl)
theorem dX0_areTold_178 : decode cX0_areTold 178 = .ok (.iconst 1, 1) := dk_4 (dk_at dksX0_areTold_7 11 rfl rfl)
theorem dX0_areTold_179 : decode cX0_areTold 179 = .ok (.laload, 1) := dk_47 (dk_at dksX0_areTold_7 12 rfl rfl)
theorem dX0_areTold_180 : decode cX0_areTold 180 = .ok (.lcmp, 1) := dk_148 (dk_at dksX0_areTold_7 13 rfl rfl)
theorem dX0_areTold_181 : decode cX0_areTold 181 = .ok (.ifCond .le 7, 3) := dk_158 0 7 (dk_at dksX0_areTold_7 14 rfl rfl)
theorem dX0_areTold_184 : decode cX0_areTold 184 = .ok (.iconst 1, 1) := dk_4 (dk_at dksX0_areTold_7 17 rfl rfl)
theorem dX0_areTold_185 : decode cX0_areTold 185 = .ok (.goto 4, 3) := dk_167 0 4 (dk_at dksX0_areTold_7 18 rfl rfl)
theorem dX0_areTold_188 : decode cX0_areTold 188 = .ok (.iconst 0, 1) := dk_3 (dk_at dksX0_areTold_7 21 rfl rfl)
theorem dX0_areTold_189 : decode cX0_areTold 189 = .ok (.istore 5, 2) := dk_54 5 (dk_at dksX0_areTold_7 22 rfl rfl)
theorem dX0_areTold_191 : decode cX0_areTold 191 = .ok (.iload 4, 2) := dk_21 4 (dk_at dksX0_areTold_8 0 rfl rfl)
theorem dX0_areTold_193 : decode cX0_areTold 193 = .ok (.ifCond .eq 50, 3) := dk_153 0 50 (dk_at dksX0_areTold_8 2 rfl rfl)
theorem dX0_areTold_196 : decode cX0_areTold 196 = .ok (.aload_n 0, 1) := dk_42 (dk_at dksX0_areTold_8 5 rfl rfl)
theorem dX0_areTold_197 : decode cX0_areTold 197 = .ok (.invokevirtual 32, 3) := dk_182 0 32 (dk_at dksX0_areTold_8 6 rfl rfl)
theorem dX0_areTold_200 : decode cX0_areTold 200 = .ok (.iload 5, 2) := dk_21 5 (dk_at dksX0_areTold_8 9 rfl rfl)
theorem dX0_areTold_202 : decode cX0_areTold 202 = .ok (.if_icmp .ne 41, 3) := dk_160 0 41 (dk_at dksX0_areTold_8 11 rfl rfl)
theorem dX0_areTold_205 : decode cX0_areTold 205 = .ok (.aload_n 0, 1) := dk_42 (dk_at dksX0_areTold_8 14 rfl rfl)
theorem dX0_areTold_206 : decode cX0_areTold 206 = .ok (.invokevirtual 36, 3) := dk_182 0 36 (dk_at dksX0_areTold_8 15 rfl rfl)
theorem dX0_areTold_209 : decode cX0_areTold 209 = .ok (.iload 5, 2) := dk_21 5 (dk_at dksX0_areTold_8 18 rfl rfl)
theorem dX0_areTold_211 : decode cX0_areTold 211 = .ok (.ifCond .ge 7, 3) := dk_156 0 7 (dk_at dksX0_areTold_8 20 rfl rfl)
theorem dX0_areTold_214 : decode cX0_areTold 214 = .ok (.iconst 1, 1) := dk_4 (dk_at dksX0_areTold_8 23 rfl rfl)
theorem dX0_areTold_215 : decode cX0_areTold 215 = .ok (.goto 4, 3) := dk_167 0 4 (dk_at dksX0_areTold_9 0 rfl rfl)
theorem dX0_areTold_218 : decode cX0_areTold 218 = .ok (.iconst 0, 1) := dk_3 (dk_at dksX0_areTold_9 3 rfl rfl)
theorem dX0_areTold_219 : decode cX0_areTold 219 = .ok (.if_icmp .ne 24, 3) := dk_160 0 24 (dk_at dksX0_areTold_9 4 rfl rfl)
theorem dX0_areTold_222 : decode cX0_areTold 222 = .ok (.aload_n 0, 1) := dk_42 (dk_at dksX0_areTold_9 7 rfl rfl)
theorem dX0_areTold_223 : decode cX0_areTold 223 = .ok (.invokevirtual 40, 3) := dk_182 0 40 (dk_at dksX0_areTold_9 8 rfl rfl)
theorem dX0_areTold_226 : decode cX0_areTold 226 = .ok (.iload 5, 2) := dk_21 5 (dk_at dksX0_areTold_9 11 rfl rfl)
theorem dX0_areTold_228 : decode cX0_areTold 228 = .ok (.ifCond .le 7, 3) := dk_158 0 7 (dk_at dksX0_areTold_9 13 rfl rfl)
theorem dX0_areTold_231 : decode cX0_areTold 231 = .ok (.iconst 1, 1) := dk_4 (dk_at dksX0_areTold_9 16 rfl rfl)
theorem dX0_areTold_232 : decode cX0_areTold 232 = .ok (.goto 4, 3) := dk_167 0 4 (dk_at dksX0_areTold_9 17 rfl rfl)
theorem dX0_areTold_235 : decode cX0_areTold 235 = .ok (.iconst 0, 1) := dk_3 (dk_at dksX0_areTold_9 20 rfl rfl)
theorem dX0_areTold_236 : decode cX0_areTold 236 = .ok (.if_icmp .ne 7, 3) := dk_160 0 7 (dk_at dksX0_areTold_9 21 rfl rfl)
theorem dX0_areTold_239 : decode cX0_areTold 239 = .ok (.iconst 1, 1) := dk_4 (dk_at dksX0_areTold_10 0 rfl rfl)
theorem dX0_areTold_240 : decode cX0_areTold 240 = .ok (.goto 4, 3) := dk_167 0 4 (dk_at dksX0_areTold_10 1 rfl rfl)
theorem dX0_areTold_243 : decode cX0_areTold 243 = .ok (.iconst 0, 1) := dk_3 (dk_at dksX0_areTold_10 4 rfl rfl)
theorem dX0_areTold_244 : decode cX0_areTold 244 = .ok (.ireturn, 1) := dk_172 (dk_at dksX0_areTold_10 5 rfl rfl)
theorem q2 : (Jvm.Cond.initialized "InstantDeskLaw") ∈ lw_all := lw_g (lw_at lw_m1 0 rfl) rfl
theorem q12 : (Jvm.Cond.classLink "InstantDeskLaw" (16 : Nat) "InstantDesk") ∈ lw_all := lw_g (lw_at lw_m1 10 rfl) rfl
theorem q14 : (Jvm.Cond.methodLink "InstantDeskLaw" (43 : Nat) ({ cls := "InstantDesk", name := "<init>", desc := "()V" } : Jvm.MethodName)) ∈ lw_all := lw_g (lw_at lw_m1 12 rfl) rfl
theorem q146 : (Jvm.Cond.methodLink "InstantDeskLaw" (61 : Nat) ({ cls := "InstantDesk", name := "set", desc := "(IIII)V" } : Jvm.MethodName)) ∈ lw_all := lw_g (lw_at lw_m1 144 rfl) rfl
theorem q155 : (Jvm.Cond.methodLink "InstantDeskLaw" (79 : Nat) ({ cls := "InstantDesk", name := "seconds", desc := "(II)Z" } : Jvm.MethodName)) ∈ lw_all := lw_g (lw_at lw_m1 153 rfl) rfl
theorem q173 : (Jvm.Cond.methodLink "InstantDeskLaw" (83 : Nat) ({ cls := "InstantDesk", name := "millis", desc := "(II)Z" } : Jvm.MethodName)) ∈ lw_all := lw_g (lw_at lw_m1 171 rfl) rfl
theorem q183 : (Jvm.Cond.methodLink "InstantDeskLaw" (86 : Nat) ({ cls := "InstantDesk", name := "nanos", desc := "(II)Z" } : Jvm.MethodName)) ∈ lw_all := lw_g (lw_at lw_m1 181 rfl) rfl
theorem q191 : (Jvm.Cond.methodLink "InstantDeskLaw" (73 : Nat) ({ cls := "InstantDesk", name := "ofMilli", desc := "(III)V" } : Jvm.MethodName)) ∈ lw_all := lw_g (lw_at lw_m1 189 rfl) rfl
theorem q199 : (Jvm.Cond.methodLink "InstantDeskLaw" (44 : Nat) ({ cls := "InstantDeskLaw", name := "cell", desc := "([II)I" } : Jvm.MethodName)) ∈ lw_all := lw_g (lw_at lw_m1 197 rfl) rfl
theorem q200 : (Jvm.Cond.static ({ cls := "InstantDeskLaw", name := "cell", desc := "([II)I" } : Jvm.MethodName)) ∈ lw_all := lw_g (lw_at lw_m1 198 rfl) rfl
theorem q201 : (Jvm.Cond.code ({ cls := "InstantDeskLaw", name := "cell", desc := "([II)I" } : Jvm.MethodName) method_2_code (2 : Nat) (Option.some Jvm.ClassFile.FieldType.int)) ∈ lw_all := lw_g (lw_at lw_m1 199 rfl) rfl
theorem q202 : (Jvm.Cond.methodLink "InstantDeskLaw" (69 : Nat) ({ cls := "InstantDeskLaw", name := "floor", desc := "(JJ)J" } : Jvm.MethodName)) ∈ lw_all := lw_g (lw_at lw_m1 200 rfl) rfl
theorem q203 : (Jvm.Cond.static ({ cls := "InstantDeskLaw", name := "floor", desc := "(JJ)J" } : Jvm.MethodName)) ∈ lw_all := lw_g (lw_at lw_m1 201 rfl) rfl
theorem q204 : (Jvm.Cond.code ({ cls := "InstantDeskLaw", name := "floor", desc := "(JJ)J" } : Jvm.MethodName) method_3_code (6 : Nat) (Option.some Jvm.ClassFile.FieldType.long)) ∈ lw_all := lw_g (lw_at lw_m1 202 rfl) rfl
theorem q205 : (Jvm.Cond.methodLink "InstantDeskLaw" (53 : Nat) ({ cls := "InstantDeskLaw", name := "of", desc := "(II)J" } : Jvm.MethodName)) ∈ lw_all := lw_g (lw_at lw_m1 203 rfl) rfl
theorem q206 : (Jvm.Cond.static ({ cls := "InstantDeskLaw", name := "of", desc := "(II)J" } : Jvm.MethodName)) ∈ lw_all := lw_g (lw_at lw_m1 204 rfl) rfl
theorem q207 : (Jvm.Cond.code ({ cls := "InstantDeskLaw", name := "of", desc := "(II)J" } : Jvm.MethodName) method_4_code (2 : Nat) (Option.some Jvm.ClassFile.FieldType.long)) ∈ lw_all := lw_g (lw_at lw_m1 205 rfl) rfl
theorem q208 : (Jvm.Cond.constantLong "InstantDeskLaw" (9 : Nat) (4294967295 : Int64)) ∈ lw_all := lw_g (lw_at lw_m1 206 rfl) rfl
theorem q209 : (Jvm.Cond.methodLink "InstantDeskLaw" (48 : Nat) ({ cls := "InstantDeskLaw", name := "areTold", desc := "(LInstantDesk;[J[JI)Z" } : Jvm.MethodName)) ∈ lw_all := lw_g (lw_at lw_m1 207 rfl) rfl
theorem q210 : (Jvm.Cond.static ({ cls := "InstantDeskLaw", name := "areTold", desc := "(LInstantDesk;[J[JI)Z" } : Jvm.MethodName)) ∈ lw_all := lw_g (lw_at lw_m1 208 rfl) rfl
theorem q211 : (Jvm.Cond.code ({ cls := "InstantDeskLaw", name := "areTold", desc := "(LInstantDesk;[J[JI)Z" } : Jvm.MethodName) method_5_code (8 : Nat) (Option.some Jvm.ClassFile.FieldType.boolean)) ∈ lw_all := lw_g (lw_at lw_m1 209 rfl) rfl
theorem q212 : (Jvm.Cond.constantLong "InstantDeskLaw" (11 : Nat) (9000000000000000 : Int64)) ∈ lw_all := lw_g (lw_at lw_m1 210 rfl) rfl
theorem q213 : (Jvm.Cond.constantLong "InstantDeskLaw" (13 : Nat) (-9000000000000000 : Int64)) ∈ lw_all := lw_g (lw_at lw_m1 211 rfl) rfl
theorem q214 : (Jvm.Cond.methodLink "InstantDeskLaw" (15 : Nat) ({ cls := "InstantDesk", name := "whole", desc := "(I)J" } : Jvm.MethodName)) ∈ lw_all := lw_g (lw_at lw_m1 212 rfl) rfl
theorem q218 : (Jvm.Cond.methodLink "InstantDeskLaw" (21 : Nat) ({ cls := "InstantDesk", name := "nano", desc := "(I)I" } : Jvm.MethodName)) ∈ lw_all := lw_g (lw_at lw_m1 216 rfl) rfl
theorem q226 : (Jvm.Cond.methodLink "InstantDeskLaw" (25 : Nat) ({ cls := "InstantDesk", name := "milli", desc := "(I)J" } : Jvm.MethodName)) ∈ lw_all := lw_g (lw_at lw_m1 224 rfl) rfl
theorem q244 : (Jvm.Cond.constantLong "InstantDeskLaw" (28 : Nat) (1000 : Int64)) ∈ lw_all := lw_g (lw_at lw_m2 2 rfl) rfl
theorem q245 : (Jvm.Cond.constantLong "InstantDeskLaw" (30 : Nat) (1000000 : Int64)) ∈ lw_all := lw_g (lw_at lw_m2 3 rfl) rfl
theorem q246 : (Jvm.Cond.methodLink "InstantDeskLaw" (32 : Nat) ({ cls := "InstantDesk", name := "order", desc := "()I" } : Jvm.MethodName)) ∈ lw_all := lw_g (lw_at lw_m2 4 rfl) rfl
theorem q257 : (Jvm.Cond.methodLink "InstantDeskLaw" (36 : Nat) ({ cls := "InstantDesk", name := "before", desc := "()Z" } : Jvm.MethodName)) ∈ lw_all := lw_g (lw_at lw_m2 15 rfl) rfl
theorem q266 : (Jvm.Cond.methodLink "InstantDeskLaw" (40 : Nat) ({ cls := "InstantDesk", name := "after", desc := "()Z" } : Jvm.MethodName)) ∈ lw_all := lw_g (lw_at lw_m2 24 rfl) rfl
theorem q274 : (Jvm.Cond.constant "InstantDeskLaw" (52 : Nat) (2147483647 : Int32)) ∈ lw_all := lw_g (lw_at lw_m2 32 rfl) rfl
theorem q275 : (Jvm.Cond.constantLong "InstantDeskLaw" (57 : Nat) (30999999999999999 : Int64)) ∈ lw_all := lw_g (lw_at lw_m2 33 rfl) rfl
theorem q276 : (Jvm.Cond.constantLong "InstantDeskLaw" (59 : Nat) (-30999999999999999 : Int64)) ∈ lw_all := lw_g (lw_at lw_m2 34 rfl) rfl
theorem q277 : (Jvm.Cond.constantLong "InstantDeskLaw" (65 : Nat) (31000000000000000 : Int64)) ∈ lw_all := lw_g (lw_at lw_m2 35 rfl) rfl
theorem q278 : (Jvm.Cond.constantLong "InstantDeskLaw" (67 : Nat) (1000000000 : Int64)) ∈ lw_all := lw_g (lw_at lw_m2 36 rfl) rfl
theorem q279 : (Jvm.Cond.constantLong "InstantDeskLaw" (77 : Nat) (-31000000000000000 : Int64)) ∈ lw_all := lw_g (lw_at lw_m2 37 rfl) rfl
/-! the law's own entry -/
set_option maxRecDepth 100000
abbrev cL_law : ByteArray := code
def dkwL_law_27 : List UInt8 := [154, 0, 5, 3, 172, 132, 4, 6, 167, 253, 160, 4, 172]
abbrev dktL_law_27 : List UInt8 := dkwL_law_27 ++ []
def dkwL_law_26 : List UInt8 := [4, 21, 7, 100, 45, 21, 7, 47, 80, 43, 44, 45, 42, 21, 4, 8, 96, 184, 0, 44, 184, 0, 48]
abbrev dktL_law_26 : List UInt8 := dkwL_law_26 ++ dktL_law_27
def dkwL_law_25 : List UInt8 := [136, 45, 21, 7, 47, 136, 182, 0, 61, 44, 4, 21, 7, 100, 44, 21, 7, 47, 20, 0, 65, 113, 80, 45]
abbrev dktL_law_25 : List UInt8 := dkwL_law_25 ++ dktL_law_26
def dkwL_law_24 : List UInt8 := [21, 6, 4, 130, 44, 21, 7, 47, 20, 0, 65, 113, 16, 32, 123, 136, 44, 21, 7, 47, 20, 0, 65, 113]
abbrev dktL_law_24 : List UInt8 := dkwL_law_24 ++ dktL_law_25
def dkwL_law_23 : List UInt8 := [45, 21, 7, 47, 22, 11, 97, 20, 0, 67, 184, 0, 69, 20, 0, 67, 105, 101, 80, 167, 0, 61, 43]
abbrev dktL_law_23 : List UInt8 := dkwL_law_23 ++ dktL_law_24
def dkwL_law_22 : List UInt8 := [21, 7, 47, 22, 11, 97, 20, 0, 67, 184, 0, 69, 97, 80, 45, 21, 7, 45, 21, 7, 47, 22, 11, 97]
abbrev dktL_law_22 : List UInt8 := dkwL_law_22 ++ dktL_law_23
def dkwL_law_21 : List UInt8 := [20, 0, 30, 105, 167, 0, 6, 21, 8, 133, 55, 11, 21, 10, 153, 0, 113, 44, 21, 7, 92, 47, 45]
abbrev dktL_law_21 : List UInt8 := dkwL_law_21 ++ dktL_law_22
def dkwL_law_20 : List UInt8 := [21, 6, 21, 8, 182, 0, 86, 21, 10, 159, 0, 5, 3, 172, 21, 9, 153, 0, 13, 21, 8, 133]
abbrev dktL_law_20 : List UInt8 := dkwL_law_20 ++ dktL_law_21
def dkwL_law_19 : List UInt8 := [167, 0, 4, 3, 54, 10, 21, 9, 153, 0, 14, 43, 21, 6, 21, 8, 182, 0, 83, 167, 0, 11, 43]
abbrev dktL_law_19 : List UInt8 := dkwL_law_19 ++ dktL_law_20
def dkwL_law_18 : List UInt8 := [44, 21, 7, 47, 20, 0, 65, 148, 157, 0, 18, 44, 21, 7, 47, 20, 0, 77, 148, 155, 0, 7, 4]
abbrev dktL_law_18 : List UInt8 := dkwL_law_18 ++ dktL_law_19
def dkwL_law_17 : List UInt8 := [97, 80, 167, 0, 217, 21, 5, 18, 52, 126, 16, 6, 112, 6, 160, 0, 7, 4, 167, 0, 4, 3, 54, 9]
abbrev dktL_law_17 : List UInt8 := dkwL_law_17 ++ dktL_law_18
def dkwL_law_16 : List UInt8 := [21, 9, 159, 0, 5, 3, 172, 44, 21, 7, 92, 47, 21, 9, 153, 0, 9, 21, 8, 133, 167, 0, 4, 9]
abbrev dktL_law_16 : List UInt8 := dkwL_law_16 ++ dktL_law_17
def dkwL_law_15 : List UInt8 := [47, 20, 0, 77, 148, 155, 0, 7, 4, 167, 0, 4, 3, 54, 9, 43, 21, 6, 21, 8, 182, 0, 79]
abbrev dktL_law_15 : List UInt8 := dkwL_law_15 ++ dktL_law_16
def dkwL_law_14 : List UInt8 := [105, 101, 20, 0, 30, 105, 80, 167, 1, 27, 44, 21, 7, 47, 20, 0, 65, 148, 157, 0, 18, 44, 21, 7]
abbrev dktL_law_14 : List UInt8 := dkwL_law_14 ++ dktL_law_15
def dkwL_law_13 : List UInt8 := [44, 21, 7, 22, 9, 20, 0, 28, 184, 0, 69, 80, 45, 21, 7, 22, 9, 44, 21, 7, 47, 20, 0, 28]
abbrev dktL_law_13 : List UInt8 := dkwL_law_13 ++ dktL_law_14
def dkwL_law_12 : List UInt8 := [16, 8, 122, 16, 63, 126, 123, 55, 9, 43, 21, 6, 22, 9, 16, 32, 123, 136, 22, 9, 136, 182, 0, 73]
abbrev dktL_law_12 : List UInt8 := dkwL_law_12 ++ dktL_law_13
def dkwL_law_11 : List UInt8 := [167, 1, 106, 42, 21, 4, 5, 96, 184, 0, 44, 42, 21, 4, 6, 96, 184, 0, 44, 184, 0, 53, 21, 5]
abbrev dktL_law_11 : List UInt8 := dkwL_law_11 ++ dktL_law_12
def dkwL_law_10 : List UInt8 := [80, 45, 21, 7, 21, 8, 133, 21, 8, 133, 20, 0, 67, 184, 0, 69, 20, 0, 67, 105, 101, 80]
abbrev dktL_law_10 : List UInt8 := dkwL_law_10 ++ dktL_law_11
def dkwL_law_9 : List UInt8 := [21, 8, 182, 0, 61, 44, 21, 7, 22, 9, 20, 0, 65, 113, 21, 8, 133, 20, 0, 67, 184, 0, 69, 97]
abbrev dktL_law_9 : List UInt8 := dkwL_law_9 ++ dktL_law_10
def dkwL_law_8 : List UInt8 := [184, 0, 44, 17, 3, 255, 126, 133, 97, 55, 9, 43, 21, 6, 22, 9, 16, 32, 123, 136, 22, 9, 136]
abbrev dktL_law_8 : List UInt8 := dkwL_law_8 ++ dktL_law_9
def dkwL_law_7 : List UInt8 := [21, 4, 5, 96, 184, 0, 44, 17, 3, 255, 126, 133, 101, 167, 0, 20, 20, 0, 59, 42, 21, 4, 5, 96]
abbrev dktL_law_7 : List UInt8 := dkwL_law_7 ++ dktL_law_8
def dkwL_law_6 : List UInt8 := [184, 0, 44, 184, 0, 53, 167, 0, 50, 21, 5, 16, 9, 122, 4, 126, 154, 0, 23, 20, 0, 57, 42]
abbrev dktL_law_6 : List UInt8 := dkwL_law_6 ++ dktL_law_7
def dkwL_law_5 : List UInt8 := [21, 5, 16, 8, 122, 4, 126, 154, 0, 25, 42, 21, 4, 5, 96, 184, 0, 44, 42, 21, 4, 6, 96]
abbrev dktL_law_5 : List UInt8 := dkwL_law_5 ++ dktL_law_6
def dkwL_law_4 : List UInt8 := [170, 0, 0, 0, 1, 221, 0, 0, 0, 0, 0, 0, 0, 4, 0, 0, 0, 34, 0, 0, 0, 176, 0, 0, 0, 255, 0, 0, 1, 65, 0, 0, 1, 65]
abbrev dktL_law_4 : List UInt8 := dkwL_law_4 ++ dktL_law_5
def dkwL_law_3 : List UInt8 := [7, 96, 184, 0, 44, 54, 8, 21, 5, 18, 52, 126, 16, 6, 112]
abbrev dktL_law_3 : List UInt8 := dkwL_law_3 ++ dktL_law_4
def dkwL_law_2 : List UInt8 := [184, 0, 44, 54, 5, 42, 21, 4, 4, 96, 184, 0, 44, 54, 6, 21, 6, 4, 126, 54, 7, 42, 21, 4]
abbrev dktL_law_2 : List UInt8 := dkwL_law_2 ++ dktL_law_3
def dkwL_law_1 : List UInt8 := [184, 0, 48, 154, 0, 5, 3, 172, 3, 54, 4, 21, 4, 8, 96, 16, 96, 162, 2, 93, 42, 21, 4]
abbrev dktL_law_1 : List UInt8 := dkwL_law_1 ++ dktL_law_2
def dkwL_law_0 : List UInt8 := [187, 0, 16, 89, 183, 0, 43, 76, 5, 188, 11, 77, 5, 188, 11, 78, 43, 44, 45, 42, 3, 184, 0, 44]
abbrev dktL_law_0 : List UInt8 := dkwL_law_0 ++ dktL_law_1
theorem dksL_law_0 : cL_law.data.toList.drop 0 = dktL_law_0 := by decide +kernel
theorem dksL_law_1 : cL_law.data.toList.drop 24 = dktL_law_1 := dk_seg dksL_law_0 24 rfl rfl
theorem dksL_law_2 : cL_law.data.toList.drop 47 = dktL_law_2 := dk_seg dksL_law_1 23 rfl rfl
theorem dksL_law_3 : cL_law.data.toList.drop 71 = dktL_law_3 := dk_seg dksL_law_2 24 rfl rfl
theorem dksL_law_4 : cL_law.data.toList.drop 86 = dktL_law_4 := dk_seg dksL_law_3 15 rfl rfl
theorem dksL_law_5 : cL_law.data.toList.drop 120 = dktL_law_5 := dk_seg dksL_law_4 34 rfl rfl
theorem dksL_law_6 : cL_law.data.toList.drop 143 = dktL_law_6 := dk_seg dksL_law_5 23 rfl rfl
theorem dksL_law_7 : cL_law.data.toList.drop 166 = dktL_law_7 := dk_seg dksL_law_6 23 rfl rfl
theorem dksL_law_8 : cL_law.data.toList.drop 190 = dktL_law_8 := dk_seg dksL_law_7 24 rfl rfl
theorem dksL_law_9 : cL_law.data.toList.drop 213 = dktL_law_9 := dk_seg dksL_law_8 23 rfl rfl
theorem dksL_law_10 : cL_law.data.toList.drop 237 = dktL_law_10 := dk_seg dksL_law_9 24 rfl rfl
theorem dksL_law_11 : cL_law.data.toList.drop 259 = dktL_law_11 := dk_seg dksL_law_10 22 rfl rfl
theorem dksL_law_12 : cL_law.data.toList.drop 283 = dktL_law_12 := dk_seg dksL_law_11 24 rfl rfl
theorem dksL_law_13 : cL_law.data.toList.drop 307 = dktL_law_13 := dk_seg dksL_law_12 24 rfl rfl
theorem dksL_law_14 : cL_law.data.toList.drop 331 = dktL_law_14 := dk_seg dksL_law_13 24 rfl rfl
theorem dksL_law_15 : cL_law.data.toList.drop 355 = dktL_law_15 := dk_seg dksL_law_14 24 rfl rfl
theorem dksL_law_16 : cL_law.data.toList.drop 378 = dktL_law_16 := dk_seg dksL_law_15 23 rfl rfl
theorem dksL_law_17 : cL_law.data.toList.drop 402 = dktL_law_17 := dk_seg dksL_law_16 24 rfl rfl
theorem dksL_law_18 : cL_law.data.toList.drop 426 = dktL_law_18 := dk_seg dksL_law_17 24 rfl rfl
theorem dksL_law_19 : cL_law.data.toList.drop 449 = dktL_law_19 := dk_seg dksL_law_18 23 rfl rfl
theorem dksL_law_20 : cL_law.data.toList.drop 472 = dktL_law_20 := dk_seg dksL_law_19 23 rfl rfl
theorem dksL_law_21 : cL_law.data.toList.drop 494 = dktL_law_21 := dk_seg dksL_law_20 22 rfl rfl
theorem dksL_law_22 : cL_law.data.toList.drop 517 = dktL_law_22 := dk_seg dksL_law_21 23 rfl rfl
theorem dksL_law_23 : cL_law.data.toList.drop 541 = dktL_law_23 := dk_seg dksL_law_22 24 rfl rfl
theorem dksL_law_24 : cL_law.data.toList.drop 564 = dktL_law_24 := dk_seg dksL_law_23 23 rfl rfl
theorem dksL_law_25 : cL_law.data.toList.drop 588 = dktL_law_25 := dk_seg dksL_law_24 24 rfl rfl
theorem dksL_law_26 : cL_law.data.toList.drop 612 = dktL_law_26 := dk_seg dksL_law_25 24 rfl rfl
theorem dksL_law_27 : cL_law.data.toList.drop 635 = dktL_law_27 := dk_seg dksL_law_26 23 rfl rfl
theorem dL_law_0 : decode cL_law 0 = .ok (.new 16, 3) := dk_187 0 16 (dk_at dksL_law_0 0 rfl rfl)
theorem dL_law_3 : decode cL_law 3 = .ok (.dup, 1) := dk_89 (dk_at dksL_law_0 3 rfl rfl)
theorem dL_law_4 : decode cL_law 4 = .ok (.invokespecial 43, 3) := dk_183 0 43 (dk_at dksL_law_0 4 rfl rfl)
theorem dL_law_7 : decode cL_law 7 = .ok (.astore_n 1, 1) := dk_76 (dk_at dksL_law_0 7 rfl rfl)
theorem dL_law_8 : decode cL_law 8 = .ok (.iconst 2, 1) := dk_5 (dk_at dksL_law_0 8 rfl rfl)
theorem dL_law_9 : decode cL_law 9 = .ok (.newarray .long, 2) := dk_188_11 (dk_at dksL_law_0 9 rfl rfl)
theorem dL_law_11 : decode cL_law 11 = .ok (.astore_n 2, 1) := dk_77 (dk_at dksL_law_0 11 rfl rfl)
theorem dL_law_12 : decode cL_law 12 = .ok (.iconst 2, 1) := dk_5 (dk_at dksL_law_0 12 rfl rfl)
theorem dL_law_13 : decode cL_law 13 = .ok (.newarray .long, 2) := dk_188_11 (dk_at dksL_law_0 13 rfl rfl)
theorem dL_law_15 : decode cL_law 15 = .ok (.astore_n 3, 1) := dk_78 (dk_at dksL_law_0 15 rfl rfl)
theorem dL_law_16 : decode cL_law 16 = .ok (.aload_n 1, 1) := dk_43 (dk_at dksL_law_0 16 rfl rfl)
theorem dL_law_17 : decode cL_law 17 = .ok (.aload_n 2, 1) := dk_44 (dk_at dksL_law_0 17 rfl rfl)
theorem dL_law_18 : decode cL_law 18 = .ok (.aload_n 3, 1) := dk_45 (dk_at dksL_law_0 18 rfl rfl)
theorem dL_law_19 : decode cL_law 19 = .ok (.aload_n 0, 1) := dk_42 (dk_at dksL_law_0 19 rfl rfl)
theorem dL_law_20 : decode cL_law 20 = .ok (.iconst 0, 1) := dk_3 (dk_at dksL_law_0 20 rfl rfl)
theorem dL_law_21 : decode cL_law 21 = .ok (.invokestatic 44, 3) := dk_184 0 44 (dk_at dksL_law_0 21 rfl rfl)
theorem dL_law_24 : decode cL_law 24 = .ok (.invokestatic 48, 3) := dk_184 0 48 (dk_at dksL_law_1 0 rfl rfl)
theorem dL_law_27 : decode cL_law 27 = .ok (.ifCond .ne 5, 3) := dk_154 0 5 (dk_at dksL_law_1 3 rfl rfl)
theorem dL_law_30 : decode cL_law 30 = .ok (.iconst 0, 1) := dk_3 (dk_at dksL_law_1 6 rfl rfl)
theorem dL_law_31 : decode cL_law 31 = .ok (.ireturn, 1) := dk_172 (dk_at dksL_law_1 7 rfl rfl)
theorem dL_law_32 : decode cL_law 32 = .ok (.iconst 0, 1) := dk_3 (dk_at dksL_law_1 8 rfl rfl)
theorem dL_law_33 : decode cL_law 33 = .ok (.istore 4, 2) := dk_54 4 (dk_at dksL_law_1 9 rfl rfl)
theorem dL_law_35 : decode cL_law 35 = .ok (.iload 4, 2) := dk_21 4 (dk_at dksL_law_1 11 rfl rfl)
theorem dL_law_37 : decode cL_law 37 = .ok (.iconst 5, 1) := dk_8 (dk_at dksL_law_1 13 rfl rfl)
theorem dL_law_38 : decode cL_law 38 = .ok (.iadd, 1) := dk_96 (dk_at dksL_law_1 14 rfl rfl)
theorem dL_law_39 : decode cL_law 39 = .ok (.bipush 96, 2) := dk_16 96 (dk_at dksL_law_1 15 rfl rfl)
theorem dL_law_41 : decode cL_law 41 = .ok (.if_icmp .ge 605, 3) := dk_162 2 93 (dk_at dksL_law_1 17 rfl rfl)
theorem dL_law_44 : decode cL_law 44 = .ok (.aload_n 0, 1) := dk_42 (dk_at dksL_law_1 20 rfl rfl)
theorem dL_law_45 : decode cL_law 45 = .ok (.iload 4, 2) := dk_21 4 (dk_at dksL_law_1 21 rfl rfl)
theorem dL_law_47 : decode cL_law 47 = .ok (.invokestatic 44, 3) := dk_184 0 44 (dk_at dksL_law_2 0 rfl rfl)
theorem dL_law_50 : decode cL_law 50 = .ok (.istore 5, 2) := dk_54 5 (dk_at dksL_law_2 3 rfl rfl)
theorem dL_law_52 : decode cL_law 52 = .ok (.aload_n 0, 1) := dk_42 (dk_at dksL_law_2 5 rfl rfl)
theorem dL_law_53 : decode cL_law 53 = .ok (.iload 4, 2) := dk_21 4 (dk_at dksL_law_2 6 rfl rfl)
theorem dL_law_55 : decode cL_law 55 = .ok (.iconst 1, 1) := dk_4 (dk_at dksL_law_2 8 rfl rfl)
theorem dL_law_56 : decode cL_law 56 = .ok (.iadd, 1) := dk_96 (dk_at dksL_law_2 9 rfl rfl)
theorem dL_law_57 : decode cL_law 57 = .ok (.invokestatic 44, 3) := dk_184 0 44 (dk_at dksL_law_2 10 rfl rfl)
theorem dL_law_60 : decode cL_law 60 = .ok (.istore 6, 2) := dk_54 6 (dk_at dksL_law_2 13 rfl rfl)
theorem dL_law_62 : decode cL_law 62 = .ok (.iload 6, 2) := dk_21 6 (dk_at dksL_law_2 15 rfl rfl)
theorem dL_law_64 : decode cL_law 64 = .ok (.iconst 1, 1) := dk_4 (dk_at dksL_law_2 17 rfl rfl)
theorem dL_law_65 : decode cL_law 65 = .ok (.iand, 1) := dk_126 (dk_at dksL_law_2 18 rfl rfl)
theorem dL_law_66 : decode cL_law 66 = .ok (.istore 7, 2) := dk_54 7 (dk_at dksL_law_2 19 rfl rfl)
theorem dL_law_68 : decode cL_law 68 = .ok (.aload_n 0, 1) := dk_42 (dk_at dksL_law_2 21 rfl rfl)
theorem dL_law_69 : decode cL_law 69 = .ok (.iload 4, 2) := dk_21 4 (dk_at dksL_law_2 22 rfl rfl)
theorem dL_law_71 : decode cL_law 71 = .ok (.iconst 4, 1) := dk_7 (dk_at dksL_law_3 0 rfl rfl)
theorem dL_law_72 : decode cL_law 72 = .ok (.iadd, 1) := dk_96 (dk_at dksL_law_3 1 rfl rfl)
theorem dL_law_73 : decode cL_law 73 = .ok (.invokestatic 44, 3) := dk_184 0 44 (dk_at dksL_law_3 2 rfl rfl)
theorem dL_law_76 : decode cL_law 76 = .ok (.istore 8, 2) := dk_54 8 (dk_at dksL_law_3 5 rfl rfl)
theorem dL_law_78 : decode cL_law 78 = .ok (.iload 5, 2) := dk_21 5 (dk_at dksL_law_3 7 rfl rfl)
theorem dL_law_80 : decode cL_law 80 = .ok (.ldc 52, 2) := dk_18 52 (dk_at dksL_law_3 9 rfl rfl)
theorem dL_law_82 : decode cL_law 82 = .ok (.iand, 1) := dk_126 (dk_at dksL_law_3 11 rfl rfl)
theorem dL_law_83 : decode cL_law 83 = .ok (.bipush 6, 2) := dk_16 6 (dk_at dksL_law_3 12 rfl rfl)
theorem dL_law_85 : decode cL_law 85 = .ok (.irem, 1) := dk_112 (dk_at dksL_law_3 14 rfl rfl)
theorem dL_law_86 : decode cL_law 86 = .ok (.tableswitch 477 0 4 #[34, 176, 255, 321, 321], 34) := by decide +kernel
theorem dL_law_120 : decode cL_law 120 = .ok (.iload 5, 2) := dk_21 5 (dk_at dksL_law_5 0 rfl rfl)
theorem dL_law_122 : decode cL_law 122 = .ok (.bipush 8, 2) := dk_16 8 (dk_at dksL_law_5 2 rfl rfl)
theorem dL_law_124 : decode cL_law 124 = .ok (.ishr, 1) := dk_122 (dk_at dksL_law_5 4 rfl rfl)
theorem dL_law_125 : decode cL_law 125 = .ok (.iconst 1, 1) := dk_4 (dk_at dksL_law_5 5 rfl rfl)
theorem dL_law_126 : decode cL_law 126 = .ok (.iand, 1) := dk_126 (dk_at dksL_law_5 6 rfl rfl)
theorem dL_law_127 : decode cL_law 127 = .ok (.ifCond .ne 25, 3) := dk_154 0 25 (dk_at dksL_law_5 7 rfl rfl)
theorem dL_law_130 : decode cL_law 130 = .ok (.aload_n 0, 1) := dk_42 (dk_at dksL_law_5 10 rfl rfl)
theorem dL_law_131 : decode cL_law 131 = .ok (.iload 4, 2) := dk_21 4 (dk_at dksL_law_5 11 rfl rfl)
theorem dL_law_133 : decode cL_law 133 = .ok (.iconst 2, 1) := dk_5 (dk_at dksL_law_5 13 rfl rfl)
theorem dL_law_134 : decode cL_law 134 = .ok (.iadd, 1) := dk_96 (dk_at dksL_law_5 14 rfl rfl)
theorem dL_law_135 : decode cL_law 135 = .ok (.invokestatic 44, 3) := dk_184 0 44 (dk_at dksL_law_5 15 rfl rfl)
theorem dL_law_138 : decode cL_law 138 = .ok (.aload_n 0, 1) := dk_42 (dk_at dksL_law_5 18 rfl rfl)
theorem dL_law_139 : decode cL_law 139 = .ok (.iload 4, 2) := dk_21 4 (dk_at dksL_law_5 19 rfl rfl)
theorem dL_law_141 : decode cL_law 141 = .ok (.iconst 3, 1) := dk_6 (dk_at dksL_law_5 21 rfl rfl)
theorem dL_law_142 : decode cL_law 142 = .ok (.iadd, 1) := dk_96 (dk_at dksL_law_5 22 rfl rfl)
theorem dL_law_143 : decode cL_law 143 = .ok (.invokestatic 44, 3) := dk_184 0 44 (dk_at dksL_law_6 0 rfl rfl)
theorem dL_law_146 : decode cL_law 146 = .ok (.invokestatic 53, 3) := dk_184 0 53 (dk_at dksL_law_6 3 rfl rfl)
theorem dL_law_149 : decode cL_law 149 = .ok (.goto 50, 3) := dk_167 0 50 (dk_at dksL_law_6 6 rfl rfl)
theorem dL_law_152 : decode cL_law 152 = .ok (.iload 5, 2) := dk_21 5 (dk_at dksL_law_6 9 rfl rfl)
theorem dL_law_154 : decode cL_law 154 = .ok (.bipush 9, 2) := dk_16 9 (dk_at dksL_law_6 11 rfl rfl)
theorem dL_law_156 : decode cL_law 156 = .ok (.ishr, 1) := dk_122 (dk_at dksL_law_6 13 rfl rfl)
theorem dL_law_157 : decode cL_law 157 = .ok (.iconst 1, 1) := dk_4 (dk_at dksL_law_6 14 rfl rfl)
theorem dL_law_158 : decode cL_law 158 = .ok (.iand, 1) := dk_126 (dk_at dksL_law_6 15 rfl rfl)
theorem dL_law_159 : decode cL_law 159 = .ok (.ifCond .ne 23, 3) := dk_154 0 23 (dk_at dksL_law_6 16 rfl rfl)
theorem dL_law_162 : decode cL_law 162 = .ok (.ldc2_w 57, 3) := dk_20 0 57 (dk_at dksL_law_6 19 rfl rfl)
theorem dL_law_165 : decode cL_law 165 = .ok (.aload_n 0, 1) := dk_42 (dk_at dksL_law_6 22 rfl rfl)
theorem dL_law_166 : decode cL_law 166 = .ok (.iload 4, 2) := dk_21 4 (dk_at dksL_law_7 0 rfl rfl)
theorem dL_law_168 : decode cL_law 168 = .ok (.iconst 2, 1) := dk_5 (dk_at dksL_law_7 2 rfl rfl)
theorem dL_law_169 : decode cL_law 169 = .ok (.iadd, 1) := dk_96 (dk_at dksL_law_7 3 rfl rfl)
theorem dL_law_170 : decode cL_law 170 = .ok (.invokestatic 44, 3) := dk_184 0 44 (dk_at dksL_law_7 4 rfl rfl)
theorem dL_law_173 : decode cL_law 173 = .ok (.sipush 1023, 3) := dk_17 3 255 (dk_at dksL_law_7 7 rfl rfl)
theorem dL_law_176 : decode cL_law 176 = .ok (.iand, 1) := dk_126 (dk_at dksL_law_7 10 rfl rfl)
theorem dL_law_177 : decode cL_law 177 = .ok (.i2l, 1) := dk_133 (dk_at dksL_law_7 11 rfl rfl)
theorem dL_law_178 : decode cL_law 178 = .ok (.lsub, 1) := dk_101 (dk_at dksL_law_7 12 rfl rfl)
theorem dL_law_179 : decode cL_law 179 = .ok (.goto 20, 3) := dk_167 0 20 (dk_at dksL_law_7 13 rfl rfl)
theorem dL_law_182 : decode cL_law 182 = .ok (.ldc2_w 59, 3) := dk_20 0 59 (dk_at dksL_law_7 16 rfl rfl)
theorem dL_law_185 : decode cL_law 185 = .ok (.aload_n 0, 1) := dk_42 (dk_at dksL_law_7 19 rfl rfl)
theorem dL_law_186 : decode cL_law 186 = .ok (.iload 4, 2) := dk_21 4 (dk_at dksL_law_7 20 rfl rfl)
theorem dL_law_188 : decode cL_law 188 = .ok (.iconst 2, 1) := dk_5 (dk_at dksL_law_7 22 rfl rfl)
theorem dL_law_189 : decode cL_law 189 = .ok (.iadd, 1) := dk_96 (dk_at dksL_law_7 23 rfl rfl)
theorem dL_law_190 : decode cL_law 190 = .ok (.invokestatic 44, 3) := dk_184 0 44 (dk_at dksL_law_8 0 rfl rfl)
theorem dL_law_193 : decode cL_law 193 = .ok (.sipush 1023, 3) := dk_17 3 255 (dk_at dksL_law_8 3 rfl rfl)
theorem dL_law_196 : decode cL_law 196 = .ok (.iand, 1) := dk_126 (dk_at dksL_law_8 6 rfl rfl)
theorem dL_law_197 : decode cL_law 197 = .ok (.i2l, 1) := dk_133 (dk_at dksL_law_8 7 rfl rfl)
theorem dL_law_198 : decode cL_law 198 = .ok (.ladd, 1) := dk_97 (dk_at dksL_law_8 8 rfl rfl)
theorem dL_law_199 : decode cL_law 199 = .ok (.lstore 9, 2) := dk_55 9 (dk_at dksL_law_8 9 rfl rfl)
theorem dL_law_201 : decode cL_law 201 = .ok (.aload_n 1, 1) := dk_43 (dk_at dksL_law_8 11 rfl rfl)
theorem dL_law_202 : decode cL_law 202 = .ok (.iload 6, 2) := dk_21 6 (dk_at dksL_law_8 12 rfl rfl)
theorem dL_law_204 : decode cL_law 204 = .ok (.lload 9, 2) := dk_22 9 (dk_at dksL_law_8 14 rfl rfl)
theorem dL_law_206 : decode cL_law 206 = .ok (.bipush 32, 2) := dk_16 32 (dk_at dksL_law_8 16 rfl rfl)
theorem dL_law_208 : decode cL_law 208 = .ok (.lshr, 1) := dk_123 (dk_at dksL_law_8 18 rfl rfl)
theorem dL_law_209 : decode cL_law 209 = .ok (.l2i, 1) := dk_136 (dk_at dksL_law_8 19 rfl rfl)
theorem dL_law_210 : decode cL_law 210 = .ok (.lload 9, 2) := dk_22 9 (dk_at dksL_law_8 20 rfl rfl)
theorem dL_law_212 : decode cL_law 212 = .ok (.l2i, 1) := dk_136 (dk_at dksL_law_8 22 rfl rfl)
theorem dL_law_213 : decode cL_law 213 = .ok (.iload 8, 2) := dk_21 8 (dk_at dksL_law_9 0 rfl rfl)
theorem dL_law_215 : decode cL_law 215 = .ok (.invokevirtual 61, 3) := dk_182 0 61 (dk_at dksL_law_9 2 rfl rfl)
theorem dL_law_218 : decode cL_law 218 = .ok (.aload_n 2, 1) := dk_44 (dk_at dksL_law_9 5 rfl rfl)
theorem dL_law_219 : decode cL_law 219 = .ok (.iload 7, 2) := dk_21 7 (dk_at dksL_law_9 6 rfl rfl)
theorem dL_law_221 : decode cL_law 221 = .ok (.lload 9, 2) := dk_22 9 (dk_at dksL_law_9 8 rfl rfl)
theorem dL_law_223 : decode cL_law 223 = .ok (.ldc2_w 65, 3) := dk_20 0 65 (dk_at dksL_law_9 10 rfl rfl)
theorem dL_law_226 : decode cL_law 226 = .ok (.lrem, 1) := dk_113 (dk_at dksL_law_9 13 rfl rfl)
theorem dL_law_227 : decode cL_law 227 = .ok (.iload 8, 2) := dk_21 8 (dk_at dksL_law_9 14 rfl rfl)
theorem dL_law_229 : decode cL_law 229 = .ok (.i2l, 1) := dk_133 (dk_at dksL_law_9 16 rfl rfl)
theorem dL_law_230 : decode cL_law 230 = .ok (.ldc2_w 67, 3) := dk_20 0 67 (dk_at dksL_law_9 17 rfl rfl)
theorem dL_law_233 : decode cL_law 233 = .ok (.invokestatic 69, 3) := dk_184 0 69 (dk_at dksL_law_9 20 rfl rfl)
theorem dL_law_236 : decode cL_law 236 = .ok (.ladd, 1) := dk_97 (dk_at dksL_law_9 23 rfl rfl)
theorem dL_law_237 : decode cL_law 237 = .ok (.lastore, 1) := dk_80 (dk_at dksL_law_10 0 rfl rfl)
theorem dL_law_238 : decode cL_law 238 = .ok (.aload_n 3, 1) := dk_45 (dk_at dksL_law_10 1 rfl rfl)
theorem dL_law_239 : decode cL_law 239 = .ok (.iload 7, 2) := dk_21 7 (dk_at dksL_law_10 2 rfl rfl)
theorem dL_law_241 : decode cL_law 241 = .ok (.iload 8, 2) := dk_21 8 (dk_at dksL_law_10 4 rfl rfl)
theorem dL_law_243 : decode cL_law 243 = .ok (.i2l, 1) := dk_133 (dk_at dksL_law_10 6 rfl rfl)
theorem dL_law_244 : decode cL_law 244 = .ok (.iload 8, 2) := dk_21 8 (dk_at dksL_law_10 7 rfl rfl)
theorem dL_law_246 : decode cL_law 246 = .ok (.i2l, 1) := dk_133 (dk_at dksL_law_10 9 rfl rfl)
theorem dL_law_247 : decode cL_law 247 = .ok (.ldc2_w 67, 3) := dk_20 0 67 (dk_at dksL_law_10 10 rfl rfl)
theorem dL_law_250 : decode cL_law 250 = .ok (.invokestatic 69, 3) := dk_184 0 69 (dk_at dksL_law_10 13 rfl rfl)
theorem dL_law_253 : decode cL_law 253 = .ok (.ldc2_w 67, 3) := dk_20 0 67 (dk_at dksL_law_10 16 rfl rfl)
theorem dL_law_256 : decode cL_law 256 = .ok (.lmul, 1) := dk_105 (dk_at dksL_law_10 19 rfl rfl)
theorem dL_law_257 : decode cL_law 257 = .ok (.lsub, 1) := dk_101 (dk_at dksL_law_10 20 rfl rfl)
theorem dL_law_258 : decode cL_law 258 = .ok (.lastore, 1) := dk_80 (dk_at dksL_law_10 21 rfl rfl)
theorem dL_law_259 : decode cL_law 259 = .ok (.goto 362, 3) := dk_167 1 106 (dk_at dksL_law_11 0 rfl rfl)
theorem dL_law_262 : decode cL_law 262 = .ok (.aload_n 0, 1) := dk_42 (dk_at dksL_law_11 3 rfl rfl)
theorem dL_law_263 : decode cL_law 263 = .ok (.iload 4, 2) := dk_21 4 (dk_at dksL_law_11 4 rfl rfl)
theorem dL_law_265 : decode cL_law 265 = .ok (.iconst 2, 1) := dk_5 (dk_at dksL_law_11 6 rfl rfl)
theorem dL_law_266 : decode cL_law 266 = .ok (.iadd, 1) := dk_96 (dk_at dksL_law_11 7 rfl rfl)
theorem dL_law_267 : decode cL_law 267 = .ok (.invokestatic 44, 3) := dk_184 0 44 (dk_at dksL_law_11 8 rfl rfl)
theorem dL_law_270 : decode cL_law 270 = .ok (.aload_n 0, 1) := dk_42 (dk_at dksL_law_11 11 rfl rfl)
theorem dL_law_271 : decode cL_law 271 = .ok (.iload 4, 2) := dk_21 4 (dk_at dksL_law_11 12 rfl rfl)
theorem dL_law_273 : decode cL_law 273 = .ok (.iconst 3, 1) := dk_6 (dk_at dksL_law_11 14 rfl rfl)
theorem dL_law_274 : decode cL_law 274 = .ok (.iadd, 1) := dk_96 (dk_at dksL_law_11 15 rfl rfl)
theorem dL_law_275 : decode cL_law 275 = .ok (.invokestatic 44, 3) := dk_184 0 44 (dk_at dksL_law_11 16 rfl rfl)
theorem dL_law_278 : decode cL_law 278 = .ok (.invokestatic 53, 3) := dk_184 0 53 (dk_at dksL_law_11 19 rfl rfl)
theorem dL_law_281 : decode cL_law 281 = .ok (.iload 5, 2) := dk_21 5 (dk_at dksL_law_11 22 rfl rfl)
theorem dL_law_283 : decode cL_law 283 = .ok (.bipush 8, 2) := dk_16 8 (dk_at dksL_law_12 0 rfl rfl)
theorem dL_law_285 : decode cL_law 285 = .ok (.ishr, 1) := dk_122 (dk_at dksL_law_12 2 rfl rfl)
theorem dL_law_286 : decode cL_law 286 = .ok (.bipush 63, 2) := dk_16 63 (dk_at dksL_law_12 3 rfl rfl)
theorem dL_law_288 : decode cL_law 288 = .ok (.iand, 1) := dk_126 (dk_at dksL_law_12 5 rfl rfl)
theorem dL_law_289 : decode cL_law 289 = .ok (.lshr, 1) := dk_123 (dk_at dksL_law_12 6 rfl rfl)
theorem dL_law_290 : decode cL_law 290 = .ok (.lstore 9, 2) := dk_55 9 (dk_at dksL_law_12 7 rfl rfl)
theorem dL_law_292 : decode cL_law 292 = .ok (.aload_n 1, 1) := dk_43 (dk_at dksL_law_12 9 rfl rfl)
theorem dL_law_293 : decode cL_law 293 = .ok (.iload 6, 2) := dk_21 6 (dk_at dksL_law_12 10 rfl rfl)
theorem dL_law_295 : decode cL_law 295 = .ok (.lload 9, 2) := dk_22 9 (dk_at dksL_law_12 12 rfl rfl)
theorem dL_law_297 : decode cL_law 297 = .ok (.bipush 32, 2) := dk_16 32 (dk_at dksL_law_12 14 rfl rfl)
theorem dL_law_299 : decode cL_law 299 = .ok (.lshr, 1) := dk_123 (dk_at dksL_law_12 16 rfl rfl)
theorem dL_law_300 : decode cL_law 300 = .ok (.l2i, 1) := dk_136 (dk_at dksL_law_12 17 rfl rfl)
theorem dL_law_301 : decode cL_law 301 = .ok (.lload 9, 2) := dk_22 9 (dk_at dksL_law_12 18 rfl rfl)
theorem dL_law_303 : decode cL_law 303 = .ok (.l2i, 1) := dk_136 (dk_at dksL_law_12 20 rfl rfl)
theorem dL_law_304 : decode cL_law 304 = .ok (.invokevirtual 73, 3) := dk_182 0 73 (dk_at dksL_law_12 21 rfl rfl)
theorem dL_law_307 : decode cL_law 307 = .ok (.aload_n 2, 1) := dk_44 (dk_at dksL_law_13 0 rfl rfl)
theorem dL_law_308 : decode cL_law 308 = .ok (.iload 7, 2) := dk_21 7 (dk_at dksL_law_13 1 rfl rfl)
theorem dL_law_310 : decode cL_law 310 = .ok (.lload 9, 2) := dk_22 9 (dk_at dksL_law_13 3 rfl rfl)
theorem dL_law_312 : decode cL_law 312 = .ok (.ldc2_w 28, 3) := dk_20 0 28 (dk_at dksL_law_13 5 rfl rfl)
theorem dL_law_315 : decode cL_law 315 = .ok (.invokestatic 69, 3) := dk_184 0 69 (dk_at dksL_law_13 8 rfl rfl)
theorem dL_law_318 : decode cL_law 318 = .ok (.lastore, 1) := dk_80 (dk_at dksL_law_13 11 rfl rfl)
theorem dL_law_319 : decode cL_law 319 = .ok (.aload_n 3, 1) := dk_45 (dk_at dksL_law_13 12 rfl rfl)
theorem dL_law_320 : decode cL_law 320 = .ok (.iload 7, 2) := dk_21 7 (dk_at dksL_law_13 13 rfl rfl)
theorem dL_law_322 : decode cL_law 322 = .ok (.lload 9, 2) := dk_22 9 (dk_at dksL_law_13 15 rfl rfl)
theorem dL_law_324 : decode cL_law 324 = .ok (.aload_n 2, 1) := dk_44 (dk_at dksL_law_13 17 rfl rfl)
theorem dL_law_325 : decode cL_law 325 = .ok (.iload 7, 2) := dk_21 7 (dk_at dksL_law_13 18 rfl rfl)
theorem dL_law_327 : decode cL_law 327 = .ok (.laload, 1) := dk_47 (dk_at dksL_law_13 20 rfl rfl)
theorem dL_law_328 : decode cL_law 328 = .ok (.ldc2_w 28, 3) := dk_20 0 28 (dk_at dksL_law_13 21 rfl rfl)
theorem dL_law_331 : decode cL_law 331 = .ok (.lmul, 1) := dk_105 (dk_at dksL_law_14 0 rfl rfl)
theorem dL_law_332 : decode cL_law 332 = .ok (.lsub, 1) := dk_101 (dk_at dksL_law_14 1 rfl rfl)
theorem dL_law_333 : decode cL_law 333 = .ok (.ldc2_w 30, 3) := dk_20 0 30 (dk_at dksL_law_14 2 rfl rfl)
theorem dL_law_336 : decode cL_law 336 = .ok (.lmul, 1) := dk_105 (dk_at dksL_law_14 5 rfl rfl)
theorem dL_law_337 : decode cL_law 337 = .ok (.lastore, 1) := dk_80 (dk_at dksL_law_14 6 rfl rfl)
theorem dL_law_338 : decode cL_law 338 = .ok (.goto 283, 3) := dk_167 1 27 (dk_at dksL_law_14 7 rfl rfl)
theorem dL_law_341 : decode cL_law 341 = .ok (.aload_n 2, 1) := dk_44 (dk_at dksL_law_14 10 rfl rfl)
theorem dL_law_342 : decode cL_law 342 = .ok (.iload 7, 2) := dk_21 7 (dk_at dksL_law_14 11 rfl rfl)
theorem dL_law_344 : decode cL_law 344 = .ok (.laload, 1) := dk_47 (dk_at dksL_law_14 13 rfl rfl)
theorem dL_law_345 : decode cL_law 345 = .ok (.ldc2_w 65, 3) := dk_20 0 65 (dk_at dksL_law_14 14 rfl rfl)
theorem dL_law_348 : decode cL_law 348 = .ok (.lcmp, 1) := dk_148 (dk_at dksL_law_14 17 rfl rfl)
theorem dL_law_349 : decode cL_law 349 = .ok (.ifCond .gt 18, 3) := dk_157 0 18 (dk_at dksL_law_14 18 rfl rfl)
theorem dL_law_352 : decode cL_law 352 = .ok (.aload_n 2, 1) := dk_44 (dk_at dksL_law_14 21 rfl rfl)
theorem dL_law_353 : decode cL_law 353 = .ok (.iload 7, 2) := dk_21 7 (dk_at dksL_law_14 22 rfl rfl)
theorem dL_law_355 : decode cL_law 355 = .ok (.laload, 1) := dk_47 (dk_at dksL_law_15 0 rfl rfl)
theorem dL_law_356 : decode cL_law 356 = .ok (.ldc2_w 77, 3) := dk_20 0 77 (dk_at dksL_law_15 1 rfl rfl)
theorem dL_law_359 : decode cL_law 359 = .ok (.lcmp, 1) := dk_148 (dk_at dksL_law_15 4 rfl rfl)
theorem dL_law_360 : decode cL_law 360 = .ok (.ifCond .lt 7, 3) := dk_155 0 7 (dk_at dksL_law_15 5 rfl rfl)
theorem dL_law_363 : decode cL_law 363 = .ok (.iconst 1, 1) := dk_4 (dk_at dksL_law_15 8 rfl rfl)
theorem dL_law_364 : decode cL_law 364 = .ok (.goto 4, 3) := dk_167 0 4 (dk_at dksL_law_15 9 rfl rfl)
theorem dL_law_367 : decode cL_law 367 = .ok (.iconst 0, 1) := dk_3 (dk_at dksL_law_15 12 rfl rfl)
theorem dL_law_368 : decode cL_law 368 = .ok (.istore 9, 2) := dk_54 9 (dk_at dksL_law_15 13 rfl rfl)
theorem dL_law_370 : decode cL_law 370 = .ok (.aload_n 1, 1) := dk_43 (dk_at dksL_law_15 15 rfl rfl)
theorem dL_law_371 : decode cL_law 371 = .ok (.iload 6, 2) := dk_21 6 (dk_at dksL_law_15 16 rfl rfl)
theorem dL_law_373 : decode cL_law 373 = .ok (.iload 8, 2) := dk_21 8 (dk_at dksL_law_15 18 rfl rfl)
theorem dL_law_375 : decode cL_law 375 = .ok (.invokevirtual 79, 3) := dk_182 0 79 (dk_at dksL_law_15 20 rfl rfl)
theorem dL_law_378 : decode cL_law 378 = .ok (.iload 9, 2) := dk_21 9 (dk_at dksL_law_16 0 rfl rfl)
theorem dL_law_380 : decode cL_law 380 = .ok (.if_icmp .eq 5, 3) := dk_159 0 5 (dk_at dksL_law_16 2 rfl rfl)
theorem dL_law_383 : decode cL_law 383 = .ok (.iconst 0, 1) := dk_3 (dk_at dksL_law_16 5 rfl rfl)
theorem dL_law_384 : decode cL_law 384 = .ok (.ireturn, 1) := dk_172 (dk_at dksL_law_16 6 rfl rfl)
theorem dL_law_385 : decode cL_law 385 = .ok (.aload_n 2, 1) := dk_44 (dk_at dksL_law_16 7 rfl rfl)
theorem dL_law_386 : decode cL_law 386 = .ok (.iload 7, 2) := dk_21 7 (dk_at dksL_law_16 8 rfl rfl)
theorem dL_law_388 : decode cL_law 388 = .ok (.dup2, 1) := dk_92 (dk_at dksL_law_16 10 rfl rfl)
theorem dL_law_389 : decode cL_law 389 = .ok (.laload, 1) := dk_47 (dk_at dksL_law_16 11 rfl rfl)
theorem dL_law_390 : decode cL_law 390 = .ok (.iload 9, 2) := dk_21 9 (dk_at dksL_law_16 12 rfl rfl)
theorem dL_law_392 : decode cL_law 392 = .ok (.ifCond .eq 9, 3) := dk_153 0 9 (dk_at dksL_law_16 14 rfl rfl)
theorem dL_law_395 : decode cL_law 395 = .ok (.iload 8, 2) := dk_21 8 (dk_at dksL_law_16 17 rfl rfl)
theorem dL_law_397 : decode cL_law 397 = .ok (.i2l, 1) := dk_133 (dk_at dksL_law_16 19 rfl rfl)
theorem dL_law_398 : decode cL_law 398 = .ok (.goto 4, 3) := dk_167 0 4 (dk_at dksL_law_16 20 rfl rfl)
theorem dL_law_401 : decode cL_law 401 = .ok (.lconst 0, 1) := dk_9 (dk_at dksL_law_16 23 rfl rfl)
theorem dL_law_402 : decode cL_law 402 = .ok (.ladd, 1) := dk_97 (dk_at dksL_law_17 0 rfl rfl)
theorem dL_law_403 : decode cL_law 403 = .ok (.lastore, 1) := dk_80 (dk_at dksL_law_17 1 rfl rfl)
theorem dL_law_404 : decode cL_law 404 = .ok (.goto 217, 3) := dk_167 0 217 (dk_at dksL_law_17 2 rfl rfl)
theorem dL_law_407 : decode cL_law 407 = .ok (.iload 5, 2) := dk_21 5 (dk_at dksL_law_17 5 rfl rfl)
theorem dL_law_409 : decode cL_law 409 = .ok (.ldc 52, 2) := dk_18 52 (dk_at dksL_law_17 7 rfl rfl)
theorem dL_law_411 : decode cL_law 411 = .ok (.iand, 1) := dk_126 (dk_at dksL_law_17 9 rfl rfl)
theorem dL_law_412 : decode cL_law 412 = .ok (.bipush 6, 2) := dk_16 6 (dk_at dksL_law_17 10 rfl rfl)
theorem dL_law_414 : decode cL_law 414 = .ok (.irem, 1) := dk_112 (dk_at dksL_law_17 12 rfl rfl)
theorem dL_law_415 : decode cL_law 415 = .ok (.iconst 3, 1) := dk_6 (dk_at dksL_law_17 13 rfl rfl)
theorem dL_law_416 : decode cL_law 416 = .ok (.if_icmp .ne 7, 3) := dk_160 0 7 (dk_at dksL_law_17 14 rfl rfl)
theorem dL_law_419 : decode cL_law 419 = .ok (.iconst 1, 1) := dk_4 (dk_at dksL_law_17 17 rfl rfl)
theorem dL_law_420 : decode cL_law 420 = .ok (.goto 4, 3) := dk_167 0 4 (dk_at dksL_law_17 18 rfl rfl)
theorem dL_law_423 : decode cL_law 423 = .ok (.iconst 0, 1) := dk_3 (dk_at dksL_law_17 21 rfl rfl)
theorem dL_law_424 : decode cL_law 424 = .ok (.istore 9, 2) := dk_54 9 (dk_at dksL_law_17 22 rfl rfl)
theorem dL_law_426 : decode cL_law 426 = .ok (.aload_n 2, 1) := dk_44 (dk_at dksL_law_18 0 rfl rfl)
theorem dL_law_427 : decode cL_law 427 = .ok (.iload 7, 2) := dk_21 7 (dk_at dksL_law_18 1 rfl rfl)
theorem dL_law_429 : decode cL_law 429 = .ok (.laload, 1) := dk_47 (dk_at dksL_law_18 3 rfl rfl)
theorem dL_law_430 : decode cL_law 430 = .ok (.ldc2_w 65, 3) := dk_20 0 65 (dk_at dksL_law_18 4 rfl rfl)
theorem dL_law_433 : decode cL_law 433 = .ok (.lcmp, 1) := dk_148 (dk_at dksL_law_18 7 rfl rfl)
theorem dL_law_434 : decode cL_law 434 = .ok (.ifCond .gt 18, 3) := dk_157 0 18 (dk_at dksL_law_18 8 rfl rfl)
theorem dL_law_437 : decode cL_law 437 = .ok (.aload_n 2, 1) := dk_44 (dk_at dksL_law_18 11 rfl rfl)
theorem dL_law_438 : decode cL_law 438 = .ok (.iload 7, 2) := dk_21 7 (dk_at dksL_law_18 12 rfl rfl)
theorem dL_law_440 : decode cL_law 440 = .ok (.laload, 1) := dk_47 (dk_at dksL_law_18 14 rfl rfl)
theorem dL_law_441 : decode cL_law 441 = .ok (.ldc2_w 77, 3) := dk_20 0 77 (dk_at dksL_law_18 15 rfl rfl)
theorem dL_law_444 : decode cL_law 444 = .ok (.lcmp, 1) := dk_148 (dk_at dksL_law_18 18 rfl rfl)
theorem dL_law_445 : decode cL_law 445 = .ok (.ifCond .lt 7, 3) := dk_155 0 7 (dk_at dksL_law_18 19 rfl rfl)
theorem dL_law_448 : decode cL_law 448 = .ok (.iconst 1, 1) := dk_4 (dk_at dksL_law_18 22 rfl rfl)
theorem dL_law_449 : decode cL_law 449 = .ok (.goto 4, 3) := dk_167 0 4 (dk_at dksL_law_19 0 rfl rfl)
theorem dL_law_452 : decode cL_law 452 = .ok (.iconst 0, 1) := dk_3 (dk_at dksL_law_19 3 rfl rfl)
theorem dL_law_453 : decode cL_law 453 = .ok (.istore 10, 2) := dk_54 10 (dk_at dksL_law_19 4 rfl rfl)
theorem dL_law_455 : decode cL_law 455 = .ok (.iload 9, 2) := dk_21 9 (dk_at dksL_law_19 6 rfl rfl)
theorem dL_law_457 : decode cL_law 457 = .ok (.ifCond .eq 14, 3) := dk_153 0 14 (dk_at dksL_law_19 8 rfl rfl)
theorem dL_law_460 : decode cL_law 460 = .ok (.aload_n 1, 1) := dk_43 (dk_at dksL_law_19 11 rfl rfl)
theorem dL_law_461 : decode cL_law 461 = .ok (.iload 6, 2) := dk_21 6 (dk_at dksL_law_19 12 rfl rfl)
theorem dL_law_463 : decode cL_law 463 = .ok (.iload 8, 2) := dk_21 8 (dk_at dksL_law_19 14 rfl rfl)
theorem dL_law_465 : decode cL_law 465 = .ok (.invokevirtual 83, 3) := dk_182 0 83 (dk_at dksL_law_19 16 rfl rfl)
theorem dL_law_468 : decode cL_law 468 = .ok (.goto 11, 3) := dk_167 0 11 (dk_at dksL_law_19 19 rfl rfl)
theorem dL_law_471 : decode cL_law 471 = .ok (.aload_n 1, 1) := dk_43 (dk_at dksL_law_19 22 rfl rfl)
theorem dL_law_472 : decode cL_law 472 = .ok (.iload 6, 2) := dk_21 6 (dk_at dksL_law_20 0 rfl rfl)
theorem dL_law_474 : decode cL_law 474 = .ok (.iload 8, 2) := dk_21 8 (dk_at dksL_law_20 2 rfl rfl)
theorem dL_law_476 : decode cL_law 476 = .ok (.invokevirtual 86, 3) := dk_182 0 86 (dk_at dksL_law_20 4 rfl rfl)
theorem dL_law_479 : decode cL_law 479 = .ok (.iload 10, 2) := dk_21 10 (dk_at dksL_law_20 7 rfl rfl)
theorem dL_law_481 : decode cL_law 481 = .ok (.if_icmp .eq 5, 3) := dk_159 0 5 (dk_at dksL_law_20 9 rfl rfl)
theorem dL_law_484 : decode cL_law 484 = .ok (.iconst 0, 1) := dk_3 (dk_at dksL_law_20 12 rfl rfl)
theorem dL_law_485 : decode cL_law 485 = .ok (.ireturn, 1) := dk_172 (dk_at dksL_law_20 13 rfl rfl)
theorem dL_law_486 : decode cL_law 486 = .ok (.iload 9, 2) := dk_21 9 (dk_at dksL_law_20 14 rfl rfl)
theorem dL_law_488 : decode cL_law 488 = .ok (.ifCond .eq 13, 3) := dk_153 0 13 (dk_at dksL_law_20 16 rfl rfl)
theorem dL_law_491 : decode cL_law 491 = .ok (.iload 8, 2) := dk_21 8 (dk_at dksL_law_20 19 rfl rfl)
theorem dL_law_493 : decode cL_law 493 = .ok (.i2l, 1) := dk_133 (dk_at dksL_law_20 21 rfl rfl)
theorem dL_law_494 : decode cL_law 494 = .ok (.ldc2_w 30, 3) := dk_20 0 30 (dk_at dksL_law_21 0 rfl rfl)
theorem dL_law_497 : decode cL_law 497 = .ok (.lmul, 1) := dk_105 (dk_at dksL_law_21 3 rfl rfl)
theorem dL_law_498 : decode cL_law 498 = .ok (.goto 6, 3) := dk_167 0 6 (dk_at dksL_law_21 4 rfl rfl)
theorem dL_law_501 : decode cL_law 501 = .ok (.iload 8, 2) := dk_21 8 (dk_at dksL_law_21 7 rfl rfl)
theorem dL_law_503 : decode cL_law 503 = .ok (.i2l, 1) := dk_133 (dk_at dksL_law_21 9 rfl rfl)
theorem dL_law_504 : decode cL_law 504 = .ok (.lstore 11, 2) := dk_55 11 (dk_at dksL_law_21 10 rfl rfl)
theorem dL_law_506 : decode cL_law 506 = .ok (.iload 10, 2) := dk_21 10 (dk_at dksL_law_21 12 rfl rfl)
theorem dL_law_508 : decode cL_law 508 = .ok (.ifCond .eq 113, 3) := dk_153 0 113 (dk_at dksL_law_21 14 rfl rfl)
theorem dL_law_511 : decode cL_law 511 = .ok (.aload_n 2, 1) := dk_44 (dk_at dksL_law_21 17 rfl rfl)
theorem dL_law_512 : decode cL_law 512 = .ok (.iload 7, 2) := dk_21 7 (dk_at dksL_law_21 18 rfl rfl)
theorem dL_law_514 : decode cL_law 514 = .ok (.dup2, 1) := dk_92 (dk_at dksL_law_21 20 rfl rfl)
theorem dL_law_515 : decode cL_law 515 = .ok (.laload, 1) := dk_47 (dk_at dksL_law_21 21 rfl rfl)
theorem dL_law_516 : decode cL_law 516 = .ok (.aload_n 3, 1) := dk_45 (dk_at dksL_law_21 22 rfl rfl)
theorem dL_law_517 : decode cL_law 517 = .ok (.iload 7, 2) := dk_21 7 (dk_at dksL_law_22 0 rfl rfl)
theorem dL_law_519 : decode cL_law 519 = .ok (.laload, 1) := dk_47 (dk_at dksL_law_22 2 rfl rfl)
theorem dL_law_520 : decode cL_law 520 = .ok (.lload 11, 2) := dk_22 11 (dk_at dksL_law_22 3 rfl rfl)
theorem dL_law_522 : decode cL_law 522 = .ok (.ladd, 1) := dk_97 (dk_at dksL_law_22 5 rfl rfl)
theorem dL_law_523 : decode cL_law 523 = .ok (.ldc2_w 67, 3) := dk_20 0 67 (dk_at dksL_law_22 6 rfl rfl)
theorem dL_law_526 : decode cL_law 526 = .ok (.invokestatic 69, 3) := dk_184 0 69 (dk_at dksL_law_22 9 rfl rfl)
theorem dL_law_529 : decode cL_law 529 = .ok (.ladd, 1) := dk_97 (dk_at dksL_law_22 12 rfl rfl)
theorem dL_law_530 : decode cL_law 530 = .ok (.lastore, 1) := dk_80 (dk_at dksL_law_22 13 rfl rfl)
theorem dL_law_531 : decode cL_law 531 = .ok (.aload_n 3, 1) := dk_45 (dk_at dksL_law_22 14 rfl rfl)
theorem dL_law_532 : decode cL_law 532 = .ok (.iload 7, 2) := dk_21 7 (dk_at dksL_law_22 15 rfl rfl)
theorem dL_law_534 : decode cL_law 534 = .ok (.aload_n 3, 1) := dk_45 (dk_at dksL_law_22 17 rfl rfl)
theorem dL_law_535 : decode cL_law 535 = .ok (.iload 7, 2) := dk_21 7 (dk_at dksL_law_22 18 rfl rfl)
theorem dL_law_537 : decode cL_law 537 = .ok (.laload, 1) := dk_47 (dk_at dksL_law_22 20 rfl rfl)
theorem dL_law_538 : decode cL_law 538 = .ok (.lload 11, 2) := dk_22 11 (dk_at dksL_law_22 21 rfl rfl)
theorem dL_law_540 : decode cL_law 540 = .ok (.ladd, 1) := dk_97 (dk_at dksL_law_22 23 rfl rfl)
theorem dL_law_541 : decode cL_law 541 = .ok (.aload_n 3, 1) := dk_45 (dk_at dksL_law_23 0 rfl rfl)
theorem dL_law_542 : decode cL_law 542 = .ok (.iload 7, 2) := dk_21 7 (dk_at dksL_law_23 1 rfl rfl)
theorem dL_law_544 : decode cL_law 544 = .ok (.laload, 1) := dk_47 (dk_at dksL_law_23 3 rfl rfl)
theorem dL_law_545 : decode cL_law 545 = .ok (.lload 11, 2) := dk_22 11 (dk_at dksL_law_23 4 rfl rfl)
theorem dL_law_547 : decode cL_law 547 = .ok (.ladd, 1) := dk_97 (dk_at dksL_law_23 6 rfl rfl)
theorem dL_law_548 : decode cL_law 548 = .ok (.ldc2_w 67, 3) := dk_20 0 67 (dk_at dksL_law_23 7 rfl rfl)
theorem dL_law_551 : decode cL_law 551 = .ok (.invokestatic 69, 3) := dk_184 0 69 (dk_at dksL_law_23 10 rfl rfl)
theorem dL_law_554 : decode cL_law 554 = .ok (.ldc2_w 67, 3) := dk_20 0 67 (dk_at dksL_law_23 13 rfl rfl)
theorem dL_law_557 : decode cL_law 557 = .ok (.lmul, 1) := dk_105 (dk_at dksL_law_23 16 rfl rfl)
theorem dL_law_558 : decode cL_law 558 = .ok (.lsub, 1) := dk_101 (dk_at dksL_law_23 17 rfl rfl)
theorem dL_law_559 : decode cL_law 559 = .ok (.lastore, 1) := dk_80 (dk_at dksL_law_23 18 rfl rfl)
theorem dL_law_560 : decode cL_law 560 = .ok (.goto 61, 3) := dk_167 0 61 (dk_at dksL_law_23 19 rfl rfl)
theorem dL_law_563 : decode cL_law 563 = .ok (.aload_n 1, 1) := dk_43 (dk_at dksL_law_23 22 rfl rfl)
theorem dL_law_564 : decode cL_law 564 = .ok (.iload 6, 2) := dk_21 6 (dk_at dksL_law_24 0 rfl rfl)
theorem dL_law_566 : decode cL_law 566 = .ok (.iconst 1, 1) := dk_4 (dk_at dksL_law_24 2 rfl rfl)
theorem dL_law_567 : decode cL_law 567 = .ok (.ixor, 1) := dk_130 (dk_at dksL_law_24 3 rfl rfl)
theorem dL_law_568 : decode cL_law 568 = .ok (.aload_n 2, 1) := dk_44 (dk_at dksL_law_24 4 rfl rfl)
theorem dL_law_569 : decode cL_law 569 = .ok (.iload 7, 2) := dk_21 7 (dk_at dksL_law_24 5 rfl rfl)
theorem dL_law_571 : decode cL_law 571 = .ok (.laload, 1) := dk_47 (dk_at dksL_law_24 7 rfl rfl)
theorem dL_law_572 : decode cL_law 572 = .ok (.ldc2_w 65, 3) := dk_20 0 65 (dk_at dksL_law_24 8 rfl rfl)
theorem dL_law_575 : decode cL_law 575 = .ok (.lrem, 1) := dk_113 (dk_at dksL_law_24 11 rfl rfl)
theorem dL_law_576 : decode cL_law 576 = .ok (.bipush 32, 2) := dk_16 32 (dk_at dksL_law_24 12 rfl rfl)
theorem dL_law_578 : decode cL_law 578 = .ok (.lshr, 1) := dk_123 (dk_at dksL_law_24 14 rfl rfl)
theorem dL_law_579 : decode cL_law 579 = .ok (.l2i, 1) := dk_136 (dk_at dksL_law_24 15 rfl rfl)
theorem dL_law_580 : decode cL_law 580 = .ok (.aload_n 2, 1) := dk_44 (dk_at dksL_law_24 16 rfl rfl)
theorem dL_law_581 : decode cL_law 581 = .ok (.iload 7, 2) := dk_21 7 (dk_at dksL_law_24 17 rfl rfl)
theorem dL_law_583 : decode cL_law 583 = .ok (.laload, 1) := dk_47 (dk_at dksL_law_24 19 rfl rfl)
theorem dL_law_584 : decode cL_law 584 = .ok (.ldc2_w 65, 3) := dk_20 0 65 (dk_at dksL_law_24 20 rfl rfl)
theorem dL_law_587 : decode cL_law 587 = .ok (.lrem, 1) := dk_113 (dk_at dksL_law_24 23 rfl rfl)
theorem dL_law_588 : decode cL_law 588 = .ok (.l2i, 1) := dk_136 (dk_at dksL_law_25 0 rfl rfl)
theorem dL_law_589 : decode cL_law 589 = .ok (.aload_n 3, 1) := dk_45 (dk_at dksL_law_25 1 rfl rfl)
theorem dL_law_590 : decode cL_law 590 = .ok (.iload 7, 2) := dk_21 7 (dk_at dksL_law_25 2 rfl rfl)
theorem dL_law_592 : decode cL_law 592 = .ok (.laload, 1) := dk_47 (dk_at dksL_law_25 4 rfl rfl)
theorem dL_law_593 : decode cL_law 593 = .ok (.l2i, 1) := dk_136 (dk_at dksL_law_25 5 rfl rfl)
theorem dL_law_594 : decode cL_law 594 = .ok (.invokevirtual 61, 3) := dk_182 0 61 (dk_at dksL_law_25 6 rfl rfl)
theorem dL_law_597 : decode cL_law 597 = .ok (.aload_n 2, 1) := dk_44 (dk_at dksL_law_25 9 rfl rfl)
theorem dL_law_598 : decode cL_law 598 = .ok (.iconst 1, 1) := dk_4 (dk_at dksL_law_25 10 rfl rfl)
theorem dL_law_599 : decode cL_law 599 = .ok (.iload 7, 2) := dk_21 7 (dk_at dksL_law_25 11 rfl rfl)
theorem dL_law_601 : decode cL_law 601 = .ok (.isub, 1) := dk_100 (dk_at dksL_law_25 13 rfl rfl)
theorem dL_law_602 : decode cL_law 602 = .ok (.aload_n 2, 1) := dk_44 (dk_at dksL_law_25 14 rfl rfl)
theorem dL_law_603 : decode cL_law 603 = .ok (.iload 7, 2) := dk_21 7 (dk_at dksL_law_25 15 rfl rfl)
theorem dL_law_605 : decode cL_law 605 = .ok (.laload, 1) := dk_47 (dk_at dksL_law_25 17 rfl rfl)
theorem dL_law_606 : decode cL_law 606 = .ok (.ldc2_w 65, 3) := dk_20 0 65 (dk_at dksL_law_25 18 rfl rfl)
theorem dL_law_609 : decode cL_law 609 = .ok (.lrem, 1) := dk_113 (dk_at dksL_law_25 21 rfl rfl)
theorem dL_law_610 : decode cL_law 610 = .ok (.lastore, 1) := dk_80 (dk_at dksL_law_25 22 rfl rfl)
theorem dL_law_611 : decode cL_law 611 = .ok (.aload_n 3, 1) := dk_45 (dk_at dksL_law_25 23 rfl rfl)
theorem dL_law_612 : decode cL_law 612 = .ok (.iconst 1, 1) := dk_4 (dk_at dksL_law_26 0 rfl rfl)
theorem dL_law_613 : decode cL_law 613 = .ok (.iload 7, 2) := dk_21 7 (dk_at dksL_law_26 1 rfl rfl)
theorem dL_law_615 : decode cL_law 615 = .ok (.isub, 1) := dk_100 (dk_at dksL_law_26 3 rfl rfl)
theorem dL_law_616 : decode cL_law 616 = .ok (.aload_n 3, 1) := dk_45 (dk_at dksL_law_26 4 rfl rfl)
theorem dL_law_617 : decode cL_law 617 = .ok (.iload 7, 2) := dk_21 7 (dk_at dksL_law_26 5 rfl rfl)
theorem dL_law_619 : decode cL_law 619 = .ok (.laload, 1) := dk_47 (dk_at dksL_law_26 7 rfl rfl)
theorem dL_law_620 : decode cL_law 620 = .ok (.lastore, 1) := dk_80 (dk_at dksL_law_26 8 rfl rfl)
theorem dL_law_621 : decode cL_law 621 = .ok (.aload_n 1, 1) := dk_43 (dk_at dksL_law_26 9 rfl rfl)
theorem dL_law_622 : decode cL_law 622 = .ok (.aload_n 2, 1) := dk_44 (dk_at dksL_law_26 10 rfl rfl)
theorem dL_law_623 : decode cL_law 623 = .ok (.aload_n 3, 1) := dk_45 (dk_at dksL_law_26 11 rfl rfl)
theorem dL_law_624 : decode cL_law 624 = .ok (.aload_n 0, 1) := dk_42 (dk_at dksL_law_26 12 rfl rfl)
theorem dL_law_625 : decode cL_law 625 = .ok (.iload 4, 2) := dk_21 4 (dk_at dksL_law_26 13 rfl rfl)
theorem dL_law_627 : decode cL_law 627 = .ok (.iconst 5, 1) := dk_8 (dk_at dksL_law_26 15 rfl rfl)
theorem dL_law_628 : decode cL_law 628 = .ok (.iadd, 1) := dk_96 (dk_at dksL_law_26 16 rfl rfl)
theorem dL_law_629 : decode cL_law 629 = .ok (.invokestatic 44, 3) := dk_184 0 44 (dk_at dksL_law_26 17 rfl rfl)
theorem dL_law_632 : decode cL_law 632 = .ok (.invokestatic 48, 3) := dk_184 0 48 (dk_at dksL_law_26 20 rfl rfl)
theorem dL_law_635 : decode cL_law 635 = .ok (.ifCond .ne 5, 3) := dk_154 0 5 (dk_at dksL_law_27 0 rfl rfl)
theorem dL_law_638 : decode cL_law 638 = .ok (.iconst 0, 1) := dk_3 (dk_at dksL_law_27 3 rfl rfl)
theorem dL_law_639 : decode cL_law 639 = .ok (.ireturn, 1) := dk_172 (dk_at dksL_law_27 4 rfl rfl)
theorem dL_law_640 : decode cL_law 640 = .ok (.iinc 4 6, 3) := dk_132 4 6 (dk_at dksL_law_27 5 rfl rfl)
theorem dL_law_643 : decode cL_law 643 = .ok (.goto (-608), 3) := dk_167 253 160 (dk_at dksL_law_27 8 rfl rfl)
theorem dL_law_646 : decode cL_law 646 = .ok (.iconst 1, 1) := dk_4 (dk_at dksL_law_27 11 rfl rfl)
theorem dL_law_647 : decode cL_law 647 = .ok (.ireturn, 1) := dk_172 (dk_at dksL_law_27 12 rfl rfl)
end
section
/-! PURE ROWS: whole numbers behind Int64 and Int32 -/
theorem nu_tdn {a : Int} (b : Int) (h : a ≤ 0) : a.tdiv b = -((-a) / b) := by
  obtain ⟨n, hn⟩ : ∃ n : Int, n = -a := ⟨_, rfl⟩
  have ha : a = -n := by omega
  rw [ha, Int.neg_tdiv, Int.tdiv_eq_ediv_of_nonneg (by omega), Int.neg_neg]
theorem nu_tmn {a : Int} (b : Int) (h : a ≤ 0) : a.tmod b = -((-a) % b) := by
  obtain ⟨n, hn⟩ : ∃ n : Int, n = -a := ⟨_, rfl⟩
  have ha : a = -n := by omega
  rw [ha, Int.neg_tmod, Int.tmod_eq_emod_of_nonneg (by omega), Int.neg_neg]
theorem nu_fd {a b : Int} (hb : 0 < b) (ha : a < 0) : (a + 1).tdiv b - 1 = a / b := by
  rw [nu_tdn b (by omega)]
  obtain ⟨n, hn⟩ : ∃ n : Int, n = -(a + 1) := ⟨_, rfl⟩
  rw [← hn]
  have e := Int.emod_add_mul_ediv n b
  have r0 := Int.emod_nonneg n (show b ≠ 0 by omega)
  have r1 := Int.emod_lt_of_pos n hb
  have u : a / b = -(n / b) - 1 ∧ a % b = b - 1 - n % b := (Int.ediv_emod_unique hb).mpr ⟨by rw [Int.mul_sub, Int.mul_neg]; omega, by omega, by omega⟩
  exact u.1.symm
theorem nu_fm {a b : Int} (hb : 0 < b) : (a.tmod b + b).tmod b = a % b := by
  have h1 := Int.lt_tmod_of_pos a hb
  rw [Int.tmod_eq_emod_of_nonneg (by omega), Int.tmod_def]
  have h2 : a - b * a.tdiv b + b = a + b * (1 - a.tdiv b) := by rw [Int.mul_sub]; omega
  rw [h2, Int.add_mul_emod_self_left]
theorem nu_fl_n {a b : Int} (hb : 0 < b) (h : a.tmod b < 0) : a.tdiv b - 1 = a / b := by
  have e := Int.tmod_add_mul_tdiv a b
  have r1 := Int.lt_tmod_of_pos a hb
  have u : a / b = a.tdiv b - 1 ∧ a % b = a.tmod b + b := (Int.ediv_emod_unique hb).mpr ⟨by rw [Int.mul_sub]; omega, by omega, by omega⟩
  exact u.1.symm
theorem nu_fl_p {a b : Int} (hb : 0 < b) (h : ¬ a.tmod b < 0) : a.tdiv b = a / b := by
  have e := Int.tmod_add_mul_tdiv a b
  have r1 := Int.tmod_lt_of_pos a hb
  have u : a / b = a.tdiv b ∧ a % b = a.tmod b := (Int.ediv_emod_unique hb).mpr ⟨e, by omega, by omega⟩
  exact u.1.symm
theorem nu_one : (1 : Int64).toInt = 1 := by decide
theorem nu_zero : (0 : Int64).toInt = 0 := by decide
theorem nu_tdle (a b : Int) : (a.tdiv b).natAbs ≤ a.natAbs := by rw [Int.natAbs_tdiv]; exact Nat.div_le_self _ _
theorem nu_floorDiv_n {a b : Int64} (hb : 0 < b.toInt) (ha : a.toInt < 0) : ((a + 1) / b - 1).toInt = a.toInt / b.toInt := by
  have l := a.le_toInt
  have e1 := nu_one
  have h1 : (a + 1).toInt = a.toInt + 1 := by rw [Jvm.Kit.i64_add (by omega) (by omega), e1]
  have h2 : ((a + 1) / b).toInt = (a.toInt + 1).tdiv b.toInt := by rw [Jvm.Kit.i64_div (by omega), h1]
  have h3 := nu_tdle (a.toInt + 1) b.toInt
  rw [Jvm.Kit.i64_sub (by omega) (by omega), h2, e1, nu_fd hb ha]
theorem nu_floorMod {a : Int64} {b : Int32} (hb : 0 < b.toInt) : (((a - a / b.toInt64 * b.toInt64) + b.toInt64) - ((a - a / b.toInt64 * b.toInt64) + b.toInt64) / b.toInt64 * b.toInt64).toInt32.toInt = a.toInt % b.toInt := by
  have lb := b.toInt_lt
  have eb := Jvm.Kit.i64_of_i32 b
  have h1 : (a - a / b.toInt64 * b.toInt64).toInt = a.toInt.tmod b.toInt := by rw [Jvm.Kit.i64_rem, eb]
  generalize a - a / b.toInt64 * b.toInt64 = t at h1 ⊢
  have r1 := Int.lt_tmod_of_pos a.toInt hb
  have r2 := Int.tmod_lt_of_pos a.toInt hb
  have h2 : (t + b.toInt64).toInt = a.toInt.tmod b.toInt + b.toInt := by rw [Jvm.Kit.i64_add (by omega) (by omega), h1, eb]
  generalize t + b.toInt64 = z at h2 ⊢
  have h3 : (z - z / b.toInt64 * b.toInt64).toInt = a.toInt % b.toInt := by rw [Jvm.Kit.i64_rem, h2, eb, nu_fm hb]
  have m0 := Int.emod_nonneg a.toInt (show b.toInt ≠ 0 by omega)
  have m1 := Int.emod_lt_of_pos a.toInt hb
  rw [Jvm.Kit.i32_of_i64 (by omega) (by omega), h3]
theorem nu_msb (z : Int64) : z.toBitVec.msb = decide (z.toInt < 0) := BitVec.msb_eq_toInt
theorem nu_xor (x y : Int64) : (x ^^^ y).toInt < 0 ↔ ¬ (x.toInt < 0 ↔ y.toInt < 0) := by
  have e := nu_msb (x ^^^ y)
  rw [Int64.toBitVec_xor, BitVec.msb_xor, nu_msb x, nu_msb y] at e
  generalize (x ^^^ y).toInt = w at e ⊢
  by_cases a : x.toInt < 0 <;> by_cases b : y.toInt < 0 <;> by_cases d : w < 0 <;> simp [a, b, d] at e ⊢
theorem nu_addOk {a b : Int64} (h1 : -2 ^ 63 ≤ a.toInt + b.toInt) (h2 : a.toInt + b.toInt < 2 ^ 63) (hs : (a ^^^ (a + b)).toInt < 0) : (a ^^^ b).toInt < 0 := by
  have e := Jvm.Kit.i64_add h1 h2
  rw [nu_xor, e] at hs
  rw [nu_xor]
  omega
theorem nu_subOk {a b : Int64} (h1 : -2 ^ 63 ≤ a.toInt - b.toInt) (h2 : a.toInt - b.toInt < 2 ^ 63) (hs : (a ^^^ (a - b)).toInt < 0) : ¬ (a ^^^ b).toInt < 0 := by
  have e := Jvm.Kit.i64_sub h1 h2
  rw [nu_xor, e] at hs
  rw [nu_xor]
  omega
theorem nu_mulOk {a b : Int64} (hb : 1 < b.toInt) (h1 : -2 ^ 63 ≤ a.toInt * b.toInt) (h2 : a.toInt * b.toInt < 2 ^ 63) : a * b / b = a := by
  apply Int64.toInt_inj.mp
  rw [Jvm.Kit.i64_div (by omega), Jvm.Kit.i64_mul h1 h2, Int.mul_tdiv_cancel _ (by omega)]
/-- the compare instruction against a number, by the numbers' values -/
theorem nu_lt (x y : Int64) : lg_cmp x y < 0 ↔ x.toInt < y.toInt := by rw [lg_cmp_lt, Int64.lt_iff_toInt_lt]
theorem nu_ge (x y : Int64) : 0 ≤ lg_cmp x y ↔ y.toInt ≤ x.toInt := by rw [lg_cmp_ge, Int64.le_iff_toInt_le]
theorem nu_gt (x y : Int64) : 0 < lg_cmp x y ↔ y.toInt < x.toInt := by rw [lg_cmp_gt, Int64.lt_iff_toInt_lt]
theorem nu_le (x y : Int64) : lg_cmp x y ≤ 0 ↔ x.toInt ≤ y.toInt := by rw [lg_cmp_le, Int64.le_iff_toInt_le]
theorem nu_eq (x y : Int64) : lg_cmp x y = 0 ↔ x.toInt = y.toInt := by rw [lg_cmp_eq, Int64.toInt_inj]
theorem nu_nlt {x y : Int64} (h : ¬ lg_cmp x y < 0) : y.toInt ≤ x.toInt := Int.not_lt.mp fun q => h ((nu_lt x y).mpr q)
theorem nu_nge {x y : Int64} (h : ¬ 0 ≤ lg_cmp x y) : x.toInt < y.toInt := Int.not_le.mp fun q => h ((nu_ge x y).mpr q)
theorem nu_ngt {x y : Int64} (h : ¬ 0 < lg_cmp x y) : x.toInt ≤ y.toInt := Int.not_lt.mp fun q => h ((nu_gt x y).mpr q)
theorem nu_nle {x y : Int64} (h : ¬ lg_cmp x y ≤ 0) : y.toInt < x.toInt := Int.not_le.mp fun q => h ((nu_le x y).mpr q)
/-- which of two numbers is the less -/
def nu_cmp (a b : Int) : Int32 := if a < b then -1 else if b < a then 1 else 0
/-- one pair (second, nano) ahead of another -/
def nu_less (s1 n1 s2 n2 : Int) : Prop := s1 < s2 ∨ (s1 = s2 ∧ n1 < n2)
theorem nu_less_iff (s1 n1 s2 n2 : Int) : nu_less s1 n1 s2 n2 ↔ (s1 < s2 ∨ (s1 = s2 ∧ n1 < n2)) := Iff.rfl
/-- a half above, a half below -/
def nu_hl (h l : Int32) : Int64 := h.toInt64 <<< ((32 : Int32).toInt64 &&& 63) ||| (l.toInt64 &&& 4294967295)
theorem nu_hv (v c M : Int64) (hc : (c.toBitVec.smod 64).toNat = 32) (hM : M.toBitVec = BitVec.ofNat 64 (2 ^ 32 - 1)) : (v >>> c).toInt32.toInt64 <<< c ||| (v.toInt32.toInt64 &&& M) = v := by
  apply Int64.toBitVec_inj.mp
  simp only [Int64.toBitVec_or, Int64.toBitVec_and, Int64.toBitVec_shiftLeft, Int32.toBitVec_toInt64, Int64.toBitVec_toInt32, Int64.toBitVec_shiftRight, hM]
  rw [BitVec.shiftLeft_eq', BitVec.sshiftRight_eq', hc]
  apply BitVec.eq_of_getLsbD_eq
  intro i hi
  simp only [BitVec.getLsbD_or, BitVec.getLsbD_and, BitVec.getLsbD_shiftLeft, BitVec.getLsbD_signExtend, BitVec.getLsbD_sshiftRight, BitVec.getLsbD_ofNat, Nat.testBit_two_pow_sub_one]
  by_cases h : i < 32
  · simp [h, hi]
  · have h1 : i - 32 < 32 := by omega
    have h2 : 32 + (i - 32) = i := by omega
    have h3 : ¬ 64 ≤ i - 32 := by omega
    have h4 : i - 32 < 64 := by omega
    simp [h, hi, h1, h2, h3, h4]
theorem nu_halves (v : Int64) : nu_hl (v >>> ((32 : Int32).toInt64 &&& 63)).toInt32 v.toInt32 = v := nu_hv v _ _ (by decide +kernel) (by decide +kernel)
/-- the law's own rounding down -/
theorem nu_lfloor_n {a b : Int64} (hb : 0 < b.toInt) (h : (a - a / b * b).toInt < 0) : (a / b - 1).toInt = a.toInt / b.toInt := by
  have l := a.le_toInt
  have e1 := nu_one
  rw [Jvm.Kit.i64_rem] at h
  have r1 := Int.lt_tmod_of_pos a.toInt hb
  have h2 : (a / b).toInt = a.toInt.tdiv b.toInt := Jvm.Kit.i64_div (by omega)
  have h3 : (a.toInt.tdiv b.toInt).natAbs ≤ a.toInt.natAbs / 2 := by rw [Int.natAbs_tdiv]; exact Nat.div_le_div_left (by omega) (by decide)
  have h4 := a.toInt_lt
  rw [Jvm.Kit.i64_sub (by omega) (by omega), h2, e1, nu_fl_n hb h]
theorem nu_lfloor_p {a b : Int64} (hb : 0 < b.toInt) (h : ¬ (a - a / b * b).toInt < 0) : (a / b).toInt = a.toInt / b.toInt := by
  rw [Jvm.Kit.i64_rem] at h
  rw [Jvm.Kit.i64_div (by omega), nu_fl_p hb h]
theorem nu_bil : (1000000000 : Int64).toInt = 1000000000 := by decide
theorem nu_bil32 : (1000000000 : Int32).toInt = 1000000000 := by decide
theorem nu_thou : (1000 : Int64).toInt = 1000 := by decide
theorem nu_thou32 : (1000 : Int32).toInt = 1000 := by decide
theorem nu_mio : (1000000 : Int64).toInt = 1000000 := by decide
theorem nu_mio32 : (1000000 : Int32).toInt = 1000000 := by decide
theorem nu_or0 {x y : Int64} (h : lg_cmp (x ||| y) 0 = 0) : x = 0 ∧ y = 0 := Int64.or_eq_zero_iff.mp ((lg_cmp_eq _ _).mp h)
theorem nu_i2l0 {n : Int32} (h : n.toInt64 = 0) : n = 0 := by
  apply Int32.toInt_inj.mp
  rw [← Jvm.Kit.i64_of_i32 n, h]
  decide
/-- compareLongs and the nanos' difference, together: the order of the pairs -/
theorem nu_cmp_ne {a b x y : Int} {r : Int32} (h : r = nu_cmp a b) (hn : ¬ r = 0) : (r.toInt < 0 ↔ nu_less a x b y) ∧ (0 < r.toInt ↔ nu_less b y a x) := by
  have m1 : (-1 : Int32).toInt = -1 := by decide
  have p1 : (1 : Int32).toInt = 1 := by decide
  unfold nu_cmp at h
  unfold nu_less
  by_cases h1 : a < b
  · rw [if_pos h1] at h
    rw [h, m1]
    constructor <;> constructor <;> intro <;> omega
  · rw [if_neg h1] at h
    by_cases h2 : b < a
    · rw [if_pos h2] at h
      rw [h, p1]
      constructor <;> constructor <;> intro <;> omega
    · rw [if_neg h2] at h
      exact absurd h hn
theorem nu_cmp_eq {a b x y : Int} {r : Int32} {d : Int} (h : r = nu_cmp a b) (hn : r = 0) (hd : d = x - y) : (d < 0 ↔ nu_less a x b y) ∧ (0 < d ↔ nu_less b y a x) := by
  unfold nu_cmp at h
  unfold nu_less
  by_cases h1 : a < b
  · rw [if_pos h1, hn] at h
    exact absurd h (by decide)
  · rw [if_neg h1] at h
    by_cases h2 : b < a
    · rw [if_pos h2, hn] at h
      exact absurd h (by decide)
    · constructor <;> constructor <;> intro <;> omega
end
section
/-! THE WORLD: Instants (never written once made), the constant EPOCH, the desk with its array, the law's two arrays of longs -/
abbrev wd_cl : List vw_C := [(RX3, TX3, 2), (RX1, TX1, 1)]
/-- at a stands an Instant with seconds S and nanos N -/
def wd_I (a : Nat) (S : Int64) (N : Int32) (U : State) (H : Heap) : Prop := va_O "Instant" a (fun _ => False) U H ∧ va_OF "Instant" "seconds" "J" (.long S) a (fun _ => False) U H ∧ va_OF "Instant" "nanos" "I" (.int N) a (fun _ => False) U H
theorem wd_I.moved {a : Nat} {S : Int64} {N : Int32} {u U : State} {H : Heap} (hvm : u.vm.Alike U.vm) (h : wd_I a S N u H) : wd_I a S N U H := ⟨va_O.moved hvm h.1, va_OF.moved hvm h.2.1, va_OF.moved hvm h.2.2⟩
theorem wd_I.kept {a : Nat} {S : Int64} {N : Int32} {U : State} {H H1 : Heap} (h : wd_I a S N U H) (hq : H1[a]? = H[a]?) : wd_I a S N U H1 := by
  obtain ⟨⟨cell, h1, h2, h3, h4⟩, ⟨cf, k, i, f, cell2, g1, g2, g3, g4, g5, g6⟩, ⟨cf', k', i', f', cell3, j1, j2, j3, j4, j5, j6⟩⟩ := h
  exact ⟨⟨cell, by rw [hq]; exact h1, h2, h3, h4⟩, ⟨cf, k, i, f, cell2, g1, g2, by rw [hq]; exact g3, g4, g5, g6⟩, ⟨cf', k', i', f', cell3, j1, j2, by rw [hq]; exact j3, j4, j5, j6⟩⟩
theorem wd_I.lt {a : Nat} {S : Int64} {N : Int32} {U : State} {H : Heap} (h : wd_I a S N U H) : a < H.size := by
  obtain ⟨⟨cell, h1, -⟩, -⟩ := h
  exact (Array.getElem?_eq_some_iff.mp h1).1
/-- the constant EPOCH is the Instant (0, 0) at ep; nothing of it lies in A -/
def wd_E (ep : Nat) (A : Nat → Prop) (U : State) (H : Heap) : Prop := va_Z "Instant" "EPOCH" "LInstant;" (.ref ep) A U H ∧ ¬ A ep ∧ wd_I ep 0 0 U H
theorem wd_E.moved {ep : Nat} {A : Nat → Prop} {u U : State} {H : Heap} (hvm : u.vm.Alike U.vm) (h : wd_E ep A u H) : wd_E ep A U H := ⟨va_Z.moved hvm h.1, h.2.1, wd_I.moved hvm h.2.2⟩
theorem wd_E.kept {ep : Nat} {A : Nat → Prop} {U : State} {H H1 : Heap} (h : wd_E ep A U H) (hq : ∀ a : Nat, a < H.size → ¬ A a → H1[a]? = H[a]?) : wd_E ep A U H1 := ⟨va_Z.kept h.1 hq, h.2.1, wd_I.kept h.2.2 (hq ep h.2.2.lt h.2.1)⟩
theorem wd_E.narrow {ep : Nat} {A B : Nat → Prop} {U : State} {H : Heap} (h : wd_E ep A U H) (hAB : ∀ q, B q → A q) : wd_E ep B U H := ⟨va_Z.narrow h.1 hAB, fun z => h.2.1 (hAB _ z), h.2.2⟩
/-- regions: what is made; that and the cell h -/
abbrev wd_N (sz : Nat) : Nat → Prop := fun q => sz ≤ q
abbrev wd_A (h sz : Nat) : Nat → Prop := fun q => q = h ∨ sz ≤ q
theorem wd_D1 {A : Nat → Prop} {q : Nat} {e : va_E} (h : A q) : va_D A [(q, e)] := by
  refine ⟨fun i j x y hi hj _ => ?_, fun k x hk => ?_⟩
  · match i, j, hi, hj with
    | 0, 0, hi, hj => rfl
    | i + 1, j, hi, hj => simp at hi
    | 0, j + 1, hi, hj => simp at hj
  · match k, hk with
    | 0, hk => cases hk; exact h
    | k + 1, hk => simp at hk
section WDR
variable {p : Program} {l : Launch} {e : Env} {R : Room} {s : State} {m : MethodId} {args : Array Value} {below : List Frame} {meth : Method} {c : Code} {H : Heap} {locs : List Loc} {cells slots : Nat} {Q : State → Prop}
variable {cc : ByteArray} {pc : Nat} {ls : Array Slot} {rest : List Value} {D : va_G} {tys : List (ClassId × FieldType)} {ws : va_W}
theorem wd_getS (hexec : p.tables.exec = Jvm.exec) (hb : c.code = cc) {own : String} {a index : Nat} {S : Int64} {N : Int32} (hI : wd_I a S N s H) (hown : s.vm.findClass own = some m.cls) (hlink : (Cond.fieldLink own index "Instant" "seconds" "J").before args s = true) (hdg : decode cc pc = .ok (.getfield index, 3))
    (kk : W p l e R s m args below meth c H locs cells slots Q (F0 m (pc + 3) ls (.long S :: rest))) : W p l e R s m args below meth c H locs cells slots Q (F0 m pc ls (.ref a :: rest)) := by
  obtain ⟨-, ⟨cf, k, fi, f, cell, h1, h2, h3, h4, h5, -⟩, -⟩ := hI
  exact W.getf hexec hb hown hlink h1 h2 h3 h4 (v := .long S) h5 rfl rfl hdg kk
theorem wd_getN (hexec : p.tables.exec = Jvm.exec) (hb : c.code = cc) {own : String} {a index : Nat} {S : Int64} {N : Int32} (hI : wd_I a S N s H) (hown : s.vm.findClass own = some m.cls) (hlink : (Cond.fieldLink own index "Instant" "nanos" "I").before args s = true) (hdg : decode cc pc = .ok (.getfield index, 3))
    (kk : W p l e R s m args below meth c H locs cells slots Q (F0 m (pc + 3) ls (.int N :: rest))) : W p l e R s m args below meth c H locs cells slots Q (F0 m pc ls (.ref a :: rest)) := by
  obtain ⟨-, -, ⟨cf, k, fi, f, cell, h1, h2, h3, h4, h5, -⟩⟩ := hI
  exact W.getf hexec hb hown hlink h1 h2 h3 h4 (v := .int N) h5 rfl rfl hdg kk
end WDR
theorem wd_recv {a : Nat} {S : Int64} {N : Int32} {s : State} {H : Heap} (hI : wd_I a S N s H) : ∃ cell : Cell, H[a]? = some cell ∧ cell.vm.isStatics = false ∧ s.vm.findClass "Instant" = some cell.cls := by
  obtain ⟨⟨cell, h1, h2, h3, -⟩, -⟩ := hI
  exact ⟨cell, h1, h2, h3⟩
theorem wd_any {a : Nat} {S : Int64} {N : Int32} {s : State} {H : Heap} {D : va_G} {tys : List (ClassId × FieldType)} (hK : va_K D wd_cl tys s) (hI : wd_I a S N s H) : va_Any "Instant" s H a := by
  obtain ⟨cell, h1, h2, h3⟩ := wd_recv hI
  have hC : ClassAt s "Instant" (D.1 0) := (hK.1 0 (RX3, TX3, 2) rfl).2
  have e : D.1 0 = cell.cls := Option.some.inj (hC.1.symm.trans h3)
  refine ⟨cell, h1, h2, ?_, fun comp hc => ?_⟩
  · obtain ⟨-, kC, hk, -⟩ := hC
    exact ⟨kC, by rw [← e]; exact hk⟩
  · have e2 : D.1 0 = comp := Option.some.inj (hC.1.symm.trans hc)
    rw [← e, ← e2]
    exact va_assign hC
/-- an Instant out of a world's cell -/
theorem wd_ofP {q : Nat} {S : Int64} {N : Int32} {s : State} {H : Heap} {D : va_G} {tys : List (ClassId × FieldType)} {args : Array Value} (hts : ∀ w ∈ lw_all, w.before args s = true) (hK : va_K D wd_cl tys s) (h : va_at D wd_cl (q, .inr (0, [.long S, .int N])) H) : wd_I q S N s H := by
  obtain ⟨r, hr, cell, h1, h2, h3, h4⟩ := h
  obtain rfl : (RX3, TX3, 2) = r := Option.some.inj hr
  obtain ⟨hS, hfc, kC, hkC, hkind⟩ := hK.1 0 (RX3, TX3, 2) rfl
  obtain ⟨cf0, kf0, fi0, f0, i0, e0⟩ := hS 0 (by decide)
  obtain ⟨cf1, kf1, fi1, f1, i1, e1⟩ := hS 1 (by decide)
  have s0 := (u_facts hfc hkC (u_lays hts in_X3 (k := 0) (by decide)) i0).1
  have s1 := (u_facts hfc hkC (u_lays hts in_X3 (k := 1) (by decide)) i1).1
  refine ⟨⟨cell, h1, by rw [h3]; rfl, ?_, fun z => z⟩, ⟨cf0, kf0, fi0, f0, cell, i0, s0, h1, by rw [h3]; exact fun h => (by cases h), ?_, fun z => z⟩, ⟨cf1, kf1, fi1, f1, cell, i1, s1, h1, by rw [h3]; exact fun h => (by cases h), ?_, fun z => z⟩⟩
  · rw [h2]; exact hfc
  · rw [e0]; exact h4 0 (by decide)
  · rw [e1]; exact h4 1 (by decide)
/-- an Instant's cell is no array's -/
theorem wd_neArr {a q : Nat} {S : Int64} {N : Int32} {s : State} {H : Heap} {D : va_G} {tys : List (ClassId × FieldType)} {cA : ClassId} {x : vp_A} {ty : FieldType} (hK : va_K D wd_cl tys s) (hI : wd_I a S N s H) (hq : H[q]? = some (vp_cell cA x)) (hty : ArrOfT s cA ty) : a ≠ q := by
  intro e0
  subst e0
  obtain ⟨cell, h1, h2, h3⟩ := wd_recv hI
  obtain ⟨hfc, kC, hkC, hkind⟩ : ClassAt s "Instant" (D.1 0) := (hK.1 0 (RX3, TX3, 2) rfl).2
  have ec : cell = vp_cell cA x := Option.some.inj (h1.symm.trans hq)
  have e2 : (vp_cell cA x).cls = cA := by
    obtain ⟨n, f | f | f | f | f⟩ := x <;> rfl
  have e : D.1 0 = cA := (Option.some.inj (hfc.symm.trans h3)).trans (by rw [ec]; exact e2)
  obtain ⟨-, k, hk, comp, hkk⟩ := hty 0 (fun _ => .null)
  have hk' : s.vm.classes[cA]? = some k := hk
  rw [e] at hkC
  have e3 : kC = k := Option.some.inj (hkC.symm.trans hk')
  rw [e3, hkk] at hkind
  cases hkind
/-- an Instant's cell is no desk's -/
theorem wd_neDesk {a q : Nat} {S : Int64} {N : Int32} {s : State} {H : Heap} {D : va_G} {tys : List (ClassId × FieldType)} {fs : List Value} (hK : va_K D wd_cl tys s) (hI : wd_I a S N s H) (hq : va_at D wd_cl (q, .inr (1, fs)) H) : a ≠ q := by
  intro e0
  subst e0
  obtain ⟨cell, h1, h2, h3⟩ := wd_recv hI
  obtain ⟨r, hr, cell2, g1, g2, -⟩ := hq
  have ec : cell = cell2 := Option.some.inj (h1.symm.trans g1)
  have hB : s.vm.findClass "InstantDesk" = some (D.1 1) := (hK.1 1 (RX1, TX1, 1) rfl).2.1
  obtain ⟨k1, e1, n1⟩ := Vm.findClass_spec h3
  obtain ⟨k2, e2, n2⟩ := Vm.findClass_spec hB
  rw [ec, g2] at e1
  have e3 : k1 = k2 := Option.some.inj (e1.symm.trans e2)
  rw [e3, n2] at n1
  exact absurd n1 (by decide)
/-- the desk at h0, its array at h1 -/
abbrev wd_W (h0 h1 : Nat) (cA : ClassId) (f : Nat → Option Nat) : va_W := [(h0, .inr (1, [.ref h1])), (h1, .inl (cA, 2, .inr (.inr (.inr (.inr f)))))]
abbrev wd_ty (cA : ClassId) : List (ClassId × FieldType) := [(cA, .object "Instant")]
/-- the desk's picture: its two places hold Instants with these seconds and nanos -/
def wd_Desk (D : va_G) (h0 h1 : Nat) (cA : ClassId) (f : Nat → Option Nat) (sec : Nat → Int64) (nan : Nat → Int32) (U : State) (H : Heap) : Prop :=
  va_P D wd_cl (wd_W h0 h1 cA f) H ∧ va_K D wd_cl (wd_ty cA) U ∧ ∀ k : Nat, k < 2 → ∃ a : Nat, f k = some a ∧ wd_I a (sec k) (nan k) U H
theorem wd_Desk.moved {D : va_G} {h0 h1 : Nat} {cA : ClassId} {f : Nat → Option Nat} {sec : Nat → Int64} {nan : Nat → Int32} {u U : State} {H : Heap} (hvm : u.vm.Alike U.vm) (h : wd_Desk D h0 h1 cA f sec nan u H) : wd_Desk D h0 h1 cA f sec nan U H :=
  ⟨h.1, va_K.moved hvm h.2.1, fun k hk => by
    obtain ⟨a, h1, h2⟩ := h.2.2 k hk
    exact ⟨a, h1, wd_I.moved hvm h2⟩⟩
theorem wd_Desk.kept {D : va_G} {h0 h1 : Nat} {cA : ClassId} {f : Nat → Option Nat} {sec : Nat → Int64} {nan : Nat → Int32} {U : State} {H H1 : Heap} (h : wd_Desk D h0 h1 cA f sec nan U H) (hq : ∀ q : Nat, q < H.size → H1[q]? = H[q]?) : wd_Desk D h0 h1 cA f sec nan U H1 :=
  ⟨h.1.kept fun k q hk => hq q.1 (h.1 k q hk).lt, h.2.1, fun k hk => by
    obtain ⟨a, h1, h2⟩ := h.2.2 k hk
    exact ⟨a, h1, h2.kept (hq a h2.lt)⟩⟩
/-- the array's cell, out of the picture -/
theorem wd_Desk.arr {D : va_G} {h0 h1 : Nat} {cA : ClassId} {f : Nat → Option Nat} {sec : Nat → Int64} {nan : Nat → Int32} {U : State} {H : Heap} (h : wd_Desk D h0 h1 cA f sec nan U H) : H[h1]? = some (vp_cell cA (2, .inr (.inr (.inr (.inr f))))) := h.1 1 _ rfl
theorem wd_Desk.lt1 {D : va_G} {h0 h1 : Nat} {cA : ClassId} {f : Nat → Option Nat} {sec : Nat → Int64} {nan : Nat → Int32} {U : State} {H : Heap} (h : wd_Desk D h0 h1 cA f sec nan U H) : h1 < H.size := (h.1 1 (h1, .inl (cA, 2, .inr (.inr (.inr (.inr f))))) rfl).lt
/-- another cell is written: the picture stays, where that cell is none of the desk's, and an array's -/
theorem wd_Desk.other {D : va_G} {h0 h1 : Nat} {cA : ClassId} {f : Nat → Option Nat} {sec : Nat → Int64} {nan : Nat → Int32} {U : State} {H H1 : Heap} (h : wd_Desk D h0 h1 cA f sec nan U H) {t : Nat} {dJ : ClassId} {x : vp_A} {ty : FieldType} (ht : H[t]? = some (vp_cell dJ x)) (hty : ArrOfT U dJ ty) (n0 : t ≠ h0) (n1 : t ≠ h1) (oq : ∀ q : Nat, q ≠ t → H1[q]? = H[q]?) : wd_Desk D h0 h1 cA f sec nan U H1 := by
  refine ⟨h.1.kept fun k q hk => oq q.1 ?_, h.2.1, fun k hk => ?_⟩
  · match k, hk with
    | 0, hk => cases hk; exact n0.symm
    | 1, hk => cases hk; exact n1.symm
  · obtain ⟨a, e1, e2⟩ := h.2.2 k hk
    exact ⟨a, e1, e2.kept (oq a (wd_neArr h.2.1 e2 ht hty))⟩
/-- an Instant is put into place w of the desk's array -/
theorem wd_Desk.store {D : va_G} {h0 h1 : Nat} {cA : ClassId} {f : Nat → Option Nat} {sec : Nat → Int64} {nan : Nat → Int32} {U : State} {H H1 : Heap} (h : wd_Desk D h0 h1 cA f sec nan U H) (hne : h0 ≠ h1) {ra w : Nat} {S : Int64} {N : Int32} (hI : wd_I ra S N U H) (e1 : H1[h1]? = some (vp_cell cA (2, .inr (.inr (.inr (.inr (va_up f w (some ra)))))))) (oq : ∀ q : Nat, q ≠ h1 → H1[q]? = H[q]?) : wd_Desk D h0 h1 cA (va_up f w (some ra)) (va_up sec w S) (va_up nan w N) U H1 := by
  have hA : ArrOfT U cA (.object "Instant") := (h.2.1.2 0 _ rfl).1
  refine ⟨fun k q hk => ?_, h.2.1, fun k hk => ?_⟩
  · match k, hk with
    | 0, hk => cases hk; exact (h.1 0 _ rfl).kept (oq h0 hne)
    | 1, hk => cases hk; exact e1
  · by_cases hkw : k = w
    · subst hkw
      exact ⟨ra, va_up_self _ _ _, by rw [va_up_self, va_up_self]; exact hI.kept (oq ra (wd_neArr h.2.1 hI h.arr hA))⟩
    · obtain ⟨a, g1, g2⟩ := h.2.2 k hk
      exact ⟨a, by rw [va_up_ne _ _ hkw]; exact g1, by rw [va_up_ne _ _ hkw, va_up_ne _ _ hkw]; exact g2.kept (oq a (wd_neArr h.2.1 g2 h.arr hA))⟩
section WDS
variable {p : Program} {l : Launch} {e : Env} {R : Room} {s : State} {m : MethodId} {args : Array Value} {below : List Frame} {meth : Method} {c : Code} {H : Heap} {locs : List Loc} {cells slots : Nat} {Q : State → Prop}
variable {cc : ByteArray} {pc : Nat} {ls : Array Slot} {rest : List Value} {D : va_G} {tys : List (ClassId × FieldType)} {ws : va_W}
/-- a place of the desk's array is read -/
theorem wd_ald (hexec : p.tables.exec = Jvm.exec) (hb : c.code = cc) {h0 h1 : Nat} {cA : ClassId} {f : Nat → Option Nat} {sec : Nat → Int64} {nan : Nat → Int32} (hDk : wd_Desk D h0 h1 cA f sec nan s H) {i : Int32} {w a : Nat} (hw : w < 2) (ei : i = nI w) (hf : f w = some a) (hdg : decode cc pc = .ok (.aaload, 1))
    (kk : W p l e R s m args below meth c H locs cells slots Q (F0 m (pc + 1) ls (.ref a :: rest))) : W p l e R s m args below meth c H locs cells slots Q (F0 m pc ls (.int i :: .ref h1 :: rest)) := by
  refine va_aldq hexec hb hDk.2.1 hDk.1 1 0 rfl rfl (by rw [ei]; exact vp_in_nI hw (by decide)) hdg ?_
  rw [ei, nI_clamp (by omega), hf]
  exact kk
/-- an Instant is stored into an array of Instants -/
theorem wd_ast (hexec : p.tables.exec = Jvm.exec) (hb : c.code = cc) {q t0 : Nat} {cA : ClassId} {f : Nat → Option Nat} (hK : va_K D wd_cl tys s) (ht : tys[t0]? = some (cA, .object "Instant")) (hc : H[q]? = some (vp_cell cA (2, .inr (.inr (.inr (.inr f)))))) {i : Int32} {w ra : Nat} {S : Int64} {N : Int32} (hI : wd_I ra S N s H) (hw : w < 2) (ei : i = nI w) (hdg : decode cc pc = .ok (.aastore, 1))
    (kk : ∀ H1 : Heap, H1[q]? = some (vp_cell cA (2, .inr (.inr (.inr (.inr (va_up f w (some ra))))))) → H1.size = H.size → (∀ x : Nat, x ≠ q → H1[x]? = H[x]?) → W p l e R s m args below meth c H1 (locs ++ [⟨q, w⟩]) cells slots Q (F0 m (pc + 1) ls rest)) : W p l e R s m args below meth c H locs cells slots Q (F0 m pc ls (.ref ra :: .int i :: .ref q :: rest)) := by
  subst ei
  have hcl : (nI w).toNatClampNeg = w := nI_clamp (by omega)
  have h0 : ¬ nI w < 0 := nI_pos (by omega)
  obtain ⟨cellV, g1, g3, ⟨kC, hkC⟩, hasg⟩ := wd_any hK hI
  obtain ⟨kA, comp, k1, k2, k3, -⟩ := (hK.2 t0 _ ht).2
  obtain ⟨kE, hkE, -⟩ := Vm.findClass_spec k3
  refine W.aast hexec hb hc (fun q h => by cases h) (fun h => by cases h) k1 k2 rfl hkE ⟨h0, by show _ < (arrV _ _ _).slots.size; rw [arrV_size, hcl]; exact hw⟩ g1 (fun q h => by rw [h] at g3; cases g3) hkC (hasg _ k3) rfl rfl hdg fun H1 e z oq => ?_
  rw [hcl] at e ⊢
  refine kk H1 ?_ z oq
  rw [e]
  rw [vp_cell_q, vp_cell_q, arrV_store]
  congr 2
  funext x
  by_cases hx : x = w
  · subst hx
    simp [updV, va_up, va_rf]
  · simp [updV, va_up, hx]
/-- the law's arrays of longs: read, written, made -/
theorem wd_lald (hexec : p.tables.exec = Jvm.exec) (hb : c.code = cc) {q : Nat} {dJ : ClassId} {g : Nat → Int64} (hc : H[q]? = some (vp_cell dJ (2, .inr (.inl g)))) (hJ : ArrOfT s dJ .long) {i : Int32} {w : Nat} (hw : w < 2) (ei : i = nI w) (hdg : decode cc pc = .ok (.laload, 1))
    (kk : W p l e R s m args below meth c H locs cells slots Q (F0 m (pc + 1) ls (.long (g w) :: rest))) : W p l e R s m args below meth c H locs cells slots Q (F0 m pc ls (.int i :: .ref q :: rest)) := by
  subst ei
  have hcl : (nI w).toNatClampNeg = w := nI_clamp (by omega)
  have h0 : ¬ nI w < 0 := nI_pos (by omega)
  exact W.lald (v := .long (g w)) hexec hb hc (hJ 2 (fun j => .long (g j))) (fun q => by cases q) (by show ¬ (_ ∨ (arrV _ _ _).slots.size ≤ _); rw [arrV_size]; exact vp_in_nI (N := 2) hw (by decide)) (by show (arrV _ _ _).slots[_]? = _; rw [hcl, arrV_read _ _ hw]) rfl rfl hdg kk
theorem wd_last (hexec : p.tables.exec = Jvm.exec) (hb : c.code = cc) {q : Nat} {dJ : ClassId} {g : Nat → Int64} (hc : H[q]? = some (vp_cell dJ (2, .inr (.inl g)))) (hJ : ArrOfT s dJ .long) {i : Int32} {x : Int64} {w : Nat} (hw : w < 2) (ei : i = nI w) (hdg : decode cc pc = .ok (.lastore, 1))
    (kk : ∀ H1 : Heap, H1[q]? = some (vp_cell dJ (2, .inr (.inl (vp_updL g w x)))) → H1.size = H.size → (∀ z : Nat, z ≠ q → H1[z]? = H[z]?) → W p l e R s m args below meth c H1 (locs ++ [⟨q, w⟩]) cells slots Q (F0 m (pc + 1) ls rest)) : W p l e R s m args below meth c H locs cells slots Q (F0 m pc ls (.long x :: .int i :: .ref q :: rest)) := by
  subst ei
  have hcl : (nI w).toNatClampNeg = w := nI_clamp (by omega)
  have h0 : ¬ nI w < 0 := nI_pos (by omega)
  refine W.last hexec hb hc (hJ 2 (fun j => .long (g j))) (fun q => by cases q) (by show ¬ (_ ∨ (arrV _ _ _).slots.size ≤ _); rw [arrV_size]; exact vp_in_nI (N := 2) hw (by decide)) rfl rfl hdg fun H1 e z oq => ?_
  rw [hcl] at e ⊢
  refine kk H1 ?_ z oq
  rw [e]
  rw [vp_cell_l, vp_cell_l, arrV_store]
  congr 2
  funext y
  by_cases hy : y = w
  · subst hy
    simp [updV, vp_updL]
  · simp [updV, vp_updL, hy]
theorem wd_newJ (hexec : p.tables.exec = Jvm.exec) (hb : c.code = cc) (harr : (Cond.arrayClass .long).before args s = true) (hcells : cells + 1 ≤ R.cells) (hslots : slots + 2 ≤ R.slots) (hdg : decode cc pc = .ok (.newarray .long, 2))
    (kk : ∀ (t : Nat) (H1 : Heap) (dJ : ClassId), t = H.size → H1[t]? = some (vp_cell dJ (2, .inr (.inl (fun _ => 0)))) → H1.size = H.size + 1 → (∀ q : Nat, q < H.size → H1[q]? = H[q]?) → ArrOfT s dJ .long → W p l e R s m args below meth c H1 locs (cells + 1) (slots + 2) Q (F0 m (pc + 2) ls (.ref t :: rest))) : W p l e R s m args below meth c H locs cells slots Q (F0 m pc ls (.int 2 :: rest)) := by
  refine va_newaK (atype := .long) hexec hb harr rfl hdg rfl (by decide) (show (2 : Int32).toNatClampNeg = 2 by decide) (by decide) hcells hslots rfl fun H1 cA e1 z1 o1 hAr _ => ?_
  exact kk H.size H1 cA rfl e1 z1 o1 hAr
/-- the desk's field is set in its constructor -/
theorem wd_putAt (hexec : p.tables.exec = Jvm.exec) (hb : c.code = cc) (hts : ∀ w ∈ lw_all, w.before args s = true) (hown : s.vm.findClass RX1 = some m.cls) (hin : meth.name = "<init>") (hK : va_K D wd_cl tys s) {h0 h1 : Nat} {v0 : Value} (ho : va_at D wd_cl (h0, .inr (1, [v0])) H) (hdg : decode cc pc = .ok (.putfield 13, 3))
    (kk : ∀ (H1 : Heap) (k : Nat), va_at D wd_cl (h0, .inr (1, [.ref h1])) H1 → H1.size = H.size → (∀ z : Nat, z ≠ h0 → H1[z]? = H[z]?) → W p l e R s m args below meth c H1 (locs ++ [⟨h0, k⟩]) cells slots Q (F0 m (pc + 3) ls rest)) : W p l e R s m args below meth c H locs cells slots Q (F0 m pc ls (.ref h1 :: .ref h0 :: rest)) := by
  obtain ⟨r, hr, cell, q1, q2, q3, q4⟩ := ho
  obtain rfl : (RX1, TX1, 1) = r := Option.some.inj hr
  obtain ⟨hS, hfc, kC, hkC, hkind⟩ := hK.1 1 (RX1, TX1, 1) rfl
  obtain ⟨cf, kf, fi, f, hi, hsl⟩ := hS 0 (by decide)
  have hlay : (Cond.laysFinal "InstantDesk" "InstantDesk" "at" "[LInstant;").before args s = true := hts _ q143
  have hst := (u_facts hfc hkC (u_lays hts in_X1 (k := 0) (by decide)) hi).1
  have hcf : m.cls = cf := by
    obtain ⟨_, _, c', _, _, _, -, -, hf', -, -, -, hown2, -⟩ := Cond.laysFinal_spec hlay
    have e1 : c' = cf := by
      have h9 := hi.symm.trans hf'
      simp at h9
      exact h9.1.symm
    rw [← e1]
    exact Option.some.inj (hown.symm.trans hown2)
  have h6 := u_fits hfc hkC hkind (Or.inr hlay) hi (ty := .array (.object "Instant")) (v := .ref h1) (tyX1_ok 0 (by decide)) rfl rfl
  refine W.putFinK hexec hb hown (hts _ q142) hi hst hcf hin (by rw [q2]; exact h6) q1 q3 (by rw [hsl]; exact k2_hasslot (q4 0 (by decide))) rfl rfl hdg fun H' e1 e2 e3 => ?_
  rw [hsl] at e1 ⊢
  exact kk H' _ ⟨(RX1, TX1, 1), rfl, t_OB.to (V := updV (vp_V [v0]) 0 (.ref h1)) ⟨_, e1, q2, q3, t_set q4 (fun x y (hx : x < 1) (hy : y < 1) hxy => absurd (show x = y by omega) hxy) (by decide) _⟩ (fun j _ => vp_updV_set (Nat.zero_lt_one) _ j)⟩ e2 e3
end WDS
theorem wd_up_same {α : Type} (g : Nat → α) (w : Nat) : va_up g w (g w) = g := by
  funext j
  by_cases h : j = w
  · rw [h, va_up_self]
  · rw [va_up_ne _ _ h]
/-- what the law's teller looks at: the desk and the two arrays of longs -/
def wd_Told (D : va_G) (h0 h1 : Nat) (cA : ClassId) (f : Nat → Option Nat) (sec : Nat → Int64) (nan : Nat → Int32) (qs qn : Nat) (dJ dK : ClassId) (fs fn : Nat → Int64) (U : State) (H : Heap) : Prop :=
  wd_Desk D h0 h1 cA f sec nan U H ∧ H[qs]? = some (vp_cell dJ (2, .inr (.inl fs))) ∧ H[qn]? = some (vp_cell dK (2, .inr (.inl fn))) ∧ ArrOfT U dJ .long ∧ ArrOfT U dK .long
theorem wd_Told.moved {D : va_G} {h0 h1 : Nat} {cA : ClassId} {f : Nat → Option Nat} {sec : Nat → Int64} {nan : Nat → Int32} {qs qn : Nat} {dJ dK : ClassId} {fs fn : Nat → Int64} {u U : State} {H : Heap} (hvm : u.vm.Alike U.vm) (h : wd_Told D h0 h1 cA f sec nan qs qn dJ dK fs fn u H) : wd_Told D h0 h1 cA f sec nan qs qn dJ dK fs fn U H :=
  ⟨h.1.moved hvm, h.2.1, h.2.2.1, arrOfT_moved hvm h.2.2.2.1, arrOfT_moved hvm h.2.2.2.2⟩
end
section
/-! Jdk8Methods: what each answers; they change nothing -/
set_option maxHeartbeats 4000000 in
set_option maxRecDepth 100000 in
/-- floorDiv(a, b), b above 0: the quotient rounded down -/
theorem met_floorDiv (l : Launch) (a b : Int64) (kb : 0 < b.toInt) : Met l yX4_floorDiv (ws_ yX4_floorDiv cX4_floorDiv 4 (some .long)) ({ frames := 0, cells := 0, slots := 0, locals := 0 }) (va_Pc [.long a, .long b] (fun U => True)) (vp_Sl (fun r => r.toInt = a.toInt / b.toInt)) 0 0 (fun _ => False) := by
  refine Met.ofW (cc := cX4_floorDiv) (maxL := 4) (ret := (some .long)) (by decide) rfl ?_
  intro p e s m args below meth c s₁ B hml hv
  obtain ⟨rfl, -⟩ := hv
  have hx := B.exec
  have hb := B.bytes
  have hr := B.returns
  have hts := atoms_spec (ws := ws_ yX4_floorDiv cX4_floorDiv 4 (some .long)) B.pre
  have hts : ∀ w ∈ lw_all, w.before _ s = true := fun w h => hts w (List.mem_cons_of_mem _ h)
  have hown : s.vm.findClass RX4 = some m.cls := findClass_of_methodNamed B.named
  have hlocks := B.notSynchronized
  have hl := lv_entry ([.long a, .long b]) (n := 4) (Nat.le_of_ble_eq_true rfl)
  rw [lg_entry_eq]
  generalize (lg_sl ([.long a, .long b]) ++ List.replicate (4 - (lg_sl ([.long a, .long b])).length) Slot.unset).toArray = ls at hl ⊢
  have hl : lv_has ls 4 [(0, .long a), (2, .long b)] := hl
  have nb : ¬ b = 0 := fun h => by rw [h, nu_zero] at kb; omega
  refine lv_lload_n hx hb dX4_floorDiv_0 rfl (lv_at hl 0 rfl) ?_
  refine lv_lconst (v := 0) hx hb dX4_floorDiv_1 (by decide) ?_
  refine W.lcmp hx hb dX4_floorDiv_2 ?_
  refine lv_if_lt (tgt := 12) hx hb dX4_floorDiv_3 (by decide) (fun k1 => ?_) (fun k1 => ?_)
  · refine lv_lload_n hx hb dX4_floorDiv_12 rfl (lv_at hl 0 rfl) ?_
    refine lv_lconst (v := 1) hx hb dX4_floorDiv_13 (by decide) ?_
    refine lv_ladd hx hb dX4_floorDiv_14 ?_
    refine lv_lload_n hx hb dX4_floorDiv_15 rfl (lv_at hl 1 rfl) ?_
    refine lv_ldiv hx hb dX4_floorDiv_16 nb ?_
    refine lv_lconst (v := 1) hx hb dX4_floorDiv_17 (by decide) ?_
    refine lv_lsub hx hb dX4_floorDiv_18 ?_
    have ka : a.toInt < 0 := by have := (nu_lt a 0).mp k1; rw [nu_zero] at this; exact this
    exact W.lret (v := (((a + (1 : Int64)) / b) - (1 : Int64))) hx hb hr (fun t ht hW => ⟨_, rfl, nu_floorDiv_n kb ka, ht⟩) (fun _ h => by cases h) dX4_floorDiv_19
  · refine lv_lload_n hx hb dX4_floorDiv_6 rfl (lv_at hl 0 rfl) ?_
    refine lv_lload_n hx hb dX4_floorDiv_7 rfl (lv_at hl 1 rfl) ?_
    refine lv_ldiv hx hb dX4_floorDiv_8 nb ?_
    refine lv_goto (tgt := 19) hx hb dX4_floorDiv_9 (by decide) ?_
    have ka : 0 ≤ a.toInt := by have h9 := nu_nlt k1; rw [nu_zero] at h9; exact h9
    exact W.lret (v := (a / b)) hx hb hr (fun t ht hW => ⟨_, rfl, lg_ldiv_nonneg ka kb, ht⟩) (fun _ h => by cases h) dX4_floorDiv_19
set_option maxHeartbeats 4000000 in
set_option maxRecDepth 100000 in
/-- floorMod(a, b), b above 0: the remainder of it -/
theorem met_floorMod (l : Launch) (a : Int64) (b : Int32) (kb : 0 < b.toInt) : Met l yX4_floorMod (ws_ yX4_floorMod cX4_floorMod 3 (some .int)) ({ frames := 0, cells := 0, slots := 0, locals := 0 }) (va_Pc [.long a, .int b] (fun U => True)) (vp_Si (fun r => r.toInt = a.toInt % b.toInt)) 0 0 (fun _ => False) := by
  refine Met.ofW (cc := cX4_floorMod) (maxL := 3) (ret := (some .int)) (by decide) rfl ?_
  intro p e s m args below meth c s₁ B hml hv
  obtain ⟨rfl, -⟩ := hv
  have hx := B.exec
  have hb := B.bytes
  have hr := B.returns
  have hts := atoms_spec (ws := ws_ yX4_floorMod cX4_floorMod 3 (some .int)) B.pre
  have hts : ∀ w ∈ lw_all, w.before _ s = true := fun w h => hts w (List.mem_cons_of_mem _ h)
  have hown : s.vm.findClass RX4 = some m.cls := findClass_of_methodNamed B.named
  have hlocks := B.notSynchronized
  have hl := lv_entry ([.long a, .int b]) (n := 3) (Nat.le_of_ble_eq_true rfl)
  rw [lg_entry_eq]
  generalize (lg_sl ([.long a, .int b]) ++ List.replicate (3 - (lg_sl ([.long a, .int b])).length) Slot.unset).toArray = ls at hl ⊢
  have hl : lv_has ls 3 [(0, .long a), (2, .int b)] := hl
  have nb : ¬ b.toInt64 = 0 := fun h => by have e := Jvm.Kit.i64_of_i32 b; rw [h, nu_zero] at e; omega
  refine lv_lload_n hx hb dX4_floorMod_0 rfl (lv_at hl 0 rfl) ?_
  refine lv_iload_n hx hb dX4_floorMod_1 rfl (lv_at hl 1 rfl) ?_
  refine lv_i2l hx hb dX4_floorMod_2 rfl ?_
  refine lv_lrem hx hb dX4_floorMod_3 nb ?_
  refine lv_iload_n hx hb dX4_floorMod_4 rfl (lv_at hl 1 rfl) ?_
  refine lv_i2l hx hb dX4_floorMod_5 rfl ?_
  refine lv_ladd hx hb dX4_floorMod_6 ?_
  refine lv_iload_n hx hb dX4_floorMod_7 rfl (lv_at hl 1 rfl) ?_
  refine lv_i2l hx hb dX4_floorMod_8 rfl ?_
  refine lv_lrem hx hb dX4_floorMod_9 nb ?_
  refine lv_l2i hx hb dX4_floorMod_10 rfl ?_
  exact W.iret (v := (((a - a / b.toInt64 * b.toInt64) + b.toInt64) - ((a - a / b.toInt64 * b.toInt64) + b.toInt64) / b.toInt64 * b.toInt64).toInt32) hx hb hr (fun t ht hW => ⟨_, rfl, nu_floorMod kb, ht⟩) (fun _ h => by cases h) dX4_floorMod_11
set_option maxHeartbeats 4000000 in
set_option maxRecDepth 100000 in
/-- safeAdd(a, b) where the sum is a long: it -/
theorem met_safeAdd (l : Launch) (a b : Int64) (k1 : -2 ^ 63 ≤ a.toInt + b.toInt) (k2 : a.toInt + b.toInt < 2 ^ 63) : Met l yX4_safeAdd (ws_ yX4_safeAdd cX4_safeAdd 6 (some .long)) ({ frames := 0, cells := 0, slots := 0, locals := 0 }) (va_Pc [.long a, .long b] (fun U => True)) (vp_Sl (fun r => r.toInt = a.toInt + b.toInt)) 0 0 (fun _ => False) := by
  refine Met.ofW (cc := cX4_safeAdd) (maxL := 6) (ret := (some .long)) (by decide) rfl ?_
  intro p e s m args below meth c s₁ B hml hv
  obtain ⟨rfl, -⟩ := hv
  have hx := B.exec
  have hb := B.bytes
  have hr := B.returns
  have hts := atoms_spec (ws := ws_ yX4_safeAdd cX4_safeAdd 6 (some .long)) B.pre
  have hts : ∀ w ∈ lw_all, w.before _ s = true := fun w h => hts w (List.mem_cons_of_mem _ h)
  have hown : s.vm.findClass RX4 = some m.cls := findClass_of_methodNamed B.named
  have hlocks := B.notSynchronized
  have hl := lv_entry ([.long a, .long b]) (n := 6) (Nat.le_of_ble_eq_true rfl)
  rw [lg_entry_eq]
  generalize (lg_sl ([.long a, .long b]) ++ List.replicate (6 - (lg_sl ([.long a, .long b])).length) Slot.unset).toArray = ls at hl ⊢
  have hl : lv_has ls 6 [(0, .long a), (2, .long b)] := hl
  refine lv_lload_n hx hb dX4_safeAdd_0 rfl (lv_at hl 0 rfl) ?_
  refine lv_lload_n hx hb dX4_safeAdd_1 rfl (lv_at hl 1 rfl) ?_
  refine lv_ladd hx hb dX4_safeAdd_2 ?_
  refine lv_topl (fun z ez => ?_)
  refine lv_lstore (lv' := [(4, .long z), (0, .long a), (2, .long b)]) hx hb dX4_safeAdd_3 hl (by decide) rfl (fun ls hl => ?_)
  refine lv_lload_n hx hb dX4_safeAdd_5 rfl (lv_at hl 1 rfl) ?_
  refine lv_lload hx hb dX4_safeAdd_6 (lv_at hl 0 rfl) ?_
  refine lv_lxor hx hb dX4_safeAdd_8 ?_
  refine lv_lconst (v := 0) hx hb dX4_safeAdd_9 (by decide) ?_
  refine W.lcmp hx hb dX4_safeAdd_10 ?_
  refine lv_if_ge (tgt := 32) hx hb dX4_safeAdd_11 (by decide) (fun c1 => ?_) (fun c1 => ?_)
  · refine lv_lload hx hb dX4_safeAdd_32 (lv_at hl 0 rfl) ?_
    exact W.lret (v := z) hx hb hr (fun t ht hW => ⟨_, rfl, (by try dsimp only; rw [ez]; exact Jvm.Kit.i64_add k1 k2), ht⟩) (fun _ h => by cases h) dX4_safeAdd_34
  · have n1 : (a ^^^ z).toInt < 0 := by have h9 := nu_nge c1; rw [nu_zero] at h9; exact h9
    refine lv_lload_n hx hb dX4_safeAdd_14 rfl (lv_at hl 1 rfl) ?_
    refine lv_lload_n hx hb dX4_safeAdd_15 rfl (lv_at hl 2 rfl) ?_
    refine lv_lxor hx hb dX4_safeAdd_16 ?_
    refine lv_lconst (v := 0) hx hb dX4_safeAdd_17 (by decide) ?_
    refine W.lcmp hx hb dX4_safeAdd_18 ?_
    refine lv_if_lt (tgt := 32) hx hb dX4_safeAdd_19 (by decide) (fun c2 => ?_) (fun c2 => ?_)
    · refine lv_lload hx hb dX4_safeAdd_32 (lv_at hl 0 rfl) ?_
      exact W.lret (v := z) hx hb hr (fun t ht hW => ⟨_, rfl, (by try dsimp only; rw [ez]; exact Jvm.Kit.i64_add k1 k2), ht⟩) (fun _ h => by cases h) dX4_safeAdd_34
    · exact absurd ((nu_lt (a ^^^ b) 0).mpr (by rw [nu_zero]; exact nu_addOk k1 k2 (by rw [← ez]; exact n1))) c2
set_option maxHeartbeats 4000000 in
set_option maxRecDepth 100000 in
/-- safeSubtract(a, b) where the difference is a long: it -/
theorem met_safeSubtract (l : Launch) (a b : Int64) (k1 : -2 ^ 63 ≤ a.toInt - b.toInt) (k2 : a.toInt - b.toInt < 2 ^ 63) : Met l yX4_safeSubtract (ws_ yX4_safeSubtract cX4_safeSubtract 6 (some .long)) ({ frames := 0, cells := 0, slots := 0, locals := 0 }) (va_Pc [.long a, .long b] (fun U => True)) (vp_Sl (fun r => r.toInt = a.toInt - b.toInt)) 0 0 (fun _ => False) := by
  refine Met.ofW (cc := cX4_safeSubtract) (maxL := 6) (ret := (some .long)) (by decide) rfl ?_
  intro p e s m args below meth c s₁ B hml hv
  obtain ⟨rfl, -⟩ := hv
  have hx := B.exec
  have hb := B.bytes
  have hr := B.returns
  have hts := atoms_spec (ws := ws_ yX4_safeSubtract cX4_safeSubtract 6 (some .long)) B.pre
  have hts : ∀ w ∈ lw_all, w.before _ s = true := fun w h => hts w (List.mem_cons_of_mem _ h)
  have hown : s.vm.findClass RX4 = some m.cls := findClass_of_methodNamed B.named
  have hlocks := B.notSynchronized
  have hl := lv_entry ([.long a, .long b]) (n := 6) (Nat.le_of_ble_eq_true rfl)
  rw [lg_entry_eq]
  generalize (lg_sl ([.long a, .long b]) ++ List.replicate (6 - (lg_sl ([.long a, .long b])).length) Slot.unset).toArray = ls at hl ⊢
  have hl : lv_has ls 6 [(0, .long a), (2, .long b)] := hl
  refine lv_lload_n hx hb dX4_safeSubtract_0 rfl (lv_at hl 0 rfl) ?_
  refine lv_lload_n hx hb dX4_safeSubtract_1 rfl (lv_at hl 1 rfl) ?_
  refine lv_lsub hx hb dX4_safeSubtract_2 ?_
  refine lv_topl (fun z ez => ?_)
  refine lv_lstore (lv' := [(4, .long z), (0, .long a), (2, .long b)]) hx hb dX4_safeSubtract_3 hl (by decide) rfl (fun ls hl => ?_)
  refine lv_lload_n hx hb dX4_safeSubtract_5 rfl (lv_at hl 1 rfl) ?_
  refine lv_lload hx hb dX4_safeSubtract_6 (lv_at hl 0 rfl) ?_
  refine lv_lxor hx hb dX4_safeSubtract_8 ?_
  refine lv_lconst (v := 0) hx hb dX4_safeSubtract_9 (by decide) ?_
  refine W.lcmp hx hb dX4_safeSubtract_10 ?_
  refine lv_if_ge (tgt := 32) hx hb dX4_safeSubtract_11 (by decide) (fun c1 => ?_) (fun c1 => ?_)
  · refine lv_lload hx hb dX4_safeSubtract_32 (lv_at hl 0 rfl) ?_
    exact W.lret (v := z) hx hb hr (fun t ht hW => ⟨_, rfl, (by try dsimp only; rw [ez]; exact Jvm.Kit.i64_sub k1 k2), ht⟩) (fun _ h => by cases h) dX4_safeSubtract_34
  · have n1 : (a ^^^ z).toInt < 0 := by have h9 := nu_nge c1; rw [nu_zero] at h9; exact h9
    refine lv_lload_n hx hb dX4_safeSubtract_14 rfl (lv_at hl 1 rfl) ?_
    refine lv_lload_n hx hb dX4_safeSubtract_15 rfl (lv_at hl 2 rfl) ?_
    refine lv_lxor hx hb dX4_safeSubtract_16 ?_
    refine lv_lconst (v := 0) hx hb dX4_safeSubtract_17 (by decide) ?_
    refine W.lcmp hx hb dX4_safeSubtract_18 ?_
    refine lv_if_ge (tgt := 32) hx hb dX4_safeSubtract_19 (by decide) (fun c2 => ?_) (fun c2 => ?_)
    · refine lv_lload hx hb dX4_safeSubtract_32 (lv_at hl 0 rfl) ?_
      exact W.lret (v := z) hx hb hr (fun t ht hW => ⟨_, rfl, (by try dsimp only; rw [ez]; exact Jvm.Kit.i64_sub k1 k2), ht⟩) (fun _ h => by cases h) dX4_safeSubtract_34
    · exact absurd ((nu_ge (a ^^^ b) 0).mpr (by rw [nu_zero]; have := nu_subOk k1 k2 (by rw [← ez]; exact n1); omega)) c2
set_option maxHeartbeats 4000000 in
set_option maxRecDepth 100000 in
/-- safeMultiply(a, b), b above 1, where the product is a long: it -/
theorem met_safeMultiply (l : Launch) (a b : Int64) (kb : 1 < b.toInt) (k1 : -2 ^ 63 ≤ a.toInt * b.toInt) (k2 : a.toInt * b.toInt < 2 ^ 63) : Met l yX4_safeMultiply (ws_ yX4_safeMultiply cX4_safeMultiply 6 (some .long)) ({ frames := 0, cells := 0, slots := 0, locals := 0 }) (va_Pc [.long a, .long b] (fun U => True)) (vp_Sl (fun r => r.toInt = a.toInt * b.toInt)) 0 0 (fun _ => False) := by
  refine Met.ofW (cc := cX4_safeMultiply) (maxL := 6) (ret := (some .long)) (by decide) rfl ?_
  intro p e s m args below meth c s₁ B hml hv
  obtain ⟨rfl, -⟩ := hv
  have hx := B.exec
  have hb := B.bytes
  have hr := B.returns
  have hts := atoms_spec (ws := ws_ yX4_safeMultiply cX4_safeMultiply 6 (some .long)) B.pre
  have hts : ∀ w ∈ lw_all, w.before _ s = true := fun w h => hts w (List.mem_cons_of_mem _ h)
  have hown : s.vm.findClass RX4 = some m.cls := findClass_of_methodNamed B.named
  have hlocks := B.notSynchronized
  have hl := lv_entry ([.long a, .long b]) (n := 6) (Nat.le_of_ble_eq_true rfl)
  rw [lg_entry_eq]
  generalize (lg_sl ([.long a, .long b]) ++ List.replicate (6 - (lg_sl ([.long a, .long b])).length) Slot.unset).toArray = ls at hl ⊢
  have hl : lv_has ls 6 [(0, .long a), (2, .long b)] := hl
  have nb : ¬ b = 0 := fun h => by rw [h, nu_zero] at kb; omega
  refine lv_lload_n hx hb dX4_safeMultiply_0 rfl (lv_at hl 1 rfl) ?_
  refine lv_lconst (v := 1) hx hb dX4_safeMultiply_1 (by decide) ?_
  refine W.lcmp hx hb dX4_safeMultiply_2 ?_
  refine lv_if_ne (tgt := 8) hx hb dX4_safeMultiply_3 (by decide) (fun c1 => ?_) (fun c1 => ?_)
  · refine lv_lload_n hx hb dX4_safeMultiply_8 rfl (lv_at hl 0 rfl) ?_
    refine lv_lconst (v := 1) hx hb dX4_safeMultiply_9 (by decide) ?_
    refine W.lcmp hx hb dX4_safeMultiply_10 ?_
    refine lv_if_ne (tgt := 16) hx hb dX4_safeMultiply_11 (by decide) (fun c2 => ?_) (fun c2 => ?_)
    · refine lv_lload_n hx hb dX4_safeMultiply_16 rfl (lv_at hl 0 rfl) ?_
      refine lv_lconst (v := 0) hx hb dX4_safeMultiply_17 (by decide) ?_
      refine W.lcmp hx hb dX4_safeMultiply_18 ?_
      refine lv_if_eq (tgt := 28) hx hb dX4_safeMultiply_19 (by decide) (fun c3 => ?_) (fun c3 => ?_)
      · refine lv_lconst (v := 0) hx hb dX4_safeMultiply_28 (by decide) ?_
        exact W.lret (v := 0) hx hb hr (fun t ht hW => ⟨_, rfl, (by try dsimp only; have h9 := (nu_eq a 0).mp c3; rw [nu_zero] at h9; rw [nu_zero, h9, Int.zero_mul]), ht⟩) (fun _ h => by cases h) dX4_safeMultiply_29
      · refine lv_lload_n hx hb dX4_safeMultiply_22 rfl (lv_at hl 1 rfl) ?_
        refine lv_lconst (v := 0) hx hb dX4_safeMultiply_23 (by decide) ?_
        refine W.lcmp hx hb dX4_safeMultiply_24 ?_
        refine lv_if_ne (tgt := 30) hx hb dX4_safeMultiply_25 (by decide) (fun c4 => ?_) (fun c4 => ?_)
        · refine lv_lload_n hx hb dX4_safeMultiply_30 rfl (lv_at hl 0 rfl) ?_
          refine lv_lload_n hx hb dX4_safeMultiply_31 rfl (lv_at hl 1 rfl) ?_
          refine lv_lmul hx hb dX4_safeMultiply_32 ?_
          refine lv_topl (fun z ez => ?_)
          refine lv_lstore (lv' := [(4, .long z), (0, .long a), (2, .long b)]) hx hb dX4_safeMultiply_33 hl (by decide) rfl (fun ls hl => ?_)
          refine lv_lload hx hb dX4_safeMultiply_35 (lv_at hl 0 rfl) ?_
          refine lv_lload_n hx hb dX4_safeMultiply_37 rfl (lv_at hl 2 rfl) ?_
          refine lv_ldiv hx hb dX4_safeMultiply_38 nb ?_
          refine lv_lload_n hx hb dX4_safeMultiply_39 rfl (lv_at hl 1 rfl) ?_
          refine W.lcmp hx hb dX4_safeMultiply_40 ?_
          refine lv_if_ne (tgt := 76) hx hb dX4_safeMultiply_41 (by decide) (fun c5 => ?_) (fun c5 => ?_)
          · exact absurd ((nu_eq (z / b) a).mpr (by rw [ez, nu_mulOk kb k1 k2])) c5
          · refine lv_lload_n hx hb dX4_safeMultiply_44 rfl (lv_at hl 1 rfl) ?_
            refine lv_ldc2 hx hb hown (hts _ q239) dX4_safeMultiply_45 ?_
            refine W.lcmp hx hb dX4_safeMultiply_48 ?_
            refine lv_if_ne (tgt := 60) hx hb dX4_safeMultiply_49 (by decide) (fun c6 => ?_) (fun c6 => ?_)
            · refine lv_lload_n hx hb dX4_safeMultiply_60 rfl (lv_at hl 2 rfl) ?_
              refine lv_ldc2 hx hb hown (hts _ q239) dX4_safeMultiply_61 ?_
              refine W.lcmp hx hb dX4_safeMultiply_64 ?_
              refine lv_if_ne (tgt := 86) hx hb dX4_safeMultiply_65 (by decide) (fun c7 => ?_) (fun c7 => ?_)
              · refine lv_lload hx hb dX4_safeMultiply_86 (lv_at hl 0 rfl) ?_
                exact W.lret (v := z) hx hb hr (fun t ht hW => ⟨_, rfl, (by try dsimp only; rw [ez]; exact Jvm.Kit.i64_mul k1 k2), ht⟩) (fun _ h => by cases h) dX4_safeMultiply_88
              · exact absurd ((nu_eq b (-9223372036854775808)).mp c7) (by rw [show (-9223372036854775808 : Int64).toInt = -9223372036854775808 by decide]; omega)
            · refine lv_lload_n hx hb dX4_safeMultiply_52 rfl (lv_at hl 2 rfl) ?_
              refine lv_ldc2 hx hb hown (hts _ q240) dX4_safeMultiply_53 ?_
              refine W.lcmp hx hb dX4_safeMultiply_56 ?_
              refine lv_if_eq (tgt := 76) hx hb dX4_safeMultiply_57 (by decide) (fun c8 => ?_) (fun c8 => ?_)
              · exact absurd ((nu_eq b (-1)).mp c8) (by rw [show (-1 : Int64).toInt = -1 by decide]; omega)
              · refine lv_lload_n hx hb dX4_safeMultiply_60 rfl (lv_at hl 2 rfl) ?_
                refine lv_ldc2 hx hb hown (hts _ q239) dX4_safeMultiply_61 ?_
                refine W.lcmp hx hb dX4_safeMultiply_64 ?_
                refine lv_if_ne (tgt := 86) hx hb dX4_safeMultiply_65 (by decide) (fun c7 => ?_) (fun c7 => ?_)
                · refine lv_lload hx hb dX4_safeMultiply_86 (lv_at hl 0 rfl) ?_
                  exact W.lret (v := z) hx hb hr (fun t ht hW => ⟨_, rfl, (by try dsimp only; rw [ez]; exact Jvm.Kit.i64_mul k1 k2), ht⟩) (fun _ h => by cases h) dX4_safeMultiply_88
                · exact absurd ((nu_eq b (-9223372036854775808)).mp c7) (by rw [show (-9223372036854775808 : Int64).toInt = -9223372036854775808 by decide]; omega)
        · exact absurd ((nu_eq b 0).mp c4) (by rw [nu_zero]; omega)
    · refine lv_lload_n hx hb dX4_safeMultiply_14 rfl (lv_at hl 1 rfl) ?_
      exact W.lret (v := b) hx hb hr (fun t ht hW => ⟨_, rfl, (by try dsimp only; have h9 := (nu_eq a 1).mp c2; rw [nu_one] at h9; rw [h9, Int.one_mul]), ht⟩) (fun _ h => by cases h) dX4_safeMultiply_15
  · exact absurd ((nu_eq b 1).mp c1) (by rw [nu_one]; omega)
set_option maxHeartbeats 4000000 in
set_option maxRecDepth 100000 in
/-- compareLongs(a, b): -1, 1 or 0 -/
theorem met_compareLongs (l : Launch) (a b : Int64) : Met l yX4_compareLongs (ws_ yX4_compareLongs cX4_compareLongs 4 (some .int)) ({ frames := 0, cells := 0, slots := 0, locals := 0 }) (va_Pc [.long a, .long b] (fun U => True)) (vp_Si (fun r => r = nu_cmp a.toInt b.toInt)) 0 0 (fun _ => False) := by
  refine Met.ofW (cc := cX4_compareLongs) (maxL := 4) (ret := (some .int)) (by decide) rfl ?_
  intro p e s m args below meth c s₁ B hml hv
  obtain ⟨rfl, -⟩ := hv
  have hx := B.exec
  have hb := B.bytes
  have hr := B.returns
  have hts := atoms_spec (ws := ws_ yX4_compareLongs cX4_compareLongs 4 (some .int)) B.pre
  have hts : ∀ w ∈ lw_all, w.before _ s = true := fun w h => hts w (List.mem_cons_of_mem _ h)
  have hown : s.vm.findClass RX4 = some m.cls := findClass_of_methodNamed B.named
  have hlocks := B.notSynchronized
  have hl := lv_entry ([.long a, .long b]) (n := 4) (Nat.le_of_ble_eq_true rfl)
  rw [lg_entry_eq]
  generalize (lg_sl ([.long a, .long b]) ++ List.replicate (4 - (lg_sl ([.long a, .long b])).length) Slot.unset).toArray = ls at hl ⊢
  have hl : lv_has ls 4 [(0, .long a), (2, .long b)] := hl
  refine lv_lload_n hx hb dX4_compareLongs_0 rfl (lv_at hl 0 rfl) ?_
  refine lv_lload_n hx hb dX4_compareLongs_1 rfl (lv_at hl 1 rfl) ?_
  refine W.lcmp hx hb dX4_compareLongs_2 ?_
  refine lv_if_ge (tgt := 8) hx hb dX4_compareLongs_3 (by decide) (fun c1 => ?_) (fun c1 => ?_)
  · have h1 := (nu_ge a b).mp c1
    refine lv_lload_n hx hb dX4_compareLongs_8 rfl (lv_at hl 0 rfl) ?_
    refine lv_lload_n hx hb dX4_compareLongs_9 rfl (lv_at hl 1 rfl) ?_
    refine W.lcmp hx hb dX4_compareLongs_10 ?_
    refine lv_if_le (tgt := 16) hx hb dX4_compareLongs_11 (by decide) (fun c2 => ?_) (fun c2 => ?_)
    · have h2 := (nu_le a b).mp c2
      refine lv_iconst (v := 0) hx hb dX4_compareLongs_16 (by decide) ?_
      exact W.iret (v := 0) hx hb hr (fun t ht hW => ⟨_, rfl, (by try dsimp only; unfold nu_cmp; rw [if_neg (by omega), if_neg (by omega)]), ht⟩) (fun _ h => by cases h) dX4_compareLongs_17
    · have h2 : b.toInt < a.toInt := nu_nle c2
      refine lv_iconst (v := 1) hx hb dX4_compareLongs_14 (by decide) ?_
      exact W.iret (v := 1) hx hb hr (fun t ht hW => ⟨_, rfl, (by try dsimp only; unfold nu_cmp; rw [if_neg (by omega), if_pos h2]), ht⟩) (fun _ h => by cases h) dX4_compareLongs_15
  · have h1 : a.toInt < b.toInt := nu_nge c1
    refine lv_iconst (v := (-1)) hx hb dX4_compareLongs_6 (by decide) ?_
    exact W.iret (v := (-1)) hx hb hr (fun t ht hW => ⟨_, rfl, (by try dsimp only; unfold nu_cmp; rw [if_pos h1]), ht⟩) (fun _ h => by cases h) dX4_compareLongs_7
set_option maxHeartbeats 4000000 in
set_option maxRecDepth 100000 in
/-- DefaultInterfaceTemporalAccessor(): nothing -/
theorem met_accInit (l : Launch) (h0 : Nat) : Met l yX2_init (ws_ yX2_init cX2_init 1 none) ({ frames := 1, cells := 0, slots := 0, locals := 12 }) (va_Pc [.ref h0] (fun U => True)) (va_Sv (fun _ => True)) 0 0 (fun _ => False) := by
  refine Met.ofW (cc := cX2_init) (maxL := 1) (ret := none) (by decide) rfl ?_
  intro p e s m args below meth c s₁ B hml hv
  obtain ⟨rfl, -⟩ := hv
  have hx := B.exec
  have hb := B.bytes
  have hr := B.returns
  have hts := atoms_spec (ws := ws_ yX2_init cX2_init 1 none) B.pre
  have hts : ∀ w ∈ lw_all, w.before _ s = true := fun w h => hts w (List.mem_cons_of_mem _ h)
  have hown : s.vm.findClass RX2 = some m.cls := findClass_of_methodNamed B.named
  have hlocks := B.notSynchronized
  have hin : meth.name = "<init>" := (name_of_methodNamed B.named B.method).1
  have hl := lv_entry ([.ref h0]) (n := 1) (Nat.le_of_ble_eq_true rfl)
  rw [lg_entry_eq]
  generalize (lg_sl ([.ref h0]) ++ List.replicate (1 - (lg_sl ([.ref h0])).length) Slot.unset).toArray = ls at hl ⊢
  have hl : lv_has ls 1 [(0, .ref h0)] := hl
  refine lv_aload_n hx hb dX2_init_0 rfl (lv_at hl 0 rfl) ?_
  refine W.objInit hx hb hown (hts _ q134) (hts _ q18) (hts _ q19) rfl (by rw [hml]; exact hl.1) rfl dX2_init_1 (Nat.le_of_ble_eq_true rfl) (Nat.le_of_ble_eq_true rfl) ?_
  refine W.eq (g2 := F0 m 4 ls []) rfl ?_
  exact W.vret hx hb hr (fun t ht hW => ⟨rfl, trivial, ht⟩) (fun _ h => by cases h) dX2_init_4
end
section
/-! Instant: what its methods answer and make -/
set_option maxHeartbeats 4000000 in
set_option maxRecDepth 100000 in
/-- Instant(S, N): the fields are set -/
theorem met_insInit (l : Launch) (D : va_G) (q : Nat) (z0 : Int64) (z1 : Int32) (S : Int64) (N : Int32) : Met l yX3_init (ws_ yX3_init cX3_init 4 none) ({ frames := 2, cells := 0, slots := 0, locals := 32 }) (va_Pc [.ref q, .long S, .int N] (fun U => va_P D wd_cl [(q, .inr (0, [.long z0, .int z1]))] U.heap ∧ va_K D wd_cl [] U)) (va_Qv (fun _ : Unit => True) (fun _ t => va_P D wd_cl [(q, .inr (0, [.long S, .int N]))] t.heap) (fun x => x = q)) 0 0 (fun x => x = q) := by
  refine Met.ofW (cc := cX3_init) (maxL := 4) (ret := none) (by decide) rfl ?_
  intro p e s m args below meth c s₁ B hml hv
  obtain ⟨rfl, hP, hK⟩ := hv
  have hx := B.exec
  have hb := B.bytes
  have hr := B.returns
  have hts := atoms_spec (ws := ws_ yX3_init cX3_init 4 none) B.pre
  have hts : ∀ w ∈ lw_all, w.before _ s = true := fun w h => hts w (List.mem_cons_of_mem _ h)
  have hown : s.vm.findClass RX3 = some m.cls := findClass_of_methodNamed B.named
  have hlocks := B.notSynchronized
  have hin : meth.name = "<init>" := (name_of_methodNamed B.named B.method).1
  have hl := lv_entry ([.ref q, .long S, .int N]) (n := 4) (Nat.le_of_ble_eq_true rfl)
  rw [lg_entry_eq]
  generalize (lg_sl ([.ref q, .long S, .int N]) ++ List.replicate (4 - (lg_sl ([.ref q, .long S, .int N])).length) Slot.unset).toArray = ls at hl ⊢
  have hl : lv_has ls 4 [(0, .ref q), (1, .long S), (3, .int N)] := hl
  have hD : va_D (fun x => x = q) [(q, .inr (0, [.long z0, .int z1]))] := wd_D1 rfl
  have hS : va_S (fun x => x = q) s.heap s.heap [] := va_S.rf
  refine lv_aload_n hx hb dX3_init_0 rfl (lv_at hl 0 rfl) ?_
  refine va_csv (va_runI (As := []) (rest := []) ⟨hx, hb, hml, hown, hts⟩ (met_accInit l q) (cwI 0 hts (lw_meth q133) rfl rfl rfl (hts _ q4) (hts _ q131) (hts _ q132) rfl (by decide +kernel) ⟨Nat.le_of_ble_eq_true rfl, Nat.le_of_ble_eq_true rfl⟩) ⟨fun a U g mk q => ⟨q.1, q.2⟩, fun U hU hW => ⟨rfl, trivial⟩⟩ rfl rfl hl.1 rfl (lv_room (Nat.le_of_ble_eq_true rfl)) dX3_init_1 ⟨Nat.le_of_ble_eq_true rfl, Nat.le_of_ble_eq_true rfl⟩).run (fun _ => ?_)
  refine lv_aload_n hx hb dX3_init_4 rfl (lv_at hl 0 rfl) ?_
  refine lv_lload_n hx hb dX3_init_5 rfl (lv_at hl 1 rfl) ?_
  refine va_putF (D := D) (ci := 0) (v := .long S) (ty := .long) (C := RX3) (T := TX3) (N := 2) hx hb hts in_X3 tyX3 tyX3_ok nmX3 hown hK hP hD hS 0 rfl rfl 0 (by decide) (hts _ q135) (fun _ h9 => h9) rfl hin rfl (by decide +kernel) rfl rfl (Nat.le_of_ble_eq_true rfl) dX3_init_6 (fun H locs hP hD hS => ?_)
  have hP : va_P D wd_cl [(q, .inr (0, [.long S, .int z1]))] H := hP
  have hD : va_D (fun x => x = q) [(q, .inr (0, [.long S, .int z1]))] := hD
  refine lv_aload_n hx hb dX3_init_9 rfl (lv_at hl 0 rfl) ?_
  refine lv_iload_n hx hb dX3_init_10 rfl (lv_at hl 2 rfl) ?_
  refine va_putF (D := D) (ci := 0) (v := .int N) (ty := .int) (C := RX3) (T := TX3) (N := 2) hx hb hts in_X3 tyX3 tyX3_ok nmX3 hown hK hP hD hS 0 rfl rfl 1 (by decide) (hts _ q136) (fun _ h9 => h9) rfl hin rfl (by decide +kernel) rfl rfl (Nat.le_of_ble_eq_true rfl) dX3_init_11 (fun H locs hP hD hS => ?_)
  have hP : va_P D wd_cl [(q, .inr (0, [.long S, .int N]))] H := hP
  exact W.vret hx hb hr (fun t ht hW => ⟨⟨(), rfl, trivial, by show va_P _ _ _ t.heap; rw [ht]; exact hP⟩, hS.F ht⟩) hS.2.2 dX3_init_14
set_option maxHeartbeats 4000000 in
set_option maxRecDepth 100000 in
/-- create(S, N): EPOCH or a new Instant -/
theorem met_create (l : Launch) (D : va_G) (ep sz : Nat) (S : Int64) (N : Int32) (k1 : -31557014167219200 ≤ S.toInt) (k2 : S.toInt ≤ 31556889864403199) : Met l yX3_create (ws_ yX3_create cX3_create 3 (some (.object "Instant"))) ({ frames := 3, cells := 1, slots := 2, locals := 55 }) (va_Pc [.long S, .int N] (fun U => U.heap.size = sz ∧ va_K D wd_cl [] U ∧ wd_E ep (wd_N sz) U U.heap)) (va_Qr (fun u : Int64 × Int32 => u.1 = S ∧ u.2 = N) (fun u ra t => wd_I ra u.1 u.2 t t.heap) (wd_N sz)) 1 2 (wd_N sz) := by
  refine Met.ofW (cc := cX3_create) (maxL := 3) (ret := (some (.object "Instant"))) (by decide) rfl ?_
  intro p e s m args below meth c s₁ B hml hv
  obtain ⟨rfl, hsz, hK, hE⟩ := hv
  have hx := B.exec
  have hb := B.bytes
  have hr := B.returns
  have hts := atoms_spec (ws := ws_ yX3_create cX3_create 3 (some (.object "Instant"))) B.pre
  have hts : ∀ w ∈ lw_all, w.before _ s = true := fun w h => hts w (List.mem_cons_of_mem _ h)
  have hown : s.vm.findClass RX3 = some m.cls := findClass_of_methodNamed B.named
  have hlocks := B.notSynchronized
  have hl := lv_entry ([.long S, .int N]) (n := 3) (Nat.le_of_ble_eq_true rfl)
  rw [lg_entry_eq]
  generalize (lg_sl ([.long S, .int N]) ++ List.replicate (3 - (lg_sl ([.long S, .int N])).length) Slot.unset).toArray = ls at hl ⊢
  have hl : lv_has ls 3 [(0, .long S), (2, .int N)] := hl
  subst hsz
  have hS : va_S (wd_N s.heap.size) s.heap s.heap [] := va_S.rf
  refine lv_lload_n hx hb dX3_create_0 rfl (lv_at hl 0 rfl) ?_
  refine lv_iload_n hx hb dX3_create_1 rfl (lv_at hl 1 rfl) ?_
  refine lv_i2l hx hb dX3_create_2 rfl ?_
  refine lv_lor hx hb dX3_create_3 ?_
  refine lv_lconst (v := 0) hx hb dX3_create_4 (by decide) ?_
  refine W.lcmp hx hb dX3_create_5 ?_
  refine lv_if_ne (tgt := 13) hx hb dX3_create_6 (by decide) (fun c1 => ?_) (fun c1 => ?_)
  · refine lv_lload_n hx hb dX3_create_13 rfl (lv_at hl 0 rfl) ?_
    refine lv_ldc2 hx hb hown (hts _ q108) dX3_create_14 ?_
    refine W.lcmp hx hb dX3_create_17 ?_
    refine lv_if_lt (tgt := 29) hx hb dX3_create_18 (by decide) (fun c2 => ?_) (fun c2 => ?_)
    · exact absurd ((nu_lt S (-31557014167219200)).mp c2) (by rw [show (-31557014167219200 : Int64).toInt = -31557014167219200 by decide]; omega)
    · refine lv_lload_n hx hb dX3_create_21 rfl (lv_at hl 0 rfl) ?_
      refine lv_ldc2 hx hb hown (hts _ q109) dX3_create_22 ?_
      refine W.lcmp hx hb dX3_create_25 ?_
      refine lv_if_le (tgt := 39) hx hb dX3_create_26 (by decide) (fun c3 => ?_) (fun c3 => ?_)
      · have hP : va_P D wd_cl [] s.heap := fun k q h => by simp at h
        have hD : va_D (wd_N s.heap.size) [] := ⟨fun i j p q h => by simp at h, fun k q h => by simp at h⟩
        refine va_new (ci := 0) (fs := [.long 0, .int 0]) (C := RX3) (T := TX3) (N := 2) hx hb hts in_X3 tyX3 tyX3_ok hown (hts _ q126) (hts _ q127) (hts _ q5) hK hP hD hS (fun _ h => h) rfl (fun j hj => by rcases (show j = 0 ∨ j = 1 by omega) with rfl | rfl <;> rfl) (Nat.le_of_ble_eq_true rfl) (Nat.le_of_ble_eq_true rfl) dX3_create_39 (fun q1 H hP hD hS => ?_)
        have hP : va_P D wd_cl [(q1, .inr (0, [.long 0, .int 0]))] H := hP
        have hq1 : wd_N s.heap.size q1 := hD.2 0 (q1, .inr (0, [.long 0, .int 0])) rfl
        refine lv_dup hx hb dX3_create_42 rfl ?_
        refine lv_lload_n hx hb dX3_create_43 rfl (lv_at hl 0 rfl) ?_
        refine lv_iload_n hx hb dX3_create_44 rfl (lv_at hl 1 rfl) ?_
        refine va_callv (va_runI (As := [.long S, .int N]) (rest := [.ref q1]) ⟨hx, hb, hml, hown, hts⟩ (met_insInit l D q1 0 0 S N) (cwI 2 hts (lw_meth q130) rfl rfl rfl (hts _ q5) (hts _ q128) (hts _ q129) rfl (by decide +kernel) ⟨Nat.le_of_ble_eq_true rfl, Nat.le_of_ble_eq_true rfl⟩) ⟨fun a U g mk q => ⟨q.1, q.2.1, va_K.moved (u := U) (U := U.calling g mk a) (Vm.Alike.refl U.vm) q.2.2⟩, fun U hU hW => ⟨rfl, by rw [hU]; exact hP, va_K.moved hW.alike hK⟩⟩ rfl rfl hl.1 rfl (lv_room (Nat.le_of_ble_eq_true rfl)) dX3_create_45 ⟨Nat.le_of_ble_eq_true rfl, Nat.le_of_ble_eq_true rfl⟩) hS (fun q _ h => by have h : q = q1 := h; rw [h]; exact hq1) (fun q h => by have h : q = q1 := h; rw [h]; exact hq1) (fun u t H1 locs ht hvm hw hB hz1 hk1 hS => ?_)
        have hR : wd_I q1 S N s H1 := by have h9 : va_P D wd_cl [(q1, .inr (0, [.long S, .int N]))] t.heap := hB; rw [ht] at h9; exact wd_ofP hts hK (h9 0 _ rfl)
        refine W.widen (k := 1) (n := 2) (Nat.le_of_ble_eq_true rfl) (Nat.le_of_ble_eq_true rfl) ?_
        exact W.aret (v := .ref q1) (rt := .object "Instant") hx hb hr (Or.inl ⟨_, rfl⟩) (Or.inr ⟨_, rfl⟩) (fun t ht hW => ⟨⟨(S, N), q1, rfl, ⟨rfl, rfl⟩, by show wd_I _ _ _ t t.heap; rw [ht]; exact wd_I.moved hW.alike hR⟩, hS.F ht⟩) hS.2.2 dX3_create_48
      · exact absurd (nu_nle c3) (by rw [show (31556889864403199 : Int64).toInt = 31556889864403199 by decide]; omega)
  · obtain ⟨eS, eN0⟩ := nu_or0 c1
    have eN := nu_i2l0 eN0
    refine va_gets hx hb hE.1 hS hown (hts _ q106) (fun _ h => h) dX3_create_9 ?_
    refine W.widen (k := 1) (n := 2) (Nat.le_of_ble_eq_true rfl) (Nat.le_of_ble_eq_true rfl) ?_
    exact W.aret (v := .ref ep) (rt := .object "Instant") hx hb hr (Or.inl ⟨_, rfl⟩) (Or.inr ⟨_, rfl⟩) (fun t ht hW => ⟨⟨(S, N), ep, rfl, ⟨rfl, rfl⟩, by show wd_I _ _ _ t t.heap; rw [ht]; exact (by rw [eS, eN]; exact wd_I.moved hW.alike hE.2.2)⟩, hS.F ht⟩) hS.2.2 dX3_create_12
set_option maxHeartbeats 4000000 in
set_option maxRecDepth 100000 in
/-- ofEpochSecond(S, A): the whole second and the nano, rounded down -/
theorem met_ofEpochSecond (l : Launch) (D : va_G) (ep sz : Nat) (S A : Int64) (k1 : -31557014167219200 ≤ S.toInt + A.toInt / 1000000000) (k2 : S.toInt + A.toInt / 1000000000 ≤ 31556889864403199) : Met l yX3_ofEpochSecond (ws_ yX3_ofEpochSecond cX3_ofEpochSecond 7 (some (.object "Instant"))) ({ frames := 4, cells := 1, slots := 2, locals := 77 }) (va_Pc [.long S, .long A] (fun U => U.heap.size = sz ∧ va_K D wd_cl [] U ∧ wd_E ep (wd_N sz) U U.heap)) (va_Qr (fun u : Int64 × Int32 => u.1.toInt = S.toInt + A.toInt / 1000000000 ∧ u.2.toInt = A.toInt % 1000000000) (fun u ra t => wd_I ra u.1 u.2 t t.heap) (wd_N sz)) 1 2 (wd_N sz) := by
  refine Met.ofW (cc := cX3_ofEpochSecond) (maxL := 7) (ret := (some (.object "Instant"))) (by decide) rfl ?_
  intro p e s m args below meth c s₁ B hml hv
  obtain ⟨rfl, hsz, hK, hE⟩ := hv
  have hx := B.exec
  have hb := B.bytes
  have hr := B.returns
  have hts := atoms_spec (ws := ws_ yX3_ofEpochSecond cX3_ofEpochSecond 7 (some (.object "Instant"))) B.pre
  have hts : ∀ w ∈ lw_all, w.before _ s = true := fun w h => hts w (List.mem_cons_of_mem _ h)
  have hown : s.vm.findClass RX3 = some m.cls := findClass_of_methodNamed B.named
  have hlocks := B.notSynchronized
  have hl := lv_entry ([.long S, .long A]) (n := 7) (Nat.le_of_ble_eq_true rfl)
  rw [lg_entry_eq]
  generalize (lg_sl ([.long S, .long A]) ++ List.replicate (7 - (lg_sl ([.long S, .long A])).length) Slot.unset).toArray = ls at hl ⊢
  have hl : lv_has ls 7 [(0, .long S), (2, .long A)] := hl
  subst hsz
  have hS : va_S (wd_N s.heap.size) s.heap s.heap [] := va_S.rf
  refine lv_lload_n hx hb dX3_ofEpochSecond_0 rfl (lv_at hl 0 rfl) ?_
  refine lv_lload_n hx hb dX3_ofEpochSecond_1 rfl (lv_at hl 1 rfl) ?_
  refine lv_ldc2 hx hb hown (hts _ q25) dX3_ofEpochSecond_2 ?_
  refine vp_callSl (va_runS (As := [.long A, .long (1000000000 : Int64)]) (rest := [.long S]) ⟨hx, hb, hml, hown, hts⟩ (met_floorDiv l A 1000000000 (by decide)) (va_cwS 2 hts (lw_S q26 q27 q6 q28) rfl rfl rfl (by decide +kernel) ⟨Nat.le_of_ble_eq_true rfl, Nat.le_of_ble_eq_true rfl⟩) ⟨fun a U g mk q => ⟨q.1, q.2⟩, fun U hU hW => ⟨rfl, trivial⟩⟩ rfl rfl hl.1 rfl (lv_room (Nat.le_of_ble_eq_true rfl)) dX3_ofEpochSecond_5 ⟨Nat.le_of_ble_eq_true rfl, Nat.le_of_ble_eq_true rfl⟩).run (fun v1 h1 => ?_)
  rw [nu_bil] at h1
  refine vp_callSl (va_runS (As := [.long S, .long v1]) (rest := []) ⟨hx, hb, hml, hown, hts⟩ (met_safeAdd l S v1 (by omega) (by omega)) (va_cwS 2 hts (lw_S q29 q30 q6 q31) rfl rfl rfl (by decide +kernel) ⟨Nat.le_of_ble_eq_true rfl, Nat.le_of_ble_eq_true rfl⟩) ⟨fun a U g mk q => ⟨q.1, q.2⟩, fun U hU hW => ⟨rfl, trivial⟩⟩ rfl rfl hl.1 rfl (lv_room (Nat.le_of_ble_eq_true rfl)) dX3_ofEpochSecond_8 ⟨Nat.le_of_ble_eq_true rfl, Nat.le_of_ble_eq_true rfl⟩).run (fun v2 h2 => ?_)
  refine lv_lstore (lv' := [(4, .long v2), (0, .long S), (2, .long A)]) hx hb dX3_ofEpochSecond_11 hl (by decide) rfl (fun ls hl => ?_)
  refine lv_lload_n hx hb dX3_ofEpochSecond_13 rfl (lv_at hl 2 rfl) ?_
  refine lv_ldc hx hb hown (hts _ q99) dX3_ofEpochSecond_14 ?_
  refine vp_callSi (va_runS (As := [.long A, .int (1000000000 : Int32)]) (rest := []) ⟨hx, hb, hml, hown, hts⟩ (met_floorMod l A 1000000000 (by decide)) (va_cwS 2 hts (lw_S q100 q101 q6 q102) rfl rfl rfl (by decide +kernel) ⟨Nat.le_of_ble_eq_true rfl, Nat.le_of_ble_eq_true rfl⟩) ⟨fun a U g mk q => ⟨q.1, q.2⟩, fun U hU hW => ⟨rfl, trivial⟩⟩ rfl rfl hl.1 rfl (lv_room (Nat.le_of_ble_eq_true rfl)) dX3_ofEpochSecond_16 ⟨Nat.le_of_ble_eq_true rfl, Nat.le_of_ble_eq_true rfl⟩).run (fun v3 h3 => ?_)
  rw [nu_bil32] at h3
  refine lv_istore (lv' := [(6, .int v3), (4, .long v2), (0, .long S), (2, .long A)]) hx hb dX3_ofEpochSecond_19 hl (by decide) rfl (fun ls hl => ?_)
  refine lv_lload hx hb dX3_ofEpochSecond_21 (lv_at hl 1 rfl) ?_
  refine lv_iload hx hb dX3_ofEpochSecond_23 (lv_at hl 0 rfl) ?_
  refine va_callr (va_runS (As := [.long v2, .int v3]) (rest := []) ⟨hx, hb, hml, hown, hts⟩ (met_create l D ep s.heap.size v2 v3 (by omega) (by omega)) (va_cwS 2 hts (lw_S q103 q104 q5 q105) rfl rfl rfl (by decide +kernel) ⟨Nat.le_of_ble_eq_true rfl, Nat.le_of_ble_eq_true rfl⟩) ⟨fun a U g mk q => ⟨q.1, q.2.1, va_K.moved (u := U) (U := U.calling g mk a) (Vm.Alike.refl U.vm) q.2.2.1, wd_E.moved (u := U) (U := U.calling g mk a) (Vm.Alike.refl U.vm) q.2.2.2⟩, fun U hU hW => ⟨rfl, by rw [hU], va_K.moved hW.alike hK, by rw [hU]; exact wd_E.moved hW.alike hE⟩⟩ rfl rfl hl.1 rfl (lv_room (Nat.le_of_ble_eq_true rfl)) dX3_ofEpochSecond_25 ⟨Nat.le_of_ble_eq_true rfl, Nat.le_of_ble_eq_true rfl⟩) hS (fun q _ h => h) (fun q h => h) (fun u ra t H1 locs ht hvm hw hB hz1 hk1 hS => ?_)
  have hR : wd_I ra u.1 u.2 s H1 := by have h9 : wd_I ra u.1 u.2 t t.heap := hB; rw [ht] at h9; exact wd_I.moved hvm.symm h9
  refine W.widen (k := 1) (n := 2) (Nat.le_of_ble_eq_true rfl) (Nat.le_of_ble_eq_true rfl) ?_
  exact W.aret (v := .ref ra) (rt := .object "Instant") hx hb hr (Or.inl ⟨_, rfl⟩) (Or.inr ⟨_, rfl⟩) (fun t ht hW => ⟨⟨u, ra, rfl, ⟨by rw [hw.1, h2, h1], by rw [hw.2, h3]⟩, by show wd_I _ _ _ t t.heap; rw [ht]; exact wd_I.moved hW.alike hR⟩, hS.F ht⟩) hS.2.2 dX3_ofEpochSecond_28
set_option maxHeartbeats 4000000 in
set_option maxRecDepth 100000 in
/-- ofEpochMilli(M): likewise -/
theorem met_ofEpochMilli (l : Launch) (D : va_G) (ep sz : Nat) (M : Int64) : Met l yX3_ofEpochMilli (ws_ yX3_ofEpochMilli cX3_ofEpochMilli 5 (some (.object "Instant"))) ({ frames := 4, cells := 1, slots := 2, locals := 77 }) (va_Pc [.long M] (fun U => U.heap.size = sz ∧ va_K D wd_cl [] U ∧ wd_E ep (wd_N sz) U U.heap)) (va_Qr (fun u : Int64 × Int32 => u.1.toInt = M.toInt / 1000 ∧ u.2.toInt = M.toInt % 1000 * 1000000) (fun u ra t => wd_I ra u.1 u.2 t t.heap) (wd_N sz)) 1 2 (wd_N sz) := by
  refine Met.ofW (cc := cX3_ofEpochMilli) (maxL := 5) (ret := (some (.object "Instant"))) (by decide) rfl ?_
  intro p e s m args below meth c s₁ B hml hv
  obtain ⟨rfl, hsz, hK, hE⟩ := hv
  have hx := B.exec
  have hb := B.bytes
  have hr := B.returns
  have hts := atoms_spec (ws := ws_ yX3_ofEpochMilli cX3_ofEpochMilli 5 (some (.object "Instant"))) B.pre
  have hts : ∀ w ∈ lw_all, w.before _ s = true := fun w h => hts w (List.mem_cons_of_mem _ h)
  have hown : s.vm.findClass RX3 = some m.cls := findClass_of_methodNamed B.named
  have hlocks := B.notSynchronized
  have hl := lv_entry ([.long M]) (n := 5) (Nat.le_of_ble_eq_true rfl)
  rw [lg_entry_eq]
  generalize (lg_sl ([.long M]) ++ List.replicate (5 - (lg_sl ([.long M])).length) Slot.unset).toArray = ls at hl ⊢
  have hl : lv_has ls 5 [(0, .long M)] := hl
  subst hsz
  have hS : va_S (wd_N s.heap.size) s.heap s.heap [] := va_S.rf
  have lM := M.le_toInt
  have gM := M.toInt_lt
  refine lv_lload_n hx hb dX3_ofEpochMilli_0 rfl (lv_at hl 0 rfl) ?_
  refine lv_ldc2 hx hb hown (hts _ q181) dX3_ofEpochMilli_1 ?_
  refine vp_callSl (va_runS (As := [.long M, .long (1000 : Int64)]) (rest := []) ⟨hx, hb, hml, hown, hts⟩ (met_floorDiv l M 1000 (by decide)) (va_cwS 2 hts (lw_S q26 q27 q6 q28) rfl rfl rfl (by decide +kernel) ⟨Nat.le_of_ble_eq_true rfl, Nat.le_of_ble_eq_true rfl⟩) ⟨fun a U g mk q => ⟨q.1, q.2⟩, fun U hU hW => ⟨rfl, trivial⟩⟩ rfl rfl hl.1 rfl (lv_room (Nat.le_of_ble_eq_true rfl)) dX3_ofEpochMilli_4 ⟨Nat.le_of_ble_eq_true rfl, Nat.le_of_ble_eq_true rfl⟩).run (fun v1 h1 => ?_)
  rw [nu_thou] at h1
  refine lv_lstore_n (lv' := [(2, .long v1), (0, .long M)]) hx hb dX3_ofEpochMilli_7 rfl hl (by decide) rfl (fun ls hl => ?_)
  refine lv_lload_n hx hb dX3_ofEpochMilli_8 rfl (lv_at hl 1 rfl) ?_
  refine lv_sipush (v := 1000) hx hb dX3_ofEpochMilli_9 (by decide) ?_
  refine vp_callSi (va_runS (As := [.long M, .int (1000 : Int32)]) (rest := []) ⟨hx, hb, hml, hown, hts⟩ (met_floorMod l M 1000 (by decide)) (va_cwS 2 hts (lw_S q100 q101 q6 q102) rfl rfl rfl (by decide +kernel) ⟨Nat.le_of_ble_eq_true rfl, Nat.le_of_ble_eq_true rfl⟩) ⟨fun a U g mk q => ⟨q.1, q.2⟩, fun U hU hW => ⟨rfl, trivial⟩⟩ rfl rfl hl.1 rfl (lv_room (Nat.le_of_ble_eq_true rfl)) dX3_ofEpochMilli_12 ⟨Nat.le_of_ble_eq_true rfl, Nat.le_of_ble_eq_true rfl⟩).run (fun v2 h2 => ?_)
  rw [nu_thou32] at h2
  refine lv_istore (lv' := [(4, .int v2), (2, .long v1), (0, .long M)]) hx hb dX3_ofEpochMilli_15 hl (by decide) rfl (fun ls hl => ?_)
  refine lv_lload_n hx hb dX3_ofEpochMilli_17 rfl (lv_at hl 1 rfl) ?_
  refine lv_iload hx hb dX3_ofEpochMilli_18 (lv_at hl 0 rfl) ?_
  refine lv_ldc hx hb hown (hts _ q198) dX3_ofEpochMilli_20 ?_
  refine lv_imul hx hb dX3_ofEpochMilli_22 ?_
  refine lv_topi (fun v3 ev3 => ?_)
  have e3 : v3.toInt = M.toInt % 1000 * 1000000 := by rw [ev3, Jvm.Kit.i32_mul (by rw [h2, nu_mio32]; omega) (by rw [h2, nu_mio32]; omega), h2, nu_mio32]
  refine va_callr (va_runS (As := [.long v1, .int v3]) (rest := []) ⟨hx, hb, hml, hown, hts⟩ (met_create l D ep s.heap.size v1 v3 (by omega) (by omega)) (va_cwS 2 hts (lw_S q103 q104 q5 q105) rfl rfl rfl (by decide +kernel) ⟨Nat.le_of_ble_eq_true rfl, Nat.le_of_ble_eq_true rfl⟩) ⟨fun a U g mk q => ⟨q.1, q.2.1, va_K.moved (u := U) (U := U.calling g mk a) (Vm.Alike.refl U.vm) q.2.2.1, wd_E.moved (u := U) (U := U.calling g mk a) (Vm.Alike.refl U.vm) q.2.2.2⟩, fun U hU hW => ⟨rfl, by rw [hU], va_K.moved hW.alike hK, by rw [hU]; exact wd_E.moved hW.alike hE⟩⟩ rfl rfl hl.1 rfl (lv_room (Nat.le_of_ble_eq_true rfl)) dX3_ofEpochMilli_23 ⟨Nat.le_of_ble_eq_true rfl, Nat.le_of_ble_eq_true rfl⟩) hS (fun q _ h => h) (fun q h => h) (fun u ra t H1 locs ht hvm hw hB hz1 hk1 hS => ?_)
  have hR : wd_I ra u.1 u.2 s H1 := by have h9 : wd_I ra u.1 u.2 t t.heap := hB; rw [ht] at h9; exact wd_I.moved hvm.symm h9
  refine W.widen (k := 1) (n := 2) (Nat.le_of_ble_eq_true rfl) (Nat.le_of_ble_eq_true rfl) ?_
  exact W.aret (v := .ref ra) (rt := .object "Instant") hx hb hr (Or.inl ⟨_, rfl⟩) (Or.inr ⟨_, rfl⟩) (fun t ht hW => ⟨⟨u, ra, rfl, ⟨by rw [hw.1, h1], by rw [hw.2, e3]⟩, by show wd_I _ _ _ t t.heap; rw [ht]; exact wd_I.moved hW.alike hR⟩, hS.F ht⟩) hS.2.2 dX3_ofEpochMilli_26
set_option maxHeartbeats 4000000 in
set_option maxRecDepth 100000 in
/-- getEpochSecond() -/
theorem met_getEpochSecond (l : Launch) (a : Nat) (S : Int64) (N : Int32) : Met l yX3_getEpochSecond (ws_ yX3_getEpochSecond cX3_getEpochSecond 1 (some .long)) ({ frames := 0, cells := 0, slots := 0, locals := 0 }) (va_Pc [.ref a] (fun U => wd_I a S N U U.heap)) (vp_Sl (fun r => r = S)) 0 0 (fun _ => False) := by
  refine Met.ofW (cc := cX3_getEpochSecond) (maxL := 1) (ret := (some .long)) (by decide) rfl ?_
  intro p e s m args below meth c s₁ B hml hv
  obtain ⟨rfl, hI⟩ := hv
  have hx := B.exec
  have hb := B.bytes
  have hr := B.returns
  have hts := atoms_spec (ws := ws_ yX3_getEpochSecond cX3_getEpochSecond 1 (some .long)) B.pre
  have hts : ∀ w ∈ lw_all, w.before _ s = true := fun w h => hts w (List.mem_cons_of_mem _ h)
  have hown : s.vm.findClass RX3 = some m.cls := findClass_of_methodNamed B.named
  have hlocks := B.notSynchronized
  have hl := lv_entry ([.ref a]) (n := 1) (Nat.le_of_ble_eq_true rfl)
  rw [lg_entry_eq]
  generalize (lg_sl ([.ref a]) ++ List.replicate (1 - (lg_sl ([.ref a])).length) Slot.unset).toArray = ls at hl ⊢
  have hl : lv_has ls 1 [(0, .ref a)] := hl
  refine lv_aload_n hx hb dX3_getEpochSecond_0 rfl (lv_at hl 0 rfl) ?_
  refine wd_getS hx hb hI hown (hts _ q135) dX3_getEpochSecond_1 ?_
  exact W.lret (v := S) hx hb hr (fun t ht hW => ⟨_, rfl, rfl, ht⟩) (fun _ h => by cases h) dX3_getEpochSecond_4
set_option maxHeartbeats 4000000 in
set_option maxRecDepth 100000 in
/-- getNano() -/
theorem met_getNano (l : Launch) (a : Nat) (S : Int64) (N : Int32) : Met l yX3_getNano (ws_ yX3_getNano cX3_getNano 1 (some .int)) ({ frames := 0, cells := 0, slots := 0, locals := 0 }) (va_Pc [.ref a] (fun U => wd_I a S N U U.heap)) (vp_Si (fun r => r = N)) 0 0 (fun _ => False) := by
  refine Met.ofW (cc := cX3_getNano) (maxL := 1) (ret := (some .int)) (by decide) rfl ?_
  intro p e s m args below meth c s₁ B hml hv
  obtain ⟨rfl, hI⟩ := hv
  have hx := B.exec
  have hb := B.bytes
  have hr := B.returns
  have hts := atoms_spec (ws := ws_ yX3_getNano cX3_getNano 1 (some .int)) B.pre
  have hts : ∀ w ∈ lw_all, w.before _ s = true := fun w h => hts w (List.mem_cons_of_mem _ h)
  have hown : s.vm.findClass RX3 = some m.cls := findClass_of_methodNamed B.named
  have hlocks := B.notSynchronized
  have hl := lv_entry ([.ref a]) (n := 1) (Nat.le_of_ble_eq_true rfl)
  rw [lg_entry_eq]
  generalize (lg_sl ([.ref a]) ++ List.replicate (1 - (lg_sl ([.ref a])).length) Slot.unset).toArray = ls at hl ⊢
  have hl : lv_has ls 1 [(0, .ref a)] := hl
  refine lv_aload_n hx hb dX3_getNano_0 rfl (lv_at hl 0 rfl) ?_
  refine wd_getN hx hb hI hown (hts _ q136) dX3_getNano_1 ?_
  exact W.iret (v := N) hx hb hr (fun t ht hW => ⟨_, rfl, rfl, ht⟩) (fun _ h => by cases h) dX3_getNano_4
set_option maxHeartbeats 4000000 in
set_option maxRecDepth 100000 in
/-- plus(ds, dn), from a second no farther than 31000000000000000 -/
theorem met_plus (l : Launch) (D : va_G) (ep sz : Nat) (a : Nat) (S : Int64) (N : Int32) (ds dn : Int64) (n0 : 0 ≤ N.toInt) (n1 : N.toInt < 1000000000) (k1 : -31000000000000000 ≤ S.toInt) (k2 : S.toInt ≤ 31000000000000000) (d1 : -2147483648 ≤ ds.toInt) (d2 : ds.toInt ≤ 2147483648) (m1 : -2147483648 ≤ dn.toInt) (m2 : dn.toInt ≤ 2147483648) : Met l yX3_plus (ws_ yX3_plus cX3_plus 9 (some (.object "Instant"))) ({ frames := 5, cells := 1, slots := 2, locals := 103 }) (va_Pc [.ref a, .long ds, .long dn] (fun U => U.heap.size = sz ∧ va_K D wd_cl [] U ∧ wd_E ep (wd_N sz) U U.heap ∧ wd_I a S N U U.heap)) (va_Qr (fun u : Int64 × Int32 => u.1.toInt = S.toInt + ds.toInt + (N.toInt + dn.toInt) / 1000000000 ∧ u.2.toInt = (N.toInt + dn.toInt) % 1000000000) (fun u ra t => wd_I ra u.1 u.2 t t.heap) (wd_N sz)) 1 2 (wd_N sz) := by
  refine Met.ofW (cc := cX3_plus) (maxL := 9) (ret := (some (.object "Instant"))) (by decide) rfl ?_
  intro p e s m args below meth c s₁ B hml hv
  obtain ⟨rfl, hsz, hK, hE, hI⟩ := hv
  have hx := B.exec
  have hb := B.bytes
  have hr := B.returns
  have hts := atoms_spec (ws := ws_ yX3_plus cX3_plus 9 (some (.object "Instant"))) B.pre
  have hts : ∀ w ∈ lw_all, w.before _ s = true := fun w h => hts w (List.mem_cons_of_mem _ h)
  have hown : s.vm.findClass RX3 = some m.cls := findClass_of_methodNamed B.named
  have hlocks := B.notSynchronized
  have hl := lv_entry ([.ref a, .long ds, .long dn]) (n := 9) (Nat.le_of_ble_eq_true rfl)
  rw [lg_entry_eq]
  generalize (lg_sl ([.ref a, .long ds, .long dn]) ++ List.replicate (9 - (lg_sl ([.ref a, .long ds, .long dn])).length) Slot.unset).toArray = ls at hl ⊢
  have hl : lv_has ls 9 [(0, .ref a), (1, .long ds), (3, .long dn)] := hl
  subst hsz
  have hS : va_S (wd_N s.heap.size) s.heap s.heap [] := va_S.rf
  refine lv_lload_n hx hb dX3_plus_0 rfl (lv_at hl 1 rfl) ?_
  refine lv_lload_n hx hb dX3_plus_1 rfl (lv_at hl 2 rfl) ?_
  refine lv_lor hx hb dX3_plus_2 ?_
  refine lv_lconst (v := 0) hx hb dX3_plus_3 (by decide) ?_
  refine W.lcmp hx hb dX3_plus_4 ?_
  refine lv_if_ne (tgt := 10) hx hb dX3_plus_5 (by decide) (fun c1 => ?_) (fun c1 => ?_)
  · refine lv_aload_n hx hb dX3_plus_10 rfl (lv_at hl 0 rfl) ?_
    refine wd_getS hx hb hI hown (hts _ q135) dX3_plus_11 ?_
    refine lv_lload_n hx hb dX3_plus_14 rfl (lv_at hl 1 rfl) ?_
    refine vp_callSl (va_runS (As := [.long S, .long ds]) (rest := []) ⟨hx, hb, hml, hown, hts⟩ (met_safeAdd l S ds (by omega) (by omega)) (va_cwS 2 hts (lw_S q29 q30 q6 q31) rfl rfl rfl (by decide +kernel) ⟨Nat.le_of_ble_eq_true rfl, Nat.le_of_ble_eq_true rfl⟩) ⟨fun a U g mk q => ⟨q.1, q.2⟩, fun U hU hW => ⟨rfl, trivial⟩⟩ rfl rfl hl.1 rfl (lv_room (Nat.le_of_ble_eq_true rfl)) dX3_plus_15 ⟨Nat.le_of_ble_eq_true rfl, Nat.le_of_ble_eq_true rfl⟩).run (fun v1 h1 => ?_)
    refine lv_lstore (lv' := [(5, .long v1), (0, .ref a), (1, .long ds), (3, .long dn)]) hx hb dX3_plus_18 hl (by decide) rfl (fun ls hl => ?_)
    refine lv_lload hx hb dX3_plus_20 (lv_at hl 0 rfl) ?_
    refine lv_lload_n hx hb dX3_plus_22 rfl (lv_at hl 3 rfl) ?_
    refine lv_ldc2 hx hb hown (hts _ q25) dX3_plus_23 ?_
    refine lv_ldiv hx hb dX3_plus_26 (by decide) ?_
    refine lv_topl (fun x2 ex2 => ?_)
    have e2 : x2.toInt = dn.toInt.tdiv 1000000000 := by rw [ex2, Jvm.Kit.i64_div (by rw [nu_bil]; omega), nu_bil]
    have td := Int.tmod_add_mul_tdiv dn.toInt 1000000000
    have t1 := Int.lt_tmod_of_pos dn.toInt (show (0 : Int) < 1000000000 by decide)
    have t2 := Int.tmod_lt_of_pos dn.toInt (show (0 : Int) < 1000000000 by decide)
    refine vp_callSl (va_runS (As := [.long v1, .long x2]) (rest := []) ⟨hx, hb, hml, hown, hts⟩ (met_safeAdd l v1 x2 (by omega) (by omega)) (va_cwS 2 hts (lw_S q29 q30 q6 q31) rfl rfl rfl (by decide +kernel) ⟨Nat.le_of_ble_eq_true rfl, Nat.le_of_ble_eq_true rfl⟩) ⟨fun a U g mk q => ⟨q.1, q.2⟩, fun U hU hW => ⟨rfl, trivial⟩⟩ rfl rfl hl.1 rfl (lv_room (Nat.le_of_ble_eq_true rfl)) dX3_plus_27 ⟨Nat.le_of_ble_eq_true rfl, Nat.le_of_ble_eq_true rfl⟩).run (fun v3 h3 => ?_)
    refine lv_lstore (lv' := [(5, .long v3), (0, .ref a), (1, .long ds), (3, .long dn)]) hx hb dX3_plus_30 hl (by decide) rfl (fun ls hl => ?_)
    refine lv_lload_n hx hb dX3_plus_32 rfl (lv_at hl 3 rfl) ?_
    refine lv_ldc2 hx hb hown (hts _ q25) dX3_plus_33 ?_
    refine lv_lrem hx hb dX3_plus_36 (by decide) ?_
    refine lv_topl (fun x4 ex4 => ?_)
    refine lv_lstore_n (lv' := [(3, .long x4), (5, .long v3), (0, .ref a), (1, .long ds)]) hx hb dX3_plus_37 rfl hl (by decide) rfl (fun ls hl => ?_)
    refine lv_aload_n hx hb dX3_plus_38 rfl (lv_at hl 2 rfl) ?_
    have e4 : x4.toInt = dn.toInt.tmod 1000000000 := by rw [ex4, Jvm.Kit.i64_rem, nu_bil]
    refine wd_getN hx hb hI hown (hts _ q136) dX3_plus_39 ?_
    refine lv_i2l hx hb dX3_plus_42 rfl ?_
    refine lv_lload_n hx hb dX3_plus_43 rfl (lv_at hl 0 rfl) ?_
    refine lv_ladd hx hb dX3_plus_44 ?_
    refine lv_topl (fun x5 ex5 => ?_)
    refine lv_lstore (lv' := [(7, .long x5), (3, .long x4), (5, .long v3), (0, .ref a), (1, .long ds)]) hx hb dX3_plus_45 hl (by decide) rfl (fun ls hl => ?_)
    refine lv_lload hx hb dX3_plus_47 (lv_at hl 2 rfl) ?_
    refine lv_lload hx hb dX3_plus_49 (lv_at hl 0 rfl) ?_
    have e5 : x5.toInt = N.toInt + x4.toInt := by rw [ex5, Jvm.Kit.i64_add (by rw [Jvm.Kit.i64_of_i32]; omega) (by rw [Jvm.Kit.i64_of_i32]; omega), Jvm.Kit.i64_of_i32]
    refine va_callr (va_runS (As := [.long v3, .long x5]) (rest := []) ⟨hx, hb, hml, hown, hts⟩ (met_ofEpochSecond l D ep s.heap.size v3 x5 (by omega) (by omega)) (va_cwS 2 hts (lw_S q172 q23 q5 q24) rfl rfl rfl (by decide +kernel) ⟨Nat.le_of_ble_eq_true rfl, Nat.le_of_ble_eq_true rfl⟩) ⟨fun a U g mk q => ⟨q.1, q.2.1, va_K.moved (u := U) (U := U.calling g mk a) (Vm.Alike.refl U.vm) q.2.2.1, wd_E.moved (u := U) (U := U.calling g mk a) (Vm.Alike.refl U.vm) q.2.2.2⟩, fun U hU hW => ⟨rfl, by rw [hU], va_K.moved hW.alike hK, by rw [hU]; exact wd_E.moved hW.alike hE⟩⟩ rfl rfl hl.1 rfl (lv_room (Nat.le_of_ble_eq_true rfl)) dX3_plus_51 ⟨Nat.le_of_ble_eq_true rfl, Nat.le_of_ble_eq_true rfl⟩) hS (fun q _ h => h) (fun q h => h) (fun u ra t H1 locs ht hvm hw hB hz1 hk1 hS => ?_)
    have hR : wd_I ra u.1 u.2 s H1 := by have h9 : wd_I ra u.1 u.2 t t.heap := hB; rw [ht] at h9; exact wd_I.moved hvm.symm h9
    refine W.widen (k := 1) (n := 2) (Nat.le_of_ble_eq_true rfl) (Nat.le_of_ble_eq_true rfl) ?_
    exact W.aret (v := .ref ra) (rt := .object "Instant") hx hb hr (Or.inl ⟨_, rfl⟩) (Or.inr ⟨_, rfl⟩) (fun t ht hW => ⟨⟨u, ra, rfl, ⟨by rw [hw.1]; omega, by rw [hw.2]; omega⟩, by show wd_I _ _ _ t t.heap; rw [ht]; exact wd_I.moved hW.alike hR⟩, hS.F ht⟩) hS.2.2 dX3_plus_54
  · obtain ⟨eds, edn⟩ := nu_or0 c1
    have ed1 : ds.toInt = 0 := by rw [eds]; decide
    have ed2 : dn.toInt = 0 := by rw [edn]; decide
    refine lv_aload_n hx hb dX3_plus_8 rfl (lv_at hl 0 rfl) ?_
    refine W.widen (k := 1) (n := 2) (Nat.le_of_ble_eq_true rfl) (Nat.le_of_ble_eq_true rfl) ?_
    exact W.aret (v := .ref a) (rt := .object "Instant") hx hb hr (Or.inl ⟨_, rfl⟩) (Or.inr ⟨_, rfl⟩) (fun t ht hW => ⟨⟨(S, N), a, rfl, ⟨by show S.toInt = _; omega, by show N.toInt = _; omega⟩, by show wd_I _ _ _ t t.heap; rw [ht]; exact wd_I.moved hW.alike hI⟩, hS.F ht⟩) hS.2.2 dX3_plus_9
set_option maxHeartbeats 4000000 in
set_option maxRecDepth 100000 in
/-- plusSeconds(n) -/
theorem met_plusSeconds (l : Launch) (D : va_G) (ep sz : Nat) (a : Nat) (S : Int64) (N : Int32) (n : Int64) (n0 : 0 ≤ N.toInt) (n1 : N.toInt < 1000000000) (k1 : -31000000000000000 ≤ S.toInt) (k2 : S.toInt ≤ 31000000000000000) (d1 : -2147483648 ≤ n.toInt) (d2 : n.toInt ≤ 2147483648) : Met l yX3_plusSeconds (ws_ yX3_plusSeconds cX3_plusSeconds 3 (some (.object "Instant"))) ({ frames := 6, cells := 1, slots := 2, locals := 131 }) (va_Pc [.ref a, .long n] (fun U => U.heap.size = sz ∧ va_K D wd_cl [] U ∧ wd_E ep (wd_N sz) U U.heap ∧ wd_I a S N U U.heap)) (va_Qr (fun u : Int64 × Int32 => u.1.toInt = S.toInt + n.toInt ∧ u.2.toInt = N.toInt) (fun u ra t => wd_I ra u.1 u.2 t t.heap) (wd_N sz)) 1 2 (wd_N sz) := by
  refine Met.ofW (cc := cX3_plusSeconds) (maxL := 3) (ret := (some (.object "Instant"))) (by decide) rfl ?_
  intro p e s m args below meth c s₁ B hml hv
  obtain ⟨rfl, hsz, hK, hE, hI⟩ := hv
  have hx := B.exec
  have hb := B.bytes
  have hr := B.returns
  have hts := atoms_spec (ws := ws_ yX3_plusSeconds cX3_plusSeconds 3 (some (.object "Instant"))) B.pre
  have hts : ∀ w ∈ lw_all, w.before _ s = true := fun w h => hts w (List.mem_cons_of_mem _ h)
  have hown : s.vm.findClass RX3 = some m.cls := findClass_of_methodNamed B.named
  have hlocks := B.notSynchronized
  have hl := lv_entry ([.ref a, .long n]) (n := 3) (Nat.le_of_ble_eq_true rfl)
  rw [lg_entry_eq]
  generalize (lg_sl ([.ref a, .long n]) ++ List.replicate (3 - (lg_sl ([.ref a, .long n])).length) Slot.unset).toArray = ls at hl ⊢
  have hl : lv_has ls 3 [(0, .ref a), (1, .long n)] := hl
  subst hsz
  have hS : va_S (wd_N s.heap.size) s.heap s.heap [] := va_S.rf
  refine lv_aload_n hx hb dX3_plusSeconds_0 rfl (lv_at hl 0 rfl) ?_
  refine lv_lload_n hx hb dX3_plusSeconds_1 rfl (lv_at hl 1 rfl) ?_
  refine lv_lconst (v := 0) hx hb dX3_plusSeconds_2 (by decide) ?_
  refine va_callr (va_runV (As := [.long n, .long (0 : Int64)]) (rest := []) ⟨hx, hb, hml, hown, hts⟩ (met_plus l D ep s.heap.size a S N n 0 n0 n1 k1 k2 d1 d2 (by decide) (by decide)) (cwV 2 hts (lw_V q168 q170 qs1 q5 q171) rfl rfl rfl (by decide +kernel) ⟨Nat.le_of_ble_eq_true rfl, Nat.le_of_ble_eq_true rfl⟩) ⟨fun a U g mk q => ⟨q.1, q.2.1, va_K.moved (u := U) (U := U.calling g mk a) (Vm.Alike.refl U.vm) q.2.2.1, wd_E.moved (u := U) (U := U.calling g mk a) (Vm.Alike.refl U.vm) q.2.2.2.1, wd_I.moved (u := U) (U := U.calling g mk a) (Vm.Alike.refl U.vm) q.2.2.2.2⟩, wd_recv hI, fun U hU hW => ⟨rfl, by rw [hU], va_K.moved hW.alike hK, by rw [hU]; exact wd_E.moved hW.alike hE, by rw [hU]; exact wd_I.moved hW.alike hI⟩⟩ rfl rfl hl.1 rfl (lv_room (Nat.le_of_ble_eq_true rfl)) dX3_plusSeconds_3 ⟨Nat.le_of_ble_eq_true rfl, Nat.le_of_ble_eq_true rfl⟩) hS (fun q _ h => h) (fun q h => h) (fun u ra t H1 locs ht hvm hw hB hz1 hk1 hS => ?_)
  have hR : wd_I ra u.1 u.2 s H1 := by have h9 : wd_I ra u.1 u.2 t t.heap := hB; rw [ht] at h9; exact wd_I.moved hvm.symm h9
  refine W.widen (k := 1) (n := 2) (Nat.le_of_ble_eq_true rfl) (Nat.le_of_ble_eq_true rfl) ?_
  exact W.aret (v := .ref ra) (rt := .object "Instant") hx hb hr (Or.inl ⟨_, rfl⟩) (Or.inr ⟨_, rfl⟩) (fun t ht hW => ⟨⟨u, ra, rfl, ⟨by rw [hw.1, nu_zero]; omega, by rw [hw.2, nu_zero]; omega⟩, by show wd_I _ _ _ t t.heap; rw [ht]; exact wd_I.moved hW.alike hR⟩, hS.F ht⟩) hS.2.2 dX3_plusSeconds_6
set_option maxHeartbeats 4000000 in
set_option maxRecDepth 100000 in
/-- plusMillis(n) -/
theorem met_plusMillis (l : Launch) (D : va_G) (ep sz : Nat) (a : Nat) (S : Int64) (N : Int32) (n : Int64) (n0 : 0 ≤ N.toInt) (n1 : N.toInt < 1000000000) (k1 : -31000000000000000 ≤ S.toInt) (k2 : S.toInt ≤ 31000000000000000) (d1 : -2147483648 ≤ n.toInt) (d2 : n.toInt ≤ 2147483648) : Met l yX3_plusMillis (ws_ yX3_plusMillis cX3_plusMillis 3 (some (.object "Instant"))) ({ frames := 6, cells := 1, slots := 2, locals := 131 }) (va_Pc [.ref a, .long n] (fun U => U.heap.size = sz ∧ va_K D wd_cl [] U ∧ wd_E ep (wd_N sz) U U.heap ∧ wd_I a S N U U.heap)) (va_Qr (fun u : Int64 × Int32 => u.1.toInt = S.toInt + (N.toInt + n.toInt * 1000000) / 1000000000 ∧ u.2.toInt = (N.toInt + n.toInt * 1000000) % 1000000000) (fun u ra t => wd_I ra u.1 u.2 t t.heap) (wd_N sz)) 1 2 (wd_N sz) := by
  refine Met.ofW (cc := cX3_plusMillis) (maxL := 3) (ret := (some (.object "Instant"))) (by decide) rfl ?_
  intro p e s m args below meth c s₁ B hml hv
  obtain ⟨rfl, hsz, hK, hE, hI⟩ := hv
  have hx := B.exec
  have hb := B.bytes
  have hr := B.returns
  have hts := atoms_spec (ws := ws_ yX3_plusMillis cX3_plusMillis 3 (some (.object "Instant"))) B.pre
  have hts : ∀ w ∈ lw_all, w.before _ s = true := fun w h => hts w (List.mem_cons_of_mem _ h)
  have hown : s.vm.findClass RX3 = some m.cls := findClass_of_methodNamed B.named
  have hlocks := B.notSynchronized
  have hl := lv_entry ([.ref a, .long n]) (n := 3) (Nat.le_of_ble_eq_true rfl)
  rw [lg_entry_eq]
  generalize (lg_sl ([.ref a, .long n]) ++ List.replicate (3 - (lg_sl ([.ref a, .long n])).length) Slot.unset).toArray = ls at hl ⊢
  have hl : lv_has ls 3 [(0, .ref a), (1, .long n)] := hl
  subst hsz
  have hS : va_S (wd_N s.heap.size) s.heap s.heap [] := va_S.rf
  refine lv_aload_n hx hb dX3_plusMillis_0 rfl (lv_at hl 0 rfl) ?_
  refine lv_lload_n hx hb dX3_plusMillis_1 rfl (lv_at hl 1 rfl) ?_
  refine lv_ldc2 hx hb hown (hts _ q181) dX3_plusMillis_2 ?_
  refine lv_ldiv hx hb dX3_plusMillis_5 (by decide) ?_
  refine lv_topl (fun x1 ex1 => ?_)
  refine lv_lload_n hx hb dX3_plusMillis_6 rfl (lv_at hl 1 rfl) ?_
  refine lv_ldc2 hx hb hown (hts _ q181) dX3_plusMillis_7 ?_
  refine lv_lrem hx hb dX3_plusMillis_10 (by decide) ?_
  refine lv_ldc2 hx hb hown (hts _ q182) dX3_plusMillis_11 ?_
  refine lv_lmul hx hb dX3_plusMillis_14 ?_
  refine lv_topl (fun x2 ex2 => ?_)
  have td := Int.tmod_add_mul_tdiv n.toInt 1000
  have t1 := Int.lt_tmod_of_pos n.toInt (show (0 : Int) < 1000 by decide)
  have t2 := Int.tmod_lt_of_pos n.toInt (show (0 : Int) < 1000 by decide)
  have e1 : x1.toInt = n.toInt.tdiv 1000 := by rw [ex1, Jvm.Kit.i64_div (by rw [nu_thou]; omega), nu_thou]
  have e2 : x2.toInt = n.toInt.tmod 1000 * 1000000 := by rw [ex2, Jvm.Kit.i64_mul (by rw [Jvm.Kit.i64_rem, nu_thou, nu_mio]; omega) (by rw [Jvm.Kit.i64_rem, nu_thou, nu_mio]; omega), Jvm.Kit.i64_rem, nu_thou, nu_mio]
  refine va_callr (va_runV (As := [.long x1, .long x2]) (rest := []) ⟨hx, hb, hml, hown, hts⟩ (met_plus l D ep s.heap.size a S N x1 x2 n0 n1 k1 k2 (by omega) (by omega) (by omega) (by omega)) (cwV 2 hts (lw_V q168 q170 qs1 q5 q171) rfl rfl rfl (by decide +kernel) ⟨Nat.le_of_ble_eq_true rfl, Nat.le_of_ble_eq_true rfl⟩) ⟨fun a U g mk q => ⟨q.1, q.2.1, va_K.moved (u := U) (U := U.calling g mk a) (Vm.Alike.refl U.vm) q.2.2.1, wd_E.moved (u := U) (U := U.calling g mk a) (Vm.Alike.refl U.vm) q.2.2.2.1, wd_I.moved (u := U) (U := U.calling g mk a) (Vm.Alike.refl U.vm) q.2.2.2.2⟩, wd_recv hI, fun U hU hW => ⟨rfl, by rw [hU], va_K.moved hW.alike hK, by rw [hU]; exact wd_E.moved hW.alike hE, by rw [hU]; exact wd_I.moved hW.alike hI⟩⟩ rfl rfl hl.1 rfl (lv_room (Nat.le_of_ble_eq_true rfl)) dX3_plusMillis_15 ⟨Nat.le_of_ble_eq_true rfl, Nat.le_of_ble_eq_true rfl⟩) hS (fun q _ h => h) (fun q h => h) (fun u ra t H1 locs ht hvm hw hB hz1 hk1 hS => ?_)
  have hR : wd_I ra u.1 u.2 s H1 := by have h9 : wd_I ra u.1 u.2 t t.heap := hB; rw [ht] at h9; exact wd_I.moved hvm.symm h9
  refine W.widen (k := 1) (n := 2) (Nat.le_of_ble_eq_true rfl) (Nat.le_of_ble_eq_true rfl) ?_
  exact W.aret (v := .ref ra) (rt := .object "Instant") hx hb hr (Or.inl ⟨_, rfl⟩) (Or.inr ⟨_, rfl⟩) (fun t ht hW => ⟨⟨u, ra, rfl, ⟨by rw [hw.1]; omega, by rw [hw.2]; omega⟩, by show wd_I _ _ _ t t.heap; rw [ht]; exact wd_I.moved hW.alike hR⟩, hS.F ht⟩) hS.2.2 dX3_plusMillis_18
set_option maxHeartbeats 4000000 in
set_option maxRecDepth 100000 in
/-- plusNanos(n) -/
theorem met_plusNanos (l : Launch) (D : va_G) (ep sz : Nat) (a : Nat) (S : Int64) (N : Int32) (n : Int64) (n0 : 0 ≤ N.toInt) (n1 : N.toInt < 1000000000) (k1 : -31000000000000000 ≤ S.toInt) (k2 : S.toInt ≤ 31000000000000000) (d1 : -2147483648 ≤ n.toInt) (d2 : n.toInt ≤ 2147483648) : Met l yX3_plusNanos (ws_ yX3_plusNanos cX3_plusNanos 3 (some (.object "Instant"))) ({ frames := 6, cells := 1, slots := 2, locals := 131 }) (va_Pc [.ref a, .long n] (fun U => U.heap.size = sz ∧ va_K D wd_cl [] U ∧ wd_E ep (wd_N sz) U U.heap ∧ wd_I a S N U U.heap)) (va_Qr (fun u : Int64 × Int32 => u.1.toInt = S.toInt + (N.toInt + n.toInt) / 1000000000 ∧ u.2.toInt = (N.toInt + n.toInt) % 1000000000) (fun u ra t => wd_I ra u.1 u.2 t t.heap) (wd_N sz)) 1 2 (wd_N sz) := by
  refine Met.ofW (cc := cX3_plusNanos) (maxL := 3) (ret := (some (.object "Instant"))) (by decide) rfl ?_
  intro p e s m args below meth c s₁ B hml hv
  obtain ⟨rfl, hsz, hK, hE, hI⟩ := hv
  have hx := B.exec
  have hb := B.bytes
  have hr := B.returns
  have hts := atoms_spec (ws := ws_ yX3_plusNanos cX3_plusNanos 3 (some (.object "Instant"))) B.pre
  have hts : ∀ w ∈ lw_all, w.before _ s = true := fun w h => hts w (List.mem_cons_of_mem _ h)
  have hown : s.vm.findClass RX3 = some m.cls := findClass_of_methodNamed B.named
  have hlocks := B.notSynchronized
  have hl := lv_entry ([.ref a, .long n]) (n := 3) (Nat.le_of_ble_eq_true rfl)
  rw [lg_entry_eq]
  generalize (lg_sl ([.ref a, .long n]) ++ List.replicate (3 - (lg_sl ([.ref a, .long n])).length) Slot.unset).toArray = ls at hl ⊢
  have hl : lv_has ls 3 [(0, .ref a), (1, .long n)] := hl
  subst hsz
  have hS : va_S (wd_N s.heap.size) s.heap s.heap [] := va_S.rf
  refine lv_aload_n hx hb dX3_plusNanos_0 rfl (lv_at hl 0 rfl) ?_
  refine lv_lconst (v := 0) hx hb dX3_plusNanos_1 (by decide) ?_
  refine lv_lload_n hx hb dX3_plusNanos_2 rfl (lv_at hl 1 rfl) ?_
  refine va_callr (va_runV (As := [.long (0 : Int64), .long n]) (rest := []) ⟨hx, hb, hml, hown, hts⟩ (met_plus l D ep s.heap.size a S N 0 n n0 n1 k1 k2 (by decide) (by decide) d1 d2) (cwV 2 hts (lw_V q168 q170 qs1 q5 q171) rfl rfl rfl (by decide +kernel) ⟨Nat.le_of_ble_eq_true rfl, Nat.le_of_ble_eq_true rfl⟩) ⟨fun a U g mk q => ⟨q.1, q.2.1, va_K.moved (u := U) (U := U.calling g mk a) (Vm.Alike.refl U.vm) q.2.2.1, wd_E.moved (u := U) (U := U.calling g mk a) (Vm.Alike.refl U.vm) q.2.2.2.1, wd_I.moved (u := U) (U := U.calling g mk a) (Vm.Alike.refl U.vm) q.2.2.2.2⟩, wd_recv hI, fun U hU hW => ⟨rfl, by rw [hU], va_K.moved hW.alike hK, by rw [hU]; exact wd_E.moved hW.alike hE, by rw [hU]; exact wd_I.moved hW.alike hI⟩⟩ rfl rfl hl.1 rfl (lv_room (Nat.le_of_ble_eq_true rfl)) dX3_plusNanos_3 ⟨Nat.le_of_ble_eq_true rfl, Nat.le_of_ble_eq_true rfl⟩) hS (fun q _ h => h) (fun q h => h) (fun u ra t H1 locs ht hvm hw hB hz1 hk1 hS => ?_)
  have hR : wd_I ra u.1 u.2 s H1 := by have h9 : wd_I ra u.1 u.2 t t.heap := hB; rw [ht] at h9; exact wd_I.moved hvm.symm h9
  refine W.widen (k := 1) (n := 2) (Nat.le_of_ble_eq_true rfl) (Nat.le_of_ble_eq_true rfl) ?_
  exact W.aret (v := .ref ra) (rt := .object "Instant") hx hb hr (Or.inl ⟨_, rfl⟩) (Or.inr ⟨_, rfl⟩) (fun t ht hW => ⟨⟨u, ra, rfl, ⟨by rw [hw.1, nu_zero]; omega, by rw [hw.2]⟩, by show wd_I _ _ _ t t.heap; rw [ht]; exact wd_I.moved hW.alike hR⟩, hS.F ht⟩) hS.2.2 dX3_plusNanos_6
set_option maxHeartbeats 4000000 in
set_option maxRecDepth 100000 in
/-- toEpochMilli(), from a second no farther than 9000000000000000 -/
theorem met_toEpochMilli (l : Launch) (a : Nat) (S : Int64) (N : Int32) (n0 : 0 ≤ N.toInt) (n1 : N.toInt < 1000000000) (k1 : -9000000000000000 ≤ S.toInt) (k2 : S.toInt ≤ 9000000000000000) : Met l yX3_toEpochMilli (ws_ yX3_toEpochMilli cX3_toEpochMilli 3 (some .long)) ({ frames := 1, cells := 0, slots := 0, locals := 25 }) (va_Pc [.ref a] (fun U => wd_I a S N U U.heap)) (vp_Sl (fun r => r.toInt = S.toInt * 1000 + N.toInt / 1000000)) 0 0 (fun _ => False) := by
  refine Met.ofW (cc := cX3_toEpochMilli) (maxL := 3) (ret := (some .long)) (by decide) rfl ?_
  intro p e s m args below meth c s₁ B hml hv
  obtain ⟨rfl, hI⟩ := hv
  have hx := B.exec
  have hb := B.bytes
  have hr := B.returns
  have hts := atoms_spec (ws := ws_ yX3_toEpochMilli cX3_toEpochMilli 3 (some .long)) B.pre
  have hts : ∀ w ∈ lw_all, w.before _ s = true := fun w h => hts w (List.mem_cons_of_mem _ h)
  have hown : s.vm.findClass RX3 = some m.cls := findClass_of_methodNamed B.named
  have hlocks := B.notSynchronized
  have hl := lv_entry ([.ref a]) (n := 3) (Nat.le_of_ble_eq_true rfl)
  rw [lg_entry_eq]
  generalize (lg_sl ([.ref a]) ++ List.replicate (3 - (lg_sl ([.ref a])).length) Slot.unset).toArray = ls at hl ⊢
  have hl : lv_has ls 3 [(0, .ref a)] := hl
  refine lv_aload_n hx hb dX3_toEpochMilli_0 rfl (lv_at hl 0 rfl) ?_
  refine wd_getS hx hb hI hown (hts _ q135) dX3_toEpochMilli_1 ?_
  refine lv_lconst (v := 0) hx hb dX3_toEpochMilli_4 (by decide) ?_
  refine W.lcmp hx hb dX3_toEpochMilli_5 ?_
  refine lv_if_lt (tgt := 33) hx hb dX3_toEpochMilli_6 (by decide) (fun c1 => ?_) (fun c1 => ?_)
  · refine lv_aload_n hx hb dX3_toEpochMilli_33 rfl (lv_at hl 0 rfl) ?_
    refine wd_getS hx hb hI hown (hts _ q135) dX3_toEpochMilli_34 ?_
    have g1 : S.toInt < 0 := by have h9 := (nu_lt S 0).mp c1; rw [nu_zero] at h9; exact h9
    refine lv_lconst (v := 1) hx hb dX3_toEpochMilli_37 (by decide) ?_
    refine lv_ladd hx hb dX3_toEpochMilli_38 ?_
    refine lv_topl (fun y1 ey1 => ?_)
    refine lv_ldc2 hx hb hown (hts _ q181) dX3_toEpochMilli_39 ?_
    have e1 : y1.toInt = S.toInt + 1 := by rw [ey1, Jvm.Kit.i64_add (by rw [nu_one]; omega) (by rw [nu_one]; omega), nu_one]
    refine vp_callSl (va_runS (As := [.long y1, .long (1000 : Int64)]) (rest := []) ⟨hx, hb, hml, hown, hts⟩ (met_safeMultiply l y1 1000 (by decide) (by rw [nu_thou]; omega) (by rw [nu_thou]; omega)) (va_cwS 2 hts (lw_S q236 q237 q6 q238) rfl rfl rfl (by decide +kernel) ⟨Nat.le_of_ble_eq_true rfl, Nat.le_of_ble_eq_true rfl⟩) ⟨fun a U g mk q => ⟨q.1, q.2⟩, fun U hU hW => ⟨rfl, trivial⟩⟩ rfl rfl hl.1 rfl (lv_room (Nat.le_of_ble_eq_true rfl)) dX3_toEpochMilli_42 ⟨Nat.le_of_ble_eq_true rfl, Nat.le_of_ble_eq_true rfl⟩).run (fun v2 h2 => ?_)
    rw [nu_thou] at h2
    refine lv_lstore_n (lv' := [(1, .long v2), (0, .ref a)]) hx hb dX3_toEpochMilli_45 rfl hl (by decide) rfl (fun ls hl => ?_)
    refine lv_lload_n hx hb dX3_toEpochMilli_46 rfl (lv_at hl 0 rfl) ?_
    refine lv_ldc2 hx hb hown (hts _ q181) dX3_toEpochMilli_47 ?_
    refine lv_aload_n hx hb dX3_toEpochMilli_50 rfl (lv_at hl 1 rfl) ?_
    refine wd_getN hx hb hI hown (hts _ q136) dX3_toEpochMilli_51 ?_
    refine lv_ldc hx hb hown (hts _ q198) dX3_toEpochMilli_54 ?_
    refine lv_idiv hx hb dX3_toEpochMilli_56 (by decide) ?_
    refine lv_i2l hx hb dX3_toEpochMilli_57 rfl ?_
    refine lv_lsub hx hb dX3_toEpochMilli_58 ?_
    refine lv_topl (fun y3 ey3 => ?_)
    have e3 : y3.toInt = 1000 - N.toInt / 1000000 := by
      have e4 : (N / (1000000 : Int32)).toInt64.toInt = N.toInt / 1000000 := by rw [Jvm.Kit.i64_of_i32, lg_idiv_nonneg n0 (by decide), nu_mio32]
      rw [ey3, Jvm.Kit.i64_sub (by rw [e4, nu_thou]; omega) (by rw [e4, nu_thou]; omega), e4, nu_thou]
    refine vp_callSl (va_runS (As := [.long v2, .long y3]) (rest := []) ⟨hx, hb, hml, hown, hts⟩ (met_safeSubtract l v2 y3 (by omega) (by omega)) (va_cwS 2 hts (lw_S q241 q242 q6 q243) rfl rfl rfl (by decide +kernel) ⟨Nat.le_of_ble_eq_true rfl, Nat.le_of_ble_eq_true rfl⟩) ⟨fun a U g mk q => ⟨q.1, q.2⟩, fun U hU hW => ⟨rfl, trivial⟩⟩ rfl rfl hl.1 rfl (lv_room (Nat.le_of_ble_eq_true rfl)) dX3_toEpochMilli_59 ⟨Nat.le_of_ble_eq_true rfl, Nat.le_of_ble_eq_true rfl⟩).run (fun v4 h4 => ?_)
    exact W.lret (v := v4) hx hb hr (fun t ht hW => ⟨_, rfl, (by try dsimp only; rw [h4, h2, e1, e3]; omega), ht⟩) (fun _ h => by cases h) dX3_toEpochMilli_62
  · have g1 : 0 ≤ S.toInt := by have h9 := nu_nlt c1; rw [nu_zero] at h9; exact h9
    refine lv_aload_n hx hb dX3_toEpochMilli_9 rfl (lv_at hl 0 rfl) ?_
    refine wd_getS hx hb hI hown (hts _ q135) dX3_toEpochMilli_10 ?_
    refine lv_ldc2 hx hb hown (hts _ q181) dX3_toEpochMilli_13 ?_
    refine vp_callSl (va_runS (As := [.long S, .long (1000 : Int64)]) (rest := []) ⟨hx, hb, hml, hown, hts⟩ (met_safeMultiply l S 1000 (by decide) (by rw [nu_thou]; omega) (by rw [nu_thou]; omega)) (va_cwS 2 hts (lw_S q236 q237 q6 q238) rfl rfl rfl (by decide +kernel) ⟨Nat.le_of_ble_eq_true rfl, Nat.le_of_ble_eq_true rfl⟩) ⟨fun a U g mk q => ⟨q.1, q.2⟩, fun U hU hW => ⟨rfl, trivial⟩⟩ rfl rfl hl.1 rfl (lv_room (Nat.le_of_ble_eq_true rfl)) dX3_toEpochMilli_16 ⟨Nat.le_of_ble_eq_true rfl, Nat.le_of_ble_eq_true rfl⟩).run (fun v2 h2 => ?_)
    rw [nu_thou] at h2
    refine lv_lstore_n (lv' := [(1, .long v2), (0, .ref a)]) hx hb dX3_toEpochMilli_19 rfl hl (by decide) rfl (fun ls hl => ?_)
    refine lv_lload_n hx hb dX3_toEpochMilli_20 rfl (lv_at hl 0 rfl) ?_
    refine lv_aload_n hx hb dX3_toEpochMilli_21 rfl (lv_at hl 1 rfl) ?_
    refine wd_getN hx hb hI hown (hts _ q136) dX3_toEpochMilli_22 ?_
    refine lv_ldc hx hb hown (hts _ q198) dX3_toEpochMilli_25 ?_
    refine lv_idiv hx hb dX3_toEpochMilli_27 (by decide) ?_
    refine lv_i2l hx hb dX3_toEpochMilli_28 rfl ?_
    refine lv_topl (fun y3 ey3 => ?_)
    have e3 : y3.toInt = N.toInt / 1000000 := by rw [ey3, Jvm.Kit.i64_of_i32, lg_idiv_nonneg n0 (by decide), nu_mio32]
    refine vp_callSl (va_runS (As := [.long v2, .long y3]) (rest := []) ⟨hx, hb, hml, hown, hts⟩ (met_safeAdd l v2 y3 (by omega) (by omega)) (va_cwS 2 hts (lw_S q29 q30 q6 q31) rfl rfl rfl (by decide +kernel) ⟨Nat.le_of_ble_eq_true rfl, Nat.le_of_ble_eq_true rfl⟩) ⟨fun a U g mk q => ⟨q.1, q.2⟩, fun U hU hW => ⟨rfl, trivial⟩⟩ rfl rfl hl.1 rfl (lv_room (Nat.le_of_ble_eq_true rfl)) dX3_toEpochMilli_29 ⟨Nat.le_of_ble_eq_true rfl, Nat.le_of_ble_eq_true rfl⟩).run (fun v4 h4 => ?_)
    exact W.lret (v := v4) hx hb hr (fun t ht hW => ⟨_, rfl, (by try dsimp only; rw [h4, h2, e3]), ht⟩) (fun _ h => by cases h) dX3_toEpochMilli_32
set_option maxHeartbeats 4000000 in
set_option maxRecDepth 100000 in
/-- compareTo: the sign tells the order -/
theorem met_compareTo (l : Launch) (a b : Nat) (S S2 : Int64) (N N2 : Int32) (n0 : 0 ≤ N.toInt) (n1 : N.toInt < 1000000000) (n2 : 0 ≤ N2.toInt) (n3 : N2.toInt < 1000000000) : Met l yX3_compareTo (ws_ yX3_compareTo cX3_compareTo 3 (some .int)) ({ frames := 1, cells := 0, slots := 0, locals := 23 }) (va_Pc [.ref a, .ref b] (fun U => wd_I a S N U U.heap ∧ wd_I b S2 N2 U U.heap)) (vp_Si (fun r => (r.toInt < 0 ↔ nu_less S.toInt N.toInt S2.toInt N2.toInt) ∧ (0 < r.toInt ↔ nu_less S2.toInt N2.toInt S.toInt N.toInt))) 0 0 (fun _ => False) := by
  refine Met.ofW (cc := cX3_compareTo) (maxL := 3) (ret := (some .int)) (by decide) rfl ?_
  intro p e s m args below meth c s₁ B hml hv
  obtain ⟨rfl, hI, hI2⟩ := hv
  have hx := B.exec
  have hb := B.bytes
  have hr := B.returns
  have hts := atoms_spec (ws := ws_ yX3_compareTo cX3_compareTo 3 (some .int)) B.pre
  have hts : ∀ w ∈ lw_all, w.before _ s = true := fun w h => hts w (List.mem_cons_of_mem _ h)
  have hown : s.vm.findClass RX3 = some m.cls := findClass_of_methodNamed B.named
  have hlocks := B.notSynchronized
  have hl := lv_entry ([.ref a, .ref b]) (n := 3) (Nat.le_of_ble_eq_true rfl)
  rw [lg_entry_eq]
  generalize (lg_sl ([.ref a, .ref b]) ++ List.replicate (3 - (lg_sl ([.ref a, .ref b])).length) Slot.unset).toArray = ls at hl ⊢
  have hl : lv_has ls 3 [(0, .ref a), (1, .ref b)] := hl
  refine lv_aload_n hx hb dX3_compareTo_0 rfl (lv_at hl 0 rfl) ?_
  refine wd_getS hx hb hI hown (hts _ q135) dX3_compareTo_1 ?_
  refine lv_aload_n hx hb dX3_compareTo_4 rfl (lv_at hl 1 rfl) ?_
  refine wd_getS hx hb hI2 hown (hts _ q135) dX3_compareTo_5 ?_
  refine vp_callSi (va_runS (As := [.long S, .long S2]) (rest := []) ⟨hx, hb, hml, hown, hts⟩ (met_compareLongs l S S2) (va_cwS 2 hts (lw_S q254 q255 q6 q256) rfl rfl rfl (by decide +kernel) ⟨Nat.le_of_ble_eq_true rfl, Nat.le_of_ble_eq_true rfl⟩) ⟨fun a U g mk q => ⟨q.1, q.2⟩, fun U hU hW => ⟨rfl, trivial⟩⟩ rfl rfl hl.1 rfl (lv_room (Nat.le_of_ble_eq_true rfl)) dX3_compareTo_8 ⟨Nat.le_of_ble_eq_true rfl, Nat.le_of_ble_eq_true rfl⟩).run (fun v1 h1 => ?_)
  refine lv_istore_n (lv' := [(2, .int v1), (0, .ref a), (1, .ref b)]) hx hb dX3_compareTo_11 rfl hl (by decide) rfl (fun ls hl => ?_)
  refine lv_iload_n hx hb dX3_compareTo_12 rfl (lv_at hl 0 rfl) ?_
  refine lv_if_eq (tgt := 18) hx hb dX3_compareTo_13 (by decide) (fun c1 => ?_) (fun c1 => ?_)
  · refine lv_aload_n hx hb dX3_compareTo_18 rfl (lv_at hl 1 rfl) ?_
    refine wd_getN hx hb hI hown (hts _ q136) dX3_compareTo_19 ?_
    refine lv_aload_n hx hb dX3_compareTo_22 rfl (lv_at hl 2 rfl) ?_
    refine wd_getN hx hb hI2 hown (hts _ q136) dX3_compareTo_23 ?_
    refine lv_isub hx hb dX3_compareTo_26 ?_
    exact W.iret (v := (N - N2)) hx hb hr (fun t ht hW => ⟨_, rfl, (nu_cmp_eq h1 c1 (Jvm.Kit.i32_sub (by omega) (by omega))), ht⟩) (fun _ h => by cases h) dX3_compareTo_27
  · refine lv_iload_n hx hb dX3_compareTo_16 rfl (lv_at hl 0 rfl) ?_
    exact W.iret (v := v1) hx hb hr (fun t ht hW => ⟨_, rfl, (nu_cmp_ne h1 c1), ht⟩) (fun _ h => by cases h) dX3_compareTo_17
set_option maxHeartbeats 4000000 in
set_option maxRecDepth 100000 in
/-- isAfter -/
theorem met_isAfter (l : Launch) (a b : Nat) (S S2 : Int64) (N N2 : Int32) (n0 : 0 ≤ N.toInt) (n1 : N.toInt < 1000000000) (n2 : 0 ≤ N2.toInt) (n3 : N2.toInt < 1000000000) : Met l yX3_isAfter (ws_ yX3_isAfter cX3_isAfter 2 (some .boolean)) ({ frames := 2, cells := 0, slots := 0, locals := 45 }) (va_Pc [.ref a, .ref b] (fun U => wd_I a S N U U.heap ∧ wd_I b S2 N2 U U.heap)) (vp_Si (fun r => (nu_less S2.toInt N2.toInt S.toInt N.toInt → r = 1) ∧ (¬ nu_less S2.toInt N2.toInt S.toInt N.toInt → r = 0))) 0 0 (fun _ => False) := by
  refine Met.ofW (cc := cX3_isAfter) (maxL := 2) (ret := (some .boolean)) (by decide) rfl ?_
  intro p e s m args below meth c s₁ B hml hv
  obtain ⟨rfl, hI, hI2⟩ := hv
  have hx := B.exec
  have hb := B.bytes
  have hr := B.returns
  have hts := atoms_spec (ws := ws_ yX3_isAfter cX3_isAfter 2 (some .boolean)) B.pre
  have hts : ∀ w ∈ lw_all, w.before _ s = true := fun w h => hts w (List.mem_cons_of_mem _ h)
  have hown : s.vm.findClass RX3 = some m.cls := findClass_of_methodNamed B.named
  have hlocks := B.notSynchronized
  have hl := lv_entry ([.ref a, .ref b]) (n := 2) (Nat.le_of_ble_eq_true rfl)
  rw [lg_entry_eq]
  generalize (lg_sl ([.ref a, .ref b]) ++ List.replicate (2 - (lg_sl ([.ref a, .ref b])).length) Slot.unset).toArray = ls at hl ⊢
  have hl : lv_has ls 2 [(0, .ref a), (1, .ref b)] := hl
  refine lv_aload_n hx hb dX3_isAfter_0 rfl (lv_at hl 0 rfl) ?_
  refine lv_aload_n hx hb dX3_isAfter_1 rfl (lv_at hl 1 rfl) ?_
  refine vp_callSi (va_runV (As := [.ref b]) (rest := []) ⟨hx, hb, hml, hown, hts⟩ (met_compareTo l a b S S2 N N2 n0 n1 n2 n3) (cwV 1 hts (lw_V q265 q251 q252 q5 q253) rfl rfl rfl (by decide +kernel) ⟨Nat.le_of_ble_eq_true rfl, Nat.le_of_ble_eq_true rfl⟩) ⟨fun a U g mk q => ⟨q.1, wd_I.moved (u := U) (U := U.calling g mk a) (Vm.Alike.refl U.vm) q.2.1, wd_I.moved (u := U) (U := U.calling g mk a) (Vm.Alike.refl U.vm) q.2.2⟩, wd_recv hI, fun U hU hW => ⟨rfl, by rw [hU]; exact wd_I.moved hW.alike hI, by rw [hU]; exact wd_I.moved hW.alike hI2⟩⟩ rfl rfl hl.1 rfl (lv_room (Nat.le_of_ble_eq_true rfl)) dX3_isAfter_2 ⟨Nat.le_of_ble_eq_true rfl, Nat.le_of_ble_eq_true rfl⟩).run (fun v1 h1 => ?_)
  refine lv_if_le (tgt := 12) hx hb dX3_isAfter_5 (by decide) (fun c1 => ?_) (fun c1 => ?_)
  · refine lv_iconst (v := 0) hx hb dX3_isAfter_12 (by decide) ?_
    have g1 : v1.toInt ≤ 0 := by have h9 := Int32.le_iff_toInt_le.mp c1; rw [Int32.toInt_zero] at h9; exact h9
    exact W.zret (v := 0) hx hb hr rfl (fun t ht hW => ⟨_, rfl, ⟨fun q => absurd (h1.2.mpr q) (by omega), fun _ => rfl⟩, ht⟩) (fun _ h => by cases h) dX3_isAfter_13
  · have g1 : 0 < v1.toInt := Int.not_le.mp fun q => c1 (Int32.le_iff_toInt_le.mpr (by rw [Int32.toInt_zero]; exact q))
    refine lv_iconst (v := 1) hx hb dX3_isAfter_8 (by decide) ?_
    refine lv_goto (tgt := 13) hx hb dX3_isAfter_9 (by decide) ?_
    exact W.zret (v := 1) hx hb hr rfl (fun t ht hW => ⟨_, rfl, ⟨fun _ => rfl, fun q => absurd (h1.2.mp g1) q⟩, ht⟩) (fun _ h => by cases h) dX3_isAfter_13
set_option maxHeartbeats 4000000 in
set_option maxRecDepth 100000 in
/-- isBefore -/
theorem met_isBefore (l : Launch) (a b : Nat) (S S2 : Int64) (N N2 : Int32) (n0 : 0 ≤ N.toInt) (n1 : N.toInt < 1000000000) (n2 : 0 ≤ N2.toInt) (n3 : N2.toInt < 1000000000) : Met l yX3_isBefore (ws_ yX3_isBefore cX3_isBefore 2 (some .boolean)) ({ frames := 2, cells := 0, slots := 0, locals := 45 }) (va_Pc [.ref a, .ref b] (fun U => wd_I a S N U U.heap ∧ wd_I b S2 N2 U U.heap)) (vp_Si (fun r => (nu_less S.toInt N.toInt S2.toInt N2.toInt → r = 1) ∧ (¬ nu_less S.toInt N.toInt S2.toInt N2.toInt → r = 0))) 0 0 (fun _ => False) := by
  refine Met.ofW (cc := cX3_isBefore) (maxL := 2) (ret := (some .boolean)) (by decide) rfl ?_
  intro p e s m args below meth c s₁ B hml hv
  obtain ⟨rfl, hI, hI2⟩ := hv
  have hx := B.exec
  have hb := B.bytes
  have hr := B.returns
  have hts := atoms_spec (ws := ws_ yX3_isBefore cX3_isBefore 2 (some .boolean)) B.pre
  have hts : ∀ w ∈ lw_all, w.before _ s = true := fun w h => hts w (List.mem_cons_of_mem _ h)
  have hown : s.vm.findClass RX3 = some m.cls := findClass_of_methodNamed B.named
  have hlocks := B.notSynchronized
  have hl := lv_entry ([.ref a, .ref b]) (n := 2) (Nat.le_of_ble_eq_true rfl)
  rw [lg_entry_eq]
  generalize (lg_sl ([.ref a, .ref b]) ++ List.replicate (2 - (lg_sl ([.ref a, .ref b])).length) Slot.unset).toArray = ls at hl ⊢
  have hl : lv_has ls 2 [(0, .ref a), (1, .ref b)] := hl
  refine lv_aload_n hx hb dX3_isBefore_0 rfl (lv_at hl 0 rfl) ?_
  refine lv_aload_n hx hb dX3_isBefore_1 rfl (lv_at hl 1 rfl) ?_
  refine vp_callSi (va_runV (As := [.ref b]) (rest := []) ⟨hx, hb, hml, hown, hts⟩ (met_compareTo l a b S S2 N N2 n0 n1 n2 n3) (cwV 1 hts (lw_V q265 q251 q252 q5 q253) rfl rfl rfl (by decide +kernel) ⟨Nat.le_of_ble_eq_true rfl, Nat.le_of_ble_eq_true rfl⟩) ⟨fun a U g mk q => ⟨q.1, wd_I.moved (u := U) (U := U.calling g mk a) (Vm.Alike.refl U.vm) q.2.1, wd_I.moved (u := U) (U := U.calling g mk a) (Vm.Alike.refl U.vm) q.2.2⟩, wd_recv hI, fun U hU hW => ⟨rfl, by rw [hU]; exact wd_I.moved hW.alike hI, by rw [hU]; exact wd_I.moved hW.alike hI2⟩⟩ rfl rfl hl.1 rfl (lv_room (Nat.le_of_ble_eq_true rfl)) dX3_isBefore_2 ⟨Nat.le_of_ble_eq_true rfl, Nat.le_of_ble_eq_true rfl⟩).run (fun v1 h1 => ?_)
  refine lv_if_ge (tgt := 12) hx hb dX3_isBefore_5 (by decide) (fun c1 => ?_) (fun c1 => ?_)
  · refine lv_iconst (v := 0) hx hb dX3_isBefore_12 (by decide) ?_
    have g1 : 0 ≤ v1.toInt := by have h9 := Int32.le_iff_toInt_le.mp c1; rw [Int32.toInt_zero] at h9; exact h9
    exact W.zret (v := 0) hx hb hr rfl (fun t ht hW => ⟨_, rfl, ⟨fun q => absurd (h1.1.mpr q) (by omega), fun _ => rfl⟩, ht⟩) (fun _ h => by cases h) dX3_isBefore_13
  · have g1 : v1.toInt < 0 := Int.not_le.mp fun q => c1 (Int32.le_iff_toInt_le.mpr (by rw [Int32.toInt_zero]; exact q))
    refine lv_iconst (v := 1) hx hb dX3_isBefore_8 (by decide) ?_
    refine lv_goto (tgt := 13) hx hb dX3_isBefore_9 (by decide) ?_
    exact W.zret (v := 1) hx hb hr rfl (fun t ht hW => ⟨_, rfl, ⟨fun _ => rfl, fun q => absurd (h1.1.mp g1) q⟩, ht⟩) (fun _ h => by cases h) dX3_isBefore_13
end
section
/-! InstantDesk: readers, then changers -/
set_option maxHeartbeats 4000000 in
set_option maxRecDepth 100000 in
/-- second(h, l): the two halves together, its remainder -/
theorem met_second (l : Launch) (h l0 : Int32) : Met l yX1_second (ws_ yX1_second cX1_second 2 (some .long)) ({ frames := 0, cells := 0, slots := 0, locals := 0 }) (va_Pc [.int h, .int l0] (fun U => True)) (vp_Sl (fun r => r = nu_hl h l0 - nu_hl h l0 / 31000000000000000 * 31000000000000000)) 0 0 (fun _ => False) := by
  refine Met.ofW (cc := cX1_second) (maxL := 2) (ret := (some .long)) (by decide) rfl ?_
  intro p e s m args below meth c s₁ B hml hv
  obtain ⟨rfl, -⟩ := hv
  have hx := B.exec
  have hb := B.bytes
  have hr := B.returns
  have hts := atoms_spec (ws := ws_ yX1_second cX1_second 2 (some .long)) B.pre
  have hts : ∀ w ∈ lw_all, w.before _ s = true := fun w h => hts w (List.mem_cons_of_mem _ h)
  have hown : s.vm.findClass RX1 = some m.cls := findClass_of_methodNamed B.named
  have hlocks := B.notSynchronized
  have hl := lv_entry ([.int h, .int l0]) (n := 2) (Nat.le_of_ble_eq_true rfl)
  rw [lg_entry_eq]
  generalize (lg_sl ([.int h, .int l0]) ++ List.replicate (2 - (lg_sl ([.int h, .int l0])).length) Slot.unset).toArray = ls at hl ⊢
  have hl : lv_has ls 2 [(0, .int h), (1, .int l0)] := hl
  refine lv_iload_n hx hb dX1_second_0 rfl (lv_at hl 0 rfl) ?_
  refine lv_i2l hx hb dX1_second_1 rfl ?_
  refine lv_bipush (v := 32) hx hb dX1_second_2 (by decide) ?_
  refine lv_lshl hx hb dX1_second_4 rfl ?_
  refine lv_iload_n hx hb dX1_second_5 rfl (lv_at hl 1 rfl) ?_
  refine lv_i2l hx hb dX1_second_6 rfl ?_
  refine lv_ldc2 hx hb hown (hts _ q153) dX1_second_7 ?_
  refine lv_land hx hb dX1_second_10 ?_
  refine lv_lor hx hb dX1_second_11 ?_
  refine lv_ldc2 hx hb hown (hts _ q154) dX1_second_12 ?_
  refine lv_lrem hx hb dX1_second_15 (by decide) ?_
  exact W.lret (v := (((h.toInt64 <<< ((32 : Int32).toInt64 &&& 63)) ||| (l0.toInt64 &&& (4294967295 : Int64))) - ((h.toInt64 <<< ((32 : Int32).toInt64 &&& 63)) ||| (l0.toInt64 &&& (4294967295 : Int64))) / (31000000000000000 : Int64) * (31000000000000000 : Int64))) hx hb hr (fun t ht hW => ⟨_, rfl, rfl, ht⟩) (fun _ h => by cases h) dX1_second_16
set_option maxHeartbeats 4000000 in
set_option maxRecDepth 100000 in
/-- whole(which) -/
theorem met_whole (l : Launch) (D : va_G) (h0 h1 : Nat) (cA : ClassId) (f : Nat → Option Nat) (sec : Nat → Int64) (nan : Nat → Int32) (x : Int32) (w : Nat) (kw : w < 2) (ew : x &&& 1 = nI w) : Met l yX1_whole (ws_ yX1_whole cX1_whole 2 (some .long)) ({ frames := 1, cells := 0, slots := 0, locals := 20 }) (va_Pc [.ref h0, .int x] (fun U => wd_Desk D h0 h1 cA f sec nan U U.heap)) (vp_Sl (fun r => r = sec w)) 0 0 (fun _ => False) := by
  refine Met.ofW (cc := cX1_whole) (maxL := 2) (ret := (some .long)) (by decide) rfl ?_
  intro p e s m args below meth c s₁ B hml hv
  obtain ⟨rfl, hDk⟩ := hv
  have hx := B.exec
  have hb := B.bytes
  have hr := B.returns
  have hts := atoms_spec (ws := ws_ yX1_whole cX1_whole 2 (some .long)) B.pre
  have hts : ∀ w ∈ lw_all, w.before _ s = true := fun w h => hts w (List.mem_cons_of_mem _ h)
  have hown : s.vm.findClass RX1 = some m.cls := findClass_of_methodNamed B.named
  have hlocks := B.notSynchronized
  have hl := lv_entry ([.ref h0, .int x]) (n := 2) (Nat.le_of_ble_eq_true rfl)
  rw [lg_entry_eq]
  generalize (lg_sl ([.ref h0, .int x]) ++ List.replicate (2 - (lg_sl ([.ref h0, .int x])).length) Slot.unset).toArray = ls at hl ⊢
  have hl : lv_has ls 2 [(0, .ref h0), (1, .int x)] := hl
  obtain ⟨a, hf, hI⟩ := hDk.2.2 w kw
  refine lv_aload_n hx hb dX1_whole_0 rfl (lv_at hl 0 rfl) ?_
  refine va_get (D := D) (ci := 1) (v := .ref h1) (C := RX1) (T := TX1) (N := 1) hx hb hts in_X1 hown hDk.2.1 hDk.1 0 rfl rfl 0 (by decide) (hts _ q142) (fun _ h9 => h9) rfl dX1_whole_1 ?_
  refine lv_iload_n hx hb dX1_whole_4 rfl (lv_at hl 1 rfl) ?_
  refine lv_iconst (v := 1) hx hb dX1_whole_5 (by decide) ?_
  refine lv_iand hx hb dX1_whole_6 ?_
  refine wd_ald hx hb hDk kw ew hf dX1_whole_7 ?_
  refine vp_callSl (va_runV (As := []) (rest := []) ⟨hx, hb, hml, hown, hts⟩ (met_getEpochSecond l a (sec w) (nan w)) (cwV 0 hts (lw_V q159 q160 q161 q5 q162) rfl rfl rfl (by decide +kernel) ⟨Nat.le_of_ble_eq_true rfl, Nat.le_of_ble_eq_true rfl⟩) ⟨fun a U g mk q => ⟨q.1, wd_I.moved (u := U) (U := U.calling g mk a) (Vm.Alike.refl U.vm) q.2⟩, wd_recv hI, fun U hU hW => ⟨rfl, by show wd_I _ _ _ U U.heap; rw [hU]; exact wd_I.moved hW.alike hI⟩⟩ rfl rfl hl.1 rfl (lv_room (Nat.le_of_ble_eq_true rfl)) dX1_whole_8 ⟨Nat.le_of_ble_eq_true rfl, Nat.le_of_ble_eq_true rfl⟩).run (fun v1 e1 => ?_)
  exact W.lret (v := v1) hx hb hr (fun t ht hW => ⟨_, rfl, e1, ht⟩) (fun _ h => by cases h) dX1_whole_11
set_option maxHeartbeats 4000000 in
set_option maxRecDepth 100000 in
/-- nano(which) -/
theorem met_nano (l : Launch) (D : va_G) (h0 h1 : Nat) (cA : ClassId) (f : Nat → Option Nat) (sec : Nat → Int64) (nan : Nat → Int32) (x : Int32) (w : Nat) (kw : w < 2) (ew : x &&& 1 = nI w) : Met l yX1_nano (ws_ yX1_nano cX1_nano 2 (some .int)) ({ frames := 1, cells := 0, slots := 0, locals := 20 }) (va_Pc [.ref h0, .int x] (fun U => wd_Desk D h0 h1 cA f sec nan U U.heap)) (vp_Si (fun r => r = nan w)) 0 0 (fun _ => False) := by
  refine Met.ofW (cc := cX1_nano) (maxL := 2) (ret := (some .int)) (by decide) rfl ?_
  intro p e s m args below meth c s₁ B hml hv
  obtain ⟨rfl, hDk⟩ := hv
  have hx := B.exec
  have hb := B.bytes
  have hr := B.returns
  have hts := atoms_spec (ws := ws_ yX1_nano cX1_nano 2 (some .int)) B.pre
  have hts : ∀ w ∈ lw_all, w.before _ s = true := fun w h => hts w (List.mem_cons_of_mem _ h)
  have hown : s.vm.findClass RX1 = some m.cls := findClass_of_methodNamed B.named
  have hlocks := B.notSynchronized
  have hl := lv_entry ([.ref h0, .int x]) (n := 2) (Nat.le_of_ble_eq_true rfl)
  rw [lg_entry_eq]
  generalize (lg_sl ([.ref h0, .int x]) ++ List.replicate (2 - (lg_sl ([.ref h0, .int x])).length) Slot.unset).toArray = ls at hl ⊢
  have hl : lv_has ls 2 [(0, .ref h0), (1, .int x)] := hl
  obtain ⟨a, hf, hI⟩ := hDk.2.2 w kw
  refine lv_aload_n hx hb dX1_nano_0 rfl (lv_at hl 0 rfl) ?_
  refine va_get (D := D) (ci := 1) (v := .ref h1) (C := RX1) (T := TX1) (N := 1) hx hb hts in_X1 hown hDk.2.1 hDk.1 0 rfl rfl 0 (by decide) (hts _ q142) (fun _ h9 => h9) rfl dX1_nano_1 ?_
  refine lv_iload_n hx hb dX1_nano_4 rfl (lv_at hl 1 rfl) ?_
  refine lv_iconst (v := 1) hx hb dX1_nano_5 (by decide) ?_
  refine lv_iand hx hb dX1_nano_6 ?_
  refine wd_ald hx hb hDk kw ew hf dX1_nano_7 ?_
  refine vp_callSi (va_runV (As := []) (rest := []) ⟨hx, hb, hml, hown, hts⟩ (met_getNano l a (sec w) (nan w)) (cwV 0 hts (lw_V q222 q223 q224 q5 q225) rfl rfl rfl (by decide +kernel) ⟨Nat.le_of_ble_eq_true rfl, Nat.le_of_ble_eq_true rfl⟩) ⟨fun a U g mk q => ⟨q.1, wd_I.moved (u := U) (U := U.calling g mk a) (Vm.Alike.refl U.vm) q.2⟩, wd_recv hI, fun U hU hW => ⟨rfl, by show wd_I _ _ _ U U.heap; rw [hU]; exact wd_I.moved hW.alike hI⟩⟩ rfl rfl hl.1 rfl (lv_room (Nat.le_of_ble_eq_true rfl)) dX1_nano_8 ⟨Nat.le_of_ble_eq_true rfl, Nat.le_of_ble_eq_true rfl⟩).run (fun v1 e1 => ?_)
  exact W.iret (v := v1) hx hb hr (fun t ht hW => ⟨_, rfl, e1, ht⟩) (fun _ h => by cases h) dX1_nano_11
set_option maxHeartbeats 4000000 in
set_option maxRecDepth 100000 in
/-- milli(which): 0 from a far second, else the milliseconds -/
theorem met_milli (l : Launch) (D : va_G) (h0 h1 : Nat) (cA : ClassId) (f : Nat → Option Nat) (sec : Nat → Int64) (nan : Nat → Int32) (kN : ∀ k : Nat, k < 2 → 0 ≤ (nan k).toInt ∧ (nan k).toInt < 1000000000) (x : Int32) (w : Nat) (kw : w < 2) (ew : x &&& 1 = nI w) : Met l yX1_milli (ws_ yX1_milli cX1_milli 4 (some .long)) ({ frames := 2, cells := 0, slots := 0, locals := 47 }) (va_Pc [.ref h0, .int x] (fun U => wd_Desk D h0 h1 cA f sec nan U U.heap)) (vp_Sl (fun r => ((sec w).toInt ≤ 9000000000000000 ∧ -9000000000000000 ≤ (sec w).toInt → r.toInt = (sec w).toInt * 1000 + (nan w).toInt / 1000000) ∧ (¬ ((sec w).toInt ≤ 9000000000000000 ∧ -9000000000000000 ≤ (sec w).toInt) → r = 0))) 0 0 (fun _ => False) := by
  refine Met.ofW (cc := cX1_milli) (maxL := 4) (ret := (some .long)) (by decide) rfl ?_
  intro p e s m args below meth c s₁ B hml hv
  obtain ⟨rfl, hDk⟩ := hv
  have hx := B.exec
  have hb := B.bytes
  have hr := B.returns
  have hts := atoms_spec (ws := ws_ yX1_milli cX1_milli 4 (some .long)) B.pre
  have hts : ∀ w ∈ lw_all, w.before _ s = true := fun w h => hts w (List.mem_cons_of_mem _ h)
  have hown : s.vm.findClass RX1 = some m.cls := findClass_of_methodNamed B.named
  have hlocks := B.notSynchronized
  have hl := lv_entry ([.ref h0, .int x]) (n := 4) (Nat.le_of_ble_eq_true rfl)
  rw [lg_entry_eq]
  generalize (lg_sl ([.ref h0, .int x]) ++ List.replicate (4 - (lg_sl ([.ref h0, .int x])).length) Slot.unset).toArray = ls at hl ⊢
  have hl : lv_has ls 4 [(0, .ref h0), (1, .int x)] := hl
  obtain ⟨a, hf, hI⟩ := hDk.2.2 w kw
  have l9 : (9000000000000000 : Int64).toInt = 9000000000000000 := by decide
  have l8 : (-9000000000000000 : Int64).toInt = -9000000000000000 := by decide
  refine lv_aload_n hx hb dX1_milli_0 rfl (lv_at hl 0 rfl) ?_
  refine va_get (D := D) (ci := 1) (v := .ref h1) (C := RX1) (T := TX1) (N := 1) hx hb hts in_X1 hown hDk.2.1 hDk.1 0 rfl rfl 0 (by decide) (hts _ q142) (fun _ h9 => h9) rfl dX1_milli_1 ?_
  refine lv_iload_n hx hb dX1_milli_4 rfl (lv_at hl 1 rfl) ?_
  refine lv_iconst (v := 1) hx hb dX1_milli_5 (by decide) ?_
  refine lv_iand hx hb dX1_milli_6 ?_
  refine wd_ald hx hb hDk kw ew hf dX1_milli_7 ?_
  refine vp_callSl (va_runV (As := []) (rest := []) ⟨hx, hb, hml, hown, hts⟩ (met_getEpochSecond l a (sec w) (nan w)) (cwV 0 hts (lw_V q159 q160 q161 q5 q162) rfl rfl rfl (by decide +kernel) ⟨Nat.le_of_ble_eq_true rfl, Nat.le_of_ble_eq_true rfl⟩) ⟨fun a U g mk q => ⟨q.1, wd_I.moved (u := U) (U := U.calling g mk a) (Vm.Alike.refl U.vm) q.2⟩, wd_recv hI, fun U hU hW => ⟨rfl, by show wd_I _ _ _ U U.heap; rw [hU]; exact wd_I.moved hW.alike hI⟩⟩ rfl rfl hl.1 rfl (lv_room (Nat.le_of_ble_eq_true rfl)) dX1_milli_8 ⟨Nat.le_of_ble_eq_true rfl, Nat.le_of_ble_eq_true rfl⟩).run (fun v1 e1 => ?_)
  subst e1
  refine lv_topl (fun v1 ev1 => ?_)
  refine lv_lstore_n (lv' := [(2, .long v1), (0, .ref h0), (1, .int x)]) hx hb dX1_milli_11 rfl hl (by decide) rfl (fun ls hl => ?_)
  refine lv_lload_n hx hb dX1_milli_12 rfl (lv_at hl 0 rfl) ?_
  refine lv_ldc2 hx hb hown (hts _ q230) dX1_milli_13 ?_
  refine W.lcmp hx hb dX1_milli_16 ?_
  refine lv_if_gt (tgt := 28) hx hb dX1_milli_17 (by decide) (fun c1 => ?_) (fun c1 => ?_)
  · have gn : ¬ ((sec w).toInt ≤ 9000000000000000 ∧ -9000000000000000 ≤ (sec w).toInt) := by have h9 := (nu_gt _ _).mp c1; rw [ev1, l9] at h9; omega
    refine lv_lconst (v := 0) hx hb dX1_milli_28 (by decide) ?_
    refine lv_goto (tgt := 43) hx hb dX1_milli_29 (by decide) ?_
    exact W.lret (v := 0) hx hb hr (fun t ht hW => ⟨_, rfl, ⟨fun q => absurd q gn, fun _ => rfl⟩, ht⟩) (fun _ h => by cases h) dX1_milli_43
  · have g1 : (sec w).toInt ≤ 9000000000000000 := by have h9 := nu_ngt c1; rw [ev1, l9] at h9; exact h9
    refine lv_lload_n hx hb dX1_milli_20 rfl (lv_at hl 0 rfl) ?_
    refine lv_ldc2 hx hb hown (hts _ q231) dX1_milli_21 ?_
    refine W.lcmp hx hb dX1_milli_24 ?_
    refine lv_if_ge (tgt := 32) hx hb dX1_milli_25 (by decide) (fun c2 => ?_) (fun c2 => ?_)
    · have g2 : -9000000000000000 ≤ (sec w).toInt := by have h9 := (nu_ge _ _).mp c2; rw [ev1, l8] at h9; exact h9
      refine lv_aload_n hx hb dX1_milli_32 rfl (lv_at hl 1 rfl) ?_
      refine va_get (D := D) (ci := 1) (v := .ref h1) (C := RX1) (T := TX1) (N := 1) hx hb hts in_X1 hown hDk.2.1 hDk.1 0 rfl rfl 0 (by decide) (hts _ q142) (fun _ h9 => h9) rfl dX1_milli_33 ?_
      refine lv_iload_n hx hb dX1_milli_36 rfl (lv_at hl 2 rfl) ?_
      refine lv_iconst (v := 1) hx hb dX1_milli_37 (by decide) ?_
      refine lv_iand hx hb dX1_milli_38 ?_
      refine wd_ald hx hb hDk kw ew hf dX1_milli_39 ?_
      refine vp_callSl (va_runV (As := []) (rest := []) ⟨hx, hb, hml, hown, hts⟩ (met_toEpochMilli l a (sec w) (nan w) (kN w kw).1 (kN w kw).2 g2 g1) (cwV 0 hts (lw_V q232 q233 q234 q5 q235) rfl rfl rfl (by decide +kernel) ⟨Nat.le_of_ble_eq_true rfl, Nat.le_of_ble_eq_true rfl⟩) ⟨fun a U g mk q => ⟨q.1, wd_I.moved (u := U) (U := U.calling g mk a) (Vm.Alike.refl U.vm) q.2⟩, wd_recv hI, fun U hU hW => ⟨rfl, by show wd_I _ _ _ U U.heap; rw [hU]; exact wd_I.moved hW.alike hI⟩⟩ rfl rfl hl.1 rfl (lv_room (Nat.le_of_ble_eq_true rfl)) dX1_milli_40 ⟨Nat.le_of_ble_eq_true rfl, Nat.le_of_ble_eq_true rfl⟩).run (fun v2 e2 => ?_)
      exact W.lret (v := v2) hx hb hr (fun t ht hW => ⟨_, rfl, ⟨fun _ => e2, fun q => absurd ⟨g1, g2⟩ q⟩, ht⟩) (fun _ h => by cases h) dX1_milli_43
    · have gn : ¬ ((sec w).toInt ≤ 9000000000000000 ∧ -9000000000000000 ≤ (sec w).toInt) := by have h9 := nu_nge c2; rw [ev1, l8] at h9; omega
      refine lv_lconst (v := 0) hx hb dX1_milli_28 (by decide) ?_
      refine lv_goto (tgt := 43) hx hb dX1_milli_29 (by decide) ?_
      exact W.lret (v := 0) hx hb hr (fun t ht hW => ⟨_, rfl, ⟨fun q => absurd q gn, fun _ => rfl⟩, ht⟩) (fun _ h => by cases h) dX1_milli_43
set_option maxHeartbeats 4000000 in
set_option maxRecDepth 100000 in
/-- order(): -1, 1 or 0 -/
theorem met_order (l : Launch) (D : va_G) (h0 h1 : Nat) (cA : ClassId) (f : Nat → Option Nat) (sec : Nat → Int64) (nan : Nat → Int32) (kN : ∀ k : Nat, k < 2 → 0 ≤ (nan k).toInt ∧ (nan k).toInt < 1000000000) : Met l yX1_order (ws_ yX1_order cX1_order 2 (some .int)) ({ frames := 2, cells := 0, slots := 0, locals := 45 }) (va_Pc [.ref h0] (fun U => wd_Desk D h0 h1 cA f sec nan U U.heap)) (vp_Si (fun r => (nu_less (sec 0).toInt (nan 0).toInt (sec 1).toInt (nan 1).toInt → r = -1) ∧ (nu_less (sec 1).toInt (nan 1).toInt (sec 0).toInt (nan 0).toInt → r = 1) ∧ (¬ nu_less (sec 0).toInt (nan 0).toInt (sec 1).toInt (nan 1).toInt → ¬ nu_less (sec 1).toInt (nan 1).toInt (sec 0).toInt (nan 0).toInt → r = 0))) 0 0 (fun _ => False) := by
  refine Met.ofW (cc := cX1_order) (maxL := 2) (ret := (some .int)) (by decide) rfl ?_
  intro p e s m args below meth c s₁ B hml hv
  obtain ⟨rfl, hDk⟩ := hv
  have hx := B.exec
  have hb := B.bytes
  have hr := B.returns
  have hts := atoms_spec (ws := ws_ yX1_order cX1_order 2 (some .int)) B.pre
  have hts : ∀ w ∈ lw_all, w.before _ s = true := fun w h => hts w (List.mem_cons_of_mem _ h)
  have hown : s.vm.findClass RX1 = some m.cls := findClass_of_methodNamed B.named
  have hlocks := B.notSynchronized
  have hl := lv_entry ([.ref h0]) (n := 2) (Nat.le_of_ble_eq_true rfl)
  rw [lg_entry_eq]
  generalize (lg_sl ([.ref h0]) ++ List.replicate (2 - (lg_sl ([.ref h0])).length) Slot.unset).toArray = ls at hl ⊢
  have hl : lv_has ls 2 [(0, .ref h0)] := hl
  obtain ⟨a, hf, hI⟩ := hDk.2.2 0 (by decide)
  obtain ⟨a2, hf2, hI2⟩ := hDk.2.2 1 (by decide)
  refine lv_aload_n hx hb dX1_order_0 rfl (lv_at hl 0 rfl) ?_
  refine va_get (D := D) (ci := 1) (v := .ref h1) (C := RX1) (T := TX1) (N := 1) hx hb hts in_X1 hown hDk.2.1 hDk.1 0 rfl rfl 0 (by decide) (hts _ q142) (fun _ h9 => h9) rfl dX1_order_1 ?_
  refine lv_iconst (v := 0) hx hb dX1_order_4 (by decide) ?_
  refine wd_ald hx hb hDk (show 0 < 2 by decide) rfl hf dX1_order_5 ?_
  refine lv_aload_n hx hb dX1_order_6 rfl (lv_at hl 0 rfl) ?_
  refine va_get (D := D) (ci := 1) (v := .ref h1) (C := RX1) (T := TX1) (N := 1) hx hb hts in_X1 hown hDk.2.1 hDk.1 0 rfl rfl 0 (by decide) (hts _ q142) (fun _ h9 => h9) rfl dX1_order_7 ?_
  refine lv_iconst (v := 1) hx hb dX1_order_10 (by decide) ?_
  refine wd_ald hx hb hDk (show 1 < 2 by decide) rfl hf2 dX1_order_11 ?_
  refine vp_callSi (va_runV (As := [.ref a2]) (rest := []) ⟨hx, hb, hml, hown, hts⟩ (met_compareTo l a a2 (sec 0) (sec 1) (nan 0) (nan 1) (kN 0 (by decide)).1 (kN 0 (by decide)).2 (kN 1 (by decide)).1 (kN 1 (by decide)).2) (cwV 1 hts (lw_V q250 q251 q252 q5 q253) rfl rfl rfl (by decide +kernel) ⟨Nat.le_of_ble_eq_true rfl, Nat.le_of_ble_eq_true rfl⟩) ⟨fun a U g mk q => ⟨q.1, wd_I.moved (u := U) (U := U.calling g mk a) (Vm.Alike.refl U.vm) q.2.1, wd_I.moved (u := U) (U := U.calling g mk a) (Vm.Alike.refl U.vm) q.2.2⟩, wd_recv hI, fun U hU hW => ⟨rfl, by rw [hU]; exact wd_I.moved hW.alike hI, by rw [hU]; exact wd_I.moved hW.alike hI2⟩⟩ rfl rfl hl.1 rfl (lv_room (Nat.le_of_ble_eq_true rfl)) dX1_order_12 ⟨Nat.le_of_ble_eq_true rfl, Nat.le_of_ble_eq_true rfl⟩).run (fun v1 e1 => ?_)
  have no : nu_less (sec 0).toInt (nan 0).toInt (sec 1).toInt (nan 1).toInt → ¬ nu_less (sec 1).toInt (nan 1).toInt (sec 0).toInt (nan 0).toInt := by unfold nu_less; omega
  refine lv_istore_n (lv' := [(1, .int v1), (0, .ref h0)]) hx hb dX1_order_15 rfl hl (by decide) rfl (fun ls hl => ?_)
  refine lv_iload_n hx hb dX1_order_16 rfl (lv_at hl 0 rfl) ?_
  refine lv_if_ge (tgt := 24) hx hb dX1_order_17 (by decide) (fun c1 => ?_) (fun c1 => ?_)
  · have g1 : 0 ≤ v1.toInt := by have h9 := Int32.le_iff_toInt_le.mp c1; rw [Int32.toInt_zero] at h9; exact h9
    refine lv_iload_n hx hb dX1_order_24 rfl (lv_at hl 0 rfl) ?_
    refine lv_if_le (tgt := 32) hx hb dX1_order_25 (by decide) (fun c2 => ?_) (fun c2 => ?_)
    · have g2 : v1.toInt ≤ 0 := by have h9 := Int32.le_iff_toInt_le.mp c2; rw [Int32.toInt_zero] at h9; exact h9
      refine lv_iconst (v := 0) hx hb dX1_order_32 (by decide) ?_
      exact W.iret (v := 0) hx hb hr (fun t ht hW => ⟨_, rfl, ⟨fun q => absurd (e1.1.mpr q) (by omega), fun q => absurd (e1.2.mpr q) (by omega), fun _ _ => rfl⟩, ht⟩) (fun _ h => by cases h) dX1_order_33
    · have g2 : 0 < v1.toInt := Int.not_le.mp fun q => c2 (Int32.le_iff_toInt_le.mpr (by rw [Int32.toInt_zero]; exact q))
      refine lv_iconst (v := 1) hx hb dX1_order_28 (by decide) ?_
      refine lv_goto (tgt := 33) hx hb dX1_order_29 (by decide) ?_
      exact W.iret (v := 1) hx hb hr (fun t ht hW => ⟨_, rfl, ⟨fun q => absurd (e1.1.mpr q) (by omega), fun _ => rfl, fun _ q => absurd (e1.2.mp g2) q⟩, ht⟩) (fun _ h => by cases h) dX1_order_33
  · have g1 : v1.toInt < 0 := Int.not_le.mp fun q => c1 (Int32.le_iff_toInt_le.mpr (by rw [Int32.toInt_zero]; exact q))
    refine lv_iconst (v := (-1)) hx hb dX1_order_20 (by decide) ?_
    refine lv_goto (tgt := 33) hx hb dX1_order_21 (by decide) ?_
    exact W.iret (v := (-1)) hx hb hr (fun t ht hW => ⟨_, rfl, ⟨fun _ => rfl, fun q => absurd q (no (e1.1.mp g1)), fun q => absurd (e1.1.mp g1) q⟩, ht⟩) (fun _ h => by cases h) dX1_order_33
set_option maxHeartbeats 4000000 in
set_option maxRecDepth 100000 in
/-- before() -/
theorem met_before (l : Launch) (D : va_G) (h0 h1 : Nat) (cA : ClassId) (f : Nat → Option Nat) (sec : Nat → Int64) (nan : Nat → Int32) (kN : ∀ k : Nat, k < 2 → 0 ≤ (nan k).toInt ∧ (nan k).toInt < 1000000000) : Met l yX1_before (ws_ yX1_before cX1_before 1 (some .boolean)) ({ frames := 3, cells := 0, slots := 0, locals := 66 }) (va_Pc [.ref h0] (fun U => wd_Desk D h0 h1 cA f sec nan U U.heap)) (vp_Si (fun r => (nu_less (sec 0).toInt (nan 0).toInt (sec 1).toInt (nan 1).toInt → r = 1) ∧ (¬ nu_less (sec 0).toInt (nan 0).toInt (sec 1).toInt (nan 1).toInt → r = 0))) 0 0 (fun _ => False) := by
  refine Met.ofW (cc := cX1_before) (maxL := 1) (ret := (some .boolean)) (by decide) rfl ?_
  intro p e s m args below meth c s₁ B hml hv
  obtain ⟨rfl, hDk⟩ := hv
  have hx := B.exec
  have hb := B.bytes
  have hr := B.returns
  have hts := atoms_spec (ws := ws_ yX1_before cX1_before 1 (some .boolean)) B.pre
  have hts : ∀ w ∈ lw_all, w.before _ s = true := fun w h => hts w (List.mem_cons_of_mem _ h)
  have hown : s.vm.findClass RX1 = some m.cls := findClass_of_methodNamed B.named
  have hlocks := B.notSynchronized
  have hl := lv_entry ([.ref h0]) (n := 1) (Nat.le_of_ble_eq_true rfl)
  rw [lg_entry_eq]
  generalize (lg_sl ([.ref h0]) ++ List.replicate (1 - (lg_sl ([.ref h0])).length) Slot.unset).toArray = ls at hl ⊢
  have hl : lv_has ls 1 [(0, .ref h0)] := hl
  obtain ⟨a, hf, hI⟩ := hDk.2.2 0 (by decide)
  obtain ⟨a2, hf2, hI2⟩ := hDk.2.2 1 (by decide)
  refine lv_aload_n hx hb dX1_before_0 rfl (lv_at hl 0 rfl) ?_
  refine va_get (D := D) (ci := 1) (v := .ref h1) (C := RX1) (T := TX1) (N := 1) hx hb hts in_X1 hown hDk.2.1 hDk.1 0 rfl rfl 0 (by decide) (hts _ q142) (fun _ h9 => h9) rfl dX1_before_1 ?_
  refine lv_iconst (v := 0) hx hb dX1_before_4 (by decide) ?_
  refine wd_ald hx hb hDk (show 0 < 2 by decide) rfl hf dX1_before_5 ?_
  refine lv_aload_n hx hb dX1_before_6 rfl (lv_at hl 0 rfl) ?_
  refine va_get (D := D) (ci := 1) (v := .ref h1) (C := RX1) (T := TX1) (N := 1) hx hb hts in_X1 hown hDk.2.1 hDk.1 0 rfl rfl 0 (by decide) (hts _ q142) (fun _ h9 => h9) rfl dX1_before_7 ?_
  refine lv_iconst (v := 1) hx hb dX1_before_10 (by decide) ?_
  refine wd_ald hx hb hDk (show 1 < 2 by decide) rfl hf2 dX1_before_11 ?_
  refine vp_callSi (va_runV (As := [.ref a2]) (rest := []) ⟨hx, hb, hml, hown, hts⟩ (met_isBefore l a a2 (sec 0) (sec 1) (nan 0) (nan 1) (kN 0 (by decide)).1 (kN 0 (by decide)).2 (kN 1 (by decide)).1 (kN 1 (by decide)).2) (cwV 1 hts (lw_V q261 q262 q263 q5 q264) rfl rfl rfl (by decide +kernel) ⟨Nat.le_of_ble_eq_true rfl, Nat.le_of_ble_eq_true rfl⟩) ⟨fun a U g mk q => ⟨q.1, wd_I.moved (u := U) (U := U.calling g mk a) (Vm.Alike.refl U.vm) q.2.1, wd_I.moved (u := U) (U := U.calling g mk a) (Vm.Alike.refl U.vm) q.2.2⟩, wd_recv hI, fun U hU hW => ⟨rfl, by rw [hU]; exact wd_I.moved hW.alike hI, by rw [hU]; exact wd_I.moved hW.alike hI2⟩⟩ rfl rfl hl.1 rfl (lv_room (Nat.le_of_ble_eq_true rfl)) dX1_before_12 ⟨Nat.le_of_ble_eq_true rfl, Nat.le_of_ble_eq_true rfl⟩).run (fun v1 e1 => ?_)
  have hn : narrow .boolean (.int v1) = .int v1 := by
    by_cases q : nu_less (sec 0).toInt (nan 0).toInt (sec 1).toInt (nan 1).toInt
    · rw [e1.1 q]; rfl
    · rw [e1.2 q]; rfl
  exact W.zret (v := v1) hx hb hr hn (fun t ht hW => ⟨_, rfl, e1, ht⟩) (fun _ h => by cases h) dX1_before_15
set_option maxHeartbeats 4000000 in
set_option maxRecDepth 100000 in
/-- after() -/
theorem met_after (l : Launch) (D : va_G) (h0 h1 : Nat) (cA : ClassId) (f : Nat → Option Nat) (sec : Nat → Int64) (nan : Nat → Int32) (kN : ∀ k : Nat, k < 2 → 0 ≤ (nan k).toInt ∧ (nan k).toInt < 1000000000) : Met l yX1_after (ws_ yX1_after cX1_after 1 (some .boolean)) ({ frames := 3, cells := 0, slots := 0, locals := 66 }) (va_Pc [.ref h0] (fun U => wd_Desk D h0 h1 cA f sec nan U U.heap)) (vp_Si (fun r => (nu_less (sec 1).toInt (nan 1).toInt (sec 0).toInt (nan 0).toInt → r = 1) ∧ (¬ nu_less (sec 1).toInt (nan 1).toInt (sec 0).toInt (nan 0).toInt → r = 0))) 0 0 (fun _ => False) := by
  refine Met.ofW (cc := cX1_after) (maxL := 1) (ret := (some .boolean)) (by decide) rfl ?_
  intro p e s m args below meth c s₁ B hml hv
  obtain ⟨rfl, hDk⟩ := hv
  have hx := B.exec
  have hb := B.bytes
  have hr := B.returns
  have hts := atoms_spec (ws := ws_ yX1_after cX1_after 1 (some .boolean)) B.pre
  have hts : ∀ w ∈ lw_all, w.before _ s = true := fun w h => hts w (List.mem_cons_of_mem _ h)
  have hown : s.vm.findClass RX1 = some m.cls := findClass_of_methodNamed B.named
  have hlocks := B.notSynchronized
  have hl := lv_entry ([.ref h0]) (n := 1) (Nat.le_of_ble_eq_true rfl)
  rw [lg_entry_eq]
  generalize (lg_sl ([.ref h0]) ++ List.replicate (1 - (lg_sl ([.ref h0])).length) Slot.unset).toArray = ls at hl ⊢
  have hl : lv_has ls 1 [(0, .ref h0)] := hl
  obtain ⟨a, hf, hI⟩ := hDk.2.2 0 (by decide)
  obtain ⟨a2, hf2, hI2⟩ := hDk.2.2 1 (by decide)
  refine lv_aload_n hx hb dX1_after_0 rfl (lv_at hl 0 rfl) ?_
  refine va_get (D := D) (ci := 1) (v := .ref h1) (C := RX1) (T := TX1) (N := 1) hx hb hts in_X1 hown hDk.2.1 hDk.1 0 rfl rfl 0 (by decide) (hts _ q142) (fun _ h9 => h9) rfl dX1_after_1 ?_
  refine lv_iconst (v := 0) hx hb dX1_after_4 (by decide) ?_
  refine wd_ald hx hb hDk (show 0 < 2 by decide) rfl hf dX1_after_5 ?_
  refine lv_aload_n hx hb dX1_after_6 rfl (lv_at hl 0 rfl) ?_
  refine va_get (D := D) (ci := 1) (v := .ref h1) (C := RX1) (T := TX1) (N := 1) hx hb hts in_X1 hown hDk.2.1 hDk.1 0 rfl rfl 0 (by decide) (hts _ q142) (fun _ h9 => h9) rfl dX1_after_7 ?_
  refine lv_iconst (v := 1) hx hb dX1_after_10 (by decide) ?_
  refine wd_ald hx hb hDk (show 1 < 2 by decide) rfl hf2 dX1_after_11 ?_
  refine vp_callSi (va_runV (As := [.ref a2]) (rest := []) ⟨hx, hb, hml, hown, hts⟩ (met_isAfter l a a2 (sec 0) (sec 1) (nan 0) (nan 1) (kN 0 (by decide)).1 (kN 0 (by decide)).2 (kN 1 (by decide)).1 (kN 1 (by decide)).2) (cwV 1 hts (lw_V q270 q271 q272 q5 q273) rfl rfl rfl (by decide +kernel) ⟨Nat.le_of_ble_eq_true rfl, Nat.le_of_ble_eq_true rfl⟩) ⟨fun a U g mk q => ⟨q.1, wd_I.moved (u := U) (U := U.calling g mk a) (Vm.Alike.refl U.vm) q.2.1, wd_I.moved (u := U) (U := U.calling g mk a) (Vm.Alike.refl U.vm) q.2.2⟩, wd_recv hI, fun U hU hW => ⟨rfl, by rw [hU]; exact wd_I.moved hW.alike hI, by rw [hU]; exact wd_I.moved hW.alike hI2⟩⟩ rfl rfl hl.1 rfl (lv_room (Nat.le_of_ble_eq_true rfl)) dX1_after_12 ⟨Nat.le_of_ble_eq_true rfl, Nat.le_of_ble_eq_true rfl⟩).run (fun v1 e1 => ?_)
  have hn : narrow .boolean (.int v1) = .int v1 := by
    by_cases q : nu_less (sec 1).toInt (nan 1).toInt (sec 0).toInt (nan 0).toInt
    · rw [e1.1 q]; rfl
    · rw [e1.2 q]; rfl
  exact W.zret (v := v1) hx hb hr hn (fun t ht hW => ⟨_, rfl, e1, ht⟩) (fun _ h => by cases h) dX1_after_15
set_option maxHeartbeats 4000000 in
set_option maxRecDepth 100000 in
/-- set(which, h, l, n) -/
theorem met_set (l : Launch) (D : va_G) (h0 h1 : Nat) (cA : ClassId) (f : Nat → Option Nat) (sec : Nat → Int64) (nan : Nat → Int32) (hne : h0 ≠ h1) (ep sz : Nat) (x : Int32) (w : Nat) (kw : w < 2) (ew : x &&& 1 = nI w) (hh ll n : Int32) : Met l yX1_set (ws_ yX1_set cX1_set 5 none) ({ frames := 5, cells := 1, slots := 2, locals := 103 }) (va_Pc [.ref h0, .int x, .int hh, .int ll, .int n] (fun U => U.heap.size = sz ∧ wd_Desk D h0 h1 cA f sec nan U U.heap ∧ wd_E ep (wd_A h1 sz) U U.heap)) (va_Qv (fun u : (Nat → Option Nat) × Int64 × Int32 => u.2.1.toInt = (nu_hl hh ll).toInt.tmod 31000000000000000 + n.toInt / 1000000000 ∧ u.2.2.toInt = n.toInt % 1000000000) (fun u t => wd_Desk D h0 h1 cA u.1 (va_up sec w u.2.1) (va_up nan w u.2.2) t t.heap) (wd_A h1 sz)) 1 2 (wd_A h1 sz) := by
  refine Met.ofW (cc := cX1_set) (maxL := 5) (ret := none) (by decide) rfl ?_
  intro p e s m args below meth c s₁ B hml hv
  obtain ⟨rfl, hsz, hDk, hE⟩ := hv
  have hx := B.exec
  have hb := B.bytes
  have hr := B.returns
  have hts := atoms_spec (ws := ws_ yX1_set cX1_set 5 none) B.pre
  have hts : ∀ w ∈ lw_all, w.before _ s = true := fun w h => hts w (List.mem_cons_of_mem _ h)
  have hown : s.vm.findClass RX1 = some m.cls := findClass_of_methodNamed B.named
  have hlocks := B.notSynchronized
  have hl := lv_entry ([.ref h0, .int x, .int hh, .int ll, .int n]) (n := 5) (Nat.le_of_ble_eq_true rfl)
  rw [lg_entry_eq]
  generalize (lg_sl ([.ref h0, .int x, .int hh, .int ll, .int n]) ++ List.replicate (5 - (lg_sl ([.ref h0, .int x, .int hh, .int ll, .int n])).length) Slot.unset).toArray = ls at hl ⊢
  have hl : lv_has ls 5 [(0, .ref h0), (1, .int x), (2, .int hh), (3, .int ll), (4, .int n)] := hl
  subst hsz
  have hS : va_S (wd_A h1 s.heap.size) s.heap s.heap [] := va_S.rf
  have hK0 : va_K D wd_cl [] s := hDk.2.1.sub [] rfl
  have hE0 : wd_E ep (wd_N s.heap.size) s s.heap := wd_E.narrow hE (fun q h => Or.inr h)
  refine lv_aload_n hx hb dX1_set_0 rfl (lv_at hl 0 rfl) ?_
  refine va_get (D := D) (ci := 1) (v := .ref h1) (C := RX1) (T := TX1) (N := 1) hx hb hts in_X1 hown hDk.2.1 hDk.1 0 rfl rfl 0 (by decide) (hts _ q142) (fun _ h9 => h9) rfl dX1_set_1 ?_
  refine lv_iload_n hx hb dX1_set_4 rfl (lv_at hl 1 rfl) ?_
  refine lv_iconst (v := 1) hx hb dX1_set_5 (by decide) ?_
  refine lv_iand hx hb dX1_set_6 ?_
  refine lv_iload_n hx hb dX1_set_7 rfl (lv_at hl 2 rfl) ?_
  refine lv_iload_n hx hb dX1_set_8 rfl (lv_at hl 3 rfl) ?_
  refine vp_callSl (va_runS (As := [.int hh, .int ll]) (rest := [.int (x &&& (1 : Int32)), .ref h1]) ⟨hx, hb, hml, hown, hts⟩ (met_second l hh ll) (va_cwS 2 hts (lw_S q150 q151 q3 q152) rfl rfl rfl (by decide +kernel) ⟨Nat.le_of_ble_eq_true rfl, Nat.le_of_ble_eq_true rfl⟩) ⟨fun a U g mk q => ⟨q.1, q.2⟩, fun U hU hW => ⟨rfl, trivial⟩⟩ rfl rfl hl.1 rfl (lv_room (Nat.le_of_ble_eq_true rfl)) dX1_set_9 ⟨Nat.le_of_ble_eq_true rfl, Nat.le_of_ble_eq_true rfl⟩).run (fun v1 e1 => ?_)
  have f1 : v1.toInt = (nu_hl hh ll).toInt.tmod 31000000000000000 := by rw [e1, Jvm.Kit.i64_rem]; rfl
  have t1 := Int.lt_tmod_of_pos (nu_hl hh ll).toInt (show (0 : Int) < 31000000000000000 by decide)
  have t2 := Int.tmod_lt_of_pos (nu_hl hh ll).toInt (show (0 : Int) < 31000000000000000 by decide)
  have ln := n.le_toInt
  have gn := n.toInt_lt
  have en := Jvm.Kit.i64_of_i32 n
  refine lv_iload hx hb dX1_set_12 (lv_at hl 4 rfl) ?_
  refine lv_i2l hx hb dX1_set_14 rfl ?_
  refine va_callr (va_runS (As := [.long v1, .long n.toInt64]) (rest := [.int (x &&& (1 : Int32)), .ref h1]) ⟨hx, hb, hml, hown, hts⟩ (met_ofEpochSecond l D ep s.heap.size v1 n.toInt64 (by omega) (by omega)) (va_cwS 2 hts (lw_S q22 q23 q5 q24) rfl rfl rfl (by decide +kernel) ⟨Nat.le_of_ble_eq_true rfl, Nat.le_of_ble_eq_true rfl⟩) ⟨fun a U g mk q => ⟨q.1, q.2.1, va_K.moved (u := U) (U := U.calling g mk a) (Vm.Alike.refl U.vm) q.2.2.1, wd_E.moved (u := U) (U := U.calling g mk a) (Vm.Alike.refl U.vm) q.2.2.2⟩, fun U hU hW => ⟨rfl, by rw [hU], va_K.moved hW.alike hK0, by rw [hU]; exact wd_E.moved hW.alike hE0⟩⟩ rfl rfl hl.1 rfl (lv_room (Nat.le_of_ble_eq_true rfl)) dX1_set_15 ⟨Nat.le_of_ble_eq_true rfl, Nat.le_of_ble_eq_true rfl⟩) hS (fun q _ h => Or.inr h) (fun q h => Or.inr h) (fun u ra t H1 locs ht hvm hw hB hz1 hk1 hS => ?_)
  have hR : wd_I ra u.1 u.2 s H1 := by have h9 : wd_I ra u.1 u.2 t t.heap := hB; rw [ht] at h9; exact wd_I.moved hvm.symm h9
  have hDk1 : wd_Desk D h0 h1 cA f sec nan s H1 := hDk.kept (fun q hq => hk1 q hq (Nat.not_le.mpr hq))
  refine wd_ast (q := h1) (t0 := 0) hx hb hDk1.2.1 rfl hDk1.arr hR kw ew dX1_set_18 (fun H2 e2 z2 oq2 => ?_)
  have hDk2 := hDk1.store hne hR e2 oq2
  have hS2 := hS.put (k := w) z2 oq2 (Or.inl rfl)
  refine W.widen (k := 1) (n := 2) (Nat.le_of_ble_eq_true rfl) (Nat.le_of_ble_eq_true rfl) ?_
  exact W.vret hx hb hr (fun t ht hW => ⟨⟨(va_up f w (some ra), u.1, u.2), rfl, ⟨by rw [hw.1, f1, en], by rw [hw.2, en]⟩, by show wd_Desk _ _ _ _ _ _ _ t t.heap; rw [ht]; exact wd_Desk.moved hW.alike hDk2⟩, hS2.F ht⟩) hS2.2.2 dX1_set_19
set_option maxHeartbeats 4000000 in
set_option maxRecDepth 100000 in
/-- ofMilli(which, h, l) -/
theorem met_ofMilli (l : Launch) (D : va_G) (h0 h1 : Nat) (cA : ClassId) (f : Nat → Option Nat) (sec : Nat → Int64) (nan : Nat → Int32) (hne : h0 ≠ h1) (ep sz : Nat) (x : Int32) (w : Nat) (kw : w < 2) (ew : x &&& 1 = nI w) (hh ll : Int32) : Met l yX1_ofMilli (ws_ yX1_ofMilli cX1_ofMilli 4 none) ({ frames := 5, cells := 1, slots := 2, locals := 101 }) (va_Pc [.ref h0, .int x, .int hh, .int ll] (fun U => U.heap.size = sz ∧ wd_Desk D h0 h1 cA f sec nan U U.heap ∧ wd_E ep (wd_A h1 sz) U U.heap)) (va_Qv (fun u : (Nat → Option Nat) × Int64 × Int32 => u.2.1.toInt = (nu_hl hh ll).toInt / 1000 ∧ u.2.2.toInt = (nu_hl hh ll).toInt % 1000 * 1000000) (fun u t => wd_Desk D h0 h1 cA u.1 (va_up sec w u.2.1) (va_up nan w u.2.2) t t.heap) (wd_A h1 sz)) 1 2 (wd_A h1 sz) := by
  refine Met.ofW (cc := cX1_ofMilli) (maxL := 4) (ret := none) (by decide) rfl ?_
  intro p e s m args below meth c s₁ B hml hv
  obtain ⟨rfl, hsz, hDk, hE⟩ := hv
  have hx := B.exec
  have hb := B.bytes
  have hr := B.returns
  have hts := atoms_spec (ws := ws_ yX1_ofMilli cX1_ofMilli 4 none) B.pre
  have hts : ∀ w ∈ lw_all, w.before _ s = true := fun w h => hts w (List.mem_cons_of_mem _ h)
  have hown : s.vm.findClass RX1 = some m.cls := findClass_of_methodNamed B.named
  have hlocks := B.notSynchronized
  have hl := lv_entry ([.ref h0, .int x, .int hh, .int ll]) (n := 4) (Nat.le_of_ble_eq_true rfl)
  rw [lg_entry_eq]
  generalize (lg_sl ([.ref h0, .int x, .int hh, .int ll]) ++ List.replicate (4 - (lg_sl ([.ref h0, .int x, .int hh, .int ll])).length) Slot.unset).toArray = ls at hl ⊢
  have hl : lv_has ls 4 [(0, .ref h0), (1, .int x), (2, .int hh), (3, .int ll)] := hl
  subst hsz
  have hS : va_S (wd_A h1 s.heap.size) s.heap s.heap [] := va_S.rf
  have hK0 : va_K D wd_cl [] s := hDk.2.1.sub [] rfl
  have hE0 : wd_E ep (wd_N s.heap.size) s s.heap := wd_E.narrow hE (fun q h => Or.inr h)
  refine lv_aload_n hx hb dX1_ofMilli_0 rfl (lv_at hl 0 rfl) ?_
  refine va_get (D := D) (ci := 1) (v := .ref h1) (C := RX1) (T := TX1) (N := 1) hx hb hts in_X1 hown hDk.2.1 hDk.1 0 rfl rfl 0 (by decide) (hts _ q142) (fun _ h9 => h9) rfl dX1_ofMilli_1 ?_
  refine lv_iload_n hx hb dX1_ofMilli_4 rfl (lv_at hl 1 rfl) ?_
  refine lv_iconst (v := 1) hx hb dX1_ofMilli_5 (by decide) ?_
  refine lv_iand hx hb dX1_ofMilli_6 ?_
  refine lv_iload_n hx hb dX1_ofMilli_7 rfl (lv_at hl 2 rfl) ?_
  refine lv_i2l hx hb dX1_ofMilli_8 rfl ?_
  refine lv_bipush (v := 32) hx hb dX1_ofMilli_9 (by decide) ?_
  refine lv_lshl hx hb dX1_ofMilli_11 rfl ?_
  refine lv_iload_n hx hb dX1_ofMilli_12 rfl (lv_at hl 3 rfl) ?_
  refine lv_i2l hx hb dX1_ofMilli_13 rfl ?_
  refine lv_ldc2 hx hb hown (hts _ q153) dX1_ofMilli_14 ?_
  refine lv_land hx hb dX1_ofMilli_17 ?_
  refine lv_lor hx hb dX1_ofMilli_18 ?_
  change W p l e _ s m _ below meth c s.heap _ _ _ _ (F0 m 19 ls [.long (nu_hl hh ll), .int (x &&& 1), .ref h1])
  refine va_callr (va_runS (As := [.long (nu_hl hh ll)]) (rest := [.int (x &&& 1), .ref h1]) ⟨hx, hb, hml, hown, hts⟩ (met_ofEpochMilli l D ep s.heap.size (nu_hl hh ll)) (va_cwS 1 hts (lw_S q195 q196 q5 q197) rfl rfl rfl (by decide +kernel) ⟨Nat.le_of_ble_eq_true rfl, Nat.le_of_ble_eq_true rfl⟩) ⟨fun a U g mk q => ⟨q.1, q.2.1, va_K.moved (u := U) (U := U.calling g mk a) (Vm.Alike.refl U.vm) q.2.2.1, wd_E.moved (u := U) (U := U.calling g mk a) (Vm.Alike.refl U.vm) q.2.2.2⟩, fun U hU hW => ⟨rfl, by rw [hU], va_K.moved hW.alike hK0, by rw [hU]; exact wd_E.moved hW.alike hE0⟩⟩ rfl rfl hl.1 rfl (lv_room (Nat.le_of_ble_eq_true rfl)) dX1_ofMilli_19 ⟨Nat.le_of_ble_eq_true rfl, Nat.le_of_ble_eq_true rfl⟩) hS (fun q _ h => Or.inr h) (fun q h => Or.inr h) (fun u ra t H1 locs ht hvm hw hB hz1 hk1 hS => ?_)
  have hR : wd_I ra u.1 u.2 s H1 := by have h9 : wd_I ra u.1 u.2 t t.heap := hB; rw [ht] at h9; exact wd_I.moved hvm.symm h9
  have hDk1 : wd_Desk D h0 h1 cA f sec nan s H1 := hDk.kept (fun q hq => hk1 q hq (Nat.not_le.mpr hq))
  refine wd_ast (q := h1) (t0 := 0) hx hb hDk1.2.1 rfl hDk1.arr hR kw ew dX1_ofMilli_22 (fun H2 e2 z2 oq2 => ?_)
  have hDk2 := hDk1.store hne hR e2 oq2
  have hS2 := hS.put (k := w) z2 oq2 (Or.inl rfl)
  refine W.widen (k := 1) (n := 2) (Nat.le_of_ble_eq_true rfl) (Nat.le_of_ble_eq_true rfl) ?_
  exact W.vret hx hb hr (fun t ht hW => ⟨⟨(va_up f w (some ra), u.1, u.2), rfl, ⟨hw.1, hw.2⟩, by show wd_Desk _ _ _ _ _ _ _ t t.heap; rw [ht]; exact wd_Desk.moved hW.alike hDk2⟩, hS2.F ht⟩) hS2.2.2 dX1_ofMilli_23
set_option maxHeartbeats 4000000 in
set_option maxRecDepth 100000 in
/-- seconds(which, n) -/
theorem met_seconds (l : Launch) (D : va_G) (h0 h1 : Nat) (cA : ClassId) (f : Nat → Option Nat) (sec : Nat → Int64) (nan : Nat → Int32) (hne : h0 ≠ h1) (ep sz : Nat) (x : Int32) (w : Nat) (kw : w < 2) (ew : x &&& 1 = nI w) (kN : ∀ k : Nat, k < 2 → 0 ≤ (nan k).toInt ∧ (nan k).toInt < 1000000000) (n : Int32) : Met l yX1_seconds (ws_ yX1_seconds cX1_seconds 5 (some .boolean)) ({ frames := 7, cells := 1, slots := 2, locals := 153 }) (va_Pc [.ref h0, .int x, .int n] (fun U => U.heap.size = sz ∧ wd_Desk D h0 h1 cA f sec nan U U.heap ∧ wd_E ep (wd_A h1 sz) U U.heap)) (va_Qi (fun (r : Int32) (u : (Nat → Option Nat) × Int64 × Int32) => ((sec w).toInt ≤ 31000000000000000 ∧ -31000000000000000 ≤ (sec w).toInt → r = 1 ∧ u.2.1.toInt = (sec w).toInt + n.toInt ∧ u.2.2.toInt = (nan w).toInt) ∧ (¬ ((sec w).toInt ≤ 31000000000000000 ∧ -31000000000000000 ≤ (sec w).toInt) → r = 0 ∧ u.2.1 = sec w ∧ u.2.2 = nan w)) (fun u t => wd_Desk D h0 h1 cA u.1 (va_up sec w u.2.1) (va_up nan w u.2.2) t t.heap) (wd_A h1 sz)) 1 2 (wd_A h1 sz) := by
  refine Met.ofW (cc := cX1_seconds) (maxL := 5) (ret := (some .boolean)) (by decide) rfl ?_
  intro p e s m args below meth c s₁ B hml hv
  obtain ⟨rfl, hsz, hDk, hE⟩ := hv
  have hx := B.exec
  have hb := B.bytes
  have hr := B.returns
  have hts := atoms_spec (ws := ws_ yX1_seconds cX1_seconds 5 (some .boolean)) B.pre
  have hts : ∀ w ∈ lw_all, w.before _ s = true := fun w h => hts w (List.mem_cons_of_mem _ h)
  have hown : s.vm.findClass RX1 = some m.cls := findClass_of_methodNamed B.named
  have hlocks := B.notSynchronized
  have hl := lv_entry ([.ref h0, .int x, .int n]) (n := 5) (Nat.le_of_ble_eq_true rfl)
  rw [lg_entry_eq]
  generalize (lg_sl ([.ref h0, .int x, .int n]) ++ List.replicate (5 - (lg_sl ([.ref h0, .int x, .int n])).length) Slot.unset).toArray = ls at hl ⊢
  have hl : lv_has ls 5 [(0, .ref h0), (1, .int x), (2, .int n)] := hl
  subst hsz
  have hS : va_S (wd_A h1 s.heap.size) s.heap s.heap [] := va_S.rf
  have hK0 : va_K D wd_cl [] s := hDk.2.1.sub [] rfl
  have hE0 : wd_E ep (wd_N s.heap.size) s s.heap := wd_E.narrow hE (fun q h => Or.inr h)
  obtain ⟨a, hf, hI⟩ := hDk.2.2 w kw
  have l9 : (31000000000000000 : Int64).toInt = 31000000000000000 := by decide
  have l8 : (-31000000000000000 : Int64).toInt = -31000000000000000 := by decide
  have ln := n.le_toInt
  have gn := n.toInt_lt
  have en := Jvm.Kit.i64_of_i32 n
  refine lv_aload_n hx hb dX1_seconds_0 rfl (lv_at hl 0 rfl) ?_
  refine va_get (D := D) (ci := 1) (v := .ref h1) (C := RX1) (T := TX1) (N := 1) hx hb hts in_X1 hown hDk.2.1 hDk.1 0 rfl rfl 0 (by decide) (hts _ q142) (fun _ h9 => h9) rfl dX1_seconds_1 ?_
  refine lv_iload_n hx hb dX1_seconds_4 rfl (lv_at hl 1 rfl) ?_
  refine lv_iconst (v := 1) hx hb dX1_seconds_5 (by decide) ?_
  refine lv_iand hx hb dX1_seconds_6 ?_
  refine wd_ald hx hb hDk kw ew hf dX1_seconds_7 ?_
  refine vp_callSl (va_runV (As := []) (rest := []) ⟨hx, hb, hml, hown, hts⟩ (met_getEpochSecond l a (sec w) (nan w)) (cwV 0 hts (lw_V q159 q160 q161 q5 q162) rfl rfl rfl (by decide +kernel) ⟨Nat.le_of_ble_eq_true rfl, Nat.le_of_ble_eq_true rfl⟩) ⟨fun a U g mk q => ⟨q.1, wd_I.moved (u := U) (U := U.calling g mk a) (Vm.Alike.refl U.vm) q.2⟩, wd_recv hI, fun U hU hW => ⟨rfl, by show wd_I _ _ _ U U.heap; rw [hU]; exact wd_I.moved hW.alike hI⟩⟩ rfl rfl hl.1 rfl (lv_room (Nat.le_of_ble_eq_true rfl)) dX1_seconds_8 ⟨Nat.le_of_ble_eq_true rfl, Nat.le_of_ble_eq_true rfl⟩).run (fun v0 e0 => ?_)
  subst e0
  refine lv_topl (fun v1 ev1 => ?_)
  refine lv_lstore_n (lv' := [(3, .long v1), (0, .ref h0), (1, .int x), (2, .int n)]) hx hb dX1_seconds_11 rfl hl (by decide) rfl (fun ls hl => ?_)
  refine lv_lload_n hx hb dX1_seconds_12 rfl (lv_at hl 0 rfl) ?_
  refine lv_ldc2 hx hb hown (hts _ q154) dX1_seconds_13 ?_
  refine W.lcmp hx hb dX1_seconds_16 ?_
  refine lv_if_gt (tgt := 28) hx hb dX1_seconds_17 (by decide) (fun c1 => ?_) (fun c1 => ?_)
  · have gn2 : ¬ ((sec w).toInt ≤ 31000000000000000 ∧ -31000000000000000 ≤ (sec w).toInt) := by have h9 := (nu_gt _ _).mp c1; rw [ev1, l9] at h9; omega
    refine lv_iconst (v := 0) hx hb dX1_seconds_28 (by decide) ?_
    refine W.widen (k := 1) (n := 2) (Nat.le_of_ble_eq_true rfl) (Nat.le_of_ble_eq_true rfl) ?_
    exact W.zret (v := 0) hx hb hr rfl (fun t ht hW => ⟨⟨0, (f, sec w, nan w), rfl, ⟨fun q => absurd q gn2, fun _ => ⟨rfl, rfl, rfl⟩⟩, by show wd_Desk _ _ _ _ _ (va_up sec w (sec w)) (va_up nan w (nan w)) t t.heap; rw [ht, wd_up_same, wd_up_same]; exact wd_Desk.moved hW.alike hDk⟩, hS.F ht⟩) hS.2.2 dX1_seconds_29
  · have g1 : (sec w).toInt ≤ 31000000000000000 := by have h9 := nu_ngt c1; rw [ev1, l9] at h9; exact h9
    refine lv_lload_n hx hb dX1_seconds_20 rfl (lv_at hl 0 rfl) ?_
    refine lv_ldc2 hx hb hown (hts _ q163) dX1_seconds_21 ?_
    refine W.lcmp hx hb dX1_seconds_24 ?_
    refine lv_if_ge (tgt := 30) hx hb dX1_seconds_25 (by decide) (fun c2 => ?_) (fun c2 => ?_)
    · have g2 : -31000000000000000 ≤ (sec w).toInt := by have h9 := (nu_ge _ _).mp c2; rw [ev1, l8] at h9; exact h9
      refine lv_aload_n hx hb dX1_seconds_30 rfl (lv_at hl 1 rfl) ?_
      refine va_get (D := D) (ci := 1) (v := .ref h1) (C := RX1) (T := TX1) (N := 1) hx hb hts in_X1 hown hDk.2.1 hDk.1 0 rfl rfl 0 (by decide) (hts _ q142) (fun _ h9 => h9) rfl dX1_seconds_31 ?_
      refine lv_iload_n hx hb dX1_seconds_34 rfl (lv_at hl 2 rfl) ?_
      refine lv_iconst (v := 1) hx hb dX1_seconds_35 (by decide) ?_
      refine lv_iand hx hb dX1_seconds_36 ?_
      refine lv_aload_n hx hb dX1_seconds_37 rfl (lv_at hl 1 rfl) ?_
      refine va_get (D := D) (ci := 1) (v := .ref h1) (C := RX1) (T := TX1) (N := 1) hx hb hts in_X1 hown hDk.2.1 hDk.1 0 rfl rfl 0 (by decide) (hts _ q142) (fun _ h9 => h9) rfl dX1_seconds_38 ?_
      refine lv_iload_n hx hb dX1_seconds_41 rfl (lv_at hl 2 rfl) ?_
      refine lv_iconst (v := 1) hx hb dX1_seconds_42 (by decide) ?_
      refine lv_iand hx hb dX1_seconds_43 ?_
      refine wd_ald hx hb hDk kw ew hf dX1_seconds_44 ?_
      refine lv_iload_n hx hb dX1_seconds_45 rfl (lv_at hl 3 rfl) ?_
      refine lv_i2l hx hb dX1_seconds_46 rfl ?_
      refine va_callr (va_runV (As := [.long n.toInt64]) (rest := [.int (x &&& (1 : Int32)), .ref h1]) ⟨hx, hb, hml, hown, hts⟩ (met_plusSeconds l D ep s.heap.size a (sec w) (nan w) n.toInt64 (kN w kw).1 (kN w kw).2 g2 g1 (by omega) (by omega)) (cwV 1 hts (lw_V q164 q165 q166 q5 q167) rfl rfl rfl (by decide +kernel) ⟨Nat.le_of_ble_eq_true rfl, Nat.le_of_ble_eq_true rfl⟩) ⟨fun a U g mk q => ⟨q.1, q.2.1, va_K.moved (u := U) (U := U.calling g mk a) (Vm.Alike.refl U.vm) q.2.2.1, wd_E.moved (u := U) (U := U.calling g mk a) (Vm.Alike.refl U.vm) q.2.2.2.1, wd_I.moved (u := U) (U := U.calling g mk a) (Vm.Alike.refl U.vm) q.2.2.2.2⟩, wd_recv hI, fun U hU hW => ⟨rfl, by rw [hU], va_K.moved hW.alike hK0, by rw [hU]; exact wd_E.moved hW.alike hE0, by rw [hU]; exact wd_I.moved hW.alike hI⟩⟩ rfl rfl hl.1 rfl (lv_room (Nat.le_of_ble_eq_true rfl)) dX1_seconds_47 ⟨Nat.le_of_ble_eq_true rfl, Nat.le_of_ble_eq_true rfl⟩) hS (fun q _ h => Or.inr h) (fun q h => Or.inr h) (fun u ra t H1 locs ht hvm hw hB hz1 hk1 hS => ?_)
      have hR : wd_I ra u.1 u.2 s H1 := by have h9 : wd_I ra u.1 u.2 t t.heap := hB; rw [ht] at h9; exact wd_I.moved hvm.symm h9
      have hDk1 : wd_Desk D h0 h1 cA f sec nan s H1 := hDk.kept (fun q hq => hk1 q hq (Nat.not_le.mpr hq))
      refine wd_ast (q := h1) (t0 := 0) hx hb hDk1.2.1 rfl hDk1.arr hR kw ew dX1_seconds_50 (fun H2 e2 z2 oq2 => ?_)
      have hDk2 := hDk1.store hne hR e2 oq2
      have hS2 := hS.put (k := w) z2 oq2 (Or.inl rfl)
      have hp : u.1.toInt = (sec w).toInt + n.toInt ∧ u.2.toInt = (nan w).toInt := ⟨by rw [hw.1, en], by rw [hw.2]⟩
      refine lv_iconst (v := 1) hx hb dX1_seconds_51 (by decide) ?_
      refine W.widen (k := 1) (n := 2) (Nat.le_of_ble_eq_true rfl) (Nat.le_of_ble_eq_true rfl) ?_
      exact W.zret (v := 1) hx hb hr rfl (fun t ht hW => ⟨⟨1, (va_up f w (some ra), u.1, u.2), rfl, ⟨fun _ => ⟨rfl, hp.1, hp.2⟩, fun q => absurd ⟨g1, g2⟩ q⟩, by show wd_Desk _ _ _ _ _ _ _ t t.heap; rw [ht]; exact wd_Desk.moved hW.alike hDk2⟩, hS2.F ht⟩) hS2.2.2 dX1_seconds_52
    · have gn2 : ¬ ((sec w).toInt ≤ 31000000000000000 ∧ -31000000000000000 ≤ (sec w).toInt) := by have h9 := nu_nge c2; rw [ev1, l8] at h9; omega
      refine lv_iconst (v := 0) hx hb dX1_seconds_28 (by decide) ?_
      refine W.widen (k := 1) (n := 2) (Nat.le_of_ble_eq_true rfl) (Nat.le_of_ble_eq_true rfl) ?_
      exact W.zret (v := 0) hx hb hr rfl (fun t ht hW => ⟨⟨0, (f, sec w, nan w), rfl, ⟨fun q => absurd q gn2, fun _ => ⟨rfl, rfl, rfl⟩⟩, by show wd_Desk _ _ _ _ _ (va_up sec w (sec w)) (va_up nan w (nan w)) t t.heap; rw [ht, wd_up_same, wd_up_same]; exact wd_Desk.moved hW.alike hDk⟩, hS.F ht⟩) hS.2.2 dX1_seconds_29
set_option maxHeartbeats 4000000 in
set_option maxRecDepth 100000 in
/-- millis(which, n) -/
theorem met_millis (l : Launch) (D : va_G) (h0 h1 : Nat) (cA : ClassId) (f : Nat → Option Nat) (sec : Nat → Int64) (nan : Nat → Int32) (hne : h0 ≠ h1) (ep sz : Nat) (x : Int32) (w : Nat) (kw : w < 2) (ew : x &&& 1 = nI w) (kN : ∀ k : Nat, k < 2 → 0 ≤ (nan k).toInt ∧ (nan k).toInt < 1000000000) (n : Int32) : Met l yX1_millis (ws_ yX1_millis cX1_millis 5 (some .boolean)) ({ frames := 7, cells := 1, slots := 2, locals := 153 }) (va_Pc [.ref h0, .int x, .int n] (fun U => U.heap.size = sz ∧ wd_Desk D h0 h1 cA f sec nan U U.heap ∧ wd_E ep (wd_A h1 sz) U U.heap)) (va_Qi (fun (r : Int32) (u : (Nat → Option Nat) × Int64 × Int32) => ((sec w).toInt ≤ 31000000000000000 ∧ -31000000000000000 ≤ (sec w).toInt → r = 1 ∧ u.2.1.toInt = (sec w).toInt + ((nan w).toInt + n.toInt * 1000000) / 1000000000 ∧ u.2.2.toInt = ((nan w).toInt + n.toInt * 1000000) % 1000000000) ∧ (¬ ((sec w).toInt ≤ 31000000000000000 ∧ -31000000000000000 ≤ (sec w).toInt) → r = 0 ∧ u.2.1 = sec w ∧ u.2.2 = nan w)) (fun u t => wd_Desk D h0 h1 cA u.1 (va_up sec w u.2.1) (va_up nan w u.2.2) t t.heap) (wd_A h1 sz)) 1 2 (wd_A h1 sz) := by
  refine Met.ofW (cc := cX1_millis) (maxL := 5) (ret := (some .boolean)) (by decide) rfl ?_
  intro p e s m args below meth c s₁ B hml hv
  obtain ⟨rfl, hsz, hDk, hE⟩ := hv
  have hx := B.exec
  have hb := B.bytes
  have hr := B.returns
  have hts := atoms_spec (ws := ws_ yX1_millis cX1_millis 5 (some .boolean)) B.pre
  have hts : ∀ w ∈ lw_all, w.before _ s = true := fun w h => hts w (List.mem_cons_of_mem _ h)
  have hown : s.vm.findClass RX1 = some m.cls := findClass_of_methodNamed B.named
  have hlocks := B.notSynchronized
  have hl := lv_entry ([.ref h0, .int x, .int n]) (n := 5) (Nat.le_of_ble_eq_true rfl)
  rw [lg_entry_eq]
  generalize (lg_sl ([.ref h0, .int x, .int n]) ++ List.replicate (5 - (lg_sl ([.ref h0, .int x, .int n])).length) Slot.unset).toArray = ls at hl ⊢
  have hl : lv_has ls 5 [(0, .ref h0), (1, .int x), (2, .int n)] := hl
  subst hsz
  have hS : va_S (wd_A h1 s.heap.size) s.heap s.heap [] := va_S.rf
  have hK0 : va_K D wd_cl [] s := hDk.2.1.sub [] rfl
  have hE0 : wd_E ep (wd_N s.heap.size) s s.heap := wd_E.narrow hE (fun q h => Or.inr h)
  obtain ⟨a, hf, hI⟩ := hDk.2.2 w kw
  have l9 : (31000000000000000 : Int64).toInt = 31000000000000000 := by decide
  have l8 : (-31000000000000000 : Int64).toInt = -31000000000000000 := by decide
  have ln := n.le_toInt
  have gn := n.toInt_lt
  have en := Jvm.Kit.i64_of_i32 n
  refine lv_aload_n hx hb dX1_millis_0 rfl (lv_at hl 0 rfl) ?_
  refine va_get (D := D) (ci := 1) (v := .ref h1) (C := RX1) (T := TX1) (N := 1) hx hb hts in_X1 hown hDk.2.1 hDk.1 0 rfl rfl 0 (by decide) (hts _ q142) (fun _ h9 => h9) rfl dX1_millis_1 ?_
  refine lv_iload_n hx hb dX1_millis_4 rfl (lv_at hl 1 rfl) ?_
  refine lv_iconst (v := 1) hx hb dX1_millis_5 (by decide) ?_
  refine lv_iand hx hb dX1_millis_6 ?_
  refine wd_ald hx hb hDk kw ew hf dX1_millis_7 ?_
  refine vp_callSl (va_runV (As := []) (rest := []) ⟨hx, hb, hml, hown, hts⟩ (met_getEpochSecond l a (sec w) (nan w)) (cwV 0 hts (lw_V q159 q160 q161 q5 q162) rfl rfl rfl (by decide +kernel) ⟨Nat.le_of_ble_eq_true rfl, Nat.le_of_ble_eq_true rfl⟩) ⟨fun a U g mk q => ⟨q.1, wd_I.moved (u := U) (U := U.calling g mk a) (Vm.Alike.refl U.vm) q.2⟩, wd_recv hI, fun U hU hW => ⟨rfl, by show wd_I _ _ _ U U.heap; rw [hU]; exact wd_I.moved hW.alike hI⟩⟩ rfl rfl hl.1 rfl (lv_room (Nat.le_of_ble_eq_true rfl)) dX1_millis_8 ⟨Nat.le_of_ble_eq_true rfl, Nat.le_of_ble_eq_true rfl⟩).run (fun v0 e0 => ?_)
  subst e0
  refine lv_topl (fun v1 ev1 => ?_)
  refine lv_lstore_n (lv' := [(3, .long v1), (0, .ref h0), (1, .int x), (2, .int n)]) hx hb dX1_millis_11 rfl hl (by decide) rfl (fun ls hl => ?_)
  refine lv_lload_n hx hb dX1_millis_12 rfl (lv_at hl 0 rfl) ?_
  refine lv_ldc2 hx hb hown (hts _ q154) dX1_millis_13 ?_
  refine W.lcmp hx hb dX1_millis_16 ?_
  refine lv_if_gt (tgt := 28) hx hb dX1_millis_17 (by decide) (fun c1 => ?_) (fun c1 => ?_)
  · have gn2 : ¬ ((sec w).toInt ≤ 31000000000000000 ∧ -31000000000000000 ≤ (sec w).toInt) := by have h9 := (nu_gt _ _).mp c1; rw [ev1, l9] at h9; omega
    refine lv_iconst (v := 0) hx hb dX1_millis_28 (by decide) ?_
    refine W.widen (k := 1) (n := 2) (Nat.le_of_ble_eq_true rfl) (Nat.le_of_ble_eq_true rfl) ?_
    exact W.zret (v := 0) hx hb hr rfl (fun t ht hW => ⟨⟨0, (f, sec w, nan w), rfl, ⟨fun q => absurd q gn2, fun _ => ⟨rfl, rfl, rfl⟩⟩, by show wd_Desk _ _ _ _ _ (va_up sec w (sec w)) (va_up nan w (nan w)) t t.heap; rw [ht, wd_up_same, wd_up_same]; exact wd_Desk.moved hW.alike hDk⟩, hS.F ht⟩) hS.2.2 dX1_millis_29
  · have g1 : (sec w).toInt ≤ 31000000000000000 := by have h9 := nu_ngt c1; rw [ev1, l9] at h9; exact h9
    refine lv_lload_n hx hb dX1_millis_20 rfl (lv_at hl 0 rfl) ?_
    refine lv_ldc2 hx hb hown (hts _ q163) dX1_millis_21 ?_
    refine W.lcmp hx hb dX1_millis_24 ?_
    refine lv_if_ge (tgt := 30) hx hb dX1_millis_25 (by decide) (fun c2 => ?_) (fun c2 => ?_)
    · have g2 : -31000000000000000 ≤ (sec w).toInt := by have h9 := (nu_ge _ _).mp c2; rw [ev1, l8] at h9; exact h9
      refine lv_aload_n hx hb dX1_millis_30 rfl (lv_at hl 1 rfl) ?_
      refine va_get (D := D) (ci := 1) (v := .ref h1) (C := RX1) (T := TX1) (N := 1) hx hb hts in_X1 hown hDk.2.1 hDk.1 0 rfl rfl 0 (by decide) (hts _ q142) (fun _ h9 => h9) rfl dX1_millis_31 ?_
      refine lv_iload_n hx hb dX1_millis_34 rfl (lv_at hl 2 rfl) ?_
      refine lv_iconst (v := 1) hx hb dX1_millis_35 (by decide) ?_
      refine lv_iand hx hb dX1_millis_36 ?_
      refine lv_aload_n hx hb dX1_millis_37 rfl (lv_at hl 1 rfl) ?_
      refine va_get (D := D) (ci := 1) (v := .ref h1) (C := RX1) (T := TX1) (N := 1) hx hb hts in_X1 hown hDk.2.1 hDk.1 0 rfl rfl 0 (by decide) (hts _ q142) (fun _ h9 => h9) rfl dX1_millis_38 ?_
      refine lv_iload_n hx hb dX1_millis_41 rfl (lv_at hl 2 rfl) ?_
      refine lv_iconst (v := 1) hx hb dX1_millis_42 (by decide) ?_
      refine lv_iand hx hb dX1_millis_43 ?_
      refine wd_ald hx hb hDk kw ew hf dX1_millis_44 ?_
      refine lv_iload_n hx hb dX1_millis_45 rfl (lv_at hl 3 rfl) ?_
      refine lv_i2l hx hb dX1_millis_46 rfl ?_
      refine va_callr (va_runV (As := [.long n.toInt64]) (rest := [.int (x &&& (1 : Int32)), .ref h1]) ⟨hx, hb, hml, hown, hts⟩ (met_plusMillis l D ep s.heap.size a (sec w) (nan w) n.toInt64 (kN w kw).1 (kN w kw).2 g2 g1 (by omega) (by omega)) (cwV 1 hts (lw_V q177 q178 q179 q5 q180) rfl rfl rfl (by decide +kernel) ⟨Nat.le_of_ble_eq_true rfl, Nat.le_of_ble_eq_true rfl⟩) ⟨fun a U g mk q => ⟨q.1, q.2.1, va_K.moved (u := U) (U := U.calling g mk a) (Vm.Alike.refl U.vm) q.2.2.1, wd_E.moved (u := U) (U := U.calling g mk a) (Vm.Alike.refl U.vm) q.2.2.2.1, wd_I.moved (u := U) (U := U.calling g mk a) (Vm.Alike.refl U.vm) q.2.2.2.2⟩, wd_recv hI, fun U hU hW => ⟨rfl, by rw [hU], va_K.moved hW.alike hK0, by rw [hU]; exact wd_E.moved hW.alike hE0, by rw [hU]; exact wd_I.moved hW.alike hI⟩⟩ rfl rfl hl.1 rfl (lv_room (Nat.le_of_ble_eq_true rfl)) dX1_millis_47 ⟨Nat.le_of_ble_eq_true rfl, Nat.le_of_ble_eq_true rfl⟩) hS (fun q _ h => Or.inr h) (fun q h => Or.inr h) (fun u ra t H1 locs ht hvm hw hB hz1 hk1 hS => ?_)
      have hR : wd_I ra u.1 u.2 s H1 := by have h9 : wd_I ra u.1 u.2 t t.heap := hB; rw [ht] at h9; exact wd_I.moved hvm.symm h9
      have hDk1 : wd_Desk D h0 h1 cA f sec nan s H1 := hDk.kept (fun q hq => hk1 q hq (Nat.not_le.mpr hq))
      refine wd_ast (q := h1) (t0 := 0) hx hb hDk1.2.1 rfl hDk1.arr hR kw ew dX1_millis_50 (fun H2 e2 z2 oq2 => ?_)
      have hDk2 := hDk1.store hne hR e2 oq2
      have hS2 := hS.put (k := w) z2 oq2 (Or.inl rfl)
      have hp : u.1.toInt = (sec w).toInt + ((nan w).toInt + n.toInt * 1000000) / 1000000000 ∧ u.2.toInt = ((nan w).toInt + n.toInt * 1000000) % 1000000000 := ⟨by rw [hw.1, en], by rw [hw.2, en]⟩
      refine lv_iconst (v := 1) hx hb dX1_millis_51 (by decide) ?_
      refine W.widen (k := 1) (n := 2) (Nat.le_of_ble_eq_true rfl) (Nat.le_of_ble_eq_true rfl) ?_
      exact W.zret (v := 1) hx hb hr rfl (fun t ht hW => ⟨⟨1, (va_up f w (some ra), u.1, u.2), rfl, ⟨fun _ => ⟨rfl, hp.1, hp.2⟩, fun q => absurd ⟨g1, g2⟩ q⟩, by show wd_Desk _ _ _ _ _ _ _ t t.heap; rw [ht]; exact wd_Desk.moved hW.alike hDk2⟩, hS2.F ht⟩) hS2.2.2 dX1_millis_52
    · have gn2 : ¬ ((sec w).toInt ≤ 31000000000000000 ∧ -31000000000000000 ≤ (sec w).toInt) := by have h9 := nu_nge c2; rw [ev1, l8] at h9; omega
      refine lv_iconst (v := 0) hx hb dX1_millis_28 (by decide) ?_
      refine W.widen (k := 1) (n := 2) (Nat.le_of_ble_eq_true rfl) (Nat.le_of_ble_eq_true rfl) ?_
      exact W.zret (v := 0) hx hb hr rfl (fun t ht hW => ⟨⟨0, (f, sec w, nan w), rfl, ⟨fun q => absurd q gn2, fun _ => ⟨rfl, rfl, rfl⟩⟩, by show wd_Desk _ _ _ _ _ (va_up sec w (sec w)) (va_up nan w (nan w)) t t.heap; rw [ht, wd_up_same, wd_up_same]; exact wd_Desk.moved hW.alike hDk⟩, hS.F ht⟩) hS.2.2 dX1_millis_29
set_option maxHeartbeats 4000000 in
set_option maxRecDepth 100000 in
/-- nanos(which, n) -/
theorem met_nanos (l : Launch) (D : va_G) (h0 h1 : Nat) (cA : ClassId) (f : Nat → Option Nat) (sec : Nat → Int64) (nan : Nat → Int32) (hne : h0 ≠ h1) (ep sz : Nat) (x : Int32) (w : Nat) (kw : w < 2) (ew : x &&& 1 = nI w) (kN : ∀ k : Nat, k < 2 → 0 ≤ (nan k).toInt ∧ (nan k).toInt < 1000000000) (n : Int32) : Met l yX1_nanos (ws_ yX1_nanos cX1_nanos 5 (some .boolean)) ({ frames := 7, cells := 1, slots := 2, locals := 153 }) (va_Pc [.ref h0, .int x, .int n] (fun U => U.heap.size = sz ∧ wd_Desk D h0 h1 cA f sec nan U U.heap ∧ wd_E ep (wd_A h1 sz) U U.heap)) (va_Qi (fun (r : Int32) (u : (Nat → Option Nat) × Int64 × Int32) => ((sec w).toInt ≤ 31000000000000000 ∧ -31000000000000000 ≤ (sec w).toInt → r = 1 ∧ u.2.1.toInt = (sec w).toInt + ((nan w).toInt + n.toInt) / 1000000000 ∧ u.2.2.toInt = ((nan w).toInt + n.toInt) % 1000000000) ∧ (¬ ((sec w).toInt ≤ 31000000000000000 ∧ -31000000000000000 ≤ (sec w).toInt) → r = 0 ∧ u.2.1 = sec w ∧ u.2.2 = nan w)) (fun u t => wd_Desk D h0 h1 cA u.1 (va_up sec w u.2.1) (va_up nan w u.2.2) t t.heap) (wd_A h1 sz)) 1 2 (wd_A h1 sz) := by
  refine Met.ofW (cc := cX1_nanos) (maxL := 5) (ret := (some .boolean)) (by decide) rfl ?_
  intro p e s m args below meth c s₁ B hml hv
  obtain ⟨rfl, hsz, hDk, hE⟩ := hv
  have hx := B.exec
  have hb := B.bytes
  have hr := B.returns
  have hts := atoms_spec (ws := ws_ yX1_nanos cX1_nanos 5 (some .boolean)) B.pre
  have hts : ∀ w ∈ lw_all, w.before _ s = true := fun w h => hts w (List.mem_cons_of_mem _ h)
  have hown : s.vm.findClass RX1 = some m.cls := findClass_of_methodNamed B.named
  have hlocks := B.notSynchronized
  have hl := lv_entry ([.ref h0, .int x, .int n]) (n := 5) (Nat.le_of_ble_eq_true rfl)
  rw [lg_entry_eq]
  generalize (lg_sl ([.ref h0, .int x, .int n]) ++ List.replicate (5 - (lg_sl ([.ref h0, .int x, .int n])).length) Slot.unset).toArray = ls at hl ⊢
  have hl : lv_has ls 5 [(0, .ref h0), (1, .int x), (2, .int n)] := hl
  subst hsz
  have hS : va_S (wd_A h1 s.heap.size) s.heap s.heap [] := va_S.rf
  have hK0 : va_K D wd_cl [] s := hDk.2.1.sub [] rfl
  have hE0 : wd_E ep (wd_N s.heap.size) s s.heap := wd_E.narrow hE (fun q h => Or.inr h)
  obtain ⟨a, hf, hI⟩ := hDk.2.2 w kw
  have l9 : (31000000000000000 : Int64).toInt = 31000000000000000 := by decide
  have l8 : (-31000000000000000 : Int64).toInt = -31000000000000000 := by decide
  have ln := n.le_toInt
  have gn := n.toInt_lt
  have en := Jvm.Kit.i64_of_i32 n
  refine lv_aload_n hx hb dX1_nanos_0 rfl (lv_at hl 0 rfl) ?_
  refine va_get (D := D) (ci := 1) (v := .ref h1) (C := RX1) (T := TX1) (N := 1) hx hb hts in_X1 hown hDk.2.1 hDk.1 0 rfl rfl 0 (by decide) (hts _ q142) (fun _ h9 => h9) rfl dX1_nanos_1 ?_
  refine lv_iload_n hx hb dX1_nanos_4 rfl (lv_at hl 1 rfl) ?_
  refine lv_iconst (v := 1) hx hb dX1_nanos_5 (by decide) ?_
  refine lv_iand hx hb dX1_nanos_6 ?_
  refine wd_ald hx hb hDk kw ew hf dX1_nanos_7 ?_
  refine vp_callSl (va_runV (As := []) (rest := []) ⟨hx, hb, hml, hown, hts⟩ (met_getEpochSecond l a (sec w) (nan w)) (cwV 0 hts (lw_V q159 q160 q161 q5 q162) rfl rfl rfl (by decide +kernel) ⟨Nat.le_of_ble_eq_true rfl, Nat.le_of_ble_eq_true rfl⟩) ⟨fun a U g mk q => ⟨q.1, wd_I.moved (u := U) (U := U.calling g mk a) (Vm.Alike.refl U.vm) q.2⟩, wd_recv hI, fun U hU hW => ⟨rfl, by show wd_I _ _ _ U U.heap; rw [hU]; exact wd_I.moved hW.alike hI⟩⟩ rfl rfl hl.1 rfl (lv_room (Nat.le_of_ble_eq_true rfl)) dX1_nanos_8 ⟨Nat.le_of_ble_eq_true rfl, Nat.le_of_ble_eq_true rfl⟩).run (fun v0 e0 => ?_)
  subst e0
  refine lv_topl (fun v1 ev1 => ?_)
  refine lv_lstore_n (lv' := [(3, .long v1), (0, .ref h0), (1, .int x), (2, .int n)]) hx hb dX1_nanos_11 rfl hl (by decide) rfl (fun ls hl => ?_)
  refine lv_lload_n hx hb dX1_nanos_12 rfl (lv_at hl 0 rfl) ?_
  refine lv_ldc2 hx hb hown (hts _ q154) dX1_nanos_13 ?_
  refine W.lcmp hx hb dX1_nanos_16 ?_
  refine lv_if_gt (tgt := 28) hx hb dX1_nanos_17 (by decide) (fun c1 => ?_) (fun c1 => ?_)
  · have gn2 : ¬ ((sec w).toInt ≤ 31000000000000000 ∧ -31000000000000000 ≤ (sec w).toInt) := by have h9 := (nu_gt _ _).mp c1; rw [ev1, l9] at h9; omega
    refine lv_iconst (v := 0) hx hb dX1_nanos_28 (by decide) ?_
    refine W.widen (k := 1) (n := 2) (Nat.le_of_ble_eq_true rfl) (Nat.le_of_ble_eq_true rfl) ?_
    exact W.zret (v := 0) hx hb hr rfl (fun t ht hW => ⟨⟨0, (f, sec w, nan w), rfl, ⟨fun q => absurd q gn2, fun _ => ⟨rfl, rfl, rfl⟩⟩, by show wd_Desk _ _ _ _ _ (va_up sec w (sec w)) (va_up nan w (nan w)) t t.heap; rw [ht, wd_up_same, wd_up_same]; exact wd_Desk.moved hW.alike hDk⟩, hS.F ht⟩) hS.2.2 dX1_nanos_29
  · have g1 : (sec w).toInt ≤ 31000000000000000 := by have h9 := nu_ngt c1; rw [ev1, l9] at h9; exact h9
    refine lv_lload_n hx hb dX1_nanos_20 rfl (lv_at hl 0 rfl) ?_
    refine lv_ldc2 hx hb hown (hts _ q163) dX1_nanos_21 ?_
    refine W.lcmp hx hb dX1_nanos_24 ?_
    refine lv_if_ge (tgt := 30) hx hb dX1_nanos_25 (by decide) (fun c2 => ?_) (fun c2 => ?_)
    · have g2 : -31000000000000000 ≤ (sec w).toInt := by have h9 := (nu_ge _ _).mp c2; rw [ev1, l8] at h9; exact h9
      refine lv_aload_n hx hb dX1_nanos_30 rfl (lv_at hl 1 rfl) ?_
      refine va_get (D := D) (ci := 1) (v := .ref h1) (C := RX1) (T := TX1) (N := 1) hx hb hts in_X1 hown hDk.2.1 hDk.1 0 rfl rfl 0 (by decide) (hts _ q142) (fun _ h9 => h9) rfl dX1_nanos_31 ?_
      refine lv_iload_n hx hb dX1_nanos_34 rfl (lv_at hl 2 rfl) ?_
      refine lv_iconst (v := 1) hx hb dX1_nanos_35 (by decide) ?_
      refine lv_iand hx hb dX1_nanos_36 ?_
      refine lv_aload_n hx hb dX1_nanos_37 rfl (lv_at hl 1 rfl) ?_
      refine va_get (D := D) (ci := 1) (v := .ref h1) (C := RX1) (T := TX1) (N := 1) hx hb hts in_X1 hown hDk.2.1 hDk.1 0 rfl rfl 0 (by decide) (hts _ q142) (fun _ h9 => h9) rfl dX1_nanos_38 ?_
      refine lv_iload_n hx hb dX1_nanos_41 rfl (lv_at hl 2 rfl) ?_
      refine lv_iconst (v := 1) hx hb dX1_nanos_42 (by decide) ?_
      refine lv_iand hx hb dX1_nanos_43 ?_
      refine wd_ald hx hb hDk kw ew hf dX1_nanos_44 ?_
      refine lv_iload_n hx hb dX1_nanos_45 rfl (lv_at hl 3 rfl) ?_
      refine lv_i2l hx hb dX1_nanos_46 rfl ?_
      refine va_callr (va_runV (As := [.long n.toInt64]) (rest := [.int (x &&& (1 : Int32)), .ref h1]) ⟨hx, hb, hml, hown, hts⟩ (met_plusNanos l D ep s.heap.size a (sec w) (nan w) n.toInt64 (kN w kw).1 (kN w kw).2 g2 g1 (by omega) (by omega)) (cwV 1 hts (lw_V q187 q188 q189 q5 q190) rfl rfl rfl (by decide +kernel) ⟨Nat.le_of_ble_eq_true rfl, Nat.le_of_ble_eq_true rfl⟩) ⟨fun a U g mk q => ⟨q.1, q.2.1, va_K.moved (u := U) (U := U.calling g mk a) (Vm.Alike.refl U.vm) q.2.2.1, wd_E.moved (u := U) (U := U.calling g mk a) (Vm.Alike.refl U.vm) q.2.2.2.1, wd_I.moved (u := U) (U := U.calling g mk a) (Vm.Alike.refl U.vm) q.2.2.2.2⟩, wd_recv hI, fun U hU hW => ⟨rfl, by rw [hU], va_K.moved hW.alike hK0, by rw [hU]; exact wd_E.moved hW.alike hE0, by rw [hU]; exact wd_I.moved hW.alike hI⟩⟩ rfl rfl hl.1 rfl (lv_room (Nat.le_of_ble_eq_true rfl)) dX1_nanos_47 ⟨Nat.le_of_ble_eq_true rfl, Nat.le_of_ble_eq_true rfl⟩) hS (fun q _ h => Or.inr h) (fun q h => Or.inr h) (fun u ra t H1 locs ht hvm hw hB hz1 hk1 hS => ?_)
      have hR : wd_I ra u.1 u.2 s H1 := by have h9 : wd_I ra u.1 u.2 t t.heap := hB; rw [ht] at h9; exact wd_I.moved hvm.symm h9
      have hDk1 : wd_Desk D h0 h1 cA f sec nan s H1 := hDk.kept (fun q hq => hk1 q hq (Nat.not_le.mpr hq))
      refine wd_ast (q := h1) (t0 := 0) hx hb hDk1.2.1 rfl hDk1.arr hR kw ew dX1_nanos_50 (fun H2 e2 z2 oq2 => ?_)
      have hDk2 := hDk1.store hne hR e2 oq2
      have hS2 := hS.put (k := w) z2 oq2 (Or.inl rfl)
      have hp : u.1.toInt = (sec w).toInt + ((nan w).toInt + n.toInt) / 1000000000 ∧ u.2.toInt = ((nan w).toInt + n.toInt) % 1000000000 := ⟨by rw [hw.1, en], by rw [hw.2, en]⟩
      refine lv_iconst (v := 1) hx hb dX1_nanos_51 (by decide) ?_
      refine W.widen (k := 1) (n := 2) (Nat.le_of_ble_eq_true rfl) (Nat.le_of_ble_eq_true rfl) ?_
      exact W.zret (v := 1) hx hb hr rfl (fun t ht hW => ⟨⟨1, (va_up f w (some ra), u.1, u.2), rfl, ⟨fun _ => ⟨rfl, hp.1, hp.2⟩, fun q => absurd ⟨g1, g2⟩ q⟩, by show wd_Desk _ _ _ _ _ _ _ t t.heap; rw [ht]; exact wd_Desk.moved hW.alike hDk2⟩, hS2.F ht⟩) hS2.2.2 dX1_nanos_52
    · have gn2 : ¬ ((sec w).toInt ≤ 31000000000000000 ∧ -31000000000000000 ≤ (sec w).toInt) := by have h9 := nu_nge c2; rw [ev1, l8] at h9; omega
      refine lv_iconst (v := 0) hx hb dX1_nanos_28 (by decide) ?_
      refine W.widen (k := 1) (n := 2) (Nat.le_of_ble_eq_true rfl) (Nat.le_of_ble_eq_true rfl) ?_
      exact W.zret (v := 0) hx hb hr rfl (fun t ht hW => ⟨⟨0, (f, sec w, nan w), rfl, ⟨fun q => absurd q gn2, fun _ => ⟨rfl, rfl, rfl⟩⟩, by show wd_Desk _ _ _ _ _ (va_up sec w (sec w)) (va_up nan w (nan w)) t t.heap; rw [ht, wd_up_same, wd_up_same]; exact wd_Desk.moved hW.alike hDk⟩, hS.F ht⟩) hS.2.2 dX1_nanos_29
set_option maxHeartbeats 4000000 in
set_option maxRecDepth 100000 in
/-- InstantDesk(): two times EPOCH -/
theorem met_deskInit (l : Launch) (D : va_G) (h0 ep sz : Nat) : Met l yX1_init (ws_ yX1_init cX1_init 1 none) ({ frames := 5, cells := 3, slots := 6, locals := 103 }) (va_Pc [.ref h0] (fun U => U.heap.size = sz ∧ va_P D wd_cl [(h0, .inr (1, [.null]))] U.heap ∧ va_K D wd_cl [] U ∧ wd_E ep (wd_A h0 sz) U U.heap ∧ va_AO "Instant" U)) (va_Qv (fun u : Nat × ClassId × (Nat → Option Nat) => sz ≤ u.1) (fun u t => wd_Desk D h0 u.1 u.2.1 u.2.2 (fun _ => 0) (fun _ => 0) t t.heap) (wd_A h0 sz)) 3 6 (wd_A h0 sz) := by
  refine Met.ofW (cc := cX1_init) (maxL := 1) (ret := none) (by decide) rfl ?_
  intro p e s m args below meth c s₁ B hml hv
  obtain ⟨rfl, hsz, hP, hK, hE, hO⟩ := hv
  have hx := B.exec
  have hb := B.bytes
  have hr := B.returns
  have hts := atoms_spec (ws := ws_ yX1_init cX1_init 1 none) B.pre
  have hts : ∀ w ∈ lw_all, w.before _ s = true := fun w h => hts w (List.mem_cons_of_mem _ h)
  have hown : s.vm.findClass RX1 = some m.cls := findClass_of_methodNamed B.named
  have hlocks := B.notSynchronized
  have hin : meth.name = "<init>" := (name_of_methodNamed B.named B.method).1
  have hl := lv_entry ([.ref h0]) (n := 1) (Nat.le_of_ble_eq_true rfl)
  rw [lg_entry_eq]
  generalize (lg_sl ([.ref h0]) ++ List.replicate (1 - (lg_sl ([.ref h0])).length) Slot.unset).toArray = ls at hl ⊢
  have hl : lv_has ls 1 [(0, .ref h0)] := hl
  subst hsz
  have hS : va_S (wd_A h0 s.heap.size) s.heap s.heap [] := va_S.rf
  have hD : va_D (wd_A h0 s.heap.size) [(h0, .inr (1, [.null]))] := wd_D1 (Or.inl rfl)
  refine lv_aload_n hx hb dX1_init_0 rfl (lv_at hl 0 rfl) ?_
  refine W.objInit hx hb hown (hts _ q17) (hts _ q18) (hts _ q19) rfl (by rw [hml]; exact hl.1) rfl dX1_init_1 (Nat.le_of_ble_eq_true rfl) (Nat.le_of_ble_eq_true rfl) ?_
  refine W.eq (g2 := F0 m 4 ls []) rfl ?_
  refine lv_aload_n hx hb dX1_init_4 rfl (lv_at hl 0 rfl) ?_
  refine lv_iconst (v := 2) hx hb dX1_init_5 (by decide) ?_
  refine va_newq (C := "Instant") (n := 2) (N' := 2) hx hb hown (hts _ q20) hO hK hP hD hS (fun q h => Or.inr h) (by decide) (by decide) (by decide) (Nat.le_of_ble_eq_true rfl) (Nat.le_of_ble_eq_true rfl) dX1_init_6 (fun q1 cA H hK hP hD hS => ?_)
  have hne : h0 ≠ q1 := fun h => absurd (hD.1 0 1 (h0, .inr (1, [.null])) (q1, .inl (cA, 2, .inr (.inr (.inr (.inr (fun _ => none)))))) rfl rfl h) (by decide)
  have hq1 : s.heap.size ≤ q1 := (hD.2 1 (q1, .inl (cA, 2, .inr (.inr (.inr (.inr (fun _ => none)))))) rfl).resolve_left hne.symm
  have hAr : ArrOfT s cA (.object "Instant") := (hK.2 0 _ rfl).1
  have hc0 : H[q1]? = some (vp_cell cA (2, .inr (.inr (.inr (.inr (fun _ => none)))))) := hP 1 _ rfl
  have ho0 : va_at D wd_cl (h0, .inr (1, [.null])) H := hP 0 _ rfl
  have hq1l : q1 < H.size := (hP 1 _ rfl).lt
  have hh0l : h0 < H.size := ho0.lt
  have hK0 : va_K D wd_cl [] s := hK.sub [] rfl
  refine lv_dup hx hb dX1_init_9 rfl ?_
  refine lv_iconst (v := 0) hx hb dX1_init_10 (by decide) ?_
  refine lv_lconst (v := 0) hx hb dX1_init_11 (by decide) ?_
  refine lv_lconst (v := 0) hx hb dX1_init_12 (by decide) ?_
  have hE1 : wd_E ep (wd_N H.size) s H := wd_E.narrow (wd_E.kept hE hS.2.1) (fun q h => Or.inr (Nat.le_trans hS.1 h))
  refine va_callr (va_runS (As := [.long (0 : Int64), .long (0 : Int64)]) (rest := [.int (0 : Int32), .ref q1, .ref q1, .ref h0]) ⟨hx, hb, hml, hown, hts⟩ (met_ofEpochSecond l D ep H.size 0 0 (by decide) (by decide)) (va_cwS 2 hts (lw_S q22 q23 q5 q24) rfl rfl rfl (by decide +kernel) ⟨Nat.le_of_ble_eq_true rfl, Nat.le_of_ble_eq_true rfl⟩) ⟨fun a U g mk q => ⟨q.1, q.2.1, va_K.moved (u := U) (U := U.calling g mk a) (Vm.Alike.refl U.vm) q.2.2.1, wd_E.moved (u := U) (U := U.calling g mk a) (Vm.Alike.refl U.vm) q.2.2.2⟩, fun U hU hW => ⟨rfl, by rw [hU], va_K.moved hW.alike hK0, by rw [hU]; exact wd_E.moved hW.alike hE1⟩⟩ rfl rfl hl.1 rfl (lv_room (Nat.le_of_ble_eq_true rfl)) dX1_init_13 ⟨Nat.le_of_ble_eq_true rfl, Nat.le_of_ble_eq_true rfl⟩) hS (fun q _ h => Or.inr (Nat.le_trans hS.1 h)) (fun q h => Or.inr (Nat.le_trans hS.1 h)) (fun u1 ra1 t H1 locs ht hvm hw hB hz1 hk1 hS => ?_)
  have hR1 : wd_I ra1 0 0 s H1 := by
    have h9 : wd_I ra1 u1.1 u1.2 t t.heap := hB
    have g1 : u1.1 = 0 := Int64.toInt_inj.mp (by rw [hw.1]; decide)
    have g2 : u1.2 = 0 := Int32.toInt_inj.mp (by rw [hw.2]; decide)
    rw [ht, g1, g2] at h9
    exact wd_I.moved hvm.symm h9
  have hc1 := (hk1 q1 hq1l (Nat.not_le.mpr hq1l)).trans hc0
  have ho1 := ho0.kept (hk1 h0 hh0l (Nat.not_le.mpr hh0l))
  refine wd_ast (q := q1) (t0 := 0) (w := 0) hx hb hK rfl hc1 hR1 (by decide) rfl dX1_init_16 (fun H2 e2 z2 oq2 => ?_)
  have hS := hS.put (k := 0) z2 oq2 (Or.inr hq1)
  have hR2 := hR1.kept (oq2 ra1 (wd_neArr hK hR1 hc1 hAr))
  have ho2 := ho1.kept (oq2 h0 hne)
  have hq2l : q1 < H2.size := (Array.getElem?_eq_some_iff.mp e2).1
  have hh2l : h0 < H2.size := ho2.lt
  have hE2 : wd_E ep (wd_N H2.size) s H2 := wd_E.narrow (wd_E.kept hE hS.2.1) (fun q h => Or.inr (Nat.le_trans hS.1 h))
  refine lv_dup hx hb dX1_init_17 rfl ?_
  refine lv_iconst (v := 1) hx hb dX1_init_18 (by decide) ?_
  refine lv_lconst (v := 0) hx hb dX1_init_19 (by decide) ?_
  refine lv_lconst (v := 0) hx hb dX1_init_20 (by decide) ?_
  refine va_callr (va_runS (As := [.long (0 : Int64), .long (0 : Int64)]) (rest := [.int (1 : Int32), .ref q1, .ref q1, .ref h0]) ⟨hx, hb, hml, hown, hts⟩ (met_ofEpochSecond l D ep H2.size 0 0 (by decide) (by decide)) (va_cwS 2 hts (lw_S q22 q23 q5 q24) rfl rfl rfl (by decide +kernel) ⟨Nat.le_of_ble_eq_true rfl, Nat.le_of_ble_eq_true rfl⟩) ⟨fun a U g mk q => ⟨q.1, q.2.1, va_K.moved (u := U) (U := U.calling g mk a) (Vm.Alike.refl U.vm) q.2.2.1, wd_E.moved (u := U) (U := U.calling g mk a) (Vm.Alike.refl U.vm) q.2.2.2⟩, fun U hU hW => ⟨rfl, by rw [hU], va_K.moved hW.alike hK0, by rw [hU]; exact wd_E.moved hW.alike hE2⟩⟩ rfl rfl hl.1 rfl (lv_room (Nat.le_of_ble_eq_true rfl)) dX1_init_21 ⟨Nat.le_of_ble_eq_true rfl, Nat.le_of_ble_eq_true rfl⟩) hS (fun q _ h => Or.inr (Nat.le_trans hS.1 h)) (fun q h => Or.inr (Nat.le_trans hS.1 h)) (fun u3 ra3 t H3 locs ht hvm hw hB hz3 hk3 hS => ?_)
  have hR3 : wd_I ra3 0 0 s H3 := by
    have h9 : wd_I ra3 u3.1 u3.2 t t.heap := hB
    have g1 : u3.1 = 0 := Int64.toInt_inj.mp (by rw [hw.1]; decide)
    have g2 : u3.2 = 0 := Int32.toInt_inj.mp (by rw [hw.2]; decide)
    rw [ht, g1, g2] at h9
    exact wd_I.moved hvm.symm h9
  have hc3 := (hk3 q1 hq2l (Nat.not_le.mpr hq2l)).trans e2
  have ho3 := ho2.kept (hk3 h0 hh2l (Nat.not_le.mpr hh2l))
  have hR23 := hR2.kept (hk3 ra1 hR2.lt (Nat.not_le.mpr hR2.lt))
  refine wd_ast (q := q1) (t0 := 0) (w := 1) hx hb hK rfl hc3 hR3 (by decide) rfl dX1_init_24 (fun H4 e4 z4 oq4 => ?_)
  have hS := hS.put (k := 1) z4 oq4 (Or.inr hq1)
  have hA4 := hR23.kept (oq4 ra1 (wd_neArr hK hR23 hc3 hAr))
  have hB4 := hR3.kept (oq4 ra3 (wd_neArr hK hR3 hc3 hAr))
  have ho4 := ho3.kept (oq4 h0 hne)
  refine wd_putAt (h1 := q1) hx hb hts hown hin hK ho4 dX1_init_25 (fun H5 k5 e5 z5 oq5 => ?_)
  have hS := hS.put (k := k5) z5 oq5 (Or.inl rfl)
  have hDk : wd_Desk D h0 q1 cA (va_up (va_up (fun _ => none) 0 (some ra1)) 1 (some ra3)) (fun _ => 0) (fun _ => 0) s H5 := by
    refine ⟨fun k q hk => ?_, hK, fun k hk => ?_⟩
    · match k, hk with
      | 0, hk => cases hk; exact e5
      | 1, hk => cases hk; exact (oq5 q1 hne.symm).trans e4
    · match k, hk with
      | 0, hk => exact ⟨ra1, rfl, hA4.kept (oq5 ra1 (wd_neDesk hK hA4 ho4))⟩
      | 1, hk => exact ⟨ra3, rfl, hB4.kept (oq5 ra3 (wd_neDesk hK hB4 ho4))⟩
  refine W.widen (k := 3) (n := 6) (Nat.le_of_ble_eq_true rfl) (Nat.le_of_ble_eq_true rfl) ?_
  exact W.vret hx hb hr (fun t ht hW => ⟨⟨(q1, cA, va_up (va_up (fun _ => none) 0 (some ra1)) 1 (some ra3)), rfl, hq1, by show wd_Desk _ _ _ _ _ _ _ t t.heap; rw [ht]; exact wd_Desk.moved hW.alike hDk⟩, hS.F ht⟩) hS.2.2 dX1_init_28
end
section
/-! THE LAW'S OWN HELPERS, AND ITS TELLER -/
/-- which: any number shifted up, with its last bit set as we want it -/
theorem nu_wh (y k c : Int32) (hc : (c.toBitVec.smod 32).toNat = 1) (hk : k &&& 1 = k) : ((y <<< c) ||| k) &&& 1 = k := by
  apply Int32.toBitVec_inj.mp
  have hk' := congrArg Int32.toBitVec hk
  simp only [Int32.toBitVec_and, Int32.toBitVec_or, Int32.toBitVec_shiftLeft] at hk' ⊢
  rw [BitVec.shiftLeft_eq', hc]
  apply BitVec.eq_of_getLsbD_eq
  intro i hi
  have h1 := congrArg (fun z : BitVec 32 => z.getLsbD i) hk'
  have h2 : (1 : Int32).toBitVec = 1#32 := rfl
  rw [h2] at h1 ⊢
  simp only [BitVec.getLsbD_and, BitVec.getLsbD_or, BitVec.getLsbD_shiftLeft, BitVec.getLsbD_one] at h1 ⊢
  by_cases h : i = 0
  · subst h
    simp
  · simp [h] at h1 ⊢
    exact h1
theorem nu_which0 (y : Int32) : ((y <<< ((1 : Int32) &&& 31)) ||| 0) &&& 1 = nI 0 := nu_wh y 0 _ (by decide +kernel) (by decide)
theorem nu_which1 (y : Int32) : ((y <<< ((1 : Int32) &&& 31)) ||| 1) &&& 1 = nI 1 := nu_wh y 1 _ (by decide +kernel) (by decide)
theorem nu_xor1 (x : Int32) : (x ^^^ 1) &&& 1 = (x &&& 1) ^^^ 1 := by
  apply Int32.toBitVec_inj.mp
  simp only [Int32.toBitVec_and, Int32.toBitVec_xor]
  apply BitVec.eq_of_getLsbD_eq
  intro i hi
  have h2 : (1 : Int32).toBitVec = 1#32 := rfl
  rw [h2]
  simp only [BitVec.getLsbD_and, BitVec.getLsbD_xor, BitVec.getLsbD_one]
  by_cases h : i = 0
  · subst h
    simp
  · simp [h]
theorem nu_flip {x : Int32} {w : Nat} (hw : w < 2) (h : x &&& 1 = nI w) : (x ^^^ 1) &&& 1 = nI (1 - w) := by
  rw [nu_xor1, h]
  match w, hw with
  | 0, _ => decide
  | 1, _ => decide
/-- the teller's arrays say what the desk's picture says -/
def wd_F (sec : Nat → Int64) (nan : Nat → Int32) (fs fn : Nat → Int64) : Prop := ∀ k : Nat, k < 2 → fs k = sec k ∧ fn k = (nan k).toInt64
def wd_Rg (nan : Nat → Int32) : Prop := ∀ k : Nat, k < 2 → 0 ≤ (nan k).toInt ∧ (nan k).toInt < 1000000000
set_option maxHeartbeats 4000000 in
set_option maxRecDepth 100000 in
/-- cell(s, k): some int -/
theorem met_cell (l : Launch) (b L : Nat) (xs : Nat → Int32) (k : Int32) (j : Nat) (ek : k = nI j) (kj : j < 1000) (kL : L ≤ 96) : Met l yX0_cell (ws_ yX0_cell cX0_cell 2 (some .int)) ({ frames := 0, cells := 0, slots := 0, locals := 0 }) (va_Pc [.ref b, .int k] (fun U => va_X b L xs U U.heap)) (vp_Si (fun r => True)) 0 0 (fun _ => False) := by
  refine Met.ofW (cc := cX0_cell) (maxL := 2) (ret := (some .int)) (by decide) rfl ?_
  intro p e s m args below meth c s₁ B hml hv
  obtain ⟨rfl, hX⟩ := hv
  have hx := B.exec
  have hb := B.bytes
  have hr := B.returns
  have hts := atoms_spec (ws := ws_ yX0_cell cX0_cell 2 (some .int)) B.pre
  have hts : ∀ w ∈ lw_all, w.before _ s = true := fun w h => hts w (List.mem_cons_of_mem _ h)
  have hown : s.vm.findClass RX0 = some m.cls := findClass_of_methodNamed B.named
  have hlocks := B.notSynchronized
  have hl := lv_entry ([.ref b, .int k]) (n := 2) (Nat.le_of_ble_eq_true rfl)
  rw [lg_entry_eq]
  generalize (lg_sl ([.ref b, .int k]) ++ List.replicate (2 - (lg_sl ([.ref b, .int k])).length) Slot.unset).toArray = ls at hl ⊢
  have hl : lv_has ls 2 [(0, .ref b), (1, .int k)] := hl
  have hS : va_S (fun _ => False) s.heap s.heap [] := va_S.rf
  have hbl : b < s.heap.size := by
    obtain ⟨scr, h1, -⟩ := id hX
    exact (Array.getElem?_eq_some_iff.mp h1).1
  refine lv_iload_n hx hb dX0_cell_0 rfl (lv_at hl 1 rfl) ?_
  refine lv_aload_n hx hb dX0_cell_1 rfl (lv_at hl 0 rfl) ?_
  refine va_slen hx hb hX hbl (fun z => z) hS dX0_cell_2 ?_
  refine lv_icmp_ge (tgt := 18) hx hb dX0_cell_3 (by decide) (fun c1 => ?_) (fun c1 => ?_)
  · refine lv_iconst (v := 0) hx hb dX0_cell_18 (by decide) ?_
    exact W.iret (v := 0) hx hb hr (fun t ht hW => ⟨_, rfl, trivial, ht⟩) (fun _ h => by cases h) dX0_cell_19
  · have hj : j < L := by
      rcases Nat.lt_or_ge j L with q | q
      · exact q
      · exact absurd (by rw [ek]; exact nI_le q (by omega)) c1
    refine lv_iload_n hx hb dX0_cell_6 rfl (lv_at hl 1 rfl) ?_
    refine lv_bipush (v := 96) hx hb dX0_cell_7 (by decide) ?_
    refine lv_icmp_ge (tgt := 18) hx hb dX0_cell_9 (by decide) (fun c2 => ?_) (fun c2 => ?_)
    · refine lv_iconst (v := 0) hx hb dX0_cell_18 (by decide) ?_
      exact W.iret (v := 0) hx hb hr (fun t ht hW => ⟨_, rfl, trivial, ht⟩) (fun _ h => by cases h) dX0_cell_19
    · refine lv_aload_n hx hb dX0_cell_12 rfl (lv_at hl 0 rfl) ?_
      refine lv_iload_n hx hb dX0_cell_13 rfl (lv_at hl 1 rfl) ?_
      refine va_sld hx hb hX hbl (fun z => z) hS (by rw [ek]; exact vp_in_nI hj (by omega)) dX0_cell_14 ?_
      refine lv_goto (tgt := 19) hx hb dX0_cell_15 (by decide) ?_
      exact W.iret (v := (xs k.toNatClampNeg)) hx hb hr (fun t ht hW => ⟨_, rfl, trivial, ht⟩) (fun _ h => by cases h) dX0_cell_19
set_option maxHeartbeats 4000000 in
set_option maxRecDepth 100000 in
/-- of(h, l): the two halves together -/
theorem met_of (l : Launch) (h l0 : Int32) : Met l yX0_of (ws_ yX0_of cX0_of 2 (some .long)) ({ frames := 0, cells := 0, slots := 0, locals := 0 }) (va_Pc [.int h, .int l0] (fun U => True)) (vp_Sl (fun r => r = nu_hl h l0)) 0 0 (fun _ => False) := by
  refine Met.ofW (cc := cX0_of) (maxL := 2) (ret := (some .long)) (by decide) rfl ?_
  intro p e s m args below meth c s₁ B hml hv
  obtain ⟨rfl, -⟩ := hv
  have hx := B.exec
  have hb := B.bytes
  have hr := B.returns
  have hts := atoms_spec (ws := ws_ yX0_of cX0_of 2 (some .long)) B.pre
  have hts : ∀ w ∈ lw_all, w.before _ s = true := fun w h => hts w (List.mem_cons_of_mem _ h)
  have hown : s.vm.findClass RX0 = some m.cls := findClass_of_methodNamed B.named
  have hlocks := B.notSynchronized
  have hl := lv_entry ([.int h, .int l0]) (n := 2) (Nat.le_of_ble_eq_true rfl)
  rw [lg_entry_eq]
  generalize (lg_sl ([.int h, .int l0]) ++ List.replicate (2 - (lg_sl ([.int h, .int l0])).length) Slot.unset).toArray = ls at hl ⊢
  have hl : lv_has ls 2 [(0, .int h), (1, .int l0)] := hl
  refine lv_iload_n hx hb dX0_of_0 rfl (lv_at hl 0 rfl) ?_
  refine lv_i2l hx hb dX0_of_1 rfl ?_
  refine lv_bipush (v := 32) hx hb dX0_of_2 (by decide) ?_
  refine lv_lshl hx hb dX0_of_4 rfl ?_
  refine lv_iload_n hx hb dX0_of_5 rfl (lv_at hl 1 rfl) ?_
  refine lv_i2l hx hb dX0_of_6 rfl ?_
  refine lv_ldc2 hx hb hown (hts _ q208) dX0_of_7 ?_
  refine lv_land hx hb dX0_of_10 ?_
  refine lv_lor hx hb dX0_of_11 ?_
  exact W.lret (v := ((h.toInt64 <<< ((32 : Int32).toInt64 &&& 63)) ||| (l0.toInt64 &&& (4294967295 : Int64)))) hx hb hr (fun t ht hW => ⟨_, rfl, rfl, ht⟩) (fun _ h => by cases h) dX0_of_12
set_option maxHeartbeats 4000000 in
set_option maxRecDepth 100000 in
/-- floor(a, b), b above 0: the quotient rounded down -/
theorem met_floor (l : Launch) (a b : Int64) (kb : 0 < b.toInt) : Met l yX0_floor (ws_ yX0_floor cX0_floor 6 (some .long)) ({ frames := 0, cells := 0, slots := 0, locals := 0 }) (va_Pc [.long a, .long b] (fun U => True)) (vp_Sl (fun r => r.toInt = a.toInt / b.toInt)) 0 0 (fun _ => False) := by
  refine Met.ofW (cc := cX0_floor) (maxL := 6) (ret := (some .long)) (by decide) rfl ?_
  intro p e s m args below meth c s₁ B hml hv
  obtain ⟨rfl, -⟩ := hv
  have hx := B.exec
  have hb := B.bytes
  have hr := B.returns
  have hts := atoms_spec (ws := ws_ yX0_floor cX0_floor 6 (some .long)) B.pre
  have hts : ∀ w ∈ lw_all, w.before _ s = true := fun w h => hts w (List.mem_cons_of_mem _ h)
  have hown : s.vm.findClass RX0 = some m.cls := findClass_of_methodNamed B.named
  have hlocks := B.notSynchronized
  have hl := lv_entry ([.long a, .long b]) (n := 6) (Nat.le_of_ble_eq_true rfl)
  rw [lg_entry_eq]
  generalize (lg_sl ([.long a, .long b]) ++ List.replicate (6 - (lg_sl ([.long a, .long b])).length) Slot.unset).toArray = ls at hl ⊢
  have hl : lv_has ls 6 [(0, .long a), (2, .long b)] := hl
  have nb : ¬ b = 0 := fun h => by rw [h, nu_zero] at kb; omega
  refine lv_lload_n hx hb dX0_floor_0 rfl (lv_at hl 0 rfl) ?_
  refine lv_lload_n hx hb dX0_floor_1 rfl (lv_at hl 1 rfl) ?_
  refine lv_ldiv hx hb dX0_floor_2 nb ?_
  refine lv_topl (fun z ez => ?_)
  refine lv_lstore (lv' := [(4, .long z), (0, .long a), (2, .long b)]) hx hb dX0_floor_3 hl (by decide) rfl (fun ls hl => ?_)
  refine lv_lload_n hx hb dX0_floor_5 rfl (lv_at hl 1 rfl) ?_
  refine lv_lload_n hx hb dX0_floor_6 rfl (lv_at hl 2 rfl) ?_
  refine lv_lrem hx hb dX0_floor_7 nb ?_
  refine lv_lconst (v := 0) hx hb dX0_floor_8 (by decide) ?_
  refine W.lcmp hx hb dX0_floor_9 ?_
  refine lv_if_ge (tgt := 20) hx hb dX0_floor_10 (by decide) (fun c1 => ?_) (fun c1 => ?_)
  · have g1 : ¬ (a - a / b * b).toInt < 0 := by have h9 := (nu_ge _ _).mp c1; rw [nu_zero] at h9; omega
    refine lv_lload hx hb dX0_floor_20 (lv_at hl 0 rfl) ?_
    exact W.lret (v := z) hx hb hr (fun t ht hW => ⟨_, rfl, (by try dsimp only; rw [ez]; exact nu_lfloor_p kb g1), ht⟩) (fun _ h => by cases h) dX0_floor_22
  · have g1 : (a - a / b * b).toInt < 0 := by have h9 := nu_nge c1; rw [nu_zero] at h9; exact h9
    refine lv_lload hx hb dX0_floor_13 (lv_at hl 0 rfl) ?_
    refine lv_lconst (v := 1) hx hb dX0_floor_15 (by decide) ?_
    refine lv_lsub hx hb dX0_floor_16 ?_
    refine lv_goto (tgt := 22) hx hb dX0_floor_17 (by decide) ?_
    exact W.lret (v := (z - (1 : Int64))) hx hb hr (fun t ht hW => ⟨_, rfl, (by try dsimp only; rw [ez]; exact nu_lfloor_n kb g1), ht⟩) (fun _ h => by cases h) dX0_floor_22
set_option maxHeartbeats 4000000 in
set_option maxRecDepth 100000 in
/-- areTold: what the two arrays say is told by the desk -/
theorem met_areTold (l : Launch) (D : va_G) (h0 h1 : Nat) (cA : ClassId) (f : Nat → Option Nat) (sec : Nat → Int64) (nan : Nat → Int32) (qs qn : Nat) (dJ dK : ClassId) (fs fn : Nat → Int64) (kN : wd_Rg nan) (kF : wd_F sec nan fs fn) (y : Int32) : Met l yX0_areTold (ws_ yX0_areTold cX0_areTold 8 (some .boolean)) ({ frames := 4, cells := 0, slots := 0, locals := 86 }) (va_Pc [.ref h0, .ref qs, .ref qn, .int y] (fun U => wd_Told D h0 h1 cA f sec nan qs qn dJ dK fs fn U U.heap)) (vp_Si (fun r => r = 1)) 0 0 (fun _ => False) := by
  refine Met.ofW (cc := cX0_areTold) (maxL := 8) (ret := (some .boolean)) (by decide) rfl ?_
  intro p e s m args below meth c s₁ B hml hv
  obtain ⟨rfl, hT⟩ := hv
  have hx := B.exec
  have hb := B.bytes
  have hr := B.returns
  have hts := atoms_spec (ws := ws_ yX0_areTold cX0_areTold 8 (some .boolean)) B.pre
  have hts : ∀ w ∈ lw_all, w.before _ s = true := fun w h => hts w (List.mem_cons_of_mem _ h)
  have hown : s.vm.findClass RX0 = some m.cls := findClass_of_methodNamed B.named
  have hlocks := B.notSynchronized
  have hl := lv_entry ([.ref h0, .ref qs, .ref qn, .int y]) (n := 8) (Nat.le_of_ble_eq_true rfl)
  rw [lg_entry_eq]
  generalize (lg_sl ([.ref h0, .ref qs, .ref qn, .int y]) ++ List.replicate (8 - (lg_sl ([.ref h0, .ref qs, .ref qn, .int y])).length) Slot.unset).toArray = ls at hl ⊢
  have hl : lv_has ls 8 [(0, .ref h0), (1, .ref qs), (2, .ref qn), (3, .int y)] := hl
  have hDk := hT.1
  have l9 : (9000000000000000 : Int64).toInt = 9000000000000000 := by decide
  have l8 : (-9000000000000000 : Int64).toInt = -9000000000000000 := by decide
  refine lv_iconst (v := 1) hx hb dX0_areTold_0 (by decide) ?_
  refine lv_istore (lv' := [(4, .int (1 : Int32)), (0, .ref h0), (1, .ref qs), (2, .ref qn), (3, .int y)]) hx hb dX0_areTold_1 hl (by decide) rfl (fun ls hl => ?_)
  refine lv_iconst (v := 0) hx hb dX0_areTold_3 (by decide) ?_
  refine lv_istore (lv' := [(5, .int (0 : Int32)), (4, .int (1 : Int32)), (0, .ref h0), (1, .ref qs), (2, .ref qn), (3, .int y)]) hx hb dX0_areTold_4 hl (by decide) rfl (fun ls hl => ?_)
  have hl : lv_has ls 8 [(4, .int (1 : Int32)), (5, .int (0 : Int32)), (0, .ref h0), (1, .ref qs), (2, .ref qn), (3, .int y)] := lv_sub hl [1, 0, 2, 3, 4, 5] rfl
  refine lv_iload hx hb dX0_areTold_6 (lv_at hl 1 rfl) ?_
  refine lv_iconst (v := 2) hx hb dX0_areTold_8 (by decide) ?_
  refine lv_icmp_ge (tgt := 132) hx hb dX0_areTold_9 (by decide) (fun c6_0 => ?_) (fun c6_0 => ?_)
  · exact absurd c6_0 (by decide)
  · refine lv_iload_n hx hb dX0_areTold_12 rfl (lv_at hl 5 rfl) ?_
    refine lv_iconst (v := 1) hx hb dX0_areTold_13 (by decide) ?_
    refine lv_ishl hx hb dX0_areTold_14 ?_
    refine lv_iload hx hb dX0_areTold_15 (lv_at hl 1 rfl) ?_
    refine lv_ior hx hb dX0_areTold_17 ?_
    refine lv_topi (fun x6_0 ex6_0 => ?_)
    refine lv_istore (lv' := [(6, .int x6_0), (4, .int (1 : Int32)), (5, .int (0 : Int32)), (0, .ref h0), (1, .ref qs), (2, .ref qn), (3, .int y)]) hx hb dX0_areTold_18 hl (by decide) rfl (fun ls hl => ?_)
    have ew_0 : x6_0 &&& 1 = nI 0 := by rw [ex6_0]; exact nu_which0 y
    have k49_0 : ∀ (fa0 : Int32) (ls : Array Slot), ((fa0 = 1 ∧ ¬ ((sec 0).toInt ≤ 9000000000000000 ∧ -9000000000000000 ≤ (sec 0).toInt)) ∨ (fa0 = 0 ∧ ((sec 0).toInt ≤ 9000000000000000 ∧ -9000000000000000 ≤ (sec 0).toInt))) → lv_has ls 8 [(7, .int fa0), (6, .int x6_0), (4, .int (1 : Int32)), (5, .int (0 : Int32)), (0, .ref h0), (1, .ref qs), (2, .ref qn), (3, .int y)] → W p l e (headSpec (ws_ yX0_areTold cX0_areTold 8 (some .boolean)) ({ frames := 4, cells := 0, slots := 0, locals := 86 })).room s m #[.ref h0, .ref qs, .ref qn, .int y] below meth c s.heap [] 0 0 (MQ below (vp_Si (fun r => r = 1)) #[.ref h0, .ref qs, .ref qn, .int y] s 0 0 (fun _ => False)) (F0 m 49 ls []) := by
      intro fa0 ls hf0 hl
      refine lv_iload hx hb dX0_areTold_49 (lv_at hl 2 rfl) ?_
      refine lv_if_eq (tgt := 123) hx hb dX0_areTold_51 (by decide) (fun c51_0 => ?_) (fun c51_0 => ?_)
      · exact absurd c51_0 (by decide)
      · refine lv_aload_n hx hb dX0_areTold_54 rfl (lv_at hl 4 rfl) ?_
        refine lv_iload hx hb dX0_areTold_55 (lv_at hl 1 rfl) ?_
        refine vp_callSl (va_runV (As := [.int x6_0]) (rest := []) ⟨hx, hb, hml, hown, hts⟩ (met_whole l D h0 h1 cA f sec nan x6_0 0 (show 0 < 2 by decide) ew_0) (cwV 1 hts (lw_V q214 q215 q216 q3 q217) rfl rfl rfl (by decide +kernel) ⟨Nat.le_of_ble_eq_true rfl, Nat.le_of_ble_eq_true rfl⟩) ⟨fun a U g mk q => ⟨q.1, wd_Desk.moved (u := U) (U := U.calling g mk a) (Vm.Alike.refl U.vm) q.2⟩, va_recv hDk.2.1 hDk.1 (ci := 1) (q0 := 0) rfl rfl, fun U hU hW => ⟨rfl, by show wd_Desk _ _ _ _ _ _ _ U U.heap; rw [hU]; exact wd_Desk.moved hW.alike hDk⟩⟩ rfl rfl hl.1 rfl (lv_room (Nat.le_of_ble_eq_true rfl)) dX0_areTold_57 ⟨Nat.le_of_ble_eq_true rfl, Nat.le_of_ble_eq_true rfl⟩).run (fun v1_0 e1_0 => ?_)
        refine lv_aload_n hx hb dX0_areTold_60 rfl (lv_at hl 5 rfl) ?_
        refine lv_iload hx hb dX0_areTold_61 (lv_at hl 3 rfl) ?_
        refine wd_lald hx hb hT.2.1 hT.2.2.2.1 (w := 0) (by decide) rfl dX0_areTold_63 ?_
        refine W.lcmp hx hb dX0_areTold_64 ?_
        refine lv_if_ne (tgt := 123) hx hb dX0_areTold_65 (by decide) (fun c65_0 => ?_) (fun c65_0 => ?_)
        · exact absurd ((nu_eq _ _).mpr (by rw [e1_0, (kF 0 (by decide)).1])) c65_0
        · refine lv_aload_n hx hb dX0_areTold_68 rfl (lv_at hl 4 rfl) ?_
          refine lv_iload hx hb dX0_areTold_69 (lv_at hl 1 rfl) ?_
          refine vp_callSi (va_runV (As := [.int x6_0]) (rest := []) ⟨hx, hb, hml, hown, hts⟩ (met_nano l D h0 h1 cA f sec nan x6_0 0 (show 0 < 2 by decide) ew_0) (cwV 1 hts (lw_V q218 q219 q220 q3 q221) rfl rfl rfl (by decide +kernel) ⟨Nat.le_of_ble_eq_true rfl, Nat.le_of_ble_eq_true rfl⟩) ⟨fun a U g mk q => ⟨q.1, wd_Desk.moved (u := U) (U := U.calling g mk a) (Vm.Alike.refl U.vm) q.2⟩, va_recv hDk.2.1 hDk.1 (ci := 1) (q0 := 0) rfl rfl, fun U hU hW => ⟨rfl, by show wd_Desk _ _ _ _ _ _ _ U U.heap; rw [hU]; exact wd_Desk.moved hW.alike hDk⟩⟩ rfl rfl hl.1 rfl (lv_room (Nat.le_of_ble_eq_true rfl)) dX0_areTold_71 ⟨Nat.le_of_ble_eq_true rfl, Nat.le_of_ble_eq_true rfl⟩).run (fun v2_0 e2_0 => ?_)
          refine lv_i2l hx hb dX0_areTold_74 rfl ?_
          refine lv_aload_n hx hb dX0_areTold_75 rfl (lv_at hl 6 rfl) ?_
          refine lv_iload hx hb dX0_areTold_76 (lv_at hl 3 rfl) ?_
          refine wd_lald hx hb hT.2.2.1 hT.2.2.2.2 (w := 0) (by decide) rfl dX0_areTold_78 ?_
          refine W.lcmp hx hb dX0_areTold_79 ?_
          refine lv_if_ne (tgt := 123) hx hb dX0_areTold_80 (by decide) (fun c80_0 => ?_) (fun c80_0 => ?_)
          · exact absurd ((nu_eq _ _).mpr (by rw [e2_0, (kF 0 (by decide)).2])) c80_0
          · refine lv_aload_n hx hb dX0_areTold_83 rfl (lv_at hl 4 rfl) ?_
            refine lv_iload hx hb dX0_areTold_84 (lv_at hl 1 rfl) ?_
            refine vp_callSl (va_runV (As := [.int x6_0]) (rest := []) ⟨hx, hb, hml, hown, hts⟩ (met_milli l D h0 h1 cA f sec nan kN x6_0 0 (show 0 < 2 by decide) ew_0) (cwV 1 hts (lw_V q226 q227 q228 q3 q229) rfl rfl rfl (by decide +kernel) ⟨Nat.le_of_ble_eq_true rfl, Nat.le_of_ble_eq_true rfl⟩) ⟨fun a U g mk q => ⟨q.1, wd_Desk.moved (u := U) (U := U.calling g mk a) (Vm.Alike.refl U.vm) q.2⟩, va_recv hDk.2.1 hDk.1 (ci := 1) (q0 := 0) rfl rfl, fun U hU hW => ⟨rfl, by show wd_Desk _ _ _ _ _ _ _ U U.heap; rw [hU]; exact wd_Desk.moved hW.alike hDk⟩⟩ rfl rfl hl.1 rfl (lv_room (Nat.le_of_ble_eq_true rfl)) dX0_areTold_86 ⟨Nat.le_of_ble_eq_true rfl, Nat.le_of_ble_eq_true rfl⟩).run (fun v3_0 e3_0 => ?_)
            have k119_0 : W p l e (headSpec (ws_ yX0_areTold cX0_areTold 8 (some .boolean)) ({ frames := 4, cells := 0, slots := 0, locals := 86 })).room s m #[.ref h0, .ref qs, .ref qn, .int y] below meth c s.heap [] 0 0 (MQ below (vp_Si (fun r => r = 1)) #[.ref h0, .ref qs, .ref qn, .int y] s 0 0 (fun _ => False)) (F0 m 119 ls []) := by
              refine lv_iconst (v := 1) hx hb dX0_areTold_119 (by decide) ?_
              refine lv_goto (tgt := 124) hx hb dX0_areTold_120 (by decide) ?_
              refine lv_istore (lv' := [(4, .int (1 : Int32)), (7, .int fa0), (6, .int x6_0), (5, .int (0 : Int32)), (0, .ref h0), (1, .ref qs), (2, .ref qn), (3, .int y)]) hx hb dX0_areTold_124 hl (by decide) rfl (fun ls hl => ?_)
              obtain ⟨kk0, ekk0⟩ : ∃ y : Int32, y = (0 : Int32) + 1 := ⟨_, rfl⟩
              refine lv_iinc (v := kk0) (lv' := [(5, .int kk0), (4, .int (1 : Int32)), (7, .int fa0), (6, .int x6_0), (0, .ref h0), (1, .ref qs), (2, .ref qn), (3, .int y)]) hx hb dX0_areTold_126 hl (k := 3) rfl (by rw [ekk0]; rfl) (by decide) rfl (fun ls hl => ?_)
              have ekk0_ : kk0 = 1 := by rw [ekk0]; decide
              subst ekk0_
              refine lv_goto (tgt := 6) hx hb dX0_areTold_129 (by decide) ?_
              have hl : lv_has ls 8 [(4, .int (1 : Int32)), (5, .int (1 : Int32)), (0, .ref h0), (1, .ref qs), (2, .ref qn), (3, .int y)] := lv_sub hl [1, 0, 4, 5, 6, 7] rfl
              refine lv_iload hx hb dX0_areTold_6 (lv_at hl 1 rfl) ?_
              refine lv_iconst (v := 2) hx hb dX0_areTold_8 (by decide) ?_
              refine lv_icmp_ge (tgt := 132) hx hb dX0_areTold_9 (by decide) (fun c6_1 => ?_) (fun c6_1 => ?_)
              · exact absurd c6_1 (by decide)
              · refine lv_iload_n hx hb dX0_areTold_12 rfl (lv_at hl 5 rfl) ?_
                refine lv_iconst (v := 1) hx hb dX0_areTold_13 (by decide) ?_
                refine lv_ishl hx hb dX0_areTold_14 ?_
                refine lv_iload hx hb dX0_areTold_15 (lv_at hl 1 rfl) ?_
                refine lv_ior hx hb dX0_areTold_17 ?_
                refine lv_topi (fun x6_1 ex6_1 => ?_)
                refine lv_istore (lv' := [(6, .int x6_1), (4, .int (1 : Int32)), (5, .int (1 : Int32)), (0, .ref h0), (1, .ref qs), (2, .ref qn), (3, .int y)]) hx hb dX0_areTold_18 hl (by decide) rfl (fun ls hl => ?_)
                have ew_1 : x6_1 &&& 1 = nI 1 := by rw [ex6_1]; exact nu_which1 y
                have k49_1 : ∀ (fa1 : Int32) (ls : Array Slot), ((fa1 = 1 ∧ ¬ ((sec 1).toInt ≤ 9000000000000000 ∧ -9000000000000000 ≤ (sec 1).toInt)) ∨ (fa1 = 0 ∧ ((sec 1).toInt ≤ 9000000000000000 ∧ -9000000000000000 ≤ (sec 1).toInt))) → lv_has ls 8 [(7, .int fa1), (6, .int x6_1), (4, .int (1 : Int32)), (5, .int (1 : Int32)), (0, .ref h0), (1, .ref qs), (2, .ref qn), (3, .int y)] → W p l e (headSpec (ws_ yX0_areTold cX0_areTold 8 (some .boolean)) ({ frames := 4, cells := 0, slots := 0, locals := 86 })).room s m #[.ref h0, .ref qs, .ref qn, .int y] below meth c s.heap [] 0 0 (MQ below (vp_Si (fun r => r = 1)) #[.ref h0, .ref qs, .ref qn, .int y] s 0 0 (fun _ => False)) (F0 m 49 ls []) := by
                  intro fa1 ls hf1 hl
                  refine lv_iload hx hb dX0_areTold_49 (lv_at hl 2 rfl) ?_
                  refine lv_if_eq (tgt := 123) hx hb dX0_areTold_51 (by decide) (fun c51_1 => ?_) (fun c51_1 => ?_)
                  · exact absurd c51_1 (by decide)
                  · refine lv_aload_n hx hb dX0_areTold_54 rfl (lv_at hl 4 rfl) ?_
                    refine lv_iload hx hb dX0_areTold_55 (lv_at hl 1 rfl) ?_
                    refine vp_callSl (va_runV (As := [.int x6_1]) (rest := []) ⟨hx, hb, hml, hown, hts⟩ (met_whole l D h0 h1 cA f sec nan x6_1 1 (show 1 < 2 by decide) ew_1) (cwV 1 hts (lw_V q214 q215 q216 q3 q217) rfl rfl rfl (by decide +kernel) ⟨Nat.le_of_ble_eq_true rfl, Nat.le_of_ble_eq_true rfl⟩) ⟨fun a U g mk q => ⟨q.1, wd_Desk.moved (u := U) (U := U.calling g mk a) (Vm.Alike.refl U.vm) q.2⟩, va_recv hDk.2.1 hDk.1 (ci := 1) (q0 := 0) rfl rfl, fun U hU hW => ⟨rfl, by show wd_Desk _ _ _ _ _ _ _ U U.heap; rw [hU]; exact wd_Desk.moved hW.alike hDk⟩⟩ rfl rfl hl.1 rfl (lv_room (Nat.le_of_ble_eq_true rfl)) dX0_areTold_57 ⟨Nat.le_of_ble_eq_true rfl, Nat.le_of_ble_eq_true rfl⟩).run (fun v1_1 e1_1 => ?_)
                    refine lv_aload_n hx hb dX0_areTold_60 rfl (lv_at hl 5 rfl) ?_
                    refine lv_iload hx hb dX0_areTold_61 (lv_at hl 3 rfl) ?_
                    refine wd_lald hx hb hT.2.1 hT.2.2.2.1 (w := 1) (by decide) rfl dX0_areTold_63 ?_
                    refine W.lcmp hx hb dX0_areTold_64 ?_
                    refine lv_if_ne (tgt := 123) hx hb dX0_areTold_65 (by decide) (fun c65_1 => ?_) (fun c65_1 => ?_)
                    · exact absurd ((nu_eq _ _).mpr (by rw [e1_1, (kF 1 (by decide)).1])) c65_1
                    · refine lv_aload_n hx hb dX0_areTold_68 rfl (lv_at hl 4 rfl) ?_
                      refine lv_iload hx hb dX0_areTold_69 (lv_at hl 1 rfl) ?_
                      refine vp_callSi (va_runV (As := [.int x6_1]) (rest := []) ⟨hx, hb, hml, hown, hts⟩ (met_nano l D h0 h1 cA f sec nan x6_1 1 (show 1 < 2 by decide) ew_1) (cwV 1 hts (lw_V q218 q219 q220 q3 q221) rfl rfl rfl (by decide +kernel) ⟨Nat.le_of_ble_eq_true rfl, Nat.le_of_ble_eq_true rfl⟩) ⟨fun a U g mk q => ⟨q.1, wd_Desk.moved (u := U) (U := U.calling g mk a) (Vm.Alike.refl U.vm) q.2⟩, va_recv hDk.2.1 hDk.1 (ci := 1) (q0 := 0) rfl rfl, fun U hU hW => ⟨rfl, by show wd_Desk _ _ _ _ _ _ _ U U.heap; rw [hU]; exact wd_Desk.moved hW.alike hDk⟩⟩ rfl rfl hl.1 rfl (lv_room (Nat.le_of_ble_eq_true rfl)) dX0_areTold_71 ⟨Nat.le_of_ble_eq_true rfl, Nat.le_of_ble_eq_true rfl⟩).run (fun v2_1 e2_1 => ?_)
                      refine lv_i2l hx hb dX0_areTold_74 rfl ?_
                      refine lv_aload_n hx hb dX0_areTold_75 rfl (lv_at hl 6 rfl) ?_
                      refine lv_iload hx hb dX0_areTold_76 (lv_at hl 3 rfl) ?_
                      refine wd_lald hx hb hT.2.2.1 hT.2.2.2.2 (w := 1) (by decide) rfl dX0_areTold_78 ?_
                      refine W.lcmp hx hb dX0_areTold_79 ?_
                      refine lv_if_ne (tgt := 123) hx hb dX0_areTold_80 (by decide) (fun c80_1 => ?_) (fun c80_1 => ?_)
                      · exact absurd ((nu_eq _ _).mpr (by rw [e2_1, (kF 1 (by decide)).2])) c80_1
                      · refine lv_aload_n hx hb dX0_areTold_83 rfl (lv_at hl 4 rfl) ?_
                        refine lv_iload hx hb dX0_areTold_84 (lv_at hl 1 rfl) ?_
                        refine vp_callSl (va_runV (As := [.int x6_1]) (rest := []) ⟨hx, hb, hml, hown, hts⟩ (met_milli l D h0 h1 cA f sec nan kN x6_1 1 (show 1 < 2 by decide) ew_1) (cwV 1 hts (lw_V q226 q227 q228 q3 q229) rfl rfl rfl (by decide +kernel) ⟨Nat.le_of_ble_eq_true rfl, Nat.le_of_ble_eq_true rfl⟩) ⟨fun a U g mk q => ⟨q.1, wd_Desk.moved (u := U) (U := U.calling g mk a) (Vm.Alike.refl U.vm) q.2⟩, va_recv hDk.2.1 hDk.1 (ci := 1) (q0 := 0) rfl rfl, fun U hU hW => ⟨rfl, by show wd_Desk _ _ _ _ _ _ _ U U.heap; rw [hU]; exact wd_Desk.moved hW.alike hDk⟩⟩ rfl rfl hl.1 rfl (lv_room (Nat.le_of_ble_eq_true rfl)) dX0_areTold_86 ⟨Nat.le_of_ble_eq_true rfl, Nat.le_of_ble_eq_true rfl⟩).run (fun v3_1 e3_1 => ?_)
                        have k119_1 : W p l e (headSpec (ws_ yX0_areTold cX0_areTold 8 (some .boolean)) ({ frames := 4, cells := 0, slots := 0, locals := 86 })).room s m #[.ref h0, .ref qs, .ref qn, .int y] below meth c s.heap [] 0 0 (MQ below (vp_Si (fun r => r = 1)) #[.ref h0, .ref qs, .ref qn, .int y] s 0 0 (fun _ => False)) (F0 m 119 ls []) := by
                          refine lv_iconst (v := 1) hx hb dX0_areTold_119 (by decide) ?_
                          refine lv_goto (tgt := 124) hx hb dX0_areTold_120 (by decide) ?_
                          refine lv_istore (lv' := [(4, .int (1 : Int32)), (7, .int fa1), (6, .int x6_1), (5, .int (1 : Int32)), (0, .ref h0), (1, .ref qs), (2, .ref qn), (3, .int y)]) hx hb dX0_areTold_124 hl (by decide) rfl (fun ls hl => ?_)
                          obtain ⟨kk1, ekk1⟩ : ∃ y : Int32, y = (1 : Int32) + 1 := ⟨_, rfl⟩
                          refine lv_iinc (v := kk1) (lv' := [(5, .int kk1), (4, .int (1 : Int32)), (7, .int fa1), (6, .int x6_1), (0, .ref h0), (1, .ref qs), (2, .ref qn), (3, .int y)]) hx hb dX0_areTold_126 hl (k := 3) rfl (by rw [ekk1]; rfl) (by decide) rfl (fun ls hl => ?_)
                          have ekk1_ : kk1 = 2 := by rw [ekk1]; decide
                          subst ekk1_
                          refine lv_goto (tgt := 6) hx hb dX0_areTold_129 (by decide) ?_
                          have hl : lv_has ls 8 [(4, .int (1 : Int32)), (5, .int (2 : Int32)), (0, .ref h0), (1, .ref qs), (2, .ref qn), (3, .int y)] := lv_sub hl [1, 0, 4, 5, 6, 7] rfl
                          refine lv_iload hx hb dX0_areTold_6 (lv_at hl 1 rfl) ?_
                          refine lv_iconst (v := 2) hx hb dX0_areTold_8 (by decide) ?_
                          refine lv_icmp_ge (tgt := 132) hx hb dX0_areTold_9 (by decide) (fun c6_2 => ?_) (fun c6_2 => ?_)
                          · have n0 := kN 0 (by decide)
                            have n1 := kN 1 (by decide)
                            have f0 := kF 0 (by decide)
                            have f1 := kF 1 (by decide)
                            have i0 := Jvm.Kit.i64_of_i32 (nan 0)
                            have i1 := Jvm.Kit.i64_of_i32 (nan 1)
                            have no : nu_less (sec 0).toInt (nan 0).toInt (sec 1).toInt (nan 1).toInt → ¬ nu_less (sec 1).toInt (nan 1).toInt (sec 0).toInt (nan 0).toInt := by unfold nu_less; omega
                            have k189 : ∀ (od : Int32), ((nu_less (sec 0).toInt (nan 0).toInt (sec 1).toInt (nan 1).toInt → od = -1) ∧ (nu_less (sec 1).toInt (nan 1).toInt (sec 0).toInt (nan 0).toInt → od = 1) ∧ (¬ nu_less (sec 0).toInt (nan 0).toInt (sec 1).toInt (nan 1).toInt → ¬ nu_less (sec 1).toInt (nan 1).toInt (sec 0).toInt (nan 0).toInt → od = 0)) → W p l e (headSpec (ws_ yX0_areTold cX0_areTold 8 (some .boolean)) ({ frames := 4, cells := 0, slots := 0, locals := 86 })).room s m #[.ref h0, .ref qs, .ref qn, .int y] below meth c s.heap [] 0 0 (MQ below (vp_Si (fun r => r = 1)) #[.ref h0, .ref qs, .ref qn, .int y] s 0 0 (fun _ => False)) (F0 m 189 ls [.int od]) := by
                              intro od ho
                              refine lv_istore (lv' := [(5, .int od), (4, .int (1 : Int32)), (0, .ref h0), (1, .ref qs), (2, .ref qn), (3, .int y)]) hx hb dX0_areTold_189 hl (by decide) rfl (fun ls hl => ?_)
                              refine lv_iload hx hb dX0_areTold_191 (lv_at hl 1 rfl) ?_
                              refine lv_if_eq (tgt := 243) hx hb dX0_areTold_193 (by decide) (fun c193 => ?_) (fun c193 => ?_)
                              · exact absurd c193 (by decide)
                              · have cs : (od = -1 ∧ nu_less (sec 0).toInt (nan 0).toInt (sec 1).toInt (nan 1).toInt ∧ ¬ nu_less (sec 1).toInt (nan 1).toInt (sec 0).toInt (nan 0).toInt) ∨ (od = 1 ∧ ¬ nu_less (sec 0).toInt (nan 0).toInt (sec 1).toInt (nan 1).toInt ∧ nu_less (sec 1).toInt (nan 1).toInt (sec 0).toInt (nan 0).toInt) ∨ (od = 0 ∧ ¬ nu_less (sec 0).toInt (nan 0).toInt (sec 1).toInt (nan 1).toInt ∧ ¬ nu_less (sec 1).toInt (nan 1).toInt (sec 0).toInt (nan 0).toInt) := by
                                  by_cases q1 : nu_less (sec 0).toInt (nan 0).toInt (sec 1).toInt (nan 1).toInt
                                  · exact Or.inl ⟨ho.1 q1, q1, no q1⟩
                                  · by_cases q2 : nu_less (sec 1).toInt (nan 1).toInt (sec 0).toInt (nan 0).toInt
                                    · exact Or.inr (Or.inl ⟨ho.2.1 q2, q1, q2⟩)
                                    · exact Or.inr (Or.inr ⟨ho.2.2 q1 q2, q1, q2⟩)
                                refine lv_aload_n hx hb dX0_areTold_196 rfl (lv_at hl 2 rfl) ?_
                                refine vp_callSi (va_runV (As := []) (rest := []) ⟨hx, hb, hml, hown, hts⟩ (met_order l D h0 h1 cA f sec nan kN) (cwV 0 hts (lw_V q246 q247 q248 q3 q249) rfl rfl rfl (by decide +kernel) ⟨Nat.le_of_ble_eq_true rfl, Nat.le_of_ble_eq_true rfl⟩) ⟨fun a U g mk q => ⟨q.1, wd_Desk.moved (u := U) (U := U.calling g mk a) (Vm.Alike.refl U.vm) q.2⟩, va_recv hDk.2.1 hDk.1 (ci := 1) (q0 := 0) rfl rfl, fun U hU hW => ⟨rfl, by show wd_Desk _ _ _ _ _ _ _ U U.heap; rw [hU]; exact wd_Desk.moved hW.alike hDk⟩⟩ rfl rfl hl.1 rfl (lv_room (Nat.le_of_ble_eq_true rfl)) dX0_areTold_197 ⟨Nat.le_of_ble_eq_true rfl, Nat.le_of_ble_eq_true rfl⟩).run (fun u1 g1 => ?_)
                                refine lv_iload hx hb dX0_areTold_200 (lv_at hl 0 rfl) ?_
                                refine lv_icmp_ne (tgt := 243) hx hb dX0_areTold_202 (by decide) (fun c202 => ?_) (fun c202 => ?_)
                                · refine absurd ?_ c202
                                  rcases cs with ⟨q, q1, q2⟩ | ⟨q, q1, q2⟩ | ⟨q, q1, q2⟩
                                  · rw [q, g1.1 q1]
                                  · rw [q, g1.2.1 q2]
                                  · rw [q, g1.2.2 q1 q2]
                                · refine lv_aload_n hx hb dX0_areTold_205 rfl (lv_at hl 2 rfl) ?_
                                  refine vp_callSi (va_runV (As := []) (rest := []) ⟨hx, hb, hml, hown, hts⟩ (met_before l D h0 h1 cA f sec nan kN) (cwV 0 hts (lw_V q257 q258 q259 q3 q260) rfl rfl rfl (by decide +kernel) ⟨Nat.le_of_ble_eq_true rfl, Nat.le_of_ble_eq_true rfl⟩) ⟨fun a U g mk q => ⟨q.1, wd_Desk.moved (u := U) (U := U.calling g mk a) (Vm.Alike.refl U.vm) q.2⟩, va_recv hDk.2.1 hDk.1 (ci := 1) (q0 := 0) rfl rfl, fun U hU hW => ⟨rfl, by show wd_Desk _ _ _ _ _ _ _ U U.heap; rw [hU]; exact wd_Desk.moved hW.alike hDk⟩⟩ rfl rfl hl.1 rfl (lv_room (Nat.le_of_ble_eq_true rfl)) dX0_areTold_206 ⟨Nat.le_of_ble_eq_true rfl, Nat.le_of_ble_eq_true rfl⟩).run (fun u2 g2 => ?_)
                                  have k222 : W p l e (headSpec (ws_ yX0_areTold cX0_areTold 8 (some .boolean)) ({ frames := 4, cells := 0, slots := 0, locals := 86 })).room s m #[.ref h0, .ref qs, .ref qn, .int y] below meth c s.heap [] 0 0 (MQ below (vp_Si (fun r => r = 1)) #[.ref h0, .ref qs, .ref qn, .int y] s 0 0 (fun _ => False)) (F0 m 222 ls []) := by
                                    refine lv_aload_n hx hb dX0_areTold_222 rfl (lv_at hl 2 rfl) ?_
                                    refine vp_callSi (va_runV (As := []) (rest := []) ⟨hx, hb, hml, hown, hts⟩ (met_after l D h0 h1 cA f sec nan kN) (cwV 0 hts (lw_V q266 q267 q268 q3 q269) rfl rfl rfl (by decide +kernel) ⟨Nat.le_of_ble_eq_true rfl, Nat.le_of_ble_eq_true rfl⟩) ⟨fun a U g mk q => ⟨q.1, wd_Desk.moved (u := U) (U := U.calling g mk a) (Vm.Alike.refl U.vm) q.2⟩, va_recv hDk.2.1 hDk.1 (ci := 1) (q0 := 0) rfl rfl, fun U hU hW => ⟨rfl, by show wd_Desk _ _ _ _ _ _ _ U U.heap; rw [hU]; exact wd_Desk.moved hW.alike hDk⟩⟩ rfl rfl hl.1 rfl (lv_room (Nat.le_of_ble_eq_true rfl)) dX0_areTold_223 ⟨Nat.le_of_ble_eq_true rfl, Nat.le_of_ble_eq_true rfl⟩).run (fun u3 g3 => ?_)
                                    refine lv_iload hx hb dX0_areTold_226 (lv_at hl 0 rfl) ?_
                                    refine lv_if_le (tgt := 235) hx hb dX0_areTold_228 (by decide) (fun c228 => ?_) (fun c228 => ?_)
                                    · refine lv_iconst (v := 0) hx hb dX0_areTold_235 (by decide) ?_
                                      refine lv_icmp_ne (tgt := 243) hx hb dX0_areTold_236 (by decide) (fun c236 => ?_) (fun c236 => ?_)
                                      · refine absurd ?_ c236
                                        rcases cs with ⟨q, q1, q2⟩ | ⟨q, q1, q2⟩ | ⟨q, q1, q2⟩
                                        · exact g3.2 q2
                                        · rw [q] at c228; exact absurd c228 (by decide)
                                        · exact g3.2 q2
                                      · refine lv_iconst (v := 1) hx hb dX0_areTold_239 (by decide) ?_
                                        refine lv_goto (tgt := 244) hx hb dX0_areTold_240 (by decide) ?_
                                        exact W.zret (v := 1) hx hb hr rfl (fun t ht hW => ⟨_, rfl, rfl, ht⟩) (fun _ h => by cases h) dX0_areTold_244
                                    · refine lv_iconst (v := 1) hx hb dX0_areTold_231 (by decide) ?_
                                      refine lv_goto (tgt := 236) hx hb dX0_areTold_232 (by decide) ?_
                                      refine lv_icmp_ne (tgt := 243) hx hb dX0_areTold_236 (by decide) (fun c236 => ?_) (fun c236 => ?_)
                                      · refine absurd ?_ c236
                                        rcases cs with ⟨q, q1, q2⟩ | ⟨q, q1, q2⟩ | ⟨q, q1, q2⟩
                                        · rw [q] at c228; exact absurd (by decide) c228
                                        · exact g3.1 q2
                                        · rw [q] at c228; exact absurd (by decide) c228
                                      · refine lv_iconst (v := 1) hx hb dX0_areTold_239 (by decide) ?_
                                        refine lv_goto (tgt := 244) hx hb dX0_areTold_240 (by decide) ?_
                                        exact W.zret (v := 1) hx hb hr rfl (fun t ht hW => ⟨_, rfl, rfl, ht⟩) (fun _ h => by cases h) dX0_areTold_244
                                  refine lv_iload hx hb dX0_areTold_209 (lv_at hl 0 rfl) ?_
                                  refine lv_if_ge (tgt := 218) hx hb dX0_areTold_211 (by decide) (fun c211 => ?_) (fun c211 => ?_)
                                  · refine lv_iconst (v := 0) hx hb dX0_areTold_218 (by decide) ?_
                                    refine lv_icmp_ne (tgt := 243) hx hb dX0_areTold_219 (by decide) (fun c219 => ?_) (fun c219 => ?_)
                                    · refine absurd ?_ c219
                                      rcases cs with ⟨q, q1, q2⟩ | ⟨q, q1, q2⟩ | ⟨q, q1, q2⟩
                                      · rw [q] at c211; exact absurd c211 (by decide)
                                      · exact g2.2 q1
                                      · exact g2.2 q1
                                    · exact k222
                                  · refine lv_iconst (v := 1) hx hb dX0_areTold_214 (by decide) ?_
                                    refine lv_goto (tgt := 219) hx hb dX0_areTold_215 (by decide) ?_
                                    refine lv_icmp_ne (tgt := 243) hx hb dX0_areTold_219 (by decide) (fun c219 => ?_) (fun c219 => ?_)
                                    · refine absurd ?_ c219
                                      rcases cs with ⟨q, q1, q2⟩ | ⟨q, q1, q2⟩ | ⟨q, q1, q2⟩
                                      · exact g2.1 q1
                                      · rw [q] at c211; exact absurd (by decide) c211
                                      · rw [q] at c211; exact absurd (by decide) c211
                                    · exact k222
                            refine lv_aload_n hx hb dX0_areTold_132 rfl (lv_at hl 3 rfl) ?_
                            refine lv_iconst (v := 0) hx hb dX0_areTold_133 (by decide) ?_
                            refine wd_lald hx hb hT.2.1 hT.2.2.2.1 (w := 0) (by decide) rfl dX0_areTold_134 ?_
                            refine lv_aload_n hx hb dX0_areTold_135 rfl (lv_at hl 3 rfl) ?_
                            refine lv_iconst (v := 1) hx hb dX0_areTold_136 (by decide) ?_
                            refine wd_lald hx hb hT.2.1 hT.2.2.2.1 (w := 1) (by decide) rfl dX0_areTold_137 ?_
                            refine W.lcmp hx hb dX0_areTold_138 ?_
                            refine lv_if_eq (tgt := 160) hx hb dX0_areTold_139 (by decide) (fun d139 => ?_) (fun d139 => ?_)
                            · have es : (sec 0).toInt = (sec 1).toInt := by have h9 := (nu_eq _ _).mp d139; rw [f0.1, f1.1] at h9; exact h9
                              refine lv_aload_n hx hb dX0_areTold_160 rfl (lv_at hl 4 rfl) ?_
                              refine lv_iconst (v := 0) hx hb dX0_areTold_161 (by decide) ?_
                              refine wd_lald hx hb hT.2.2.1 hT.2.2.2.2 (w := 0) (by decide) rfl dX0_areTold_162 ?_
                              refine lv_aload_n hx hb dX0_areTold_163 rfl (lv_at hl 4 rfl) ?_
                              refine lv_iconst (v := 1) hx hb dX0_areTold_164 (by decide) ?_
                              refine wd_lald hx hb hT.2.2.1 hT.2.2.2.2 (w := 1) (by decide) rfl dX0_areTold_165 ?_
                              refine W.lcmp hx hb dX0_areTold_166 ?_
                              refine lv_if_ge (tgt := 174) hx hb dX0_areTold_167 (by decide) (fun d167 => ?_) (fun d167 => ?_)
                              · have g1 : (nan 1).toInt ≤ (nan 0).toInt := by have h9 := (nu_ge _ _).mp d167; rw [f0.2, f1.2, i0, i1] at h9; exact h9
                                refine lv_aload_n hx hb dX0_areTold_174 rfl (lv_at hl 4 rfl) ?_
                                refine lv_iconst (v := 0) hx hb dX0_areTold_175 (by decide) ?_
                                refine wd_lald hx hb hT.2.2.1 hT.2.2.2.2 (w := 0) (by decide) rfl dX0_areTold_176 ?_
                                refine lv_aload_n hx hb dX0_areTold_177 rfl (lv_at hl 4 rfl) ?_
                                refine lv_iconst (v := 1) hx hb dX0_areTold_178 (by decide) ?_
                                refine wd_lald hx hb hT.2.2.1 hT.2.2.2.2 (w := 1) (by decide) rfl dX0_areTold_179 ?_
                                refine W.lcmp hx hb dX0_areTold_180 ?_
                                refine lv_if_le (tgt := 188) hx hb dX0_areTold_181 (by decide) (fun d181 => ?_) (fun d181 => ?_)
                                · have g2 : (nan 0).toInt ≤ (nan 1).toInt := by have h9 := (nu_le _ _).mp d181; rw [f0.2, f1.2, i0, i1] at h9; exact h9
                                  refine lv_iconst (v := 0) hx hb dX0_areTold_188 (by decide) ?_
                                  exact k189 0 ⟨fun q => by unfold nu_less at q; omega, fun q => by unfold nu_less at q; omega, fun _ _ => rfl⟩
                                · have g2 : (nan 1).toInt < (nan 0).toInt := by have h9 := nu_nle d181; rw [f0.2, f1.2, i0, i1] at h9; exact h9
                                  refine lv_iconst (v := 1) hx hb dX0_areTold_184 (by decide) ?_
                                  refine lv_goto (tgt := 189) hx hb dX0_areTold_185 (by decide) ?_
                                  exact k189 1 ⟨fun q => by unfold nu_less at q; omega, fun _ => rfl, fun _ q => absurd (Or.inr ⟨es.symm, g2⟩) q⟩
                              · have g1 : (nan 0).toInt < (nan 1).toInt := by have h9 := nu_nge d167; rw [f0.2, f1.2, i0, i1] at h9; exact h9
                                refine lv_iconst (v := (-1)) hx hb dX0_areTold_170 (by decide) ?_
                                refine lv_goto (tgt := 189) hx hb dX0_areTold_171 (by decide) ?_
                                exact k189 (-1) ⟨fun _ => rfl, fun q => by unfold nu_less at q; omega, fun q => absurd (Or.inr ⟨es, g1⟩) q⟩
                            · have es : ¬ (sec 0).toInt = (sec 1).toInt := fun q => d139 ((nu_eq _ _).mpr (by rw [f0.1, f1.1]; exact q))
                              refine lv_aload_n hx hb dX0_areTold_142 rfl (lv_at hl 3 rfl) ?_
                              refine lv_iconst (v := 0) hx hb dX0_areTold_143 (by decide) ?_
                              refine wd_lald hx hb hT.2.1 hT.2.2.2.1 (w := 0) (by decide) rfl dX0_areTold_144 ?_
                              refine lv_aload_n hx hb dX0_areTold_145 rfl (lv_at hl 3 rfl) ?_
                              refine lv_iconst (v := 1) hx hb dX0_areTold_146 (by decide) ?_
                              refine wd_lald hx hb hT.2.1 hT.2.2.2.1 (w := 1) (by decide) rfl dX0_areTold_147 ?_
                              refine W.lcmp hx hb dX0_areTold_148 ?_
                              refine lv_if_ge (tgt := 156) hx hb dX0_areTold_149 (by decide) (fun d149 => ?_) (fun d149 => ?_)
                              · have g1 : (sec 1).toInt ≤ (sec 0).toInt := by have h9 := (nu_ge _ _).mp d149; rw [f0.1, f1.1] at h9; exact h9
                                refine lv_iconst (v := 1) hx hb dX0_areTold_156 (by decide) ?_
                                refine lv_goto (tgt := 189) hx hb dX0_areTold_157 (by decide) ?_
                                exact k189 1 ⟨fun q => by unfold nu_less at q; omega, fun _ => rfl, fun _ q => absurd (Or.inl (by omega)) q⟩
                              · have g1 : (sec 0).toInt < (sec 1).toInt := by have h9 := nu_nge d149; rw [f0.1, f1.1] at h9; exact h9
                                refine lv_iconst (v := (-1)) hx hb dX0_areTold_152 (by decide) ?_
                                refine lv_goto (tgt := 189) hx hb dX0_areTold_153 (by decide) ?_
                                exact k189 (-1) ⟨fun _ => rfl, fun q => by unfold nu_less at q; omega, fun q => absurd (Or.inl g1) q⟩
                          · exact absurd (by decide) c6_2
                        refine lv_iload hx hb dX0_areTold_89 (lv_at hl 0 rfl) ?_
                        refine lv_if_eq (tgt := 98) hx hb dX0_areTold_91 (by decide) (fun c91_1 => ?_) (fun c91_1 => ?_)
                        · have g3 : ((sec 1).toInt ≤ 9000000000000000 ∧ -9000000000000000 ≤ (sec 1).toInt) := by
                            rcases hf1 with ⟨h9, -⟩ | ⟨-, h9⟩
                            · rw [h9] at c91_1; exact absurd c91_1 (by decide)
                            · exact h9
                          have r3 := (kN 1 (by decide))
                          have m3 := e3_1.1 g3
                          refine lv_aload_n hx hb dX0_areTold_98 rfl (lv_at hl 5 rfl) ?_
                          refine lv_iload hx hb dX0_areTold_99 (lv_at hl 3 rfl) ?_
                          refine wd_lald hx hb hT.2.1 hT.2.2.2.1 (w := 1) (by decide) rfl dX0_areTold_101 ?_
                          refine lv_ldc2 hx hb hown (hts _ q244) dX0_areTold_102 ?_
                          refine lv_lmul hx hb dX0_areTold_105 ?_
                          refine lv_aload_n hx hb dX0_areTold_106 rfl (lv_at hl 6 rfl) ?_
                          refine lv_iload hx hb dX0_areTold_107 (lv_at hl 3 rfl) ?_
                          refine wd_lald hx hb hT.2.2.1 hT.2.2.2.2 (w := 1) (by decide) rfl dX0_areTold_109 ?_
                          refine lv_ldc2 hx hb hown (hts _ q245) dX0_areTold_110 ?_
                          refine lv_ldiv hx hb dX0_areTold_113 (by decide) ?_
                          refine lv_ladd hx hb dX0_areTold_114 ?_
                          refine W.lcmp hx hb dX0_areTold_115 ?_
                          refine lv_if_ne (tgt := 123) hx hb dX0_areTold_116 (by decide) (fun c116 => ?_) (fun c116 => ?_)
                          · refine absurd ((nu_eq _ _).mpr ?_) c116
                            rw [(kF 1 (by decide)).1, (kF 1 (by decide)).2]
                            have q1 : (sec 1 * (1000 : Int64)).toInt = (sec 1).toInt * 1000 := by rw [Jvm.Kit.i64_mul (by rw [nu_thou]; omega) (by rw [nu_thou]; omega), nu_thou]
                            have q2 : ((nan 1).toInt64 / (1000000 : Int64)).toInt = (nan 1).toInt / 1000000 := by rw [lg_ldiv_nonneg (by rw [Jvm.Kit.i64_of_i32]; exact r3.1) (by decide), Jvm.Kit.i64_of_i32, nu_mio]
                            rw [Jvm.Kit.i64_add (by rw [q1, q2]; omega) (by rw [q1, q2]; omega), q1, q2, m3]
                          · exact k119_1
                        · have g3 : ¬ ((sec 1).toInt ≤ 9000000000000000 ∧ -9000000000000000 ≤ (sec 1).toInt) := by
                            rcases hf1 with ⟨-, h9⟩ | ⟨h9, -⟩
                            · exact h9
                            · exact absurd h9 c91_1
                          have m3 := e3_1.2 g3
                          refine lv_lconst (v := 0) hx hb dX0_areTold_94 (by decide) ?_
                          refine lv_goto (tgt := 115) hx hb dX0_areTold_95 (by decide) ?_
                          refine W.lcmp hx hb dX0_areTold_115 ?_
                          refine lv_if_ne (tgt := 123) hx hb dX0_areTold_116 (by decide) (fun c116 => ?_) (fun c116 => ?_)
                          · exact absurd ((nu_eq _ _).mpr (by rw [m3])) c116
                          · exact k119_1
                refine lv_aload_n hx hb dX0_areTold_20 rfl (lv_at hl 4 rfl) ?_
                refine lv_iload hx hb dX0_areTold_21 (lv_at hl 2 rfl) ?_
                refine wd_lald hx hb hT.2.1 hT.2.2.2.1 (w := 1) (by decide) rfl dX0_areTold_23 ?_
                refine lv_ldc2 hx hb hown (hts _ q212) dX0_areTold_24 ?_
                refine W.lcmp hx hb dX0_areTold_27 ?_
                refine lv_if_gt (tgt := 42) hx hb dX0_areTold_28 (by decide) (fun c28_1 => ?_) (fun c28_1 => ?_)
                · have gn : ¬ ((sec 1).toInt ≤ 9000000000000000 ∧ -9000000000000000 ≤ (sec 1).toInt) := by have h9 := (nu_gt _ _).mp c28_1; rw [(kF 1 (by decide)).1, l9] at h9; omega
                  refine lv_iconst (v := 1) hx hb dX0_areTold_42 (by decide) ?_
                  refine lv_goto (tgt := 47) hx hb dX0_areTold_43 (by decide) ?_
                  refine lv_istore (lv' := [(7, .int (1 : Int32)), (6, .int x6_1), (4, .int (1 : Int32)), (5, .int (1 : Int32)), (0, .ref h0), (1, .ref qs), (2, .ref qn), (3, .int y)]) hx hb dX0_areTold_47 hl (by decide) rfl (fun ls hl => ?_)
                  exact k49_1 1 ls (Or.inl ⟨rfl, gn⟩) hl
                · have g1 : (sec 1).toInt ≤ 9000000000000000 := by have h9 := nu_ngt c28_1; rw [(kF 1 (by decide)).1, l9] at h9; exact h9
                  refine lv_aload_n hx hb dX0_areTold_31 rfl (lv_at hl 4 rfl) ?_
                  refine lv_iload hx hb dX0_areTold_32 (lv_at hl 2 rfl) ?_
                  refine wd_lald hx hb hT.2.1 hT.2.2.2.1 (w := 1) (by decide) rfl dX0_areTold_34 ?_
                  refine lv_ldc2 hx hb hown (hts _ q213) dX0_areTold_35 ?_
                  refine W.lcmp hx hb dX0_areTold_38 ?_
                  refine lv_if_ge (tgt := 46) hx hb dX0_areTold_39 (by decide) (fun c39_1 => ?_) (fun c39_1 => ?_)
                  · have g2 : -9000000000000000 ≤ (sec 1).toInt := by have h9 := (nu_ge _ _).mp c39_1; rw [(kF 1 (by decide)).1, l8] at h9; exact h9
                    refine lv_iconst (v := 0) hx hb dX0_areTold_46 (by decide) ?_
                    refine lv_istore (lv' := [(7, .int (0 : Int32)), (6, .int x6_1), (4, .int (1 : Int32)), (5, .int (1 : Int32)), (0, .ref h0), (1, .ref qs), (2, .ref qn), (3, .int y)]) hx hb dX0_areTold_47 hl (by decide) rfl (fun ls hl => ?_)
                    exact k49_1 0 ls (Or.inr ⟨rfl, g1, g2⟩) hl
                  · have gn : ¬ ((sec 1).toInt ≤ 9000000000000000 ∧ -9000000000000000 ≤ (sec 1).toInt) := by have h9 := nu_nge c39_1; rw [(kF 1 (by decide)).1, l8] at h9; omega
                    refine lv_iconst (v := 1) hx hb dX0_areTold_42 (by decide) ?_
                    refine lv_goto (tgt := 47) hx hb dX0_areTold_43 (by decide) ?_
                    refine lv_istore (lv' := [(7, .int (1 : Int32)), (6, .int x6_1), (4, .int (1 : Int32)), (5, .int (1 : Int32)), (0, .ref h0), (1, .ref qs), (2, .ref qn), (3, .int y)]) hx hb dX0_areTold_47 hl (by decide) rfl (fun ls hl => ?_)
                    exact k49_1 1 ls (Or.inl ⟨rfl, gn⟩) hl
            refine lv_iload hx hb dX0_areTold_89 (lv_at hl 0 rfl) ?_
            refine lv_if_eq (tgt := 98) hx hb dX0_areTold_91 (by decide) (fun c91_0 => ?_) (fun c91_0 => ?_)
            · have g3 : ((sec 0).toInt ≤ 9000000000000000 ∧ -9000000000000000 ≤ (sec 0).toInt) := by
                rcases hf0 with ⟨h9, -⟩ | ⟨-, h9⟩
                · rw [h9] at c91_0; exact absurd c91_0 (by decide)
                · exact h9
              have r3 := (kN 0 (by decide))
              have m3 := e3_0.1 g3
              refine lv_aload_n hx hb dX0_areTold_98 rfl (lv_at hl 5 rfl) ?_
              refine lv_iload hx hb dX0_areTold_99 (lv_at hl 3 rfl) ?_
              refine wd_lald hx hb hT.2.1 hT.2.2.2.1 (w := 0) (by decide) rfl dX0_areTold_101 ?_
              refine lv_ldc2 hx hb hown (hts _ q244) dX0_areTold_102 ?_
              refine lv_lmul hx hb dX0_areTold_105 ?_
              refine lv_aload_n hx hb dX0_areTold_106 rfl (lv_at hl 6 rfl) ?_
              refine lv_iload hx hb dX0_areTold_107 (lv_at hl 3 rfl) ?_
              refine wd_lald hx hb hT.2.2.1 hT.2.2.2.2 (w := 0) (by decide) rfl dX0_areTold_109 ?_
              refine lv_ldc2 hx hb hown (hts _ q245) dX0_areTold_110 ?_
              refine lv_ldiv hx hb dX0_areTold_113 (by decide) ?_
              refine lv_ladd hx hb dX0_areTold_114 ?_
              refine W.lcmp hx hb dX0_areTold_115 ?_
              refine lv_if_ne (tgt := 123) hx hb dX0_areTold_116 (by decide) (fun c116 => ?_) (fun c116 => ?_)
              · refine absurd ((nu_eq _ _).mpr ?_) c116
                rw [(kF 0 (by decide)).1, (kF 0 (by decide)).2]
                have q1 : (sec 0 * (1000 : Int64)).toInt = (sec 0).toInt * 1000 := by rw [Jvm.Kit.i64_mul (by rw [nu_thou]; omega) (by rw [nu_thou]; omega), nu_thou]
                have q2 : ((nan 0).toInt64 / (1000000 : Int64)).toInt = (nan 0).toInt / 1000000 := by rw [lg_ldiv_nonneg (by rw [Jvm.Kit.i64_of_i32]; exact r3.1) (by decide), Jvm.Kit.i64_of_i32, nu_mio]
                rw [Jvm.Kit.i64_add (by rw [q1, q2]; omega) (by rw [q1, q2]; omega), q1, q2, m3]
              · exact k119_0
            · have g3 : ¬ ((sec 0).toInt ≤ 9000000000000000 ∧ -9000000000000000 ≤ (sec 0).toInt) := by
                rcases hf0 with ⟨-, h9⟩ | ⟨h9, -⟩
                · exact h9
                · exact absurd h9 c91_0
              have m3 := e3_0.2 g3
              refine lv_lconst (v := 0) hx hb dX0_areTold_94 (by decide) ?_
              refine lv_goto (tgt := 115) hx hb dX0_areTold_95 (by decide) ?_
              refine W.lcmp hx hb dX0_areTold_115 ?_
              refine lv_if_ne (tgt := 123) hx hb dX0_areTold_116 (by decide) (fun c116 => ?_) (fun c116 => ?_)
              · exact absurd ((nu_eq _ _).mpr (by rw [m3])) c116
              · exact k119_0
    refine lv_aload_n hx hb dX0_areTold_20 rfl (lv_at hl 4 rfl) ?_
    refine lv_iload hx hb dX0_areTold_21 (lv_at hl 2 rfl) ?_
    refine wd_lald hx hb hT.2.1 hT.2.2.2.1 (w := 0) (by decide) rfl dX0_areTold_23 ?_
    refine lv_ldc2 hx hb hown (hts _ q212) dX0_areTold_24 ?_
    refine W.lcmp hx hb dX0_areTold_27 ?_
    refine lv_if_gt (tgt := 42) hx hb dX0_areTold_28 (by decide) (fun c28_0 => ?_) (fun c28_0 => ?_)
    · have gn : ¬ ((sec 0).toInt ≤ 9000000000000000 ∧ -9000000000000000 ≤ (sec 0).toInt) := by have h9 := (nu_gt _ _).mp c28_0; rw [(kF 0 (by decide)).1, l9] at h9; omega
      refine lv_iconst (v := 1) hx hb dX0_areTold_42 (by decide) ?_
      refine lv_goto (tgt := 47) hx hb dX0_areTold_43 (by decide) ?_
      refine lv_istore (lv' := [(7, .int (1 : Int32)), (6, .int x6_0), (4, .int (1 : Int32)), (5, .int (0 : Int32)), (0, .ref h0), (1, .ref qs), (2, .ref qn), (3, .int y)]) hx hb dX0_areTold_47 hl (by decide) rfl (fun ls hl => ?_)
      exact k49_0 1 ls (Or.inl ⟨rfl, gn⟩) hl
    · have g1 : (sec 0).toInt ≤ 9000000000000000 := by have h9 := nu_ngt c28_0; rw [(kF 0 (by decide)).1, l9] at h9; exact h9
      refine lv_aload_n hx hb dX0_areTold_31 rfl (lv_at hl 4 rfl) ?_
      refine lv_iload hx hb dX0_areTold_32 (lv_at hl 2 rfl) ?_
      refine wd_lald hx hb hT.2.1 hT.2.2.2.1 (w := 0) (by decide) rfl dX0_areTold_34 ?_
      refine lv_ldc2 hx hb hown (hts _ q213) dX0_areTold_35 ?_
      refine W.lcmp hx hb dX0_areTold_38 ?_
      refine lv_if_ge (tgt := 46) hx hb dX0_areTold_39 (by decide) (fun c39_0 => ?_) (fun c39_0 => ?_)
      · have g2 : -9000000000000000 ≤ (sec 0).toInt := by have h9 := (nu_ge _ _).mp c39_0; rw [(kF 0 (by decide)).1, l8] at h9; exact h9
        refine lv_iconst (v := 0) hx hb dX0_areTold_46 (by decide) ?_
        refine lv_istore (lv' := [(7, .int (0 : Int32)), (6, .int x6_0), (4, .int (1 : Int32)), (5, .int (0 : Int32)), (0, .ref h0), (1, .ref qs), (2, .ref qn), (3, .int y)]) hx hb dX0_areTold_47 hl (by decide) rfl (fun ls hl => ?_)
        exact k49_0 0 ls (Or.inr ⟨rfl, g1, g2⟩) hl
      · have gn : ¬ ((sec 0).toInt ≤ 9000000000000000 ∧ -9000000000000000 ≤ (sec 0).toInt) := by have h9 := nu_nge c39_0; rw [(kF 0 (by decide)).1, l8] at h9; omega
        refine lv_iconst (v := 1) hx hb dX0_areTold_42 (by decide) ?_
        refine lv_goto (tgt := 47) hx hb dX0_areTold_43 (by decide) ?_
        refine lv_istore (lv' := [(7, .int (1 : Int32)), (6, .int x6_0), (4, .int (1 : Int32)), (5, .int (0 : Int32)), (0, .ref h0), (1, .ref qs), (2, .ref qn), (3, .int y)]) hx hb dX0_areTold_47 hl (by decide) rfl (fun ls hl => ?_)
        exact k49_0 1 ls (Or.inl ⟨rfl, gn⟩) hl
end
section
/-! THE CLAIM OUT OF ONE WALK OF THE LAW'S BODY. Your part is whole_start (and what it stands on); all else here is the same for every law, but numbers. -/
def R_law : String := "InstantDeskLaw"
def lw_P (b : Addr) (xs : List Int32) (args : Array Value) (s : State) : Prop := args = #[.ref b] ∧ s.IntsAt b xs ∧ xs.length ≤ 96 ∧ (Jvm.Cond.and given_1 narrow_1).before args s = true
def lw_Q (_ : Array Value) (s : State) (o : Outcome) (t : State) : Prop := o = .returned (some (.int 1)) ∧ Framed s o t [] 1200192 5500522
def lw_Z (below : List Frame) (a : Array Value) (s : State) : State → Prop := fun t => ∃ o, t.status = .running ∧ Ended t below o ∧ lw_Q a s o t
/-- the law's own end, with 1 on the stack, nothing written that was there before, its room as the claim has it -/
theorem lw_ret {p : Program} {l : Launch} {e : Env} {s : State} {m : MethodId} {below : List Frame} {meth : Method} {c : Code} {b : Nat} (hx : p.tables.exec = Jvm.exec) (hb : c.code = code) (hr : meth.sig.returnType = ret) (hlocks : meth.locks = false) {pc : Nat} {H : Heap} {ls : Array Slot} (hdg : decode code pc = .ok (.ireturn, 1)) : W p l e room_1 s m #[Value.ref b] below meth c H [] 1200192 5500522 (lw_Z below #[Value.ref b] s) (F0 m pc ls [.int 1]) := by
  intro T hT X
  obtain ⟨fs, hret, hrun, hended, hW, hframe⟩ := X.leave (v := some (.int 1)) (hlocks := hlocks) (fun h => by rw [hr] at h; cases h)
  have hmeth' : T.vm.method? m = some meth := X.method'
  refine ⟨T.setFrames fs, ?_, .returned (some (.int 1)), hrun, hended, rfl, ⟨_, rfl⟩, hW, hframe⟩
  jvm_step X.here [X.here.top, hx, hb, hdg, hmeth', hr, ret, narrow_b1]
  (try refine ⟨rfl, ?_⟩); (try refine ⟨rfl, ?_⟩)
  first | (intro acts; rw [hret _ acts rfl rfl rfl]) | rw [hret _ _ rfl rfl rfl]
  exact Steps.refl _
/-- what holds at the law's entry: the machine, the code, the tables' words (any of lw_tbl by 'hts w (by decide +kernel)'), the script of L ints xs at the cell b, what the Statement gives of the start (any of its parts by flat_of_before) -/
def lw_At (p : Program) (s : State) (m : MethodId) (meth : Method) (c : Code) (b L : Nat) (xs : Nat → Int32) : Prop :=
  p.tables.exec = Jvm.exec ∧ c.code = code ∧ meth.sig.returnType = ret ∧ c.maxLocals = 13 ∧ s.vm.findClass R_law = some m.cls ∧ (∀ w ∈ lw_tbl, w.before #[Value.ref b] s = true) ∧ va_X b L xs s s.heap ∧ b < s.heap.size ∧ meth.locks = false ∧ (Jvm.Cond.and given_1 narrow_1).before #[Value.ref b] s = true
/-! THE LAW: its cases, its loop -/
/-- the cells of the law's world are apart, and made since its start -/
def lw_Ad (sz h0 h1 qs qn : Nat) : Prop := sz ≤ h1 ∧ sz ≤ qs ∧ sz ≤ qn ∧ h0 ≠ h1 ∧ qs ≠ h0 ∧ qs ≠ h1 ∧ qn ≠ h0 ∧ qn ≠ h1 ∧ qs ≠ qn
theorem wd_Told.putS {D : va_G} {h0 h1 : Nat} {cA : ClassId} {f : Nat → Option Nat} {sec : Nat → Int64} {nan : Nat → Int32} {qs qn : Nat} {dJ dK : ClassId} {fs fn : Nat → Int64} {U : State} {H H1 : Heap} {sz : Nat} (h : wd_Told D h0 h1 cA f sec nan qs qn dJ dK fs fn U H) (a : lw_Ad sz h0 h1 qs qn) {g : Nat → Int64} (e : H1[qs]? = some (vp_cell dJ (2, .inr (.inl g)))) (oq : ∀ z : Nat, z ≠ qs → H1[z]? = H[z]?) : wd_Told D h0 h1 cA f sec nan qs qn dJ dK g fn U H1 := by
  obtain ⟨a1, a2, a3, a4, a5, a6, a7, a8, a9⟩ := a
  exact ⟨h.1.other h.2.1 h.2.2.2.1 a5 a6 oq, e, (oq qn a9.symm).trans h.2.2.1, h.2.2.2.1, h.2.2.2.2⟩
theorem wd_Told.putN {D : va_G} {h0 h1 : Nat} {cA : ClassId} {f : Nat → Option Nat} {sec : Nat → Int64} {nan : Nat → Int32} {qs qn : Nat} {dJ dK : ClassId} {fs fn : Nat → Int64} {U : State} {H H1 : Heap} {sz : Nat} (h : wd_Told D h0 h1 cA f sec nan qs qn dJ dK fs fn U H) (a : lw_Ad sz h0 h1 qs qn) {g : Nat → Int64} (e : H1[qn]? = some (vp_cell dK (2, .inr (.inl g)))) (oq : ∀ z : Nat, z ≠ qn → H1[z]? = H[z]?) : wd_Told D h0 h1 cA f sec nan qs qn dJ dK fs g U H1 := by
  obtain ⟨a1, a2, a3, a4, a5, a6, a7, a8, a9⟩ := a
  exact ⟨h.1.other h.2.2.1 h.2.2.2.2 a7 a8 oq, (oq qs a9).trans h.2.1, e, h.2.2.2.1, h.2.2.2.2⟩
theorem wd_Told.call {D : va_G} {h0 h1 : Nat} {cA : ClassId} {f f' : Nat → Option Nat} {sec sec' : Nat → Int64} {nan nan' : Nat → Int32} {qs qn : Nat} {dJ dK : ClassId} {fs fn : Nat → Int64} {U : State} {H H1 : Heap} {sz : Nat} (h : wd_Told D h0 h1 cA f sec nan qs qn dJ dK fs fn U H) (a : lw_Ad sz h0 h1 qs qn) (hD : wd_Desk D h0 h1 cA f' sec' nan' U H1) (hk : ∀ q : Nat, q < H.size → ¬ wd_A h1 H.size q → H1[q]? = H[q]?) : wd_Told D h0 h1 cA f' sec' nan' qs qn dJ dK fs fn U H1 := by
  obtain ⟨a1, a2, a3, a4, a5, a6, a7, a8, a9⟩ := a
  have l1 : qs < H.size := (Array.getElem?_eq_some_iff.mp h.2.1).1
  have l2 : qn < H.size := (Array.getElem?_eq_some_iff.mp h.2.2.1).1
  exact ⟨hD, (hk qs l1 (fun z => z.elim a6 (Nat.not_le.mpr l1))).trans h.2.1, (hk qn l2 (fun z => z.elim a8 (Nat.not_le.mpr l2))).trans h.2.2.1, h.2.2.2.1, h.2.2.2.2⟩
theorem wd_F_up {sec : Nat → Int64} {nan : Nat → Int32} {fs fn : Nat → Int64} (hF : wd_F sec nan fs fn) {w : Nat} {S X Y : Int64} {N : Int32} (hX : X = S) (hY : Y = N.toInt64) : wd_F (va_up sec w S) (va_up nan w N) (vp_updL fs w X) (vp_updL fn w Y) := by
  intro k hk
  by_cases h : k = w
  · subst h
    rw [va_up_self, va_up_self, pk_uLs, pk_uLs]
    exact ⟨hX, hY⟩
  · rw [va_up_ne _ _ h, va_up_ne _ _ h, pk_uLn h, pk_uLn h]
    exact hF k hk
theorem wd_F_upS {sec : Nat → Int64} {nan : Nat → Int32} {fs fn : Nat → Int64} (hF : wd_F sec nan fs fn) {w : Nat} {S X : Int64} {N : Int32} (hX : X = S) (hN : N = nan w) : wd_F (va_up sec w S) (va_up nan w N) (vp_updL fs w X) fn := by
  rw [hN, wd_up_same]
  intro k hk
  by_cases h : k = w
  · subst h
    rw [va_up_self, pk_uLs]
    exact ⟨hX, (hF k hk).2⟩
  · rw [va_up_ne _ _ h, pk_uLn h]
    exact hF k hk
theorem wd_Rg_up {nan : Nat → Int32} (hR : wd_Rg nan) {w : Nat} {N : Int32} (n0 : 0 ≤ N.toInt) (n1 : N.toInt < 1000000000) : wd_Rg (va_up nan w N) := by
  intro k hk
  by_cases h : k = w
  · subst h
    rw [va_up_self]
    exact ⟨n0, n1⟩
  · rw [va_up_ne _ _ h]
    exact hR k hk
theorem wd_AN {sz h1 hs q : Nat} (g1 : sz ≤ h1) (g2 : sz ≤ hs) (h : wd_A h1 hs q) : wd_N sz q := by
  rcases h with h | h
  · rw [h]; exact g1
  · exact Nat.le_trans g2 h
theorem nu_sub1000 {v f1 : Int64} (h : f1.toInt = v.toInt / 1000) : (v - f1 * 1000).toInt = v.toInt % 1000 := by
  rw [Int64.toInt_sub, Int64.toInt_mul, nu_thou, h, Int.sub_bmod_bmod, Jvm.Kit.bmod64 (by omega) (by omega)]
  omega
theorem nu_most : (31000000000000000 : Int64).toInt = 31000000000000000 := by decide
theorem nu_mostn : (-31000000000000000 : Int64).toInt = -31000000000000000 := by decide
/-- remainder of a remainder -/
theorem nu_mm (a : Int) : (a.tmod 31000000000000000).tmod 31000000000000000 = a.tmod 31000000000000000 := by
  have t1 := Int.lt_tmod_of_pos a (show (0 : Int) < 31000000000000000 by decide)
  have t2 := Int.tmod_lt_of_pos a (show (0 : Int) < 31000000000000000 by decide)
  generalize a.tmod 31000000000000000 = r at t1 t2 ⊢
  rcases Int.lt_or_le r 0 with h | h
  · rw [nu_tmn _ (by omega)]
    omega
  · rw [Int.tmod_eq_emod_of_nonneg h]
    omega
theorem nu_case0X {v f1 S : Int64} {n : Int} (q1 : f1.toInt = n / 1000000000) (n0 : -2147483648 ≤ n) (n1 : n < 2147483648) (h : S.toInt = v.toInt.tmod 31000000000000000 + n / 1000000000) : v - v / (31000000000000000 : Int64) * (31000000000000000 : Int64) + f1 = S := by
  apply Int64.toInt_inj.mp
  have m1 : (v - v / (31000000000000000 : Int64) * (31000000000000000 : Int64)).toInt = v.toInt.tmod 31000000000000000 := by rw [Jvm.Kit.i64_rem, nu_most]
  have t1 := Int.lt_tmod_of_pos v.toInt (show (0 : Int) < 31000000000000000 by decide)
  have t2 := Int.tmod_lt_of_pos v.toInt (show (0 : Int) < 31000000000000000 by decide)
  generalize v - v / (31000000000000000 : Int64) * (31000000000000000 : Int64) = r at m1 ⊢
  generalize v.toInt.tmod 31000000000000000 = t at m1 t1 t2 h
  rw [Jvm.Kit.i64_add (by omega) (by omega), m1, q1, h]
theorem nu_case0Y {n f2 : Int64} {N : Int32} (n0 : -4000000000000000000 ≤ n.toInt) (n1 : n.toInt ≤ 4000000000000000000) (q2 : f2.toInt = n.toInt / 1000000000) (h : N.toInt = n.toInt % 1000000000) : n - f2 * (1000000000 : Int64) = N.toInt64 := by
  apply Int64.toInt_inj.mp
  have b := nu_bil
  have m1 : (f2 * (1000000000 : Int64)).toInt = n.toInt / 1000000000 * 1000000000 := by rw [Jvm.Kit.i64_mul (by rw [q2, b]; omega) (by rw [q2, b]; omega), q2, b]
  generalize f2 * (1000000000 : Int64) = r at m1 ⊢
  rw [Jvm.Kit.i64_sub (by omega) (by omega), m1, Jvm.Kit.i64_of_i32, h]
  omega
/-- what holds at the law's loop, beside its counter -/
def lw_J (D : va_G) (s : State) (h0 h1 : Nat) (cA : ClassId) (qs qn : Nat) (dJ dK : ClassId) (f : Nat → Option Nat) (sec : Nat → Int64) (nan : Nat → Int32) (fs fn : Nat → Int64) (H : Heap) (locs : List Loc) : Prop :=
  wd_Told D h0 h1 cA f sec nan qs qn dJ dK fs fn s H ∧ wd_Rg nan ∧ wd_F sec nan fs fn ∧ va_S (wd_N s.heap.size) s.heap H locs
set_option maxHeartbeats 4000000 in
set_option maxRecDepth 100000 in
/-- case 0: set by a second and nanos -/
theorem law_case0 {p : Program} {l : Launch} {e : Env} {s : State} {m : MethodId} {below : List Frame} {meth : Method} {c : Code} {b L : Nat} {xs : Nat → Int32} (hL : L ≤ 96) (C0 : lw_At p s m meth c b L xs) {D : va_G} {h0 h1 : Nat} {cA : ClassId} {qs qn : Nat} {dJ dK : ClassId} {ep : Nat} (hAd : lw_Ad s.heap.size h0 h1 qs qn) (hE : wd_E ep (wd_N s.heap.size) s s.heap) {C Z : Nat} (kC : C ≤ 1000) (kZ : Z ≤ 1000) {x4 x5 x6 x7 x8 : Int32} {w : Nat} (kw : w < 2) (ew : x6 &&& 1 = nI w) (ex7 : x7 = x6 &&& 1) {k6 : Nat} (ex4 : x4 = nI k6) (hk6 : k6 < 900) (kk : (∀ (f : Nat → Option Nat) (sec : Nat → Int64) (nan : Nat → Int32) (fs fn : Nat → Int64) (H : Heap) (locs : List Loc) (ls : Array Slot), lw_J D s h0 h1 cA qs qn dJ dK f sec nan fs fn H locs → lv_has ls 13 [(0, .ref b), (1, .ref h0), (2, .ref qs), (3, .ref qn), (4, .int x4)] → W p l e room_1 s m #[Value.ref b] below meth c H locs (C + 1) (Z + 2) (lw_Z below #[Value.ref b] s) (F0 m 621 ls []))) {f : Nat → Option Nat} {sec : Nat → Int64} {nan : Nat → Int32} {fs fn : Nat → Int64} {H : Heap} {locs : List Loc} {ls : Array Slot} (hJ : lw_J D s h0 h1 cA qs qn dJ dK f sec nan fs fn H locs) (hl : lv_has ls 13 [(8, .int x8), (7, .int x7), (6, .int x6), (5, .int x5), (4, .int x4), (0, .ref b), (1, .ref h0), (2, .ref qs), (3, .ref qn)]) : W p l e room_1 s m #[Value.ref b] below meth c H locs (C) (Z) (lw_Z below #[Value.ref b] s) (F0 m 120 ls []) := by
  obtain ⟨hx, hb, hr, hml, hown, hts0, hX, hbl, hlocks, hgv⟩ := id C0
  have hts : ∀ w ∈ lw_all, w.before #[Value.ref b] s = true := fun w h => hts0 w (lw_all_tbl h)
  obtain ⟨hT, hR, hF, hS⟩ := hJ
  have hDk := hT.1
  have hXH : va_X b L xs s H := hX.kept (hS.2.1 b hbl (Nat.not_le.mpr hbl))
  have ew7 : x7 = nI w := by rw [ex7, ew]
  have l8 := x8.le_toInt
  have g8 := x8.toInt_lt
  have e8 := Jvm.Kit.i64_of_i32 x8
  have k199 : ∀ v : Int64, W p l e room_1 s m #[Value.ref b] below meth c H locs (C) (Z) (lw_Z below #[Value.ref b] s) (F0 m 199 ls [.long v]) := by
    intro v
    refine lv_lstore (lv' := [(9, .long v), (8, .int x8), (7, .int x7), (6, .int x6), (5, .int x5), (4, .int x4), (0, .ref b), (1, .ref h0), (2, .ref qs), (3, .ref qn)]) hx hb dL_law_199 hl (by decide) rfl (fun ls hl => ?_)
    refine lv_aload_n hx hb dL_law_201 rfl (lv_at hl 7 rfl) ?_
    refine lv_iload hx hb dL_law_202 (lv_at hl 3 rfl) ?_
    refine lv_lload hx hb dL_law_204 (lv_at hl 0 rfl) ?_
    refine lv_bipush (v := 32) hx hb dL_law_206 (by decide) ?_
    refine lv_lshr hx hb dL_law_208 rfl ?_
    refine lv_l2i hx hb dL_law_209 rfl ?_
    refine lv_lload hx hb dL_law_210 (lv_at hl 0 rfl) ?_
    refine lv_l2i hx hb dL_law_212 rfl ?_
    refine lv_iload hx hb dL_law_213 (lv_at hl 1 rfl) ?_
    have hEH : wd_E ep (wd_A h1 H.size) s H := wd_E.narrow (wd_E.kept hE hS.2.1) (fun q h => wd_AN hAd.1 hS.1 h)
    refine va_callv (va_runV (As := [.int x6, .int ((v >>> ((32 : Int32).toInt64 &&& 63)).toInt32), .int v.toInt32, .int x8]) (rest := []) ⟨hx, hb, hml, hown, hts⟩ (met_set l D h0 h1 cA f sec nan hAd.2.2.2.1 ep H.size x6 w kw ew (v >>> ((32 : Int32).toInt64 &&& 63)).toInt32 v.toInt32 x8) (cwV 4 hts (lw_V q146 q147 q148 q3 q149) rfl rfl rfl (by decide +kernel) ⟨Nat.le_of_ble_eq_true rfl, Nat.le_of_ble_eq_true rfl⟩) ⟨fun a U g mk q => ⟨q.1, q.2.1, wd_Desk.moved (u := U) (U := U.calling g mk a) (Vm.Alike.refl U.vm) q.2.2.1, wd_E.moved (u := U) (U := U.calling g mk a) (Vm.Alike.refl U.vm) q.2.2.2⟩, va_recv hDk.2.1 hDk.1 (ci := 1) (q0 := 0) rfl rfl, fun U hU hW => ⟨rfl, by rw [hU], by rw [hU]; exact wd_Desk.moved hW.alike hDk, by rw [hU]; exact wd_E.moved hW.alike hEH⟩⟩ rfl rfl hl.1 rfl (lv_room (Nat.le_of_ble_eq_true rfl)) dL_law_215 ⟨show C + 1 ≤ 1200192 by omega, show Z + 2 ≤ 5500522 by omega⟩) hS (fun q _ h => wd_AN hAd.1 hS.1 h) (fun q h => wd_AN hAd.1 hS.1 h) (fun u t H1 locs ht hvm hw hB hz1 hk1 hS => ?_)
    have hDk : wd_Desk D h0 h1 cA u.1 (va_up sec w u.2.1) (va_up nan w u.2.2) s H1 := by
      have h9 : wd_Desk D h0 h1 cA u.1 (va_up sec w u.2.1) (va_up nan w u.2.2) t t.heap := hB
      rw [ht] at h9
      exact wd_Desk.moved hvm.symm h9
    have hT := hT.call hAd hDk hk1
    rw [nu_halves] at hw
    refine lv_aload_n hx hb dL_law_218 rfl (lv_at hl 8 rfl) ?_
    refine lv_iload hx hb dL_law_219 (lv_at hl 2 rfl) ?_
    refine lv_lload hx hb dL_law_221 (lv_at hl 0 rfl) ?_
    refine lv_ldc2 hx hb hown (hts _ q277) dL_law_223 ?_
    refine lv_lrem hx hb dL_law_226 (by decide) ?_
    refine lv_iload hx hb dL_law_227 (lv_at hl 1 rfl) ?_
    refine lv_i2l hx hb dL_law_229 rfl ?_
    refine lv_ldc2 hx hb hown (hts _ q278) dL_law_230 ?_
    refine vp_callSl (va_runS (As := [.long x8.toInt64, .long (1000000000 : Int64)]) (rest := [.long (v - v / (31000000000000000 : Int64) * (31000000000000000 : Int64)), .int x7, .ref qs]) ⟨hx, hb, hml, hown, hts⟩ (met_floor l x8.toInt64 1000000000 (by decide)) (va_cwS 2 hts (lw_S q202 q203 q2 q204) rfl rfl rfl (by decide +kernel) ⟨Nat.le_of_ble_eq_true rfl, Nat.le_of_ble_eq_true rfl⟩) ⟨fun a U g mk q => ⟨q.1, q.2⟩, fun U hU hW => ⟨rfl, trivial⟩⟩ rfl rfl hl.1 rfl (lv_room (Nat.le_of_ble_eq_true rfl)) dL_law_233 ⟨show C + 1 + 0 ≤ 1200192 by omega, show Z + 2 + 0 ≤ 5500522 by omega⟩).run (fun f1 q1 => ?_)
    rw [nu_bil, e8] at q1
    refine lv_ladd hx hb dL_law_236 ?_
    have eX : (v - v / (31000000000000000 : Int64) * (31000000000000000 : Int64) + f1) = u.2.1 := nu_case0X q1 (by omega) (by omega) hw.1
    refine wd_last hx hb hT.2.1 hT.2.2.2.1 kw ew7 dL_law_237 (fun H2 eH2 z2 oq2 => ?_)
    have hT := hT.putS hAd eH2 oq2
    have hS := hS.put (k := w) z2 oq2 hAd.2.1
    refine lv_aload_n hx hb dL_law_238 rfl (lv_at hl 9 rfl) ?_
    refine lv_iload hx hb dL_law_239 (lv_at hl 2 rfl) ?_
    refine lv_iload hx hb dL_law_241 (lv_at hl 1 rfl) ?_
    refine lv_i2l hx hb dL_law_243 rfl ?_
    refine lv_iload hx hb dL_law_244 (lv_at hl 1 rfl) ?_
    refine lv_i2l hx hb dL_law_246 rfl ?_
    refine lv_ldc2 hx hb hown (hts _ q278) dL_law_247 ?_
    refine vp_callSl (va_runS (As := [.long x8.toInt64, .long (1000000000 : Int64)]) (rest := [.long x8.toInt64, .int x7, .ref qn]) ⟨hx, hb, hml, hown, hts⟩ (met_floor l x8.toInt64 1000000000 (by decide)) (va_cwS 2 hts (lw_S q202 q203 q2 q204) rfl rfl rfl (by decide +kernel) ⟨Nat.le_of_ble_eq_true rfl, Nat.le_of_ble_eq_true rfl⟩) ⟨fun a U g mk q => ⟨q.1, q.2⟩, fun U hU hW => ⟨rfl, trivial⟩⟩ rfl rfl hl.1 rfl (lv_room (Nat.le_of_ble_eq_true rfl)) dL_law_250 ⟨show C + 1 + 0 ≤ 1200192 by omega, show Z + 2 + 0 ≤ 5500522 by omega⟩).run (fun f2 q2 => ?_)
    rw [nu_bil, e8] at q2
    refine lv_ldc2 hx hb hown (hts _ q278) dL_law_253 ?_
    refine lv_lmul hx hb dL_law_256 ?_
    refine lv_lsub hx hb dL_law_257 ?_
    have eY : (x8.toInt64 - f2 * (1000000000 : Int64)) = u.2.2.toInt64 := nu_case0Y (by rw [e8]; omega) (by rw [e8]; omega) (by rw [q2, e8]) (by rw [hw.2, e8])
    refine wd_last hx hb hT.2.2.1 hT.2.2.2.2 kw ew7 dL_law_258 (fun H3 eH3 z3 oq3 => ?_)
    have hT := hT.putN hAd eH3 oq3
    have hS := hS.put (k := w) z3 oq3 hAd.2.2.1
    refine lv_goto (tgt := 621) hx hb dL_law_259 (by decide) ?_
    exact kk u.1 (va_up sec w u.2.1) (va_up nan w u.2.2) (vp_updL fs w ((v - v / (31000000000000000 : Int64) * (31000000000000000 : Int64)) + f1)) (vp_updL fn w (x8.toInt64 - (f2 * (1000000000 : Int64)))) _ _ ls ⟨hT, wd_Rg_up hR (by rw [hw.2]; omega) (by rw [hw.2]; omega), wd_F_up hF eX eY, hS⟩ (lv_sub hl [6, 7, 8, 9, 5] rfl)
  refine lv_iload hx hb dL_law_120 (lv_at hl 3 rfl) ?_
  refine lv_bipush (v := 8) hx hb dL_law_122 (by decide) ?_
  refine lv_ishr hx hb dL_law_124 ?_
  refine lv_iconst (v := 1) hx hb dL_law_125 (by decide) ?_
  refine lv_iand hx hb dL_law_126 ?_
  refine lv_if_ne (tgt := 152) hx hb dL_law_127 (by decide) (fun c1 => ?_) (fun c1 => ?_)
  · refine lv_iload hx hb dL_law_152 (lv_at hl 3 rfl) ?_
    refine lv_bipush (v := 9) hx hb dL_law_154 (by decide) ?_
    refine lv_ishr hx hb dL_law_156 ?_
    refine lv_iconst (v := 1) hx hb dL_law_157 (by decide) ?_
    refine lv_iand hx hb dL_law_158 ?_
    refine lv_if_ne (tgt := 182) hx hb dL_law_159 (by decide) (fun c2 => ?_) (fun c2 => ?_)
    · refine lv_ldc2 hx hb hown (hts _ q276) dL_law_182 ?_
      refine lv_aload_n hx hb dL_law_185 rfl (lv_at hl 5 rfl) ?_
      refine lv_iload hx hb dL_law_186 (lv_at hl 4 rfl) ?_
      refine lv_iconst (v := 2) hx hb dL_law_188 (by decide) ?_
      refine lv_iadd hx hb dL_law_189 ?_
      refine vp_callSi (va_runS (As := [.ref b, .int (x4 + (2 : Int32))]) (rest := [.long (-30999999999999999 : Int64)]) ⟨hx, hb, hml, hown, hts⟩ (met_cell l b L xs (x4 + (2 : Int32)) (k6 + 2) (by rw [ex4]; exact nI_add k6 2) (by omega) hL) (va_cwS 2 hts (lw_S q199 q200 q2 q201) rfl rfl rfl (by decide +kernel) ⟨Nat.le_of_ble_eq_true rfl, Nat.le_of_ble_eq_true rfl⟩) ⟨fun a U g mk q => ⟨q.1, va_X.moved (u := U) (U := U.calling g mk a) (Vm.Alike.refl U.vm) q.2⟩, fun U hU hW => ⟨rfl, by show va_X _ _ _ U U.heap; rw [hU]; exact va_X.moved hW.alike hXH⟩⟩ rfl rfl hl.1 rfl (lv_room (Nat.le_of_ble_eq_true rfl)) dL_law_190 ⟨show C + 0 ≤ 1200192 by omega, show Z + 0 ≤ 5500522 by omega⟩).run (fun a1 _ => ?_)
      refine lv_sipush (v := 1023) hx hb dL_law_193 (by decide) ?_
      refine lv_iand hx hb dL_law_196 ?_
      refine lv_i2l hx hb dL_law_197 rfl ?_
      refine lv_ladd hx hb dL_law_198 ?_
      exact k199 _
    · refine lv_ldc2 hx hb hown (hts _ q275) dL_law_162 ?_
      refine lv_aload_n hx hb dL_law_165 rfl (lv_at hl 5 rfl) ?_
      refine lv_iload hx hb dL_law_166 (lv_at hl 4 rfl) ?_
      refine lv_iconst (v := 2) hx hb dL_law_168 (by decide) ?_
      refine lv_iadd hx hb dL_law_169 ?_
      refine vp_callSi (va_runS (As := [.ref b, .int (x4 + (2 : Int32))]) (rest := [.long (30999999999999999 : Int64)]) ⟨hx, hb, hml, hown, hts⟩ (met_cell l b L xs (x4 + (2 : Int32)) (k6 + 2) (by rw [ex4]; exact nI_add k6 2) (by omega) hL) (va_cwS 2 hts (lw_S q199 q200 q2 q201) rfl rfl rfl (by decide +kernel) ⟨Nat.le_of_ble_eq_true rfl, Nat.le_of_ble_eq_true rfl⟩) ⟨fun a U g mk q => ⟨q.1, va_X.moved (u := U) (U := U.calling g mk a) (Vm.Alike.refl U.vm) q.2⟩, fun U hU hW => ⟨rfl, by show va_X _ _ _ U U.heap; rw [hU]; exact va_X.moved hW.alike hXH⟩⟩ rfl rfl hl.1 rfl (lv_room (Nat.le_of_ble_eq_true rfl)) dL_law_170 ⟨show C + 0 ≤ 1200192 by omega, show Z + 0 ≤ 5500522 by omega⟩).run (fun a1 _ => ?_)
      refine lv_sipush (v := 1023) hx hb dL_law_173 (by decide) ?_
      refine lv_iand hx hb dL_law_176 ?_
      refine lv_i2l hx hb dL_law_177 rfl ?_
      refine lv_lsub hx hb dL_law_178 ?_
      refine lv_goto (tgt := 199) hx hb dL_law_179 (by decide) ?_
      exact k199 _
  · refine lv_aload_n hx hb dL_law_130 rfl (lv_at hl 5 rfl) ?_
    refine lv_iload hx hb dL_law_131 (lv_at hl 4 rfl) ?_
    refine lv_iconst (v := 2) hx hb dL_law_133 (by decide) ?_
    refine lv_iadd hx hb dL_law_134 ?_
    refine vp_callSi (va_runS (As := [.ref b, .int (x4 + (2 : Int32))]) (rest := []) ⟨hx, hb, hml, hown, hts⟩ (met_cell l b L xs (x4 + (2 : Int32)) (k6 + 2) (by rw [ex4]; exact nI_add k6 2) (by omega) hL) (va_cwS 2 hts (lw_S q199 q200 q2 q201) rfl rfl rfl (by decide +kernel) ⟨Nat.le_of_ble_eq_true rfl, Nat.le_of_ble_eq_true rfl⟩) ⟨fun a U g mk q => ⟨q.1, va_X.moved (u := U) (U := U.calling g mk a) (Vm.Alike.refl U.vm) q.2⟩, fun U hU hW => ⟨rfl, by show va_X _ _ _ U U.heap; rw [hU]; exact va_X.moved hW.alike hXH⟩⟩ rfl rfl hl.1 rfl (lv_room (Nat.le_of_ble_eq_true rfl)) dL_law_135 ⟨show C + 0 ≤ 1200192 by omega, show Z + 0 ≤ 5500522 by omega⟩).run (fun a1 _ => ?_)
    refine lv_aload_n hx hb dL_law_138 rfl (lv_at hl 5 rfl) ?_
    refine lv_iload hx hb dL_law_139 (lv_at hl 4 rfl) ?_
    refine lv_iconst (v := 3) hx hb dL_law_141 (by decide) ?_
    refine lv_iadd hx hb dL_law_142 ?_
    refine vp_callSi (va_runS (As := [.ref b, .int (x4 + (3 : Int32))]) (rest := [.int a1]) ⟨hx, hb, hml, hown, hts⟩ (met_cell l b L xs (x4 + (3 : Int32)) (k6 + 3) (by rw [ex4]; exact nI_add k6 3) (by omega) hL) (va_cwS 2 hts (lw_S q199 q200 q2 q201) rfl rfl rfl (by decide +kernel) ⟨Nat.le_of_ble_eq_true rfl, Nat.le_of_ble_eq_true rfl⟩) ⟨fun a U g mk q => ⟨q.1, va_X.moved (u := U) (U := U.calling g mk a) (Vm.Alike.refl U.vm) q.2⟩, fun U hU hW => ⟨rfl, by show va_X _ _ _ U U.heap; rw [hU]; exact va_X.moved hW.alike hXH⟩⟩ rfl rfl hl.1 rfl (lv_room (Nat.le_of_ble_eq_true rfl)) dL_law_143 ⟨show C + 0 ≤ 1200192 by omega, show Z + 0 ≤ 5500522 by omega⟩).run (fun a2 _ => ?_)
    refine vp_callSl (va_runS (As := [.int a1, .int a2]) (rest := []) ⟨hx, hb, hml, hown, hts⟩ (met_of l a1 a2) (va_cwS 2 hts (lw_S q205 q206 q2 q207) rfl rfl rfl (by decide +kernel) ⟨Nat.le_of_ble_eq_true rfl, Nat.le_of_ble_eq_true rfl⟩) ⟨fun a U g mk q => ⟨q.1, q.2⟩, fun U hU hW => ⟨rfl, trivial⟩⟩ rfl rfl hl.1 rfl (lv_room (Nat.le_of_ble_eq_true rfl)) dL_law_146 ⟨show C + 0 ≤ 1200192 by omega, show Z + 0 ≤ 5500522 by omega⟩).run (fun a3 _ => ?_)
    refine lv_goto (tgt := 199) hx hb dL_law_149 (by decide) ?_
    exact k199 _
set_option maxHeartbeats 4000000 in
set_option maxRecDepth 100000 in
/-- case 1: set by milliseconds -/
theorem law_case1 {p : Program} {l : Launch} {e : Env} {s : State} {m : MethodId} {below : List Frame} {meth : Method} {c : Code} {b L : Nat} {xs : Nat → Int32} (hL : L ≤ 96) (C0 : lw_At p s m meth c b L xs) {D : va_G} {h0 h1 : Nat} {cA : ClassId} {qs qn : Nat} {dJ dK : ClassId} {ep : Nat} (hAd : lw_Ad s.heap.size h0 h1 qs qn) (hE : wd_E ep (wd_N s.heap.size) s s.heap) {C Z : Nat} (kC : C ≤ 1000) (kZ : Z ≤ 1000) {x4 x5 x6 x7 x8 : Int32} {w : Nat} (kw : w < 2) (ew : x6 &&& 1 = nI w) (ex7 : x7 = x6 &&& 1) {k6 : Nat} (ex4 : x4 = nI k6) (hk6 : k6 < 900) (kk : (∀ (f : Nat → Option Nat) (sec : Nat → Int64) (nan : Nat → Int32) (fs fn : Nat → Int64) (H : Heap) (locs : List Loc) (ls : Array Slot), lw_J D s h0 h1 cA qs qn dJ dK f sec nan fs fn H locs → lv_has ls 13 [(0, .ref b), (1, .ref h0), (2, .ref qs), (3, .ref qn), (4, .int x4)] → W p l e room_1 s m #[Value.ref b] below meth c H locs (C + 1) (Z + 2) (lw_Z below #[Value.ref b] s) (F0 m 621 ls []))) {f : Nat → Option Nat} {sec : Nat → Int64} {nan : Nat → Int32} {fs fn : Nat → Int64} {H : Heap} {locs : List Loc} {ls : Array Slot} (hJ : lw_J D s h0 h1 cA qs qn dJ dK f sec nan fs fn H locs) (hl : lv_has ls 13 [(8, .int x8), (7, .int x7), (6, .int x6), (5, .int x5), (4, .int x4), (0, .ref b), (1, .ref h0), (2, .ref qs), (3, .ref qn)]) : W p l e room_1 s m #[Value.ref b] below meth c H locs (C) (Z) (lw_Z below #[Value.ref b] s) (F0 m 262 ls []) := by
  obtain ⟨hx, hb, hr, hml, hown, hts0, hX, hbl, hlocks, hgv⟩ := id C0
  have hts : ∀ w ∈ lw_all, w.before #[Value.ref b] s = true := fun w h => hts0 w (lw_all_tbl h)
  obtain ⟨hT, hR, hF, hS⟩ := hJ
  have hDk := hT.1
  have hXH : va_X b L xs s H := hX.kept (hS.2.1 b hbl (Nat.not_le.mpr hbl))
  have ew7 : x7 = nI w := by rw [ex7, ew]
  have l8 := x8.le_toInt
  have g8 := x8.toInt_lt
  have e8 := Jvm.Kit.i64_of_i32 x8
  refine lv_aload_n hx hb dL_law_262 rfl (lv_at hl 5 rfl) ?_
  refine lv_iload hx hb dL_law_263 (lv_at hl 4 rfl) ?_
  refine lv_iconst (v := 2) hx hb dL_law_265 (by decide) ?_
  refine lv_iadd hx hb dL_law_266 ?_
  refine vp_callSi (va_runS (As := [.ref b, .int (x4 + (2 : Int32))]) (rest := []) ⟨hx, hb, hml, hown, hts⟩ (met_cell l b L xs (x4 + (2 : Int32)) (k6 + 2) (by rw [ex4]; exact nI_add k6 2) (by omega) hL) (va_cwS 2 hts (lw_S q199 q200 q2 q201) rfl rfl rfl (by decide +kernel) ⟨Nat.le_of_ble_eq_true rfl, Nat.le_of_ble_eq_true rfl⟩) ⟨fun a U g mk q => ⟨q.1, va_X.moved (u := U) (U := U.calling g mk a) (Vm.Alike.refl U.vm) q.2⟩, fun U hU hW => ⟨rfl, by show va_X _ _ _ U U.heap; rw [hU]; exact va_X.moved hW.alike hXH⟩⟩ rfl rfl hl.1 rfl (lv_room (Nat.le_of_ble_eq_true rfl)) dL_law_267 ⟨show C + 0 ≤ 1200192 by omega, show Z + 0 ≤ 5500522 by omega⟩).run (fun a1 _ => ?_)
  refine lv_aload_n hx hb dL_law_270 rfl (lv_at hl 5 rfl) ?_
  refine lv_iload hx hb dL_law_271 (lv_at hl 4 rfl) ?_
  refine lv_iconst (v := 3) hx hb dL_law_273 (by decide) ?_
  refine lv_iadd hx hb dL_law_274 ?_
  refine vp_callSi (va_runS (As := [.ref b, .int (x4 + (3 : Int32))]) (rest := [.int a1]) ⟨hx, hb, hml, hown, hts⟩ (met_cell l b L xs (x4 + (3 : Int32)) (k6 + 3) (by rw [ex4]; exact nI_add k6 3) (by omega) hL) (va_cwS 2 hts (lw_S q199 q200 q2 q201) rfl rfl rfl (by decide +kernel) ⟨Nat.le_of_ble_eq_true rfl, Nat.le_of_ble_eq_true rfl⟩) ⟨fun a U g mk q => ⟨q.1, va_X.moved (u := U) (U := U.calling g mk a) (Vm.Alike.refl U.vm) q.2⟩, fun U hU hW => ⟨rfl, by show va_X _ _ _ U U.heap; rw [hU]; exact va_X.moved hW.alike hXH⟩⟩ rfl rfl hl.1 rfl (lv_room (Nat.le_of_ble_eq_true rfl)) dL_law_275 ⟨show C + 0 ≤ 1200192 by omega, show Z + 0 ≤ 5500522 by omega⟩).run (fun a2 _ => ?_)
  refine vp_callSl (va_runS (As := [.int a1, .int a2]) (rest := []) ⟨hx, hb, hml, hown, hts⟩ (met_of l a1 a2) (va_cwS 2 hts (lw_S q205 q206 q2 q207) rfl rfl rfl (by decide +kernel) ⟨Nat.le_of_ble_eq_true rfl, Nat.le_of_ble_eq_true rfl⟩) ⟨fun a U g mk q => ⟨q.1, q.2⟩, fun U hU hW => ⟨rfl, trivial⟩⟩ rfl rfl hl.1 rfl (lv_room (Nat.le_of_ble_eq_true rfl)) dL_law_278 ⟨show C + 0 ≤ 1200192 by omega, show Z + 0 ≤ 5500522 by omega⟩).run (fun a3 _ => ?_)
  refine lv_iload hx hb dL_law_281 (lv_at hl 3 rfl) ?_
  refine lv_bipush (v := 8) hx hb dL_law_283 (by decide) ?_
  refine lv_ishr hx hb dL_law_285 ?_
  refine lv_bipush (v := 63) hx hb dL_law_286 (by decide) ?_
  refine lv_iand hx hb dL_law_288 ?_
  refine lv_lshr hx hb dL_law_289 rfl ?_
  refine lv_topl (fun v ev => ?_)
  refine lv_lstore (lv' := [(9, .long v), (8, .int x8), (7, .int x7), (6, .int x6), (5, .int x5), (4, .int x4), (0, .ref b), (1, .ref h0), (2, .ref qs), (3, .ref qn)]) hx hb dL_law_290 hl (by decide) rfl (fun ls hl => ?_)
  refine lv_aload_n hx hb dL_law_292 rfl (lv_at hl 7 rfl) ?_
  refine lv_iload hx hb dL_law_293 (lv_at hl 3 rfl) ?_
  refine lv_lload hx hb dL_law_295 (lv_at hl 0 rfl) ?_
  refine lv_bipush (v := 32) hx hb dL_law_297 (by decide) ?_
  refine lv_lshr hx hb dL_law_299 rfl ?_
  refine lv_l2i hx hb dL_law_300 rfl ?_
  refine lv_lload hx hb dL_law_301 (lv_at hl 0 rfl) ?_
  refine lv_l2i hx hb dL_law_303 rfl ?_
  have hEH : wd_E ep (wd_A h1 H.size) s H := wd_E.narrow (wd_E.kept hE hS.2.1) (fun q h => wd_AN hAd.1 hS.1 h)
  refine va_callv (va_runV (As := [.int x6, .int ((v >>> ((32 : Int32).toInt64 &&& 63)).toInt32), .int v.toInt32]) (rest := []) ⟨hx, hb, hml, hown, hts⟩ (met_ofMilli l D h0 h1 cA f sec nan hAd.2.2.2.1 ep H.size x6 w kw ew (v >>> ((32 : Int32).toInt64 &&& 63)).toInt32 v.toInt32) (cwV 3 hts (lw_V q191 q192 q193 q3 q194) rfl rfl rfl (by decide +kernel) ⟨Nat.le_of_ble_eq_true rfl, Nat.le_of_ble_eq_true rfl⟩) ⟨fun a U g mk q => ⟨q.1, q.2.1, wd_Desk.moved (u := U) (U := U.calling g mk a) (Vm.Alike.refl U.vm) q.2.2.1, wd_E.moved (u := U) (U := U.calling g mk a) (Vm.Alike.refl U.vm) q.2.2.2⟩, va_recv hDk.2.1 hDk.1 (ci := 1) (q0 := 0) rfl rfl, fun U hU hW => ⟨rfl, by rw [hU], by rw [hU]; exact wd_Desk.moved hW.alike hDk, by rw [hU]; exact wd_E.moved hW.alike hEH⟩⟩ rfl rfl hl.1 rfl (lv_room (Nat.le_of_ble_eq_true rfl)) dL_law_304 ⟨show C + 1 ≤ 1200192 by omega, show Z + 2 ≤ 5500522 by omega⟩) hS (fun q _ h => wd_AN hAd.1 hS.1 h) (fun q h => wd_AN hAd.1 hS.1 h) (fun u t H4 locs ht hvm hw hB hz1 hk1 hS => ?_)
  have hDk : wd_Desk D h0 h1 cA u.1 (va_up sec w u.2.1) (va_up nan w u.2.2) s H4 := by
    have h9 : wd_Desk D h0 h1 cA u.1 (va_up sec w u.2.1) (va_up nan w u.2.2) t t.heap := hB
    rw [ht] at h9
    exact wd_Desk.moved hvm.symm h9
  have hT := hT.call hAd hDk hk1
  rw [nu_halves] at hw
  refine lv_aload_n hx hb dL_law_307 rfl (lv_at hl 8 rfl) ?_
  refine lv_iload hx hb dL_law_308 (lv_at hl 2 rfl) ?_
  refine lv_lload hx hb dL_law_310 (lv_at hl 0 rfl) ?_
  refine lv_ldc2 hx hb hown (hts _ q244) dL_law_312 ?_
  refine vp_callSl (va_runS (As := [.long v, .long (1000 : Int64)]) (rest := [.int x7, .ref qs]) ⟨hx, hb, hml, hown, hts⟩ (met_floor l v 1000 (by decide)) (va_cwS 2 hts (lw_S q202 q203 q2 q204) rfl rfl rfl (by decide +kernel) ⟨Nat.le_of_ble_eq_true rfl, Nat.le_of_ble_eq_true rfl⟩) ⟨fun a U g mk q => ⟨q.1, q.2⟩, fun U hU hW => ⟨rfl, trivial⟩⟩ rfl rfl hl.1 rfl (lv_room (Nat.le_of_ble_eq_true rfl)) dL_law_315 ⟨show C + 1 + 0 ≤ 1200192 by omega, show Z + 2 + 0 ≤ 5500522 by omega⟩).run (fun f1 q1 => ?_)
  rw [nu_thou] at q1
  have eX : f1 = u.2.1 := Int64.toInt_inj.mp (by rw [q1, hw.1])
  refine wd_last hx hb hT.2.1 hT.2.2.2.1 kw ew7 dL_law_318 (fun H5 eH5 z5 oq5 => ?_)
  have hT := hT.putS hAd eH5 oq5
  have hS := hS.put (k := w) z5 oq5 hAd.2.1
  refine lv_aload_n hx hb dL_law_319 rfl (lv_at hl 9 rfl) ?_
  refine lv_iload hx hb dL_law_320 (lv_at hl 2 rfl) ?_
  refine lv_lload hx hb dL_law_322 (lv_at hl 0 rfl) ?_
  refine lv_aload_n hx hb dL_law_324 rfl (lv_at hl 8 rfl) ?_
  refine lv_iload hx hb dL_law_325 (lv_at hl 2 rfl) ?_
  refine wd_lald hx hb hT.2.1 hT.2.2.2.1 kw ew7 dL_law_327 ?_
  refine lv_ldc2 hx hb hown (hts _ q244) dL_law_328 ?_
  refine lv_lmul hx hb dL_law_331 ?_
  refine lv_lsub hx hb dL_law_332 ?_
  refine lv_ldc2 hx hb hown (hts _ q245) dL_law_333 ?_
  refine lv_lmul hx hb dL_law_336 ?_
  have eY : (v - vp_updL fs w f1 w * (1000 : Int64)) * (1000000 : Int64) = u.2.2.toInt64 := by
    apply Int64.toInt_inj.mp
    rw [pk_uLs]
    have m1 := nu_sub1000 q1
    rw [Jvm.Kit.i64_mul (by rw [m1, nu_mio]; omega) (by rw [m1, nu_mio]; omega), m1, nu_mio, Jvm.Kit.i64_of_i32, hw.2]
  refine wd_last hx hb hT.2.2.1 hT.2.2.2.2 kw ew7 dL_law_337 (fun H6 eH6 z6 oq6 => ?_)
  have hT := hT.putN hAd eH6 oq6
  have hS := hS.put (k := w) z6 oq6 hAd.2.2.1
  refine lv_goto (tgt := 621) hx hb dL_law_338 (by decide) ?_
  exact kk u.1 (va_up sec w u.2.1) (va_up nan w u.2.2) (vp_updL fs w f1) (vp_updL fn w ((v - (((vp_updL fs w f1) w) * (1000 : Int64))) * (1000000 : Int64))) _ _ ls ⟨hT, wd_Rg_up hR (by rw [hw.2]; omega) (by rw [hw.2]; omega), wd_F_up hF eX eY, hS⟩ (lv_sub hl [6, 7, 8, 9, 5] rfl)
set_option maxHeartbeats 4000000 in
set_option maxRecDepth 100000 in
/-- case 2: moved by seconds -/
theorem law_case2 {p : Program} {l : Launch} {e : Env} {s : State} {m : MethodId} {below : List Frame} {meth : Method} {c : Code} {b L : Nat} {xs : Nat → Int32} (hL : L ≤ 96) (C0 : lw_At p s m meth c b L xs) {D : va_G} {h0 h1 : Nat} {cA : ClassId} {qs qn : Nat} {dJ dK : ClassId} {ep : Nat} (hAd : lw_Ad s.heap.size h0 h1 qs qn) (hE : wd_E ep (wd_N s.heap.size) s s.heap) {C Z : Nat} (kC : C ≤ 1000) (kZ : Z ≤ 1000) {x4 x5 x6 x7 x8 : Int32} {w : Nat} (kw : w < 2) (ew : x6 &&& 1 = nI w) (ex7 : x7 = x6 &&& 1) {k6 : Nat} (ex4 : x4 = nI k6) (hk6 : k6 < 900) (kk : (∀ (f : Nat → Option Nat) (sec : Nat → Int64) (nan : Nat → Int32) (fs fn : Nat → Int64) (H : Heap) (locs : List Loc) (ls : Array Slot), lw_J D s h0 h1 cA qs qn dJ dK f sec nan fs fn H locs → lv_has ls 13 [(0, .ref b), (1, .ref h0), (2, .ref qs), (3, .ref qn), (4, .int x4)] → W p l e room_1 s m #[Value.ref b] below meth c H locs (C + 1) (Z + 2) (lw_Z below #[Value.ref b] s) (F0 m 621 ls []))) {f : Nat → Option Nat} {sec : Nat → Int64} {nan : Nat → Int32} {fs fn : Nat → Int64} {H : Heap} {locs : List Loc} {ls : Array Slot} (hJ : lw_J D s h0 h1 cA qs qn dJ dK f sec nan fs fn H locs) (hl : lv_has ls 13 [(8, .int x8), (7, .int x7), (6, .int x6), (5, .int x5), (4, .int x4), (0, .ref b), (1, .ref h0), (2, .ref qs), (3, .ref qn)]) : W p l e room_1 s m #[Value.ref b] below meth c H locs (C) (Z) (lw_Z below #[Value.ref b] s) (F0 m 341 ls []) := by
  obtain ⟨hx, hb, hr, hml, hown, hts0, hX, hbl, hlocks, hgv⟩ := id C0
  have hts : ∀ w ∈ lw_all, w.before #[Value.ref b] s = true := fun w h => hts0 w (lw_all_tbl h)
  obtain ⟨hT, hR, hF, hS⟩ := hJ
  have hDk := hT.1
  have hXH : va_X b L xs s H := hX.kept (hS.2.1 b hbl (Nat.not_le.mpr hbl))
  have ew7 : x7 = nI w := by rw [ex7, ew]
  have l8 := x8.le_toInt
  have g8 := x8.toInt_lt
  have e8 := Jvm.Kit.i64_of_i32 x8
  have k368 : ∀ v : Int32, ((v = 1 ∧ ((sec w).toInt ≤ 31000000000000000 ∧ -31000000000000000 ≤ (sec w).toInt)) ∨ (v = 0 ∧ ¬ ((sec w).toInt ≤ 31000000000000000 ∧ -31000000000000000 ≤ (sec w).toInt))) → W p l e room_1 s m #[Value.ref b] below meth c H locs (C) (Z) (lw_Z below #[Value.ref b] s) (F0 m 368 ls [.int v]) := by
    intro v hv
    refine lv_istore (lv' := [(9, .int v), (8, .int x8), (7, .int x7), (6, .int x6), (5, .int x5), (4, .int x4), (0, .ref b), (1, .ref h0), (2, .ref qs), (3, .ref qn)]) hx hb dL_law_368 hl (by decide) rfl (fun ls hl => ?_)
    refine lv_aload_n hx hb dL_law_370 rfl (lv_at hl 7 rfl) ?_
    refine lv_iload hx hb dL_law_371 (lv_at hl 3 rfl) ?_
    refine lv_iload hx hb dL_law_373 (lv_at hl 1 rfl) ?_
    have hEH : wd_E ep (wd_A h1 H.size) s H := wd_E.narrow (wd_E.kept hE hS.2.1) (fun q h => wd_AN hAd.1 hS.1 h)
    refine va_calli (va_runV (As := [.int x6, .int x8]) (rest := []) ⟨hx, hb, hml, hown, hts⟩ (met_seconds l D h0 h1 cA f sec nan hAd.2.2.2.1 ep H.size x6 w kw ew hR x8) (cwV 2 hts (lw_V q155 q156 q157 q3 q158) rfl rfl rfl (by decide +kernel) ⟨Nat.le_of_ble_eq_true rfl, Nat.le_of_ble_eq_true rfl⟩) ⟨fun a U g mk q => ⟨q.1, q.2.1, wd_Desk.moved (u := U) (U := U.calling g mk a) (Vm.Alike.refl U.vm) q.2.2.1, wd_E.moved (u := U) (U := U.calling g mk a) (Vm.Alike.refl U.vm) q.2.2.2⟩, va_recv hDk.2.1 hDk.1 (ci := 1) (q0 := 0) rfl rfl, fun U hU hW => ⟨rfl, by rw [hU], by rw [hU]; exact wd_Desk.moved hW.alike hDk, by rw [hU]; exact wd_E.moved hW.alike hEH⟩⟩ rfl rfl hl.1 rfl (lv_room (Nat.le_of_ble_eq_true rfl)) dL_law_375 ⟨show C + 1 ≤ 1200192 by omega, show Z + 2 ≤ 5500522 by omega⟩) hS (fun q _ h => wd_AN hAd.1 hS.1 h) (fun q h => wd_AN hAd.1 hS.1 h) (fun r u t H7 locs ht hvm hw hB hz1 hk1 hS => ?_)
    have hDk : wd_Desk D h0 h1 cA u.1 (va_up sec w u.2.1) (va_up nan w u.2.2) s H7 := by
      have h9 : wd_Desk D h0 h1 cA u.1 (va_up sec w u.2.1) (va_up nan w u.2.2) t t.heap := hB
      rw [ht] at h9
      exact wd_Desk.moved hvm.symm h9
    have hT := hT.call hAd hDk hk1
    have hN2 : u.2.2 = nan w := by
      by_cases q : ((sec w).toInt ≤ 31000000000000000 ∧ -31000000000000000 ≤ (sec w).toInt)
      · exact Int32.toInt_inj.mp (hw.1 q).2.2
      · exact (hw.2 q).2.2
    have hrv : r = v := by
      rcases hv with ⟨q, i⟩ | ⟨q, i⟩
      · rw [q, (hw.1 i).1]
      · rw [q, (hw.2 i).1]
    refine lv_iload hx hb dL_law_378 (lv_at hl 0 rfl) ?_
    refine lv_icmp_eq (tgt := 385) hx hb dL_law_380 (by decide) (fun c1 => ?_) (fun c1 => ?_)
    · refine lv_aload_n hx hb dL_law_385 rfl (lv_at hl 8 rfl) ?_
      refine lv_iload hx hb dL_law_386 (lv_at hl 2 rfl) ?_
      refine lv_dup2_11 hx hb dL_law_388 rfl rfl ?_
      refine wd_lald hx hb hT.2.1 hT.2.2.2.1 kw ew7 dL_law_389 ?_
      refine lv_iload hx hb dL_law_390 (lv_at hl 0 rfl) ?_
      have k402 : ∀ d : Int64, fs w + d = u.2.1 → W p l e room_1 s m #[Value.ref b] below meth c H7 locs (C + 1) (Z + 2) (lw_Z below #[Value.ref b] s) (F0 m 402 ls [.long d, .long (fs w), .int x7, .ref qs]) := by
        intro d hd
        refine lv_ladd hx hb dL_law_402 ?_
        refine wd_last hx hb hT.2.1 hT.2.2.2.1 kw ew7 dL_law_403 (fun H8 eH8 z8 oq8 => ?_)
        have hT := hT.putS hAd eH8 oq8
        have hS := hS.put (k := w) z8 oq8 hAd.2.1
        refine lv_goto (tgt := 621) hx hb dL_law_404 (by decide) ?_
        exact kk u.1 (va_up sec w u.2.1) (va_up nan w u.2.2) (vp_updL fs w (fs w + d)) fn _ _ ls ⟨hT, (by rw [hN2, wd_up_same]; exact hR), wd_F_upS hF hd hN2, hS⟩ (lv_sub hl [6, 7, 8, 9, 5] rfl)
      refine lv_if_eq (tgt := 401) hx hb dL_law_392 (by decide) (fun c2 => ?_) (fun c2 => ?_)
      · have gn : ¬ ((sec w).toInt ≤ 31000000000000000 ∧ -31000000000000000 ≤ (sec w).toInt) := by
          rcases hv with ⟨q, -⟩ | ⟨-, q⟩
          · rw [q] at c2; exact absurd c2 (by decide)
          · exact q
        refine lv_lconst (v := 0) hx hb dL_law_401 (by decide) ?_
        exact k402 0 (by rw [Int64.add_zero, (hF w kw).1, (hw.2 gn).2.1])
      · have gi : ((sec w).toInt ≤ 31000000000000000 ∧ -31000000000000000 ≤ (sec w).toInt) := by
          rcases hv with ⟨-, q⟩ | ⟨q, -⟩
          · exact q
          · exact absurd q c2
        refine lv_iload hx hb dL_law_395 (lv_at hl 1 rfl) ?_
        refine lv_i2l hx hb dL_law_397 rfl ?_
        refine lv_goto (tgt := 402) hx hb dL_law_398 (by decide) ?_
        exact k402 x8.toInt64 (by
          apply Int64.toInt_inj.mp
          have m1 := (hw.1 gi).2.1
          rw [(hF w kw).1, Jvm.Kit.i64_add (by rw [e8]; omega) (by rw [e8]; omega), e8, m1])
    · exact absurd hrv c1
  refine lv_aload_n hx hb dL_law_341 rfl (lv_at hl 7 rfl) ?_
  refine lv_iload hx hb dL_law_342 (lv_at hl 1 rfl) ?_
  refine wd_lald hx hb hT.2.1 hT.2.2.2.1 kw ew7 dL_law_344 ?_
  refine lv_ldc2 hx hb hown (hts _ q277) dL_law_345 ?_
  refine W.lcmp hx hb dL_law_348 ?_
  refine lv_if_gt (tgt := 367) hx hb dL_law_349 (by decide) (fun b1 => ?_) (fun b1 => ?_)
  · have gn : ¬ ((sec w).toInt ≤ 31000000000000000 ∧ -31000000000000000 ≤ (sec w).toInt) := by have h9 := (nu_gt _ _).mp b1; rw [(hF w kw).1, nu_most] at h9; omega
    refine lv_iconst (v := 0) hx hb dL_law_367 (by decide) ?_
    exact k368 0 (Or.inr ⟨rfl, gn⟩)
  · have g1 : (sec w).toInt ≤ 31000000000000000 := by have h9 := nu_ngt b1; rw [(hF w kw).1, nu_most] at h9; exact h9
    refine lv_aload_n hx hb dL_law_352 rfl (lv_at hl 7 rfl) ?_
    refine lv_iload hx hb dL_law_353 (lv_at hl 1 rfl) ?_
    refine wd_lald hx hb hT.2.1 hT.2.2.2.1 kw ew7 dL_law_355 ?_
    refine lv_ldc2 hx hb hown (hts _ q279) dL_law_356 ?_
    refine W.lcmp hx hb dL_law_359 ?_
    refine lv_if_lt (tgt := 367) hx hb dL_law_360 (by decide) (fun b2 => ?_) (fun b2 => ?_)
    · have gn : ¬ ((sec w).toInt ≤ 31000000000000000 ∧ -31000000000000000 ≤ (sec w).toInt) := by have h9 := (nu_lt _ _).mp b2; rw [(hF w kw).1, nu_mostn] at h9; omega
      refine lv_iconst (v := 0) hx hb dL_law_367 (by decide) ?_
      exact k368 0 (Or.inr ⟨rfl, gn⟩)
    · have g2 : -31000000000000000 ≤ (sec w).toInt := by have h9 := nu_nlt b2; rw [(hF w kw).1, nu_mostn] at h9; exact h9
      refine lv_iconst (v := 1) hx hb dL_law_363 (by decide) ?_
      refine lv_goto (tgt := 368) hx hb dL_law_364 (by decide) ?_
      exact k368 1 (Or.inl ⟨rfl, g1, g2⟩)
set_option maxHeartbeats 4000000 in
set_option maxRecDepth 100000 in
/-- cases 3 and 4: moved by milliseconds or nanos -/
theorem law_case34 {p : Program} {l : Launch} {e : Env} {s : State} {m : MethodId} {below : List Frame} {meth : Method} {c : Code} {b L : Nat} {xs : Nat → Int32} (hL : L ≤ 96) (C0 : lw_At p s m meth c b L xs) {D : va_G} {h0 h1 : Nat} {cA : ClassId} {qs qn : Nat} {dJ dK : ClassId} {ep : Nat} (hAd : lw_Ad s.heap.size h0 h1 qs qn) (hE : wd_E ep (wd_N s.heap.size) s s.heap) {C Z : Nat} (kC : C ≤ 1000) (kZ : Z ≤ 1000) {x4 x5 x6 x7 x8 : Int32} {w : Nat} (kw : w < 2) (ew : x6 &&& 1 = nI w) (ex7 : x7 = x6 &&& 1) {k6 : Nat} (ex4 : x4 = nI k6) (hk6 : k6 < 900) (kk : (∀ (f : Nat → Option Nat) (sec : Nat → Int64) (nan : Nat → Int32) (fs fn : Nat → Int64) (H : Heap) (locs : List Loc) (ls : Array Slot), lw_J D s h0 h1 cA qs qn dJ dK f sec nan fs fn H locs → lv_has ls 13 [(0, .ref b), (1, .ref h0), (2, .ref qs), (3, .ref qn), (4, .int x4)] → W p l e room_1 s m #[Value.ref b] below meth c H locs (C + 1) (Z + 2) (lw_Z below #[Value.ref b] s) (F0 m 621 ls []))) {f : Nat → Option Nat} {sec : Nat → Int64} {nan : Nat → Int32} {fs fn : Nat → Int64} {H : Heap} {locs : List Loc} {ls : Array Slot} (hJ : lw_J D s h0 h1 cA qs qn dJ dK f sec nan fs fn H locs) (hl : lv_has ls 13 [(8, .int x8), (7, .int x7), (6, .int x6), (5, .int x5), (4, .int x4), (0, .ref b), (1, .ref h0), (2, .ref qs), (3, .ref qn)]) : W p l e room_1 s m #[Value.ref b] below meth c H locs (C) (Z) (lw_Z below #[Value.ref b] s) (F0 m 407 ls []) := by
  obtain ⟨hx, hb, hr, hml, hown, hts0, hX, hbl, hlocks, hgv⟩ := id C0
  have hts : ∀ w ∈ lw_all, w.before #[Value.ref b] s = true := fun w h => hts0 w (lw_all_tbl h)
  obtain ⟨hT, hR, hF, hS⟩ := hJ
  have hDk := hT.1
  have hXH : va_X b L xs s H := hX.kept (hS.2.1 b hbl (Nat.not_le.mpr hbl))
  have ew7 : x7 = nI w := by rw [ex7, ew]
  have l8 := x8.le_toInt
  have g8 := x8.toInt_lt
  have e8 := Jvm.Kit.i64_of_i32 x8
  have k424 : ∀ z : Int32, (z = 1 ∨ z = 0) → W p l e room_1 s m #[Value.ref b] below meth c H locs (C) (Z) (lw_Z below #[Value.ref b] s) (F0 m 424 ls [.int z]) := by
    intro z hz
    refine lv_istore (lv' := [(9, .int z), (8, .int x8), (7, .int x7), (6, .int x6), (5, .int x5), (4, .int x4), (0, .ref b), (1, .ref h0), (2, .ref qs), (3, .ref qn)]) hx hb dL_law_424 hl (by decide) rfl (fun ls hl => ?_)
    have k453 : ∀ v : Int32, ((v = 1 ∧ ((sec w).toInt ≤ 31000000000000000 ∧ -31000000000000000 ≤ (sec w).toInt)) ∨ (v = 0 ∧ ¬ ((sec w).toInt ≤ 31000000000000000 ∧ -31000000000000000 ≤ (sec w).toInt))) → W p l e room_1 s m #[Value.ref b] below meth c H locs (C) (Z) (lw_Z below #[Value.ref b] s) (F0 m 453 ls [.int v]) := by
      intro v hv
      refine lv_istore (lv' := [(10, .int v), (9, .int z), (8, .int x8), (7, .int x7), (6, .int x6), (5, .int x5), (4, .int x4), (0, .ref b), (1, .ref h0), (2, .ref qs), (3, .ref qn)]) hx hb dL_law_453 hl (by decide) rfl (fun ls hl => ?_)
      obtain ⟨mo, hmo⟩ : ∃ mo : Int, (z = 1 ∧ mo = x8.toInt * 1000000) ∨ (z = 0 ∧ mo = x8.toInt) := by
        rcases hz with q | q
        · exact ⟨_, Or.inl ⟨q, rfl⟩⟩
        · exact ⟨_, Or.inr ⟨q, rfl⟩⟩
      have mo1 : -3000000000000000 ≤ mo ∧ mo ≤ 3000000000000000 := by rcases hmo with ⟨-, q⟩ | ⟨-, q⟩ <;> omega
      have k479 : ∀ (r : Int32) (u : (Nat → Option Nat) × Int64 × Int32) (H1 : Heap) (locs1 : List Loc), ((((sec w).toInt ≤ 31000000000000000 ∧ -31000000000000000 ≤ (sec w).toInt) → r = 1 ∧ u.2.1.toInt = (sec w).toInt + ((nan w).toInt + mo) / 1000000000 ∧ u.2.2.toInt = ((nan w).toInt + mo) % 1000000000) ∧ (¬ ((sec w).toInt ≤ 31000000000000000 ∧ -31000000000000000 ≤ (sec w).toInt) → r = 0 ∧ u.2.1 = sec w ∧ u.2.2 = nan w)) → wd_Told D h0 h1 cA u.1 (va_up sec w u.2.1) (va_up nan w u.2.2) qs qn dJ dK fs fn s H1 → va_S (wd_N s.heap.size) s.heap H1 locs1 → W p l e room_1 s m #[Value.ref b] below meth c H1 locs1 (C + 1) (Z + 2) (lw_Z below #[Value.ref b] s) (F0 m 479 ls [.int r]) := by
        intro r u H1 locs1 hw hT hS
        have hrv : r = v := by
          rcases hv with ⟨q, i⟩ | ⟨q, i⟩
          · rw [q, (hw.1 i).1]
          · rw [q, (hw.2 i).1]
        refine lv_iload hx hb dL_law_479 (lv_at hl 0 rfl) ?_
        refine lv_icmp_eq (tgt := 486) hx hb dL_law_481 (by decide) (fun c1 => ?_) (fun c1 => ?_)
        · have k504 : ∀ d : Int64, d.toInt = mo → W p l e room_1 s m #[Value.ref b] below meth c H1 locs1 (C + 1) (Z + 2) (lw_Z below #[Value.ref b] s) (F0 m 504 ls [.long d]) := by
            intro d hd
            refine lv_lstore (lv' := [(11, .long d), (10, .int v), (9, .int z), (8, .int x8), (7, .int x7), (6, .int x6), (5, .int x5), (4, .int x4), (0, .ref b), (1, .ref h0), (2, .ref qs), (3, .ref qn)]) hx hb dL_law_504 hl (by decide) rfl (fun ls hl => ?_)
            refine lv_iload hx hb dL_law_506 (lv_at hl 1 rfl) ?_
            refine lv_if_eq (tgt := 621) hx hb dL_law_508 (by decide) (fun c3 => ?_) (fun c3 => ?_)
            · have gn : ¬ ((sec w).toInt ≤ 31000000000000000 ∧ -31000000000000000 ≤ (sec w).toInt) := by
                rcases hv with ⟨q, -⟩ | ⟨-, q⟩
                · rw [q] at c3; exact absurd c3 (by decide)
                · exact q
              exact kk u.1 (va_up sec w u.2.1) (va_up nan w u.2.2) fs fn _ _ ls ⟨hT, (by rw [(hw.2 gn).2.2, wd_up_same]; exact hR), (by rw [(hw.2 gn).2.1, (hw.2 gn).2.2, wd_up_same, wd_up_same]; exact hF), hS⟩ (lv_sub hl [8, 9, 10, 11, 7] rfl)
            · have gi : ((sec w).toInt ≤ 31000000000000000 ∧ -31000000000000000 ≤ (sec w).toInt) := by
                rcases hv with ⟨-, q⟩ | ⟨q, -⟩
                · exact q
                · exact absurd q c3
              have r3 := hR w kw
              have hw1 := (hw.1 gi).2
              have en := Jvm.Kit.i64_of_i32 (nan w)
              have eD : (fn w + d).toInt = (nan w).toInt + mo := by rw [(hF w kw).2, Jvm.Kit.i64_add (by rw [en, hd]; omega) (by rw [en, hd]; omega), en, hd]
              refine lv_aload_n hx hb dL_law_511 rfl (lv_at hl 10 rfl) ?_
              refine lv_iload hx hb dL_law_512 (lv_at hl 4 rfl) ?_
              refine lv_dup2_11 hx hb dL_law_514 rfl rfl ?_
              refine wd_lald hx hb hT.2.1 hT.2.2.2.1 kw ew7 dL_law_515 ?_
              refine lv_aload_n hx hb dL_law_516 rfl (lv_at hl 11 rfl) ?_
              refine lv_iload hx hb dL_law_517 (lv_at hl 4 rfl) ?_
              refine wd_lald hx hb hT.2.2.1 hT.2.2.2.2 kw ew7 dL_law_519 ?_
              refine lv_lload hx hb dL_law_520 (lv_at hl 0 rfl) ?_
              refine lv_ladd hx hb dL_law_522 ?_
              refine lv_ldc2 hx hb hown (hts _ q278) dL_law_523 ?_
              refine vp_callSl (va_runS (As := [.long ((fn w) + d), .long (1000000000 : Int64)]) (rest := [.long (fs w), .int x7, .ref qs]) ⟨hx, hb, hml, hown, hts⟩ (met_floor l (fn w + d) 1000000000 (by decide)) (va_cwS 2 hts (lw_S q202 q203 q2 q204) rfl rfl rfl (by decide +kernel) ⟨Nat.le_of_ble_eq_true rfl, Nat.le_of_ble_eq_true rfl⟩) ⟨fun a U g mk q => ⟨q.1, q.2⟩, fun U hU hW => ⟨rfl, trivial⟩⟩ rfl rfl hl.1 rfl (lv_room (Nat.le_of_ble_eq_true rfl)) dL_law_526 ⟨show C + 1 + 0 ≤ 1200192 by omega, show Z + 2 + 0 ≤ 5500522 by omega⟩).run (fun f1 q1 => ?_)
              rw [nu_bil, eD] at q1
              refine lv_ladd hx hb dL_law_529 ?_
              have eX : fs w + f1 = u.2.1 := by
                apply Int64.toInt_inj.mp
                rw [(hF w kw).1, Jvm.Kit.i64_add (by rw [q1]; omega) (by rw [q1]; omega), q1, hw1.1]
              refine wd_last hx hb hT.2.1 hT.2.2.2.1 kw ew7 dL_law_530 (fun H9 eH9 z9 oq9 => ?_)
              have hT := hT.putS hAd eH9 oq9
              have hS := hS.put (k := w) z9 oq9 hAd.2.1
              refine lv_aload_n hx hb dL_law_531 rfl (lv_at hl 11 rfl) ?_
              refine lv_iload hx hb dL_law_532 (lv_at hl 4 rfl) ?_
              refine lv_aload_n hx hb dL_law_534 rfl (lv_at hl 11 rfl) ?_
              refine lv_iload hx hb dL_law_535 (lv_at hl 4 rfl) ?_
              refine wd_lald hx hb hT.2.2.1 hT.2.2.2.2 kw ew7 dL_law_537 ?_
              refine lv_lload hx hb dL_law_538 (lv_at hl 0 rfl) ?_
              refine lv_ladd hx hb dL_law_540 ?_
              refine lv_aload_n hx hb dL_law_541 rfl (lv_at hl 11 rfl) ?_
              refine lv_iload hx hb dL_law_542 (lv_at hl 4 rfl) ?_
              refine wd_lald hx hb hT.2.2.1 hT.2.2.2.2 kw ew7 dL_law_544 ?_
              refine lv_lload hx hb dL_law_545 (lv_at hl 0 rfl) ?_
              refine lv_ladd hx hb dL_law_547 ?_
              refine lv_ldc2 hx hb hown (hts _ q278) dL_law_548 ?_
              refine vp_callSl (va_runS (As := [.long ((fn w) + d), .long (1000000000 : Int64)]) (rest := [.long ((fn w) + d), .int x7, .ref qn]) ⟨hx, hb, hml, hown, hts⟩ (met_floor l (fn w + d) 1000000000 (by decide)) (va_cwS 2 hts (lw_S q202 q203 q2 q204) rfl rfl rfl (by decide +kernel) ⟨Nat.le_of_ble_eq_true rfl, Nat.le_of_ble_eq_true rfl⟩) ⟨fun a U g mk q => ⟨q.1, q.2⟩, fun U hU hW => ⟨rfl, trivial⟩⟩ rfl rfl hl.1 rfl (lv_room (Nat.le_of_ble_eq_true rfl)) dL_law_551 ⟨show C + 1 + 0 ≤ 1200192 by omega, show Z + 2 + 0 ≤ 5500522 by omega⟩).run (fun f2 q2 => ?_)
              rw [nu_bil, eD] at q2
              refine lv_ldc2 hx hb hown (hts _ q278) dL_law_554 ?_
              refine lv_lmul hx hb dL_law_557 ?_
              refine lv_lsub hx hb dL_law_558 ?_
              have eY : (fn w + d) - f2 * (1000000000 : Int64) = u.2.2.toInt64 := nu_case0Y (by rw [eD]; omega) (by rw [eD]; omega) (by rw [q2, eD]) (by rw [hw1.2, eD])
              refine wd_last hx hb hT.2.2.1 hT.2.2.2.2 kw ew7 dL_law_559 (fun H10 eH10 z10 oq10 => ?_)
              have hT := hT.putN hAd eH10 oq10
              have hS := hS.put (k := w) z10 oq10 hAd.2.2.1
              refine lv_goto (tgt := 621) hx hb dL_law_560 (by decide) ?_
              exact kk u.1 (va_up sec w u.2.1) (va_up nan w u.2.2) (vp_updL fs w ((fs w) + f1)) (vp_updL fn w (((fn w) + d) - (f2 * (1000000000 : Int64)))) _ _ ls ⟨hT, wd_Rg_up hR (by rw [hw1.2]; omega) (by rw [hw1.2]; omega), wd_F_up hF eX eY, hS⟩ (lv_sub hl [8, 9, 10, 11, 7] rfl)
          refine lv_iload hx hb dL_law_486 (lv_at hl 1 rfl) ?_
          refine lv_if_eq (tgt := 501) hx hb dL_law_488 (by decide) (fun c2 => ?_) (fun c2 => ?_)
          · refine lv_iload hx hb dL_law_501 (lv_at hl 2 rfl) ?_
            refine lv_i2l hx hb dL_law_503 rfl ?_
            exact k504 x8.toInt64 (by
              rcases hmo with ⟨q, -⟩ | ⟨-, q⟩
              · rw [q] at c2; exact absurd c2 (by decide)
              · rw [e8, q])
          · refine lv_iload hx hb dL_law_491 (lv_at hl 2 rfl) ?_
            refine lv_i2l hx hb dL_law_493 rfl ?_
            refine lv_ldc2 hx hb hown (hts _ q245) dL_law_494 ?_
            refine lv_lmul hx hb dL_law_497 ?_
            refine lv_goto (tgt := 504) hx hb dL_law_498 (by decide) ?_
            exact k504 (x8.toInt64 * (1000000 : Int64)) (by
              rcases hmo with ⟨-, q⟩ | ⟨q, -⟩
              · rw [Jvm.Kit.i64_mul (by rw [e8, nu_mio]; omega) (by rw [e8, nu_mio]; omega), e8, nu_mio, q]
              · exact absurd q c2)
        · exact absurd hrv c1
      refine lv_iload hx hb dL_law_455 (lv_at hl 1 rfl) ?_
      refine lv_if_eq (tgt := 471) hx hb dL_law_457 (by decide) (fun c0 => ?_) (fun c0 => ?_)
      · refine lv_aload_n hx hb dL_law_471 rfl (lv_at hl 8 rfl) ?_
        refine lv_iload hx hb dL_law_472 (lv_at hl 4 rfl) ?_
        refine lv_iload hx hb dL_law_474 (lv_at hl 2 rfl) ?_
        have hEH : wd_E ep (wd_A h1 H.size) s H := wd_E.narrow (wd_E.kept hE hS.2.1) (fun q h => wd_AN hAd.1 hS.1 h)
        refine va_calli (va_runV (As := [.int x6, .int x8]) (rest := []) ⟨hx, hb, hml, hown, hts⟩ (met_nanos l D h0 h1 cA f sec nan hAd.2.2.2.1 ep H.size x6 w kw ew hR x8) (cwV 2 hts (lw_V q183 q184 q185 q3 q186) rfl rfl rfl (by decide +kernel) ⟨Nat.le_of_ble_eq_true rfl, Nat.le_of_ble_eq_true rfl⟩) ⟨fun a U g mk q => ⟨q.1, q.2.1, wd_Desk.moved (u := U) (U := U.calling g mk a) (Vm.Alike.refl U.vm) q.2.2.1, wd_E.moved (u := U) (U := U.calling g mk a) (Vm.Alike.refl U.vm) q.2.2.2⟩, va_recv hDk.2.1 hDk.1 (ci := 1) (q0 := 0) rfl rfl, fun U hU hW => ⟨rfl, by rw [hU], by rw [hU]; exact wd_Desk.moved hW.alike hDk, by rw [hU]; exact wd_E.moved hW.alike hEH⟩⟩ rfl rfl hl.1 rfl (lv_room (Nat.le_of_ble_eq_true rfl)) dL_law_476 ⟨show C + 1 ≤ 1200192 by omega, show Z + 2 ≤ 5500522 by omega⟩) hS (fun q _ h => wd_AN hAd.1 hS.1 h) (fun q h => wd_AN hAd.1 hS.1 h) (fun r u t H11 locs ht hvm hw hB hz1 hk1 hS => ?_)
        have hDk : wd_Desk D h0 h1 cA u.1 (va_up sec w u.2.1) (va_up nan w u.2.2) s H11 := by
          have h9 : wd_Desk D h0 h1 cA u.1 (va_up sec w u.2.1) (va_up nan w u.2.2) t t.heap := hB
          rw [ht] at h9
          exact wd_Desk.moved hvm.symm h9
        have hT := hT.call hAd hDk hk1
        refine k479 r u H11 locs ?_ hT hS
        rcases hmo with ⟨q, -⟩ | ⟨-, q⟩
        · rw [q] at c0; exact absurd c0 (by decide)
        · rw [q]; exact hw
      · refine lv_aload_n hx hb dL_law_460 rfl (lv_at hl 8 rfl) ?_
        refine lv_iload hx hb dL_law_461 (lv_at hl 4 rfl) ?_
        refine lv_iload hx hb dL_law_463 (lv_at hl 2 rfl) ?_
        have hEH : wd_E ep (wd_A h1 H.size) s H := wd_E.narrow (wd_E.kept hE hS.2.1) (fun q h => wd_AN hAd.1 hS.1 h)
        refine va_calli (va_runV (As := [.int x6, .int x8]) (rest := []) ⟨hx, hb, hml, hown, hts⟩ (met_millis l D h0 h1 cA f sec nan hAd.2.2.2.1 ep H.size x6 w kw ew hR x8) (cwV 2 hts (lw_V q173 q174 q175 q3 q176) rfl rfl rfl (by decide +kernel) ⟨Nat.le_of_ble_eq_true rfl, Nat.le_of_ble_eq_true rfl⟩) ⟨fun a U g mk q => ⟨q.1, q.2.1, wd_Desk.moved (u := U) (U := U.calling g mk a) (Vm.Alike.refl U.vm) q.2.2.1, wd_E.moved (u := U) (U := U.calling g mk a) (Vm.Alike.refl U.vm) q.2.2.2⟩, va_recv hDk.2.1 hDk.1 (ci := 1) (q0 := 0) rfl rfl, fun U hU hW => ⟨rfl, by rw [hU], by rw [hU]; exact wd_Desk.moved hW.alike hDk, by rw [hU]; exact wd_E.moved hW.alike hEH⟩⟩ rfl rfl hl.1 rfl (lv_room (Nat.le_of_ble_eq_true rfl)) dL_law_465 ⟨show C + 1 ≤ 1200192 by omega, show Z + 2 ≤ 5500522 by omega⟩) hS (fun q _ h => wd_AN hAd.1 hS.1 h) (fun q h => wd_AN hAd.1 hS.1 h) (fun r u t H12 locs ht hvm hw hB hz1 hk1 hS => ?_)
        have hDk : wd_Desk D h0 h1 cA u.1 (va_up sec w u.2.1) (va_up nan w u.2.2) s H12 := by
          have h9 : wd_Desk D h0 h1 cA u.1 (va_up sec w u.2.1) (va_up nan w u.2.2) t t.heap := hB
          rw [ht] at h9
          exact wd_Desk.moved hvm.symm h9
        have hT := hT.call hAd hDk hk1
        refine lv_goto (tgt := 479) hx hb dL_law_468 (by decide) ?_
        refine k479 r u H12 locs ?_ hT hS
        rcases hmo with ⟨-, q⟩ | ⟨q, -⟩
        · rw [q]; exact hw
        · exact absurd q c0
    refine lv_aload_n hx hb dL_law_426 rfl (lv_at hl 8 rfl) ?_
    refine lv_iload hx hb dL_law_427 (lv_at hl 2 rfl) ?_
    refine wd_lald hx hb hT.2.1 hT.2.2.2.1 kw ew7 dL_law_429 ?_
    refine lv_ldc2 hx hb hown (hts _ q277) dL_law_430 ?_
    refine W.lcmp hx hb dL_law_433 ?_
    refine lv_if_gt (tgt := 452) hx hb dL_law_434 (by decide) (fun b1 => ?_) (fun b1 => ?_)
    · have gn : ¬ ((sec w).toInt ≤ 31000000000000000 ∧ -31000000000000000 ≤ (sec w).toInt) := by have h9 := (nu_gt _ _).mp b1; rw [(hF w kw).1, nu_most] at h9; omega
      refine lv_iconst (v := 0) hx hb dL_law_452 (by decide) ?_
      exact k453 0 (Or.inr ⟨rfl, gn⟩)
    · have g1 : (sec w).toInt ≤ 31000000000000000 := by have h9 := nu_ngt b1; rw [(hF w kw).1, nu_most] at h9; exact h9
      refine lv_aload_n hx hb dL_law_437 rfl (lv_at hl 8 rfl) ?_
      refine lv_iload hx hb dL_law_438 (lv_at hl 2 rfl) ?_
      refine wd_lald hx hb hT.2.1 hT.2.2.2.1 kw ew7 dL_law_440 ?_
      refine lv_ldc2 hx hb hown (hts _ q279) dL_law_441 ?_
      refine W.lcmp hx hb dL_law_444 ?_
      refine lv_if_lt (tgt := 452) hx hb dL_law_445 (by decide) (fun b2 => ?_) (fun b2 => ?_)
      · have gn : ¬ ((sec w).toInt ≤ 31000000000000000 ∧ -31000000000000000 ≤ (sec w).toInt) := by have h9 := (nu_lt _ _).mp b2; rw [(hF w kw).1, nu_mostn] at h9; omega
        refine lv_iconst (v := 0) hx hb dL_law_452 (by decide) ?_
        exact k453 0 (Or.inr ⟨rfl, gn⟩)
      · have g2 : -31000000000000000 ≤ (sec w).toInt := by have h9 := nu_nlt b2; rw [(hF w kw).1, nu_mostn] at h9; exact h9
        refine lv_iconst (v := 1) hx hb dL_law_448 (by decide) ?_
        refine lv_goto (tgt := 453) hx hb dL_law_449 (by decide) ?_
        exact k453 1 (Or.inl ⟨rfl, g1, g2⟩)
  refine lv_iload hx hb dL_law_407 (lv_at hl 3 rfl) ?_
  refine lv_ldc hx hb hown (hts _ q274) dL_law_409 ?_
  refine lv_iand hx hb dL_law_411 ?_
  refine lv_bipush (v := 6) hx hb dL_law_412 (by decide) ?_
  refine lv_irem hx hb dL_law_414 (by decide) ?_
  refine lv_iconst (v := 3) hx hb dL_law_415 (by decide) ?_
  refine lv_icmp_ne (tgt := 423) hx hb dL_law_416 (by decide) (fun c => ?_) (fun c => ?_)
  · refine lv_iconst (v := 0) hx hb dL_law_423 (by decide) ?_
    exact k424 0 (Or.inr rfl)
  · refine lv_iconst (v := 1) hx hb dL_law_419 (by decide) ?_
    refine lv_goto (tgt := 424) hx hb dL_law_420 (by decide) ?_
    exact k424 1 (Or.inl rfl)
set_option maxHeartbeats 4000000 in
set_option maxRecDepth 100000 in
/-- the other one is set by this one -/
theorem law_case5 {p : Program} {l : Launch} {e : Env} {s : State} {m : MethodId} {below : List Frame} {meth : Method} {c : Code} {b L : Nat} {xs : Nat → Int32} (hL : L ≤ 96) (C0 : lw_At p s m meth c b L xs) {D : va_G} {h0 h1 : Nat} {cA : ClassId} {qs qn : Nat} {dJ dK : ClassId} {ep : Nat} (hAd : lw_Ad s.heap.size h0 h1 qs qn) (hE : wd_E ep (wd_N s.heap.size) s s.heap) {C Z : Nat} (kC : C ≤ 1000) (kZ : Z ≤ 1000) {x4 x5 x6 x7 x8 : Int32} {w : Nat} (kw : w < 2) (ew : x6 &&& 1 = nI w) (ex7 : x7 = x6 &&& 1) {k6 : Nat} (ex4 : x4 = nI k6) (hk6 : k6 < 900) (kk : (∀ (f : Nat → Option Nat) (sec : Nat → Int64) (nan : Nat → Int32) (fs fn : Nat → Int64) (H : Heap) (locs : List Loc) (ls : Array Slot), lw_J D s h0 h1 cA qs qn dJ dK f sec nan fs fn H locs → lv_has ls 13 [(0, .ref b), (1, .ref h0), (2, .ref qs), (3, .ref qn), (4, .int x4)] → W p l e room_1 s m #[Value.ref b] below meth c H locs (C + 1) (Z + 2) (lw_Z below #[Value.ref b] s) (F0 m 621 ls []))) {f : Nat → Option Nat} {sec : Nat → Int64} {nan : Nat → Int32} {fs fn : Nat → Int64} {H : Heap} {locs : List Loc} {ls : Array Slot} (hJ : lw_J D s h0 h1 cA qs qn dJ dK f sec nan fs fn H locs) (hl : lv_has ls 13 [(8, .int x8), (7, .int x7), (6, .int x6), (5, .int x5), (4, .int x4), (0, .ref b), (1, .ref h0), (2, .ref qs), (3, .ref qn)]) : W p l e room_1 s m #[Value.ref b] below meth c H locs (C) (Z) (lw_Z below #[Value.ref b] s) (F0 m 563 ls []) := by
  obtain ⟨hx, hb, hr, hml, hown, hts0, hX, hbl, hlocks, hgv⟩ := id C0
  have hts : ∀ w ∈ lw_all, w.before #[Value.ref b] s = true := fun w h => hts0 w (lw_all_tbl h)
  obtain ⟨hT, hR, hF, hS⟩ := hJ
  have hDk := hT.1
  have hXH : va_X b L xs s H := hX.kept (hS.2.1 b hbl (Nat.not_le.mpr hbl))
  have ew7 : x7 = nI w := by rw [ex7, ew]
  have l8 := x8.le_toInt
  have g8 := x8.toInt_lt
  have e8 := Jvm.Kit.i64_of_i32 x8
  have kv : 1 - w < 2 := by omega
  have ev := nu_flip kw ew
  have r3 := hR w kw
  refine lv_aload_n hx hb dL_law_563 rfl (lv_at hl 6 rfl) ?_
  refine lv_iload hx hb dL_law_564 (lv_at hl 2 rfl) ?_
  refine lv_iconst (v := 1) hx hb dL_law_566 (by decide) ?_
  refine lv_ixor hx hb dL_law_567 ?_
  refine lv_aload_n hx hb dL_law_568 rfl (lv_at hl 7 rfl) ?_
  refine lv_iload hx hb dL_law_569 (lv_at hl 1 rfl) ?_
  refine wd_lald hx hb hT.2.1 hT.2.2.2.1 kw ew7 dL_law_571 ?_
  refine lv_ldc2 hx hb hown (hts _ q277) dL_law_572 ?_
  refine lv_lrem hx hb dL_law_575 (by decide) ?_
  refine lv_bipush (v := 32) hx hb dL_law_576 (by decide) ?_
  refine lv_lshr hx hb dL_law_578 rfl ?_
  refine lv_l2i hx hb dL_law_579 rfl ?_
  refine lv_aload_n hx hb dL_law_580 rfl (lv_at hl 7 rfl) ?_
  refine lv_iload hx hb dL_law_581 (lv_at hl 1 rfl) ?_
  refine wd_lald hx hb hT.2.1 hT.2.2.2.1 kw ew7 dL_law_583 ?_
  refine lv_ldc2 hx hb hown (hts _ q277) dL_law_584 ?_
  refine lv_lrem hx hb dL_law_587 (by decide) ?_
  refine lv_l2i hx hb dL_law_588 rfl ?_
  refine lv_aload_n hx hb dL_law_589 rfl (lv_at hl 8 rfl) ?_
  refine lv_iload hx hb dL_law_590 (lv_at hl 1 rfl) ?_
  refine wd_lald hx hb hT.2.2.1 hT.2.2.2.2 kw ew7 dL_law_592 ?_
  refine lv_l2i hx hb dL_law_593 rfl ?_
  obtain ⟨tt, ett⟩ : ∃ tt : Int64, tt = fs w - fs w / (31000000000000000 : Int64) * (31000000000000000 : Int64) := ⟨_, rfl⟩
  have hEH : wd_E ep (wd_A h1 H.size) s H := wd_E.narrow (wd_E.kept hE hS.2.1) (fun q h => wd_AN hAd.1 hS.1 h)
  refine va_callv (va_runV (As := [.int (x6 ^^^ (1 : Int32)), .int ((((fs w) - (fs w) / (31000000000000000 : Int64) * (31000000000000000 : Int64)) >>> ((32 : Int32).toInt64 &&& 63)).toInt32), .int (((fs w) - (fs w) / (31000000000000000 : Int64) * (31000000000000000 : Int64)).toInt32), .int ((fn w).toInt32)]) (rest := []) ⟨hx, hb, hml, hown, hts⟩ (met_set l D h0 h1 cA f sec nan hAd.2.2.2.1 ep H.size (x6 ^^^ 1) (1 - w) kv ev (((fs w) - (fs w) / (31000000000000000 : Int64) * (31000000000000000 : Int64)) >>> ((32 : Int32).toInt64 &&& 63)).toInt32 ((fs w) - (fs w) / (31000000000000000 : Int64) * (31000000000000000 : Int64)).toInt32 (fn w).toInt32) (cwV 4 hts (lw_V q146 q147 q148 q3 q149) rfl rfl rfl (by decide +kernel) ⟨Nat.le_of_ble_eq_true rfl, Nat.le_of_ble_eq_true rfl⟩) ⟨fun a U g mk q => ⟨q.1, q.2.1, wd_Desk.moved (u := U) (U := U.calling g mk a) (Vm.Alike.refl U.vm) q.2.2.1, wd_E.moved (u := U) (U := U.calling g mk a) (Vm.Alike.refl U.vm) q.2.2.2⟩, va_recv hDk.2.1 hDk.1 (ci := 1) (q0 := 0) rfl rfl, fun U hU hW => ⟨rfl, by rw [hU], by rw [hU]; exact wd_Desk.moved hW.alike hDk, by rw [hU]; exact wd_E.moved hW.alike hEH⟩⟩ rfl rfl hl.1 rfl (lv_room (Nat.le_of_ble_eq_true rfl)) dL_law_594 ⟨show C + 1 ≤ 1200192 by omega, show Z + 2 ≤ 5500522 by omega⟩) hS (fun q _ h => wd_AN hAd.1 hS.1 h) (fun q h => wd_AN hAd.1 hS.1 h) (fun u t H13 locs ht hvm hw hB hz1 hk1 hS => ?_)
  have hDk : wd_Desk D h0 h1 cA u.1 (va_up sec (1 - w) u.2.1) (va_up nan (1 - w) u.2.2) s H13 := by
    have h9 : wd_Desk D h0 h1 cA u.1 (va_up sec (1 - w) u.2.1) (va_up nan (1 - w) u.2.2) t t.heap := hB
    rw [ht] at h9
    exact wd_Desk.moved hvm.symm h9
  have hT := hT.call hAd hDk hk1
  rw [nu_halves] at hw
  have eN : (fn w).toInt32 = nan w := by rw [(hF w kw).2, lg_l2i_i2l]
  have mT : ((fs w) - (fs w) / (31000000000000000 : Int64) * (31000000000000000 : Int64)).toInt = (fs w).toInt.tmod 31000000000000000 := by rw [Jvm.Kit.i64_rem, nu_most]
  rw [eN, mT, nu_mm] at hw
  have eX : ((fs w) - (fs w) / (31000000000000000 : Int64) * (31000000000000000 : Int64)) = u.2.1 := Int64.toInt_inj.mp (by rw [mT, hw.1]; omega)
  have eY : fn w = u.2.2.toInt64 := by
    have e2 : u.2.2 = nan w := Int32.toInt_inj.mp (by rw [hw.2]; omega)
    rw [e2, (hF w kw).2]
  have ei : (1 : Int32) - x7 = nI (1 - w) := by rw [ew7]; exact pk_sub (a := 1) (b := w) (by omega)
  refine lv_aload_n hx hb dL_law_597 rfl (lv_at hl 7 rfl) ?_
  refine lv_iconst (v := 1) hx hb dL_law_598 (by decide) ?_
  refine lv_iload hx hb dL_law_599 (lv_at hl 1 rfl) ?_
  refine lv_isub hx hb dL_law_601 ?_
  refine lv_aload_n hx hb dL_law_602 rfl (lv_at hl 7 rfl) ?_
  refine lv_iload hx hb dL_law_603 (lv_at hl 1 rfl) ?_
  refine wd_lald hx hb hT.2.1 hT.2.2.2.1 kw ew7 dL_law_605 ?_
  refine lv_ldc2 hx hb hown (hts _ q277) dL_law_606 ?_
  refine lv_lrem hx hb dL_law_609 (by decide) ?_
  refine wd_last hx hb hT.2.1 hT.2.2.2.1 kv ei dL_law_610 (fun H14 eH14 z14 oq14 => ?_)
  have hT := hT.putS hAd eH14 oq14
  have hS := hS.put (k := (1 - w)) z14 oq14 hAd.2.1
  refine lv_aload_n hx hb dL_law_611 rfl (lv_at hl 8 rfl) ?_
  refine lv_iconst (v := 1) hx hb dL_law_612 (by decide) ?_
  refine lv_iload hx hb dL_law_613 (lv_at hl 1 rfl) ?_
  refine lv_isub hx hb dL_law_615 ?_
  refine lv_aload_n hx hb dL_law_616 rfl (lv_at hl 8 rfl) ?_
  refine lv_iload hx hb dL_law_617 (lv_at hl 1 rfl) ?_
  refine wd_lald hx hb hT.2.2.1 hT.2.2.2.2 kw ew7 dL_law_619 ?_
  refine wd_last hx hb hT.2.2.1 hT.2.2.2.2 kv ei dL_law_620 (fun H15 eH15 z15 oq15 => ?_)
  have hT := hT.putN hAd eH15 oq15
  have hS := hS.put (k := (1 - w)) z15 oq15 hAd.2.2.1
  exact kk u.1 (va_up sec (1 - w) u.2.1) (va_up nan (1 - w) u.2.2) (vp_updL fs (1 - w) ((fs w) - (fs w) / (31000000000000000 : Int64) * (31000000000000000 : Int64))) (vp_updL fn (1 - w) (fn w)) _ _ ls ⟨hT, wd_Rg_up hR (by rw [hw.2]; omega) (by rw [hw.2]; omega), wd_F_up hF eX eY, hS⟩ (lv_sub hl [5, 6, 7, 8, 4] rfl)
end
section
/-! THE LAW: its loop, and from its entry to its end -/
set_option maxHeartbeats 4000000 in
set_option maxRecDepth 100000 in
/-- at the loop's head, behind i of sixteen calls -/
theorem law_loop {p : Program} {l : Launch} {e : Env} {s : State} {m : MethodId} {below : List Frame} {meth : Method} {c : Code} {b L : Nat} {xs : Nat → Int32} (hL : L ≤ 96) (C0 : lw_At p s m meth c b L xs) {D : va_G} {h0 h1 : Nat} {cA : ClassId} {qs qn : Nat} {dJ dK : ClassId} {ep : Nat} (hAd : lw_Ad s.heap.size h0 h1 qs qn) (hE : wd_E ep (wd_N s.heap.size) s s.heap) : ∀ (n i : Nat), 17 ≤ n + i → i ≤ 16 → ∀ (f : Nat → Option Nat) (sec : Nat → Int64) (nan : Nat → Int32) (fs fn : Nat → Int64) (H : Heap) (locs : List Loc) (ls : Array Slot), lw_J D s h0 h1 cA qs qn dJ dK f sec nan fs fn H locs → lv_has ls 13 [(0, .ref b), (1, .ref h0), (2, .ref qs), (3, .ref qn), (4, .int (nI (6 * i)))] → W p l e room_1 s m #[Value.ref b] below meth c H locs (6 + i) (11 + 2 * i) (lw_Z below #[Value.ref b] s) (F0 m 35 ls []) := by
  obtain ⟨hx, hb, hr, hml, hown, hts0, hX, hbl, hlocks, hgv⟩ := id C0
  have hts : ∀ w ∈ lw_all, w.before #[Value.ref b] s = true := fun w h => hts0 w (lw_all_tbl h)
  intro n
  induction n with
  | zero =>
    intro i g1 g2
    exact absurd g1 (by omega)
  | succ n ih =>
    intro i g1 g2 f sec nan fs fn H locs ls hJ hl
    obtain ⟨hT, hR, hF, hS⟩ := id hJ
    have hXH : va_X b L xs s H := hX.kept (hS.2.1 b hbl (Nat.not_le.mpr hbl))
    obtain ⟨k6, ek6⟩ : ∃ k : Nat, k = 6 * i := ⟨_, rfl⟩
    obtain ⟨x4, ex4⟩ : ∃ x : Int32, x = nI k6 := ⟨_, rfl⟩
    rw [← ek6, ← ex4] at hl
    refine lv_iload hx hb dL_law_35 (lv_at hl 4 rfl) ?_
    refine lv_iconst (v := 5) hx hb dL_law_37 (by decide) ?_
    refine lv_iadd hx hb dL_law_38 ?_
    refine lv_topi (fun x9 ex9 => ?_)
    refine lv_bipush (v := 96) hx hb dL_law_39 (by decide) ?_
    refine lv_icmp_ge (tgt := 646) hx hb dL_law_41 (by decide) (fun c1 => ?_) (fun c1 => ?_)
    · refine lv_iconst (v := 1) hx hb dL_law_646 (by decide) ?_
      refine va_forget (fun q hq => hS.2.2 q hq) ?_
      refine W.widen (k := 1200192) (n := 5500522) (by omega) (by omega) ?_
      exact lw_ret hx hb hr hlocks dL_law_647
    · have e9 : x9 = nI (k6 + 5) := by rw [ex9, ex4]; exact nI_add k6 5
      have hi : i < 16 := by
        rcases Nat.lt_or_ge i 16 with q | q
        · exact q
        · exact absurd (by rw [e9]; exact nI_le (a := 96) (b := k6 + 5) (by omega) (by omega)) c1
      have kk : (∀ (f : Nat → Option Nat) (sec : Nat → Int64) (nan : Nat → Int32) (fs fn : Nat → Int64) (H : Heap) (locs : List Loc) (ls : Array Slot), lw_J D s h0 h1 cA qs qn dJ dK f sec nan fs fn H locs → lv_has ls 13 [(0, .ref b), (1, .ref h0), (2, .ref qs), (3, .ref qn), (4, .int x4)] → W p l e room_1 s m #[Value.ref b] below meth c H locs (6 + i + 1) (11 + 2 * i + 2) (lw_Z below #[Value.ref b] s) (F0 m 621 ls [])) := by
        intro f sec nan fs fn H locs ls hJ hl
        obtain ⟨hT, hR, hF, hS⟩ := id hJ
        have hXH : va_X b L xs s H := hX.kept (hS.2.1 b hbl (Nat.not_le.mpr hbl))
        refine lv_aload_n hx hb dL_law_621 rfl (lv_at hl 1 rfl) ?_
        refine lv_aload_n hx hb dL_law_622 rfl (lv_at hl 2 rfl) ?_
        refine lv_aload_n hx hb dL_law_623 rfl (lv_at hl 3 rfl) ?_
        refine lv_aload_n hx hb dL_law_624 rfl (lv_at hl 0 rfl) ?_
        refine lv_iload hx hb dL_law_625 (lv_at hl 4 rfl) ?_
        refine lv_iconst (v := 5) hx hb dL_law_627 (by decide) ?_
        refine lv_iadd hx hb dL_law_628 ?_
        refine vp_callSi (va_runS (As := [.ref b, .int (x4 + (5 : Int32))]) (rest := [.ref qn, .ref qs, .ref h0]) ⟨hx, hb, hml, hown, hts⟩ (met_cell l b L xs (x4 + (5 : Int32)) (k6 + 5) (by rw [ex4]; exact nI_add k6 5) (by omega) hL) (va_cwS 2 hts (lw_S q199 q200 q2 q201) rfl rfl rfl (by decide +kernel) ⟨Nat.le_of_ble_eq_true rfl, Nat.le_of_ble_eq_true rfl⟩) ⟨fun a U g mk q => ⟨q.1, va_X.moved (u := U) (U := U.calling g mk a) (Vm.Alike.refl U.vm) q.2⟩, fun U hU hW => ⟨rfl, by show va_X _ _ _ U U.heap; rw [hU]; exact va_X.moved hW.alike hXH⟩⟩ rfl rfl hl.1 rfl (lv_room (Nat.le_of_ble_eq_true rfl)) dL_law_629 ⟨show 6 + i + 1 + 0 ≤ 1200192 by omega, show 11 + 2 * i + 2 + 0 ≤ 5500522 by omega⟩).run (fun y5 _ => ?_)
        refine vp_callSi (va_runS (As := [.ref h0, .ref qs, .ref qn, .int y5]) (rest := []) ⟨hx, hb, hml, hown, hts⟩ (met_areTold l D h0 h1 cA f sec nan qs qn dJ dK fs fn hR hF y5) (va_cwS 4 hts (lw_S q209 q210 q2 q211) rfl rfl rfl (by decide +kernel) ⟨Nat.le_of_ble_eq_true rfl, Nat.le_of_ble_eq_true rfl⟩) ⟨fun a U g mk q => ⟨q.1, wd_Told.moved (u := U) (U := U.calling g mk a) (Vm.Alike.refl U.vm) q.2⟩, fun U hU hW => ⟨rfl, by show wd_Told _ _ _ _ _ _ _ _ _ _ _ _ _ U U.heap; rw [hU]; exact wd_Told.moved hW.alike hT⟩⟩ rfl rfl hl.1 rfl (lv_room (Nat.le_of_ble_eq_true rfl)) dL_law_632 ⟨show 6 + i + 1 + 0 ≤ 1200192 by omega, show 11 + 2 * i + 2 + 0 ≤ 5500522 by omega⟩).run (fun r1 er1 => ?_)
        refine lv_if_ne (tgt := 640) hx hb dL_law_635 (by decide) (fun c2 => ?_) (fun c2 => ?_)
        · obtain ⟨x4n, ex4n⟩ : ∃ y : Int32, y = x4 + 6 := ⟨_, rfl⟩
          refine lv_iinc (v := x4n) (lv' := [(4, .int x4n), (0, .ref b), (1, .ref h0), (2, .ref qs), (3, .ref qn)]) hx hb dL_law_640 hl (k := 4) rfl (by rw [ex4n]; rfl) (by decide) rfl (fun ls hl => ?_)
          have e10 : x4n = nI (6 * (i + 1)) := by rw [ex4n, ex4, show 6 * (i + 1) = k6 + 6 by omega]; exact nI_add k6 6
          rw [e10] at hl
          refine lv_goto (tgt := 35) hx hb dL_law_643 (by decide) ?_
          refine W.cs (cells' := 6 + (i + 1)) (slots' := 11 + 2 * (i + 1)) (by omega) (by omega) ?_
          exact ih (i + 1) (by omega) (by omega) f sec nan fs fn H locs ls hJ (lv_sub hl [1, 2, 3, 4, 0] rfl)
        · rw [er1] at c2; exact absurd c2 (by decide)
      refine lv_aload_n hx hb dL_law_44 rfl (lv_at hl 0 rfl) ?_
      refine lv_iload hx hb dL_law_45 (lv_at hl 4 rfl) ?_
      refine vp_callSi (va_runS (As := [.ref b, .int x4]) (rest := []) ⟨hx, hb, hml, hown, hts⟩ (met_cell l b L xs x4 k6 ex4 (by omega) hL) (va_cwS 2 hts (lw_S q199 q200 q2 q201) rfl rfl rfl (by decide +kernel) ⟨Nat.le_of_ble_eq_true rfl, Nat.le_of_ble_eq_true rfl⟩) ⟨fun a U g mk q => ⟨q.1, va_X.moved (u := U) (U := U.calling g mk a) (Vm.Alike.refl U.vm) q.2⟩, fun U hU hW => ⟨rfl, by show va_X _ _ _ U U.heap; rw [hU]; exact va_X.moved hW.alike hXH⟩⟩ rfl rfl hl.1 rfl (lv_room (Nat.le_of_ble_eq_true rfl)) dL_law_47 ⟨show 6 + i + 0 ≤ 1200192 by omega, show 11 + 2 * i + 0 ≤ 5500522 by omega⟩).run (fun x5 _ => ?_)
      refine lv_istore (lv' := [(5, .int x5), (0, .ref b), (1, .ref h0), (2, .ref qs), (3, .ref qn), (4, .int x4)]) hx hb dL_law_50 hl (by decide) rfl (fun ls hl => ?_)
      refine lv_aload_n hx hb dL_law_52 rfl (lv_at hl 1 rfl) ?_
      refine lv_iload hx hb dL_law_53 (lv_at hl 5 rfl) ?_
      refine lv_iconst (v := 1) hx hb dL_law_55 (by decide) ?_
      refine lv_iadd hx hb dL_law_56 ?_
      refine vp_callSi (va_runS (As := [.ref b, .int (x4 + (1 : Int32))]) (rest := []) ⟨hx, hb, hml, hown, hts⟩ (met_cell l b L xs (x4 + (1 : Int32)) (k6 + 1) (by rw [ex4]; exact nI_add k6 1) (by omega) hL) (va_cwS 2 hts (lw_S q199 q200 q2 q201) rfl rfl rfl (by decide +kernel) ⟨Nat.le_of_ble_eq_true rfl, Nat.le_of_ble_eq_true rfl⟩) ⟨fun a U g mk q => ⟨q.1, va_X.moved (u := U) (U := U.calling g mk a) (Vm.Alike.refl U.vm) q.2⟩, fun U hU hW => ⟨rfl, by show va_X _ _ _ U U.heap; rw [hU]; exact va_X.moved hW.alike hXH⟩⟩ rfl rfl hl.1 rfl (lv_room (Nat.le_of_ble_eq_true rfl)) dL_law_57 ⟨show 6 + i + 0 ≤ 1200192 by omega, show 11 + 2 * i + 0 ≤ 5500522 by omega⟩).run (fun x6 _ => ?_)
      refine lv_istore (lv' := [(6, .int x6), (5, .int x5), (0, .ref b), (1, .ref h0), (2, .ref qs), (3, .ref qn), (4, .int x4)]) hx hb dL_law_60 hl (by decide) rfl (fun ls hl => ?_)
      refine lv_iload hx hb dL_law_62 (lv_at hl 0 rfl) ?_
      refine lv_iconst (v := 1) hx hb dL_law_64 (by decide) ?_
      refine lv_iand hx hb dL_law_65 ?_
      refine lv_topi (fun x7 ex7 => ?_)
      refine lv_istore (lv' := [(7, .int x7), (6, .int x6), (5, .int x5), (0, .ref b), (1, .ref h0), (2, .ref qs), (3, .ref qn), (4, .int x4)]) hx hb dL_law_66 hl (by decide) rfl (fun ls hl => ?_)
      refine lv_aload_n hx hb dL_law_68 rfl (lv_at hl 3 rfl) ?_
      refine lv_iload hx hb dL_law_69 (lv_at hl 7 rfl) ?_
      refine lv_iconst (v := 4) hx hb dL_law_71 (by decide) ?_
      refine lv_iadd hx hb dL_law_72 ?_
      refine vp_callSi (va_runS (As := [.ref b, .int (x4 + (4 : Int32))]) (rest := []) ⟨hx, hb, hml, hown, hts⟩ (met_cell l b L xs (x4 + (4 : Int32)) (k6 + 4) (by rw [ex4]; exact nI_add k6 4) (by omega) hL) (va_cwS 2 hts (lw_S q199 q200 q2 q201) rfl rfl rfl (by decide +kernel) ⟨Nat.le_of_ble_eq_true rfl, Nat.le_of_ble_eq_true rfl⟩) ⟨fun a U g mk q => ⟨q.1, va_X.moved (u := U) (U := U.calling g mk a) (Vm.Alike.refl U.vm) q.2⟩, fun U hU hW => ⟨rfl, by show va_X _ _ _ U U.heap; rw [hU]; exact va_X.moved hW.alike hXH⟩⟩ rfl rfl hl.1 rfl (lv_room (Nat.le_of_ble_eq_true rfl)) dL_law_73 ⟨show 6 + i + 0 ≤ 1200192 by omega, show 11 + 2 * i + 0 ≤ 5500522 by omega⟩).run (fun x8 _ => ?_)
      refine lv_istore (lv' := [(8, .int x8), (7, .int x7), (6, .int x6), (5, .int x5), (0, .ref b), (1, .ref h0), (2, .ref qs), (3, .ref qn), (4, .int x4)]) hx hb dL_law_76 hl (by decide) rfl (fun ls hl => ?_)
      refine lv_iload hx hb dL_law_78 (lv_at hl 3 rfl) ?_
      refine lv_ldc hx hb hown (hts _ q274) dL_law_80 ?_
      refine lv_iand hx hb dL_law_82 ?_
      refine lv_bipush (v := 6) hx hb dL_law_83 (by decide) ?_
      refine lv_irem hx hb dL_law_85 (by decide) ?_
      refine lv_topi (fun y ey => ?_)
      obtain ⟨w, kw, ew⟩ := pk_andE x6 (m := 1) 1 (by decide)
      have kw : w < 2 := kw
      obtain ⟨j, hj, ej⟩ := pk_andE x5 (m := 2147483647) 31 (by decide +kernel)
      have ey2 : y = nI (j % 6) := by rw [ey, ej]; exact pk_rem (d := 6) hj (by decide) (by decide)
      have hl : lv_has ls 13 [(8, .int x8), (7, .int x7), (6, .int x6), (5, .int x5), (4, .int x4), (0, .ref b), (1, .ref h0), (2, .ref qs), (3, .ref qn)] := lv_sub hl [0, 1, 2, 3, 8, 4, 5, 6, 7] rfl
      have o6 : j % 6 = 0 ∨ j % 6 = 1 ∨ j % 6 = 2 ∨ j % 6 = 3 ∨ j % 6 = 4 ∨ j % 6 = 5 := by omega
      rcases o6 with h | h | h | h | h | h
      · rw [h] at ey2
        subst ey2
        refine lv_tableIn (off := 34) (tgt := 120) hx hb dL_law_86 (by decide +kernel) (by decide +kernel) (by decide +kernel) (by decide) ?_
        exact law_case0 hL C0 hAd hE (by omega) (by omega) kw ew ex7 ex4 (by omega) kk hJ hl
      · rw [h] at ey2
        subst ey2
        refine lv_tableIn (off := 176) (tgt := 262) hx hb dL_law_86 (by decide +kernel) (by decide +kernel) (by decide +kernel) (by decide) ?_
        exact law_case1 hL C0 hAd hE (by omega) (by omega) kw ew ex7 ex4 (by omega) kk hJ hl
      · rw [h] at ey2
        subst ey2
        refine lv_tableIn (off := 255) (tgt := 341) hx hb dL_law_86 (by decide +kernel) (by decide +kernel) (by decide +kernel) (by decide) ?_
        exact law_case2 hL C0 hAd hE (by omega) (by omega) kw ew ex7 ex4 (by omega) kk hJ hl
      · rw [h] at ey2
        subst ey2
        refine lv_tableIn (off := 321) (tgt := 407) hx hb dL_law_86 (by decide +kernel) (by decide +kernel) (by decide +kernel) (by decide) ?_
        exact law_case34 hL C0 hAd hE (by omega) (by omega) kw ew ex7 ex4 (by omega) kk hJ hl
      · rw [h] at ey2
        subst ey2
        refine lv_tableIn (off := 321) (tgt := 407) hx hb dL_law_86 (by decide +kernel) (by decide +kernel) (by decide +kernel) (by decide) ?_
        exact law_case34 hL C0 hAd hE (by omega) (by omega) kw ew ex7 ex4 (by omega) kk hJ hl
      · rw [h] at ey2
        subst ey2
        refine lv_tableOut (tgt := 563) hx hb dL_law_86 (Or.inr (by decide +kernel)) (by decide) ?_
        exact law_case5 hL C0 hAd hE (by omega) (by omega) kw ew ex7 ex4 (by omega) kk hJ hl
set_option maxHeartbeats 4000000 in
set_option maxRecDepth 100000 in
/-- from the entry, for every script of at most 96 ints, the law comes to its end with true -/
theorem whole_start {p : Program} {e : Env} {s : State} {m : MethodId} {below : List Frame} {meth : Method} {c : Code} (l : Launch) (hflags : l.flags = flags0) {b L : Nat} {xs : Nat → Int32} (hL : L ≤ 96) (C0 : lw_At p s m meth c b L xs) : W p l e room_1 s m #[Value.ref b] below meth c s.heap [] 0 0 (lw_Z below #[Value.ref b] s) (entryFrame m ([Value.ref b] : List Value).toArray 13) := by
  obtain ⟨hx, hb, hr, hml, hown, hts0, hX, hbl, hlocks, hgv⟩ := id C0
  have hts : ∀ w ∈ lw_all, w.before #[Value.ref b] s = true := fun w h => hts0 w (lw_all_tbl h)
  have hA : ∀ a : Nat, a < s.heap.size → ¬ wd_N s.heap.size a := fun a h => Nat.not_le.mpr h
  obtain ⟨c0, iS0, hKn0⟩ := u_known (C := RX3) (T := TX3) (N := 2) (n := 2) hts in_X3 (hts _ q127)
  obtain ⟨c1, iS1, hKn1⟩ := u_known (C := RX1) (T := TX1) (N := 1) (n := 1) hts in_X1 (hts _ q13)
  obtain ⟨D, hKc⟩ : ∃ D : va_G, ∀ (k : Nat) (q : vw_C), wd_cl[k]? = some q → u_Kn s q.1 q.2.1 q.2.2 (D.1 k) (D.2 k) := by
    refine ⟨(fun k => if k = 0 then c0 else c1, fun k => if k = 0 then iS0 else iS1), ?_⟩
    intro k q hq
    match k, hq with
    | 0, hq => cases hq; exact hKn0
    | 1, hq => cases hq; exact hKn1
    | k + 2, hq => simp [wd_cl] at hq
  have hK : va_K D wd_cl [] s := ⟨hKc, fun k q h => by simp at h⟩
  have hg := flat_of_before _ hgv
  have gx : (Cond.exactly (.static "Instant" "EPOCH" "LInstant;") "Instant").before #[Value.ref b] s = true := hg _ (by decide +kernel)
  have gs : (Cond.eq (.field (.static "Instant" "EPOCH" "LInstant;") "Instant" "seconds" "J") (.long 0)).before #[Value.ref b] s = true := hg _ (by decide +kernel)
  have gn : (Cond.eq (.field (.static "Instant" "EPOCH" "LInstant;") "Instant" "nanos" "I") (.int 0)).before #[Value.ref b] s = true := hg _ (by decide +kernel)
  obtain ⟨ep, ce, cell, ke, q1, -⟩ := Cond.exactly_spec gx
  have hO1 : va_O "Instant" ep (wd_N s.heap.size) s s.heap := va_Oof gx q1 hA
  have hZ1 : va_Z "Instant" "EPOCH" "LInstant;" (.ref ep) (wd_N s.heap.size) s s.heap := va_Zof (hts0 _ q107) (hts _ q5) q1 hA
  have hF1 : va_OF "Instant" "seconds" "J" (.long 0) ep (wd_N s.heap.size) s s.heap := va_Efof (N := 1) (E := "Instant") (d0 := "LInstant;") (nm := ["EPOCH"]) (v := fun _ => .long 0) (tm := fun _ => .long 0) (args := #[Value.ref b]) (ad := fun _ => ep) (fun i hi => by obtain rfl : i = 0 := (by omega); exact q1) (fun i hi => by obtain rfl : i = 0 := (by omega); exact gs) (fun i hi => rfl) hA 0 (by decide)
  have hF2 : va_OF "Instant" "nanos" "I" (.int 0) ep (wd_N s.heap.size) s s.heap := va_Efof (N := 1) (E := "Instant") (d0 := "LInstant;") (nm := ["EPOCH"]) (v := fun _ => .int 0) (tm := fun _ => .int 0) (args := #[Value.ref b]) (ad := fun _ => ep) (fun i hi => by obtain rfl : i = 0 := (by omega); exact q1) (fun i hi => by obtain rfl : i = 0 := (by omega); exact gn) (fun i hi => rfl) hA 0 (by decide)
  have hE : wd_E ep (wd_N s.heap.size) s s.heap := ⟨hZ1, (by obtain ⟨-, -, -, -, h9⟩ := hO1; exact h9), va_O.narrow hO1 (fun q h => h.elim), va_OF.narrow hF1 (fun q h => h.elim), va_OF.narrow hF2 (fun q h => h.elim)⟩
  have hO : va_AO "Instant" s := va_AO.of (hts0 _ q21)
  have hS : va_S (wd_N s.heap.size) s.heap s.heap [] := va_S.rf
  have hP : va_P D wd_cl [] s.heap := fun k q h => by simp at h
  have hD : va_D (wd_N s.heap.size) [] := ⟨fun i j p q h => by simp at h, fun k q h => by simp at h⟩
  have hl := lv_entry ([.ref b]) (n := 13) (Nat.le_of_ble_eq_true rfl)
  rw [lg_entry_eq]
  generalize (lg_sl ([.ref b]) ++ List.replicate (13 - (lg_sl ([.ref b])).length) Slot.unset).toArray = ls at hl ⊢
  have hl : lv_has ls 13 [(0, .ref b)] := hl
  refine va_new (ci := 1) (fs := [.null]) (C := RX1) (T := TX1) (N := 1) hx hb hts in_X1 tyX1 tyX1_ok hown (hts _ q12) (hts _ q13) (hts _ q3) hK hP hD hS (fun _ h => h) rfl (fun j hj => by rcases (show j = 0 by omega) with rfl <;> rfl) (Nat.le_of_ble_eq_true rfl) (Nat.le_of_ble_eq_true rfl) dL_law_0 (fun h0 H hP hD hS => ?_)
  have hP : va_P D wd_cl [(h0, .inr (1, [.null]))] H := hP
  have hh0 : s.heap.size ≤ h0 := hD.2 0 (h0, .inr (1, [.null])) rfl
  have lh0 : h0 < H.size := (hP 0 (h0, .inr (1, [.null])) rfl).lt
  refine lv_dup hx hb dL_law_3 rfl ?_
  have hE1 : wd_E ep (wd_A h0 H.size) s H := wd_E.narrow (wd_E.kept hE hS.2.1) (fun q h => wd_AN hh0 hS.1 h)
  refine va_callv (va_runI (As := []) (rest := [.ref h0]) ⟨hx, hb, hml, hown, hts⟩ (met_deskInit l D h0 ep H.size) (cwI 0 hts (lw_meth q16) rfl rfl rfl (hts _ q3) (hts _ q14) (hts _ q15) rfl (by decide +kernel) ⟨Nat.le_of_ble_eq_true rfl, Nat.le_of_ble_eq_true rfl⟩) ⟨fun a U g mk q => ⟨q.1, q.2.1, q.2.2.1, va_K.moved (u := U) (U := U.calling g mk a) (Vm.Alike.refl U.vm) q.2.2.2.1, wd_E.moved (u := U) (U := U.calling g mk a) (Vm.Alike.refl U.vm) q.2.2.2.2.1, va_AO.moved (u := U) (U := U.calling g mk a) (Vm.Alike.refl U.vm) q.2.2.2.2.2⟩, fun U hU hW => ⟨rfl, by rw [hU], by rw [hU]; exact hP, va_K.moved hW.alike hK, by rw [hU]; exact wd_E.moved hW.alike hE1, va_AO.moved hW.alike hO⟩⟩ rfl rfl hl.1 rfl (lv_room (Nat.le_of_ble_eq_true rfl)) dL_law_4 ⟨Nat.le_of_ble_eq_true rfl, Nat.le_of_ble_eq_true rfl⟩) hS (fun q _ h => wd_AN hh0 hS.1 h) (fun q h => wd_AN hh0 hS.1 h) (fun u t H1 locs ht hvm hw hB hz1 hk1 hS => ?_)
  obtain ⟨h1, cA, f⟩ := u
  have hw : H.size ≤ h1 := hw
  have hDk1 : wd_Desk D h0 h1 cA f (fun _ => 0) (fun _ => 0) s H1 := by
    have h9 : wd_Desk D h0 h1 cA f (fun _ => 0) (fun _ => 0) t t.heap := hB
    rw [ht] at h9
    exact wd_Desk.moved hvm.symm h9
  have lh1 : h1 < H1.size := hDk1.lt1
  refine lv_astore_n (lv' := [(1, .ref h0), (0, .ref b)]) hx hb dL_law_7 rfl hl (by decide) rfl (fun ls hl => ?_)
  refine lv_iconst (v := 2) hx hb dL_law_8 (by decide) ?_
  refine wd_newJ hx hb (hts _ q280) (Nat.le_of_ble_eq_true rfl) (Nat.le_of_ble_eq_true rfl) dL_law_9 (fun qs H2 dJ eqs e2 z2 o2 hJ => ?_)
  have hS : va_S (wd_N s.heap.size) s.heap H2 locs := ⟨Nat.le_trans hS.1 (by omega), fun q g1 g2 => (o2 q (Nat.lt_of_lt_of_le g1 hS.1)).trans (hS.2.1 q g1 g2), hS.2.2⟩
  have hDk2 := hDk1.kept o2
  refine lv_astore_n (lv' := [(2, .ref qs), (1, .ref h0), (0, .ref b)]) hx hb dL_law_11 rfl hl (by decide) rfl (fun ls hl => ?_)
  refine lv_iconst (v := 2) hx hb dL_law_12 (by decide) ?_
  refine wd_newJ hx hb (hts _ q280) (Nat.le_of_ble_eq_true rfl) (Nat.le_of_ble_eq_true rfl) dL_law_13 (fun qn H3 dK eqn e3 z3 o3 hJ2 => ?_)
  have hS : va_S (wd_N s.heap.size) s.heap H3 locs := ⟨Nat.le_trans hS.1 (by omega), fun q g1 g2 => (o3 q (Nat.lt_of_lt_of_le g1 hS.1)).trans (hS.2.1 q g1 g2), hS.2.2⟩
  have hDk3 := hDk2.kept o3
  have hT : wd_Told D h0 h1 cA f (fun _ => 0) (fun _ => 0) qs qn dJ dK (fun _ => 0) (fun _ => 0) s H3 := ⟨hDk3, (o3 qs (by omega)).trans e2, e3, hJ, hJ2⟩
  have hR : wd_Rg (fun _ => 0) := fun k hk => ⟨(show (0 : Int) ≤ (0 : Int32).toInt by decide), (show (0 : Int32).toInt < 1000000000 by decide)⟩
  have hF : wd_F (fun _ => 0) (fun _ => 0) (fun _ => 0) (fun _ => 0) := fun k hk => ⟨rfl, (show (0 : Int64) = (0 : Int32).toInt64 by decide)⟩
  have hAd : lw_Ad s.heap.size h0 h1 qs qn := by
    have s1 := hS.1
    have s0 : s.heap.size ≤ H.size := by omega
    refine ⟨?_, ?_, ?_, ?_, ?_, ?_, ?_, ?_, ?_⟩ <;> omega
  refine W.widen (k := 6) (n := 11) (Nat.le_of_ble_eq_true rfl) (Nat.le_of_ble_eq_true rfl) ?_
  have hXH : va_X b L xs s H3 := hX.kept (hS.2.1 b hbl (Nat.not_le.mpr hbl))
  refine lv_astore_n (lv' := [(3, .ref qn), (2, .ref qs), (1, .ref h0), (0, .ref b)]) hx hb dL_law_15 rfl hl (by decide) rfl (fun ls hl => ?_)
  refine lv_aload_n hx hb dL_law_16 rfl (lv_at hl 2 rfl) ?_
  refine lv_aload_n hx hb dL_law_17 rfl (lv_at hl 1 rfl) ?_
  refine lv_aload_n hx hb dL_law_18 rfl (lv_at hl 0 rfl) ?_
  refine lv_aload_n hx hb dL_law_19 rfl (lv_at hl 3 rfl) ?_
  refine lv_iconst (v := 0) hx hb dL_law_20 (by decide) ?_
  refine vp_callSi (va_runS (As := [.ref b, .int (0 : Int32)]) (rest := [.ref qn, .ref qs, .ref h0]) ⟨hx, hb, hml, hown, hts⟩ (met_cell l b L xs 0 0 rfl (by decide) hL) (va_cwS 2 hts (lw_S q199 q200 q2 q201) rfl rfl rfl (by decide +kernel) ⟨Nat.le_of_ble_eq_true rfl, Nat.le_of_ble_eq_true rfl⟩) ⟨fun a U g mk q => ⟨q.1, va_X.moved (u := U) (U := U.calling g mk a) (Vm.Alike.refl U.vm) q.2⟩, fun U hU hW => ⟨rfl, by show va_X _ _ _ U U.heap; rw [hU]; exact va_X.moved hW.alike hXH⟩⟩ rfl rfl hl.1 rfl (lv_room (Nat.le_of_ble_eq_true rfl)) dL_law_21 ⟨show 6 + 0 ≤ 1200192 by omega, show 11 + 0 ≤ 5500522 by omega⟩).run (fun y0 _ => ?_)
  refine vp_callSi (va_runS (As := [.ref h0, .ref qs, .ref qn, .int y0]) (rest := []) ⟨hx, hb, hml, hown, hts⟩ (met_areTold l D h0 h1 cA f (fun _ => 0) (fun _ => 0) qs qn dJ dK (fun _ => 0) (fun _ => 0) hR hF y0) (va_cwS 4 hts (lw_S q209 q210 q2 q211) rfl rfl rfl (by decide +kernel) ⟨Nat.le_of_ble_eq_true rfl, Nat.le_of_ble_eq_true rfl⟩) ⟨fun a U g mk q => ⟨q.1, wd_Told.moved (u := U) (U := U.calling g mk a) (Vm.Alike.refl U.vm) q.2⟩, fun U hU hW => ⟨rfl, by show wd_Told _ _ _ _ _ _ _ _ _ _ _ _ _ U U.heap; rw [hU]; exact wd_Told.moved hW.alike hT⟩⟩ rfl rfl hl.1 rfl (lv_room (Nat.le_of_ble_eq_true rfl)) dL_law_24 ⟨show 6 + 0 ≤ 1200192 by omega, show 11 + 0 ≤ 5500522 by omega⟩).run (fun r1 er1 => ?_)
  refine lv_if_ne (tgt := 32) hx hb dL_law_27 (by decide) (fun c1 => ?_) (fun c1 => ?_)
  · refine lv_iconst (v := 0) hx hb dL_law_32 (by decide) ?_
    refine lv_istore (lv' := [(4, .int (0 : Int32)), (3, .ref qn), (2, .ref qs), (1, .ref h0), (0, .ref b)]) hx hb dL_law_33 hl (by decide) rfl (fun ls hl => ?_)
    exact law_loop hL C0 hAd hE 17 0 (by decide) (by decide) f (fun _ => 0) (fun _ => 0) (fun _ => 0) (fun _ => 0) H3 locs ls ⟨hT, hR, hF, hS⟩ (lv_sub hl [4, 3, 2, 1, 0] rfl)
  · rw [er1] at c1; exact absurd c1 (by decide)
end
section
-- ===== YOUR PART ENDS =====
set_option maxHeartbeats 4000000 in
theorem lw_walk (l : Launch) (hflags : l.flags = flags0) (b : Addr) (xs : List Int32) : MetFree l x (headSpec (Jvm.Cond.code x code maxLocals ret :: tables_1) room_1) (lw_P b xs) (fun _ _ _ _ _ => True) lw_Q := by
  refine MetFree.of_bodyS (code := code) (maxLocals := maxLocals) (ret := ret) (by decide) ?_ ?_
  · intro args s m h hn
    obtain ⟨meth, c, h1, h2, h3, h4, h5, h6, -, -⟩ := Cond.code_spec hn (atoms_spec (ws := Jvm.Cond.code x code maxLocals ret :: tables_1) h _ List.mem_cons_self)
    exact ⟨meth, c, h1, h2, h3, h4, h5, h6⟩
  · intro p e s m args below meth c s₁ B hml0 hP _
    obtain ⟨rfl, hx, hbd, hgv⟩ := hP
    obtain ⟨scr, harrAt, hlist, hof, hsmall⟩ := hx
    obtain ⟨hcb, hkn, -, -⟩ := State.arrayAt?_spec harrAt
    have hown : s.vm.findClass R_law = some m.cls := findClass_of_methodNamed B.named
    have hts0 : ∀ c ∈ (Jvm.Cond.code x code maxLocals ret :: tables_1), c.before #[Value.ref b] s = true := atoms_spec (ws := Jvm.Cond.code x code maxLocals ret :: tables_1) B.pre
    have hts : ∀ w ∈ lw_tbl, w.before #[Value.ref b] s = true := k2_hts_sels lw_privs (fun w hw => hts0 w (List.mem_cons_of_mem _ hw)) lw_privs_ok
    have hml : c.maxLocals = 13 := B.maxLocals_eq (hts0 _ List.mem_cons_self)
    have X₀ : Stand p l e room_1 s m #[Value.ref b] below meth c s₁ [] 0 0 := Stand.of_body B
    have hh0 : s₁.heap = s.heap := by rw [B.state]; rfl
    have hsz : scr.slots.size = xs.length := by rw [← Array.length_toList, hlist, List.length_map]
    have hval : ∀ j : Nat, j < xs.length → scr.slots[j]? = some (.int (xs.getD j 0)) := fun j hj => by
      rw [← Array.getElem?_toList, hlist]
      simp [hj]
    have hbl : b < s.heap.size := (Array.getElem?_eq_some_iff.mp hcb).1
    have hX : va_X b xs.length (fun j => xs.getD j 0) s s.heap := ⟨scr, hcb, hof, hkn, hsz, hval⟩
    have K : W p l e room_1 s m #[Value.ref b] below meth c s₁.heap [] 0 0 (lw_Z below #[Value.ref b] s) (entryFrame m ([Value.ref b] : List Value).toArray 13) := by
      rw [hh0]
      exact whole_start l hflags hbd ⟨B.exec, B.bytes, B.returns, hml, hown, hts, hX, hbl, B.notSynchronized, hgv⟩
    obtain ⟨t, a1, o, b1, b2, b3⟩ := K s₁ rfl X₀
    exact ⟨t, o, a1, b1, b2, b3⟩
theorem lw_pre_spec {args : Array Value} {s : State} (h : (Jvm.Cond.and given_1 narrow_1).before args s = true) (hr : rest_1_c.before args s = true) : ∃ (b : Addr) (xs : List Int32), lw_P b xs args s := by
  have hs := flat_of_before _ h
  have hq := flat_of_before _ hr
  have hc : (Cond.count 1).before args s = true := hs _ (by decide +kernel)
  have harr : (Cond.arrayOf (.arg 0) .int).before args s = true := hs _ (by decide +kernel)
  have hle : (Cond.le (.length (.arg 0)) (.int 96)).before args s = true := hs _ (by decide +kernel)
  have hlen : (Cond.isInt (.length (.arg 0))).before args s = true := hq _ (by decide +kernel)
  have hall : (Cond.all (.arg 0) (.isInt (.elem (.arg 0) (.index 0)))).before args s = true := hq _ (by decide +kernel)
  obtain ⟨b, xs, hb, hx⟩ := State.ints_of_pre rfl harr hlen hall
  have hsm : xs.length < 2 ^ 31 := hx.choose_spec.2.2.2
  have hev : (Term.length (.arg 0)).eval args s none [] s = some (.int xs.length.toInt32) := hx.length_eval hb
  have hv := Cond.le_ints hev (show (Term.int 96).eval args s none [] s = some (.int 96) from rfl)
  have hd : xs.length.toInt32 ≤ 96 := by
    simpa [Cond.before, Cond.holds, hv] using hle
  have hN : xs.length ≤ 96 := (Int32.ofNat_le_ofNat hsm (by decide)).mp (show Int32.ofNat xs.length ≤ Int32.ofNat 96 from hd)
  exact ⟨b, xs, Cond.one_arg hc (show args[0]? = some (.ref b) from hb), hx, hN, h⟩
theorem lw_comes (l : Launch) (hflags : l.flags = flags0) : Comes l x (Jvm.Cond.code x code maxLocals ret :: tables_1) room_1 (fun tb e args s => Calls_1 tb e args s ∧ rest_1 tb e args s ∧ Pre_1 tb e args s)
    (fun _ _ args s o t => lw_Q args s o t) := by
  intro p e ha hc hk s m args below hf hfit hheap happ hpre
  obtain ⟨b, xs, hP⟩ := lw_pre_spec hpre.2.2 hpre.2.1
  obtain ⟨k, o, h1, h2, h3, hQ⟩ := lw_walk l hflags b xs p e ha hc hk s m args below hf ((Spec.applies_iff_loose hf).mp happ).1 hP trivial
  exact ⟨k, o, h1, h2, h3, hQ⟩
theorem lw_frame {s t : State} {o : Outcome} {args : Array Value} (h : Framed s o t [] 1200192 5500522) :
    Framed s o t (fieldLocs frame_1_writes args s ++ arrayLocs frame_1_arrays args s ++ staticLocs frame_1_statics s) 1200192 5500522 := h
theorem lw_limb (L : Cond) (hL : ∀ (args : Array Value) (s t : State), L.after args s (.returned (some (.int 1))) t = true) :
    ArmFor flags0 classFile x code maxLocals ret World_1 tables_1 room_1 Calls_1 rest_1 Pre_1
      (fun tb e a s o t => postC L tb e a s o t ∧ Framed s o t (fieldLocs frame_1_writes a s ++ arrayLocs frame_1_arrays a s ++ staticLocs frame_1_statics s) 1200192 5500522) := by
  intro l hflags _ _ p e ha hc hk s m args below hf hfit hheap happ hpre
  obtain ⟨k, o, h1, h2, h3, rfl, hF⟩ := lw_comes l hflags p e ha hc hk s m args below hf hfit hheap happ hpre
  exact ⟨k, _, h1, h2, h3, hL args s _, lw_frame hF⟩
theorem i_vc : Claimed_1_1 ∧ Claimed_1_2 := ⟨lw_limb limb_1_1 (fun args s t => by simp [limb_1_1, Cond.after, Cond.holds, Cond.value]), lw_limb limb_1_2 (fun args s t => Cond.after_iff.mpr (by
  first | (rw [show limb_1_2 = Cond.eq .result (.int 1) from rfl, Cond.eq_ints (x := 1) (y := 1) rfl rfl]; simp; done) | (simp [limb_1_2, Cond.value, Term.eval]; done)))⟩
end
