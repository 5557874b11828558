section
-- ===== PART A: goes FIRST, ahead of the names: the tables' words, and 'selects' of the private methods out of them =====
/-- a private method of a class that the tables say can be made, by its rows of tables_1 -/
def lw_okq (q : MethodName × Nat) : Prop := (q.1.cls ≠ "java/lang/invoke/MethodHandle" ∧ q.1.cls ≠ "java/lang/invoke/VarHandle") ∧ Cond.instantiable q.1.cls q.2 ∈ tables_1 ∧ Cond.privateMethod q.1 ∈ tables_1 ∧ Cond.instanceMethod q.1 ∈ tables_1
set_option maxRecDepth 100000
theorem lw_t1 {w : Cond} (h : w ∈ tables_1_1) : w ∈ tables_1 := List.mem_append_left _ h
theorem lw_t2 {w : Cond} (h : w ∈ tables_1_2) : w ∈ tables_1 := List.mem_append_right _ h
theorem lw_p0 : lw_okq (⟨"java/lang/Throwable", "fillInStackTrace", "(I)Ljava/lang/Throwable;"⟩, 6) := ⟨⟨by decide +kernel, by decide +kernel⟩, lw_t1 (List.mem_of_getElem? (i := 66) rfl), lw_t1 (List.mem_of_getElem? (i := 64) rfl), lw_t1 (List.mem_of_getElem? (i := 65) rfl)⟩
theorem lw_p1 : lw_okq (⟨"SpanDesk", "room", "()Z"⟩, 1) := ⟨⟨by decide +kernel, by decide +kernel⟩, lw_t1 (List.mem_of_getElem? (i := 10) rfl), lw_t1 (List.mem_of_getElem? (i := 134) rfl), lw_t1 (List.mem_of_getElem? (i := 135) rfl)⟩
theorem lw_p2 : lw_okq (⟨"Duration", "plus", "(JJ)LDuration;"⟩, 2) := ⟨⟨by decide +kernel, by decide +kernel⟩, lw_t1 (List.mem_of_getElem? (i := 105) rfl), lw_t1 (List.mem_of_getElem? (i := 153) rfl), lw_t1 (List.mem_of_getElem? (i := 154) rfl)⟩
theorem lw_p3 : lw_okq (⟨"SpanDeskModel", "store", "(IJJ)V"⟩, 2) := ⟨⟨by decide +kernel, by decide +kernel⟩, lw_t2 (List.mem_of_getElem? (i := 8) rfl), lw_t2 (List.mem_of_getElem? (i := 31) rfl), lw_t2 (List.mem_of_getElem? (i := 32) rfl)⟩
theorem lw_p4 : lw_okq (⟨"SpanDeskModel", "room", "()Z"⟩, 2) := ⟨⟨by decide +kernel, by decide +kernel⟩, lw_t2 (List.mem_of_getElem? (i := 8) rfl), lw_t2 (List.mem_of_getElem? (i := 40) rfl), lw_t2 (List.mem_of_getElem? (i := 41) rfl)⟩
def lw_privs_1 : List (MethodName × Nat) := [(⟨"java/lang/Throwable", "fillInStackTrace", "(I)Ljava/lang/Throwable;"⟩, 6), (⟨"SpanDesk", "room", "()Z"⟩, 1), (⟨"Duration", "plus", "(JJ)LDuration;"⟩, 2), (⟨"SpanDeskModel", "store", "(IJJ)V"⟩, 2), (⟨"SpanDeskModel", "room", "()Z"⟩, 2)]
theorem lw_r1 : ∀ q ∈ lw_privs_1, lw_okq q := List.forall_mem_cons.mpr ⟨lw_p0, List.forall_mem_cons.mpr ⟨lw_p1, List.forall_mem_cons.mpr ⟨lw_p2, List.forall_mem_cons.mpr ⟨lw_p3, List.forall_mem_cons.mpr ⟨lw_p4, fun _ h => absurd h List.not_mem_nil⟩⟩⟩⟩⟩
def lw_privs : List (MethodName × Nat) := lw_privs_1
def lw_tbl : List Cond := k2_sels lw_privs ++ tables_1
theorem lw_privs_ok : ∀ q ∈ lw_privs, lw_okq q := lw_r1
-- ===== ONE list of words for every method: the tables' words that hold all through a run =====
def lw_all : List Cond := lw_tbl.filter goodWord
/-- a word of the tables by its place: claim/WORDS.tsv -/
theorem lw_w {w : Cond} (i : Nat) (h : lw_tbl[i]? = some w) (g : goodWord w = true) : w ∈ lw_all := List.mem_filter.mpr ⟨List.mem_of_getElem? h, g⟩
theorem lw_all_tbl {w : Cond} (h : w ∈ lw_all) : w ∈ lw_tbl := (List.mem_filter.mp h).1
theorem lw_self : GoodIn lw_all lw_all := fun w h => ⟨h, good_of_word (List.mem_filter.mp h).2⟩
/-- a class's field words, by their places -/
theorem lw_in (ws : List Cond) (ps : List Nat) (hp : ws = ps.filterMap (fun i => lw_tbl[i]?)) (hg : ws.all goodWord = true) : ∀ w ∈ ws, w ∈ lw_all := by
  intro w h
  have h1 := List.all_eq_true.mp hg w h
  rw [hp] at h
  obtain ⟨i, -, hi⟩ := List.mem_filterMap.mp h
  exact lw_w i hi h1
/-- the words of a contract for the method y with code b, L locals, answer r -/
abbrev ws_ (y : MethodName) (b : ByteArray) (L : Nat) (r : Option FieldType) : List Cond := Cond.code y b L r :: lw_all
theorem lw_meth {y : MethodName} {b : ByteArray} {L : Nat} {r : Option FieldType} (h : Cond.code y b L r ∈ lw_all) : GoodIn lw_all (ws_ y b L r) := by
  intro w hw
  rcases List.mem_cons.mp hw with e | e
  · rw [e]
    exact lw_self _ h
  · exact lw_self _ e
theorem lw_app {a c : List Cond} (ha : ∀ w ∈ a, w ∈ lw_all) (hc : GoodIn lw_all c) : GoodIn lw_all (a ++ c) := by
  intro w hw
  rcases List.mem_append.mp hw with e | e
  · exact lw_self w (ha w e)
  · exact hc w e
/-- what a call through an object asks: cwV n hts (lw_V ..) -/
theorem lw_V {own : String} {idx : Nat} {C : String} {y : MethodName} {b : ByteArray} {L : Nat} {r : Option FieldType} (h1 : Cond.methodLink own idx y ∈ lw_all) (h2 : Cond.instanceMethod y ∈ lw_all) (h3 : Cond.selects C y y ∈ lw_all) (h4 : Cond.initialized C ∈ lw_all) (h5 : Cond.code y b L r ∈ lw_all) : GoodIn lw_all (wsV own idx C y (ws_ y b L r)) := by
  refine lw_app ?_ (lw_meth h5)
  intro w hw
  simp only [List.mem_cons, List.not_mem_nil, or_false] at hw
  rcases hw with e | e | e | e
  · rw [e]; exact h1
  · rw [e]; exact h2
  · rw [e]; exact h3
  · rw [e]; exact h4
/-- what a static call asks: va_cwS n hts (lw_S ..) -/
theorem lw_S {own : String} {idx : Nat} {y : MethodName} {b : ByteArray} {L : Nat} {r : Option FieldType} (h1 : Cond.methodLink own idx y ∈ lw_all) (h2 : Cond.static y ∈ lw_all) (h3 : Cond.initialized y.cls ∈ lw_all) (h4 : Cond.code y b L r ∈ lw_all) : GoodIn lw_all (va_wsS own idx y (ws_ y b L r)) := by
  refine lw_app ?_ (lw_meth h4)
  intro w hw
  simp only [List.mem_cons, List.not_mem_nil, or_false] at hw
  rcases hw with e | e | e
  · rw [e]; exact h1
  · rw [e]; exact h2
  · rw [e]; exact h3
/-- the words of a contract for a method WITH HANDLERS (hh: its table) -/
abbrev wsW_ (y : MethodName) (b : ByteArray) (L : Nat) (r : Option FieldType) (hh : List (Nat × Nat × Nat × Nat)) : List Cond := Cond.codeWith y b L r hh :: lw_all
theorem lw_methW {y : MethodName} {b : ByteArray} {L : Nat} {r : Option FieldType} {hh : List (Nat × Nat × Nat × Nat)} (h : Cond.codeWith y b L r hh ∈ lw_all) : GoodIn lw_all (wsW_ y b L r hh) := by
  intro w hw
  rcases List.mem_cons.mp hw with e | e
  · rw [e]
    exact lw_self _ h
  · exact lw_self _ e
/-- any list of words by their places (lw_in), good -/
theorem lw_good {ws : List Cond} (h : ∀ w ∈ ws, w ∈ lw_all) : GoodIn lw_all ws := fun w hw => lw_self w (h w hw)
/-- what a call of a method with handlers asks: vx_cwVW n hts (lw_VW ..), vx_cwSW n hts (lw_SW ..) -/
theorem lw_VW {own : String} {idx : Nat} {C : String} {y : MethodName} {b : ByteArray} {L : Nat} {r : Option FieldType} {hh : List (Nat × Nat × Nat × Nat)} (h1 : Cond.methodLink own idx y ∈ lw_all) (h2 : Cond.instanceMethod y ∈ lw_all) (h3 : Cond.selects C y y ∈ lw_all) (h4 : Cond.initialized C ∈ lw_all) (h5 : Cond.codeWith y b L r hh ∈ lw_all) : GoodIn lw_all (wsV own idx C y (wsW_ y b L r hh)) := by
  refine lw_app ?_ (lw_methW h5)
  intro w hw
  simp only [List.mem_cons, List.not_mem_nil, or_false] at hw
  rcases hw with e | e | e | e
  · rw [e]; exact h1
  · rw [e]; exact h2
  · rw [e]; exact h3
  · rw [e]; exact h4
theorem lw_SW {own : String} {idx : Nat} {y : MethodName} {b : ByteArray} {L : Nat} {r : Option FieldType} {hh : List (Nat × Nat × Nat × Nat)} (h1 : Cond.methodLink own idx y ∈ lw_all) (h2 : Cond.static y ∈ lw_all) (h3 : Cond.initialized y.cls ∈ lw_all) (h4 : Cond.codeWith y b L r hh ∈ lw_all) : GoodIn lw_all (va_wsS own idx y (wsW_ y b L r hh)) := by
  refine lw_app ?_ (lw_methW h4)
  intro w hw
  simp only [List.mem_cons, List.not_mem_nil, or_false] at hw
  rcases hw with e | e | e
  · rw [e]; exact h1
  · rw [e]; exact h2
  · rw [e]; exact h3
/-- a word by its place in its run of the tables -/
theorem lw_at {r : List Cond} (hr : ∀ w ∈ r, w ∈ lw_tbl) {w : Cond} (i : Nat) (h : r[i]? = some w) : w ∈ lw_tbl := hr w (List.mem_of_getElem? h)
theorem lw_g {w : Cond} (h : w ∈ lw_tbl) (g : goodWord w = true) : w ∈ lw_all := List.mem_filter.mpr ⟨h, g⟩
theorem lw_ms : ∀ w ∈ k2_sels lw_privs, w ∈ lw_tbl := fun w h => show w ∈ k2_sels lw_privs ++ tables_1 from List.mem_append_left _ h
theorem lw_m1 : ∀ w ∈ tables_1_1, w ∈ lw_tbl := fun w h => show w ∈ k2_sels lw_privs ++ tables_1 from List.mem_append_right (k2_sels lw_privs) (show w ∈ tables_1 from List.mem_append_left _ h)
theorem lw_m2 : ∀ w ∈ tables_1_2, w ∈ lw_tbl := fun w h => show w ∈ k2_sels lw_privs ++ tables_1 from List.mem_append_right (k2_sels lw_privs) (show w ∈ tables_1 from List.mem_append_right _ h)
theorem qs0 : (Cond.selects "java/lang/Throwable" ⟨"java/lang/Throwable", "fillInStackTrace", "(I)Ljava/lang/Throwable;"⟩ ⟨"java/lang/Throwable", "fillInStackTrace", "(I)Ljava/lang/Throwable;"⟩) ∈ lw_all := lw_g (lw_at lw_ms 0 rfl) rfl
theorem qs1 : (Cond.selects "SpanDesk" ⟨"SpanDesk", "room", "()Z"⟩ ⟨"SpanDesk", "room", "()Z"⟩) ∈ lw_all := lw_g (lw_at lw_ms 1 rfl) rfl
theorem qs2 : (Cond.selects "Duration" ⟨"Duration", "plus", "(JJ)LDuration;"⟩ ⟨"Duration", "plus", "(JJ)LDuration;"⟩) ∈ lw_all := lw_g (lw_at lw_ms 2 rfl) rfl
theorem qs3 : (Cond.selects "SpanDeskModel" ⟨"SpanDeskModel", "store", "(IJJ)V"⟩ ⟨"SpanDeskModel", "store", "(IJJ)V"⟩) ∈ lw_all := lw_g (lw_at lw_ms 3 rfl) rfl
theorem qs4 : (Cond.selects "SpanDeskModel" ⟨"SpanDeskModel", "room", "()Z"⟩ ⟨"SpanDeskModel", "room", "()Z"⟩) ∈ lw_all := lw_g (lw_at lw_ms 4 rfl) rfl
-- ===== end of PART A; then your names; then what follows =====
end
section
/-! DECODE ROWS BY BYTES: one lemma an opcode; a method's code is cut into short pieces once, and a row reads its own piece alone. -/
set_option maxRecDepth 100000
/-- the code has just these bytes from pc on -/
def DkAt (code : ByteArray) (pc : Nat) (bs : List UInt8) : Prop := ∀ (j : Nat) (b : UInt8), bs[j]? = some b → code.data.toList[pc + j]? = some b
/-- the piece W has the bytes bs from its place j on -/
def dkIn (W : List UInt8) (j : Nat) (bs : List UInt8) : Bool := decide ((W.drop j).take bs.length = bs)
theorem dk_seg {l W T : List UInt8} {o o2 : Nat} (h : l.drop o = W ++ T) (n : Nat) (hn : W.length = n) (ho : o + n = o2) : l.drop o2 = T := by
  subst ho
  rw [← List.drop_drop, h, List.drop_left' hn]
theorem dk_at {code : ByteArray} {W T bs : List UInt8} {o pc : Nat} (h : code.data.toList.drop o = W ++ T) (j : Nat) (hp : o + j = pc) (hw : dkIn W j bs = true) : DkAt code pc bs := by
  subst hp
  intro i b e
  have h1 := of_decide_eq_true hw
  have h2 : i < bs.length := (List.getElem?_eq_some_iff.mp e).1
  have h3 : W[j + i]? = some b := by
    rw [← h1, List.getElem?_take, if_pos h2, List.getElem?_drop] at e
    exact e
  have h4 : j + i < W.length := (List.getElem?_eq_some_iff.mp h3).1
  have h5 : (code.data.toList.drop o)[j + i]? = some b := by
    rw [h, List.getElem?_append_left h4]
    exact h3
  rw [List.getElem?_drop, ← Nat.add_assoc] at h5
  exact h5
theorem dk_u1 {A : ByteArray} {p : Nat} {b : UInt8} (h : A.data.toList[p]? = some b) : (Reader.u1 : Reader DecodeError Nat) A p = .ok (b.toNat, p + 1) := by
  obtain ⟨h1, h2⟩ := List.getElem?_eq_some_iff.mp h
  have h3 : p < A.size := by simpa using h1
  have h4 : A[p]'h3 = b := h2
  have e : (Reader.u1 : Reader DecodeError Nat) A p = (if h : p < A.size then .ok (A[p].toNat, p + 1) else .error (HasTruncated.truncated p)) := by
    show (do if h : p < A.size then do set (p + 1); Pure.pure A[p].toNat else MonadExcept.throw (HasTruncated.truncated p) : Reader DecodeError Nat) A p = _
    by_cases hi : p < A.size
    · rw [dif_pos hi, dif_pos hi]; rfl
    · rw [dif_neg hi, dif_neg hi]; rfl
  rw [e, dif_pos h3, h4]
theorem dk_bind {α β : Type} {r : Reader DecodeError α} {f : α → Reader DecodeError β} {A : ByteArray} {p s : Nat} {a : α} (h : r A p = .ok (a, s)) : (r >>= f) A p = f a A s := by
  show (do let (a, s) ← r A p; f a A s : Except DecodeError (β × Nat)) = _
  rw [h]
  rfl
theorem dk_map {α β : Type} {r : Reader DecodeError α} {g : α → β} {A : ByteArray} {p s : Nat} {a : α} (h : r A p = .ok (a, s)) : (g <$> r) A p = .ok (g a, s) := by
  show (do let (a, s) ← r A p; .ok (g a, s) : Except DecodeError (β × Nat)) = _
  rw [h]
  rfl
theorem dk_u2 {A : ByteArray} {p : Nat} {a b : UInt8} (h : A.data.toList[p]? = some a) (h2 : A.data.toList[p + 1]? = some b) : (Reader.u2 : Reader DecodeError Nat) A p = .ok (a.toNat * 256 + b.toNat, p + 2) := by
  show (Reader.u1 >>= fun hi => Reader.u1 >>= fun lo => Pure.pure (hi * 256 + lo) : Reader DecodeError Nat) A p = _
  rw [dk_bind (dk_u1 h), dk_bind (dk_u1 h2)]
  rfl
theorem dk_of {code : ByteArray} {pc n : Nat} {i : Instr} (h : Decoder.instr pc code pc = .ok (i, pc + n)) : decode code pc = .ok (i, n) := by
  have e : decode code pc = (match Decoder.instr pc code pc with | .error x => .error x | .ok (j, s) => .ok (j, s - pc)) := by
    show (do let (j, s) ← Decoder.instr pc code pc; Pure.pure (j, s - pc) : Except DecodeError (Instr × Nat)) = _
    cases Decoder.instr pc code pc <;> rfl
  rw [e, h]
  show Except.ok (i, pc + n - pc) = _
  rw [Nat.add_sub_cancel_left]
theorem dk_2 {code : ByteArray} {pc : Nat} (h : DkAt code pc [2]) : decode code pc = .ok (.iconst (-1), 1) := dk_of ((dk_bind (dk_u1 (h 0 _ rfl))).trans rfl)
theorem dk_3 {code : ByteArray} {pc : Nat} (h : DkAt code pc [3]) : decode code pc = .ok (.iconst 0, 1) := dk_of ((dk_bind (dk_u1 (h 0 _ rfl))).trans rfl)
theorem dk_4 {code : ByteArray} {pc : Nat} (h : DkAt code pc [4]) : decode code pc = .ok (.iconst 1, 1) := dk_of ((dk_bind (dk_u1 (h 0 _ rfl))).trans rfl)
theorem dk_5 {code : ByteArray} {pc : Nat} (h : DkAt code pc [5]) : decode code pc = .ok (.iconst 2, 1) := dk_of ((dk_bind (dk_u1 (h 0 _ rfl))).trans rfl)
theorem dk_6 {code : ByteArray} {pc : Nat} (h : DkAt code pc [6]) : decode code pc = .ok (.iconst 3, 1) := dk_of ((dk_bind (dk_u1 (h 0 _ rfl))).trans rfl)
theorem dk_7 {code : ByteArray} {pc : Nat} (h : DkAt code pc [7]) : decode code pc = .ok (.iconst 4, 1) := dk_of ((dk_bind (dk_u1 (h 0 _ rfl))).trans rfl)
theorem dk_9 {code : ByteArray} {pc : Nat} (h : DkAt code pc [9]) : decode code pc = .ok (.lconst 0, 1) := dk_of ((dk_bind (dk_u1 (h 0 _ rfl))).trans rfl)
theorem dk_10 {code : ByteArray} {pc : Nat} (h : DkAt code pc [10]) : decode code pc = .ok (.lconst 1, 1) := dk_of ((dk_bind (dk_u1 (h 0 _ rfl))).trans rfl)
theorem dk_16 {code : ByteArray} {pc : Nat} (a : UInt8) (h : DkAt code pc [16, a]) : decode code pc = .ok (.bipush (Reader.signed 8 a.toNat), 2) := dk_of ((dk_bind (dk_u1 (h 0 _ rfl))).trans ((dk_bind (dk_map (dk_u1 (h 1 _ rfl)))).trans rfl))
theorem dk_17 {code : ByteArray} {pc : Nat} (a b : UInt8) (h : DkAt code pc [17, a, b]) : decode code pc = .ok (.sipush (Reader.signed 16 (a.toNat * 256 + b.toNat)), 3) := dk_of ((dk_bind (dk_u1 (h 0 _ rfl))).trans ((dk_bind (dk_map (dk_u2 (h 1 _ rfl) (h 2 _ rfl)))).trans rfl))
theorem dk_18 {code : ByteArray} {pc : Nat} (a : UInt8) (h : DkAt code pc [18, a]) : decode code pc = .ok (.ldc a.toNat, 2) := dk_of ((dk_bind (dk_u1 (h 0 _ rfl))).trans ((dk_bind (dk_u1 (h 1 _ rfl))).trans rfl))
theorem dk_20 {code : ByteArray} {pc : Nat} (a b : UInt8) (h : DkAt code pc [20, a, b]) : decode code pc = .ok (.ldc2_w (a.toNat * 256 + b.toNat), 3) := dk_of ((dk_bind (dk_u1 (h 0 _ rfl))).trans ((dk_bind (dk_u2 (h 1 _ rfl) (h 2 _ rfl))).trans rfl))
theorem dk_21 {code : ByteArray} {pc : Nat} (a : UInt8) (h : DkAt code pc [21, a]) : decode code pc = .ok (.iload a.toNat, 2) := dk_of ((dk_bind (dk_u1 (h 0 _ rfl))).trans ((dk_bind (dk_u1 (h 1 _ rfl))).trans rfl))
theorem dk_22 {code : ByteArray} {pc : Nat} (a : UInt8) (h : DkAt code pc [22, a]) : decode code pc = .ok (.lload a.toNat, 2) := dk_of ((dk_bind (dk_u1 (h 0 _ rfl))).trans ((dk_bind (dk_u1 (h 1 _ rfl))).trans rfl))
theorem dk_26 {code : ByteArray} {pc : Nat} (h : DkAt code pc [26]) : decode code pc = .ok (.iload_n 0, 1) := dk_of ((dk_bind (dk_u1 (h 0 _ rfl))).trans rfl)
theorem dk_27 {code : ByteArray} {pc : Nat} (h : DkAt code pc [27]) : decode code pc = .ok (.iload_n 1, 1) := dk_of ((dk_bind (dk_u1 (h 0 _ rfl))).trans rfl)
theorem dk_28 {code : ByteArray} {pc : Nat} (h : DkAt code pc [28]) : decode code pc = .ok (.iload_n 2, 1) := dk_of ((dk_bind (dk_u1 (h 0 _ rfl))).trans rfl)
theorem dk_29 {code : ByteArray} {pc : Nat} (h : DkAt code pc [29]) : decode code pc = .ok (.iload_n 3, 1) := dk_of ((dk_bind (dk_u1 (h 0 _ rfl))).trans rfl)
theorem dk_30 {code : ByteArray} {pc : Nat} (h : DkAt code pc [30]) : decode code pc = .ok (.lload_n 0, 1) := dk_of ((dk_bind (dk_u1 (h 0 _ rfl))).trans rfl)
theorem dk_31 {code : ByteArray} {pc : Nat} (h : DkAt code pc [31]) : decode code pc = .ok (.lload_n 1, 1) := dk_of ((dk_bind (dk_u1 (h 0 _ rfl))).trans rfl)
theorem dk_32 {code : ByteArray} {pc : Nat} (h : DkAt code pc [32]) : decode code pc = .ok (.lload_n 2, 1) := dk_of ((dk_bind (dk_u1 (h 0 _ rfl))).trans rfl)
theorem dk_33 {code : ByteArray} {pc : Nat} (h : DkAt code pc [33]) : decode code pc = .ok (.lload_n 3, 1) := dk_of ((dk_bind (dk_u1 (h 0 _ rfl))).trans rfl)
theorem dk_42 {code : ByteArray} {pc : Nat} (h : DkAt code pc [42]) : decode code pc = .ok (.aload_n 0, 1) := dk_of ((dk_bind (dk_u1 (h 0 _ rfl))).trans rfl)
theorem dk_43 {code : ByteArray} {pc : Nat} (h : DkAt code pc [43]) : decode code pc = .ok (.aload_n 1, 1) := dk_of ((dk_bind (dk_u1 (h 0 _ rfl))).trans rfl)
theorem dk_44 {code : ByteArray} {pc : Nat} (h : DkAt code pc [44]) : decode code pc = .ok (.aload_n 2, 1) := dk_of ((dk_bind (dk_u1 (h 0 _ rfl))).trans rfl)
theorem dk_46 {code : ByteArray} {pc : Nat} (h : DkAt code pc [46]) : decode code pc = .ok (.iaload, 1) := dk_of ((dk_bind (dk_u1 (h 0 _ rfl))).trans rfl)
theorem dk_47 {code : ByteArray} {pc : Nat} (h : DkAt code pc [47]) : decode code pc = .ok (.laload, 1) := dk_of ((dk_bind (dk_u1 (h 0 _ rfl))).trans rfl)
theorem dk_50 {code : ByteArray} {pc : Nat} (h : DkAt code pc [50]) : decode code pc = .ok (.aaload, 1) := dk_of ((dk_bind (dk_u1 (h 0 _ rfl))).trans rfl)
theorem dk_54 {code : ByteArray} {pc : Nat} (a : UInt8) (h : DkAt code pc [54, a]) : decode code pc = .ok (.istore a.toNat, 2) := dk_of ((dk_bind (dk_u1 (h 0 _ rfl))).trans ((dk_bind (dk_u1 (h 1 _ rfl))).trans rfl))
theorem dk_55 {code : ByteArray} {pc : Nat} (a : UInt8) (h : DkAt code pc [55, a]) : decode code pc = .ok (.lstore a.toNat, 2) := dk_of ((dk_bind (dk_u1 (h 0 _ rfl))).trans ((dk_bind (dk_u1 (h 1 _ rfl))).trans rfl))
theorem dk_60 {code : ByteArray} {pc : Nat} (h : DkAt code pc [60]) : decode code pc = .ok (.istore_n 1, 1) := dk_of ((dk_bind (dk_u1 (h 0 _ rfl))).trans rfl)
theorem dk_61 {code : ByteArray} {pc : Nat} (h : DkAt code pc [61]) : decode code pc = .ok (.istore_n 2, 1) := dk_of ((dk_bind (dk_u1 (h 0 _ rfl))).trans rfl)
theorem dk_62 {code : ByteArray} {pc : Nat} (h : DkAt code pc [62]) : decode code pc = .ok (.istore_n 3, 1) := dk_of ((dk_bind (dk_u1 (h 0 _ rfl))).trans rfl)
theorem dk_64 {code : ByteArray} {pc : Nat} (h : DkAt code pc [64]) : decode code pc = .ok (.lstore_n 1, 1) := dk_of ((dk_bind (dk_u1 (h 0 _ rfl))).trans rfl)
theorem dk_65 {code : ByteArray} {pc : Nat} (h : DkAt code pc [65]) : decode code pc = .ok (.lstore_n 2, 1) := dk_of ((dk_bind (dk_u1 (h 0 _ rfl))).trans rfl)
theorem dk_66 {code : ByteArray} {pc : Nat} (h : DkAt code pc [66]) : decode code pc = .ok (.lstore_n 3, 1) := dk_of ((dk_bind (dk_u1 (h 0 _ rfl))).trans rfl)
theorem dk_76 {code : ByteArray} {pc : Nat} (h : DkAt code pc [76]) : decode code pc = .ok (.astore_n 1, 1) := dk_of ((dk_bind (dk_u1 (h 0 _ rfl))).trans rfl)
theorem dk_77 {code : ByteArray} {pc : Nat} (h : DkAt code pc [77]) : decode code pc = .ok (.astore_n 2, 1) := dk_of ((dk_bind (dk_u1 (h 0 _ rfl))).trans rfl)
theorem dk_79 {code : ByteArray} {pc : Nat} (h : DkAt code pc [79]) : decode code pc = .ok (.iastore, 1) := dk_of ((dk_bind (dk_u1 (h 0 _ rfl))).trans rfl)
theorem dk_80 {code : ByteArray} {pc : Nat} (h : DkAt code pc [80]) : decode code pc = .ok (.lastore, 1) := dk_of ((dk_bind (dk_u1 (h 0 _ rfl))).trans rfl)
theorem dk_83 {code : ByteArray} {pc : Nat} (h : DkAt code pc [83]) : decode code pc = .ok (.aastore, 1) := dk_of ((dk_bind (dk_u1 (h 0 _ rfl))).trans rfl)
theorem dk_87 {code : ByteArray} {pc : Nat} (h : DkAt code pc [87]) : decode code pc = .ok (.pop, 1) := dk_of ((dk_bind (dk_u1 (h 0 _ rfl))).trans rfl)
theorem dk_89 {code : ByteArray} {pc : Nat} (h : DkAt code pc [89]) : decode code pc = .ok (.dup, 1) := dk_of ((dk_bind (dk_u1 (h 0 _ rfl))).trans rfl)
theorem dk_96 {code : ByteArray} {pc : Nat} (h : DkAt code pc [96]) : decode code pc = .ok (.iadd, 1) := dk_of ((dk_bind (dk_u1 (h 0 _ rfl))).trans rfl)
theorem dk_97 {code : ByteArray} {pc : Nat} (h : DkAt code pc [97]) : decode code pc = .ok (.ladd, 1) := dk_of ((dk_bind (dk_u1 (h 0 _ rfl))).trans rfl)
theorem dk_100 {code : ByteArray} {pc : Nat} (h : DkAt code pc [100]) : decode code pc = .ok (.isub, 1) := dk_of ((dk_bind (dk_u1 (h 0 _ rfl))).trans rfl)
theorem dk_101 {code : ByteArray} {pc : Nat} (h : DkAt code pc [101]) : decode code pc = .ok (.lsub, 1) := dk_of ((dk_bind (dk_u1 (h 0 _ rfl))).trans rfl)
theorem dk_105 {code : ByteArray} {pc : Nat} (h : DkAt code pc [105]) : decode code pc = .ok (.lmul, 1) := dk_of ((dk_bind (dk_u1 (h 0 _ rfl))).trans rfl)
theorem dk_108 {code : ByteArray} {pc : Nat} (h : DkAt code pc [108]) : decode code pc = .ok (.idiv, 1) := dk_of ((dk_bind (dk_u1 (h 0 _ rfl))).trans rfl)
theorem dk_109 {code : ByteArray} {pc : Nat} (h : DkAt code pc [109]) : decode code pc = .ok (.ldiv, 1) := dk_of ((dk_bind (dk_u1 (h 0 _ rfl))).trans rfl)
theorem dk_112 {code : ByteArray} {pc : Nat} (h : DkAt code pc [112]) : decode code pc = .ok (.irem, 1) := dk_of ((dk_bind (dk_u1 (h 0 _ rfl))).trans rfl)
theorem dk_113 {code : ByteArray} {pc : Nat} (h : DkAt code pc [113]) : decode code pc = .ok (.lrem, 1) := dk_of ((dk_bind (dk_u1 (h 0 _ rfl))).trans rfl)
theorem dk_116 {code : ByteArray} {pc : Nat} (h : DkAt code pc [116]) : decode code pc = .ok (.ineg, 1) := dk_of ((dk_bind (dk_u1 (h 0 _ rfl))).trans rfl)
theorem dk_117 {code : ByteArray} {pc : Nat} (h : DkAt code pc [117]) : decode code pc = .ok (.lneg, 1) := dk_of ((dk_bind (dk_u1 (h 0 _ rfl))).trans rfl)
theorem dk_121 {code : ByteArray} {pc : Nat} (h : DkAt code pc [121]) : decode code pc = .ok (.lshl, 1) := dk_of ((dk_bind (dk_u1 (h 0 _ rfl))).trans rfl)
theorem dk_122 {code : ByteArray} {pc : Nat} (h : DkAt code pc [122]) : decode code pc = .ok (.ishr, 1) := dk_of ((dk_bind (dk_u1 (h 0 _ rfl))).trans rfl)
theorem dk_126 {code : ByteArray} {pc : Nat} (h : DkAt code pc [126]) : decode code pc = .ok (.iand, 1) := dk_of ((dk_bind (dk_u1 (h 0 _ rfl))).trans rfl)
theorem dk_127 {code : ByteArray} {pc : Nat} (h : DkAt code pc [127]) : decode code pc = .ok (.land, 1) := dk_of ((dk_bind (dk_u1 (h 0 _ rfl))).trans rfl)
theorem dk_129 {code : ByteArray} {pc : Nat} (h : DkAt code pc [129]) : decode code pc = .ok (.lor, 1) := dk_of ((dk_bind (dk_u1 (h 0 _ rfl))).trans rfl)
theorem dk_130 {code : ByteArray} {pc : Nat} (h : DkAt code pc [130]) : decode code pc = .ok (.ixor, 1) := dk_of ((dk_bind (dk_u1 (h 0 _ rfl))).trans rfl)
theorem dk_131 {code : ByteArray} {pc : Nat} (h : DkAt code pc [131]) : decode code pc = .ok (.lxor, 1) := dk_of ((dk_bind (dk_u1 (h 0 _ rfl))).trans rfl)
theorem dk_132 {code : ByteArray} {pc : Nat} (a b : UInt8) (h : DkAt code pc [132, a, b]) : decode code pc = .ok (.iinc a.toNat (Reader.signed 8 b.toNat), 3) := dk_of ((dk_bind (dk_u1 (h 0 _ rfl))).trans ((dk_bind (dk_u1 (h 1 _ rfl))).trans ((dk_bind (dk_map (dk_u1 (h 2 _ rfl)))).trans rfl)))
theorem dk_133 {code : ByteArray} {pc : Nat} (h : DkAt code pc [133]) : decode code pc = .ok (.i2l, 1) := dk_of ((dk_bind (dk_u1 (h 0 _ rfl))).trans rfl)
theorem dk_136 {code : ByteArray} {pc : Nat} (h : DkAt code pc [136]) : decode code pc = .ok (.l2i, 1) := dk_of ((dk_bind (dk_u1 (h 0 _ rfl))).trans rfl)
theorem dk_148 {code : ByteArray} {pc : Nat} (h : DkAt code pc [148]) : decode code pc = .ok (.lcmp, 1) := dk_of ((dk_bind (dk_u1 (h 0 _ rfl))).trans rfl)
theorem dk_153 {code : ByteArray} {pc : Nat} (a b : UInt8) (h : DkAt code pc [153, a, b]) : decode code pc = .ok (.ifCond .eq (Reader.signed 16 (a.toNat * 256 + b.toNat)), 3) := dk_of ((dk_bind (dk_u1 (h 0 _ rfl))).trans ((dk_bind (dk_map (dk_u2 (h 1 _ rfl) (h 2 _ rfl)))).trans rfl))
theorem dk_154 {code : ByteArray} {pc : Nat} (a b : UInt8) (h : DkAt code pc [154, a, b]) : decode code pc = .ok (.ifCond .ne (Reader.signed 16 (a.toNat * 256 + b.toNat)), 3) := dk_of ((dk_bind (dk_u1 (h 0 _ rfl))).trans ((dk_bind (dk_map (dk_u2 (h 1 _ rfl) (h 2 _ rfl)))).trans rfl))
theorem dk_155 {code : ByteArray} {pc : Nat} (a b : UInt8) (h : DkAt code pc [155, a, b]) : decode code pc = .ok (.ifCond .lt (Reader.signed 16 (a.toNat * 256 + b.toNat)), 3) := dk_of ((dk_bind (dk_u1 (h 0 _ rfl))).trans ((dk_bind (dk_map (dk_u2 (h 1 _ rfl) (h 2 _ rfl)))).trans rfl))
theorem dk_156 {code : ByteArray} {pc : Nat} (a b : UInt8) (h : DkAt code pc [156, a, b]) : decode code pc = .ok (.ifCond .ge (Reader.signed 16 (a.toNat * 256 + b.toNat)), 3) := dk_of ((dk_bind (dk_u1 (h 0 _ rfl))).trans ((dk_bind (dk_map (dk_u2 (h 1 _ rfl) (h 2 _ rfl)))).trans rfl))
theorem dk_158 {code : ByteArray} {pc : Nat} (a b : UInt8) (h : DkAt code pc [158, a, b]) : decode code pc = .ok (.ifCond .le (Reader.signed 16 (a.toNat * 256 + b.toNat)), 3) := dk_of ((dk_bind (dk_u1 (h 0 _ rfl))).trans ((dk_bind (dk_map (dk_u2 (h 1 _ rfl) (h 2 _ rfl)))).trans rfl))
theorem dk_159 {code : ByteArray} {pc : Nat} (a b : UInt8) (h : DkAt code pc [159, a, b]) : decode code pc = .ok (.if_icmp .eq (Reader.signed 16 (a.toNat * 256 + b.toNat)), 3) := dk_of ((dk_bind (dk_u1 (h 0 _ rfl))).trans ((dk_bind (dk_map (dk_u2 (h 1 _ rfl) (h 2 _ rfl)))).trans rfl))
theorem dk_162 {code : ByteArray} {pc : Nat} (a b : UInt8) (h : DkAt code pc [162, a, b]) : decode code pc = .ok (.if_icmp .ge (Reader.signed 16 (a.toNat * 256 + b.toNat)), 3) := dk_of ((dk_bind (dk_u1 (h 0 _ rfl))).trans ((dk_bind (dk_map (dk_u2 (h 1 _ rfl) (h 2 _ rfl)))).trans rfl))
theorem dk_163 {code : ByteArray} {pc : Nat} (a b : UInt8) (h : DkAt code pc [163, a, b]) : decode code pc = .ok (.if_icmp .gt (Reader.signed 16 (a.toNat * 256 + b.toNat)), 3) := dk_of ((dk_bind (dk_u1 (h 0 _ rfl))).trans ((dk_bind (dk_map (dk_u2 (h 1 _ rfl) (h 2 _ rfl)))).trans rfl))
theorem dk_164 {code : ByteArray} {pc : Nat} (a b : UInt8) (h : DkAt code pc [164, a, b]) : decode code pc = .ok (.if_icmp .le (Reader.signed 16 (a.toNat * 256 + b.toNat)), 3) := dk_of ((dk_bind (dk_u1 (h 0 _ rfl))).trans ((dk_bind (dk_map (dk_u2 (h 1 _ rfl) (h 2 _ rfl)))).trans rfl))
theorem dk_167 {code : ByteArray} {pc : Nat} (a b : UInt8) (h : DkAt code pc [167, a, b]) : decode code pc = .ok (.goto (Reader.signed 16 (a.toNat * 256 + b.toNat)), 3) := dk_of ((dk_bind (dk_u1 (h 0 _ rfl))).trans ((dk_bind (dk_map (dk_u2 (h 1 _ rfl) (h 2 _ rfl)))).trans rfl))
theorem dk_172 {code : ByteArray} {pc : Nat} (h : DkAt code pc [172]) : decode code pc = .ok (.ireturn, 1) := dk_of ((dk_bind (dk_u1 (h 0 _ rfl))).trans rfl)
theorem dk_173 {code : ByteArray} {pc : Nat} (h : DkAt code pc [173]) : decode code pc = .ok (.lreturn, 1) := dk_of ((dk_bind (dk_u1 (h 0 _ rfl))).trans rfl)
theorem dk_176 {code : ByteArray} {pc : Nat} (h : DkAt code pc [176]) : decode code pc = .ok (.areturn, 1) := dk_of ((dk_bind (dk_u1 (h 0 _ rfl))).trans rfl)
theorem dk_177 {code : ByteArray} {pc : Nat} (h : DkAt code pc [177]) : decode code pc = .ok (.return_, 1) := dk_of ((dk_bind (dk_u1 (h 0 _ rfl))).trans rfl)
theorem dk_178 {code : ByteArray} {pc : Nat} (a b : UInt8) (h : DkAt code pc [178, a, b]) : decode code pc = .ok (.getstatic (a.toNat * 256 + b.toNat), 3) := dk_of ((dk_bind (dk_u1 (h 0 _ rfl))).trans ((dk_bind (dk_u2 (h 1 _ rfl) (h 2 _ rfl))).trans rfl))
theorem dk_180 {code : ByteArray} {pc : Nat} (a b : UInt8) (h : DkAt code pc [180, a, b]) : decode code pc = .ok (.getfield (a.toNat * 256 + b.toNat), 3) := dk_of ((dk_bind (dk_u1 (h 0 _ rfl))).trans ((dk_bind (dk_u2 (h 1 _ rfl) (h 2 _ rfl))).trans rfl))
theorem dk_181 {code : ByteArray} {pc : Nat} (a b : UInt8) (h : DkAt code pc [181, a, b]) : decode code pc = .ok (.putfield (a.toNat * 256 + b.toNat), 3) := dk_of ((dk_bind (dk_u1 (h 0 _ rfl))).trans ((dk_bind (dk_u2 (h 1 _ rfl) (h 2 _ rfl))).trans rfl))
theorem dk_182 {code : ByteArray} {pc : Nat} (a b : UInt8) (h : DkAt code pc [182, a, b]) : decode code pc = .ok (.invokevirtual (a.toNat * 256 + b.toNat), 3) := dk_of ((dk_bind (dk_u1 (h 0 _ rfl))).trans ((dk_bind (dk_u2 (h 1 _ rfl) (h 2 _ rfl))).trans rfl))
theorem dk_183 {code : ByteArray} {pc : Nat} (a b : UInt8) (h : DkAt code pc [183, a, b]) : decode code pc = .ok (.invokespecial (a.toNat * 256 + b.toNat), 3) := dk_of ((dk_bind (dk_u1 (h 0 _ rfl))).trans ((dk_bind (dk_u2 (h 1 _ rfl) (h 2 _ rfl))).trans rfl))
theorem dk_184 {code : ByteArray} {pc : Nat} (a b : UInt8) (h : DkAt code pc [184, a, b]) : decode code pc = .ok (.invokestatic (a.toNat * 256 + b.toNat), 3) := dk_of ((dk_bind (dk_u1 (h 0 _ rfl))).trans ((dk_bind (dk_u2 (h 1 _ rfl) (h 2 _ rfl))).trans rfl))
theorem dk_187 {code : ByteArray} {pc : Nat} (a b : UInt8) (h : DkAt code pc [187, a, b]) : decode code pc = .ok (.new (a.toNat * 256 + b.toNat), 3) := dk_of ((dk_bind (dk_u1 (h 0 _ rfl))).trans ((dk_bind (dk_u2 (h 1 _ rfl) (h 2 _ rfl))).trans rfl))
theorem dk_188_10 {code : ByteArray} {pc : Nat} (h : DkAt code pc [188, 10]) : decode code pc = .ok (.newarray .int, 2) := dk_of ((dk_bind (dk_u1 (h 0 _ rfl))).trans ((dk_bind (dk_u1 (h 1 _ rfl))).trans rfl))
theorem dk_188_11 {code : ByteArray} {pc : Nat} (h : DkAt code pc [188, 11]) : decode code pc = .ok (.newarray .long, 2) := dk_of ((dk_bind (dk_u1 (h 0 _ rfl))).trans ((dk_bind (dk_u1 (h 1 _ rfl))).trans rfl))
theorem dk_189 {code : ByteArray} {pc : Nat} (a b : UInt8) (h : DkAt code pc [189, a, b]) : decode code pc = .ok (.anewarray (a.toNat * 256 + b.toNat), 3) := dk_of ((dk_bind (dk_u1 (h 0 _ rfl))).trans ((dk_bind (dk_u2 (h 1 _ rfl) (h 2 _ rfl))).trans rfl))
theorem dk_190 {code : ByteArray} {pc : Nat} (h : DkAt code pc [190]) : decode code pc = .ok (.arraylength, 1) := dk_of ((dk_bind (dk_u1 (h 0 _ rfl))).trans rfl)
theorem dk_191 {code : ByteArray} {pc : Nat} (h : DkAt code pc [191]) : decode code pc = .ok (.athrow, 1) := dk_of ((dk_bind (dk_u1 (h 0 _ rfl))).trans rfl)
end
section
/-! java/lang/Object -/
set_option maxRecDepth 100000
def RJ4 : String := "java/lang/Object"
abbrev cJ4_init : ByteArray := object_method_1_code
def yJ4_init : MethodName := ⟨RJ4, "<init>", "()V"⟩
theorem dJ4_init_0 : decode cJ4_init 0 = .ok (.return_, 1) := by decide +kernel
theorem q20 : (Jvm.Cond.instanceMethod ({ cls := "java/lang/Object", name := "<init>", desc := "()V" } : Jvm.MethodName)) ∈ lw_all := lw_g (lw_at lw_m1 15 rfl) rfl
theorem q21 : (Jvm.Cond.code ({ cls := "java/lang/Object", name := "<init>", desc := "()V" } : Jvm.MethodName) object_method_1_code (1 : Nat) (Option.none : Option Jvm.ClassFile.FieldType)) ∈ lw_all := lw_g (lw_at lw_m1 16 rfl) rfl

/-! Jdk8Methods -/
set_option maxRecDepth 100000
def RX2 : String := "Jdk8Methods"
abbrev cX2_floorDiv : ByteArray := prog_3_method_3_code
def yX2_floorDiv : MethodName := ⟨RX2, "floorDiv", "(JJ)J"⟩
def dkwX2_floorDiv_0 : List UInt8 := [30, 9, 148, 155, 0, 9, 30, 32, 109, 167, 0, 10, 30, 10, 97, 32, 109, 10, 101, 173]
abbrev dktX2_floorDiv_0 : List UInt8 := dkwX2_floorDiv_0 ++ []
theorem dksX2_floorDiv_0 : cX2_floorDiv.data.toList.drop 0 = dktX2_floorDiv_0 := by decide +kernel
theorem dX2_floorDiv_0 : decode cX2_floorDiv 0 = .ok (.lload_n 0, 1) := dk_30 (dk_at dksX2_floorDiv_0 0 rfl rfl)
theorem dX2_floorDiv_1 : decode cX2_floorDiv 1 = .ok (.lconst 0, 1) := dk_9 (dk_at dksX2_floorDiv_0 1 rfl rfl)
theorem dX2_floorDiv_2 : decode cX2_floorDiv 2 = .ok (.lcmp, 1) := dk_148 (dk_at dksX2_floorDiv_0 2 rfl rfl)
theorem dX2_floorDiv_3 : decode cX2_floorDiv 3 = .ok (.ifCond .lt 9, 3) := dk_155 0 9 (dk_at dksX2_floorDiv_0 3 rfl rfl)
theorem dX2_floorDiv_6 : decode cX2_floorDiv 6 = .ok (.lload_n 0, 1) := dk_30 (dk_at dksX2_floorDiv_0 6 rfl rfl)
theorem dX2_floorDiv_7 : decode cX2_floorDiv 7 = .ok (.lload_n 2, 1) := dk_32 (dk_at dksX2_floorDiv_0 7 rfl rfl)
theorem dX2_floorDiv_8 : decode cX2_floorDiv 8 = .ok (.ldiv, 1) := dk_109 (dk_at dksX2_floorDiv_0 8 rfl rfl)
theorem dX2_floorDiv_9 : decode cX2_floorDiv 9 = .ok (.goto 10, 3) := dk_167 0 10 (dk_at dksX2_floorDiv_0 9 rfl rfl)
theorem dX2_floorDiv_12 : decode cX2_floorDiv 12 = .ok (.lload_n 0, 1) := dk_30 (dk_at dksX2_floorDiv_0 12 rfl rfl)
theorem dX2_floorDiv_13 : decode cX2_floorDiv 13 = .ok (.lconst 1, 1) := dk_10 (dk_at dksX2_floorDiv_0 13 rfl rfl)
theorem dX2_floorDiv_14 : decode cX2_floorDiv 14 = .ok (.ladd, 1) := dk_97 (dk_at dksX2_floorDiv_0 14 rfl rfl)
theorem dX2_floorDiv_15 : decode cX2_floorDiv 15 = .ok (.lload_n 2, 1) := dk_32 (dk_at dksX2_floorDiv_0 15 rfl rfl)
theorem dX2_floorDiv_16 : decode cX2_floorDiv 16 = .ok (.ldiv, 1) := dk_109 (dk_at dksX2_floorDiv_0 16 rfl rfl)
theorem dX2_floorDiv_17 : decode cX2_floorDiv 17 = .ok (.lconst 1, 1) := dk_10 (dk_at dksX2_floorDiv_0 17 rfl rfl)
theorem dX2_floorDiv_18 : decode cX2_floorDiv 18 = .ok (.lsub, 1) := dk_101 (dk_at dksX2_floorDiv_0 18 rfl rfl)
theorem dX2_floorDiv_19 : decode cX2_floorDiv 19 = .ok (.lreturn, 1) := dk_173 (dk_at dksX2_floorDiv_0 19 rfl rfl)
abbrev cX2_safeAdd : ByteArray := prog_3_method_2_code
def yX2_safeAdd : MethodName := ⟨RX2, "safeAdd", "(JJ)J"⟩
def dkwX2_safeAdd_1 : List UInt8 := [187, 0, 1, 89, 18, 3, 183, 0, 5, 191, 22, 4, 173]
abbrev dktX2_safeAdd_1 : List UInt8 := dkwX2_safeAdd_1 ++ []
def dkwX2_safeAdd_0 : List UInt8 := [30, 32, 97, 55, 4, 30, 22, 4, 131, 9, 148, 156, 0, 21, 30, 32, 131, 9, 148, 155, 0, 13]
abbrev dktX2_safeAdd_0 : List UInt8 := dkwX2_safeAdd_0 ++ dktX2_safeAdd_1
theorem dksX2_safeAdd_0 : cX2_safeAdd.data.toList.drop 0 = dktX2_safeAdd_0 := by decide +kernel
theorem dksX2_safeAdd_1 : cX2_safeAdd.data.toList.drop 22 = dktX2_safeAdd_1 := dk_seg dksX2_safeAdd_0 22 rfl rfl
theorem dX2_safeAdd_0 : decode cX2_safeAdd 0 = .ok (.lload_n 0, 1) := dk_30 (dk_at dksX2_safeAdd_0 0 rfl rfl)
theorem dX2_safeAdd_1 : decode cX2_safeAdd 1 = .ok (.lload_n 2, 1) := dk_32 (dk_at dksX2_safeAdd_0 1 rfl rfl)
theorem dX2_safeAdd_2 : decode cX2_safeAdd 2 = .ok (.ladd, 1) := dk_97 (dk_at dksX2_safeAdd_0 2 rfl rfl)
theorem dX2_safeAdd_3 : decode cX2_safeAdd 3 = .ok (.lstore 4, 2) := dk_55 4 (dk_at dksX2_safeAdd_0 3 rfl rfl)
theorem dX2_safeAdd_5 : decode cX2_safeAdd 5 = .ok (.lload_n 0, 1) := dk_30 (dk_at dksX2_safeAdd_0 5 rfl rfl)
theorem dX2_safeAdd_6 : decode cX2_safeAdd 6 = .ok (.lload 4, 2) := dk_22 4 (dk_at dksX2_safeAdd_0 6 rfl rfl)
theorem dX2_safeAdd_8 : decode cX2_safeAdd 8 = .ok (.lxor, 1) := dk_131 (dk_at dksX2_safeAdd_0 8 rfl rfl)
theorem dX2_safeAdd_9 : decode cX2_safeAdd 9 = .ok (.lconst 0, 1) := dk_9 (dk_at dksX2_safeAdd_0 9 rfl rfl)
theorem dX2_safeAdd_10 : decode cX2_safeAdd 10 = .ok (.lcmp, 1) := dk_148 (dk_at dksX2_safeAdd_0 10 rfl rfl)
theorem dX2_safeAdd_11 : decode cX2_safeAdd 11 = .ok (.ifCond .ge 21, 3) := dk_156 0 21 (dk_at dksX2_safeAdd_0 11 rfl rfl)
theorem dX2_safeAdd_14 : decode cX2_safeAdd 14 = .ok (.lload_n 0, 1) := dk_30 (dk_at dksX2_safeAdd_0 14 rfl rfl)
theorem dX2_safeAdd_15 : decode cX2_safeAdd 15 = .ok (.lload_n 2, 1) := dk_32 (dk_at dksX2_safeAdd_0 15 rfl rfl)
theorem dX2_safeAdd_16 : decode cX2_safeAdd 16 = .ok (.lxor, 1) := dk_131 (dk_at dksX2_safeAdd_0 16 rfl rfl)
theorem dX2_safeAdd_17 : decode cX2_safeAdd 17 = .ok (.lconst 0, 1) := dk_9 (dk_at dksX2_safeAdd_0 17 rfl rfl)
theorem dX2_safeAdd_18 : decode cX2_safeAdd 18 = .ok (.lcmp, 1) := dk_148 (dk_at dksX2_safeAdd_0 18 rfl rfl)
theorem dX2_safeAdd_19 : decode cX2_safeAdd 19 = .ok (.ifCond .lt 13, 3) := dk_155 0 13 (dk_at dksX2_safeAdd_0 19 rfl rfl)
theorem dX2_safeAdd_22 : decode cX2_safeAdd 22 = .ok (.new 1, 3) := dk_187 0 1 (dk_at dksX2_safeAdd_1 0 rfl rfl)
theorem dX2_safeAdd_25 : decode cX2_safeAdd 25 = .ok (.dup, 1) := dk_89 (dk_at dksX2_safeAdd_1 3 rfl rfl)
theorem dX2_safeAdd_26 : decode cX2_safeAdd 26 = .ok (.ldc 3, 2) := dk_18 3 (dk_at dksX2_safeAdd_1 4 rfl rfl)
theorem dX2_safeAdd_28 : decode cX2_safeAdd 28 = .ok (.invokespecial 5, 3) := dk_183 0 5 (dk_at dksX2_safeAdd_1 6 rfl rfl)
theorem dX2_safeAdd_31 : decode cX2_safeAdd 31 = .ok (.athrow, 1) := dk_191 (dk_at dksX2_safeAdd_1 9 rfl rfl)
theorem dX2_safeAdd_32 : decode cX2_safeAdd 32 = .ok (.lload 4, 2) := dk_22 4 (dk_at dksX2_safeAdd_1 10 rfl rfl)
theorem dX2_safeAdd_34 : decode cX2_safeAdd 34 = .ok (.lreturn, 1) := dk_173 (dk_at dksX2_safeAdd_1 12 rfl rfl)
abbrev cX2_floorMod : ByteArray := prog_3_method_4_code
def yX2_floorMod : MethodName := ⟨RX2, "floorMod", "(JI)I"⟩
def dkwX2_floorMod_0 : List UInt8 := [30, 28, 133, 113, 28, 133, 97, 28, 133, 113, 136, 172]
abbrev dktX2_floorMod_0 : List UInt8 := dkwX2_floorMod_0 ++ []
theorem dksX2_floorMod_0 : cX2_floorMod.data.toList.drop 0 = dktX2_floorMod_0 := by decide +kernel
theorem dX2_floorMod_0 : decode cX2_floorMod 0 = .ok (.lload_n 0, 1) := dk_30 (dk_at dksX2_floorMod_0 0 rfl rfl)
theorem dX2_floorMod_1 : decode cX2_floorMod 1 = .ok (.iload_n 2, 1) := dk_28 (dk_at dksX2_floorMod_0 1 rfl rfl)
theorem dX2_floorMod_2 : decode cX2_floorMod 2 = .ok (.i2l, 1) := dk_133 (dk_at dksX2_floorMod_0 2 rfl rfl)
theorem dX2_floorMod_3 : decode cX2_floorMod 3 = .ok (.lrem, 1) := dk_113 (dk_at dksX2_floorMod_0 3 rfl rfl)
theorem dX2_floorMod_4 : decode cX2_floorMod 4 = .ok (.iload_n 2, 1) := dk_28 (dk_at dksX2_floorMod_0 4 rfl rfl)
theorem dX2_floorMod_5 : decode cX2_floorMod 5 = .ok (.i2l, 1) := dk_133 (dk_at dksX2_floorMod_0 5 rfl rfl)
theorem dX2_floorMod_6 : decode cX2_floorMod 6 = .ok (.ladd, 1) := dk_97 (dk_at dksX2_floorMod_0 6 rfl rfl)
theorem dX2_floorMod_7 : decode cX2_floorMod 7 = .ok (.iload_n 2, 1) := dk_28 (dk_at dksX2_floorMod_0 7 rfl rfl)
theorem dX2_floorMod_8 : decode cX2_floorMod 8 = .ok (.i2l, 1) := dk_133 (dk_at dksX2_floorMod_0 8 rfl rfl)
theorem dX2_floorMod_9 : decode cX2_floorMod 9 = .ok (.lrem, 1) := dk_113 (dk_at dksX2_floorMod_0 9 rfl rfl)
theorem dX2_floorMod_10 : decode cX2_floorMod 10 = .ok (.l2i, 1) := dk_136 (dk_at dksX2_floorMod_0 10 rfl rfl)
theorem dX2_floorMod_11 : decode cX2_floorMod 11 = .ok (.ireturn, 1) := dk_172 (dk_at dksX2_floorMod_0 11 rfl rfl)
abbrev cX2_compareLongs : ByteArray := prog_3_method_1_code
def yX2_compareLongs : MethodName := ⟨RX2, "compareLongs", "(JJ)I"⟩
def dkwX2_compareLongs_0 : List UInt8 := [30, 32, 148, 156, 0, 5, 2, 172, 30, 32, 148, 158, 0, 5, 4, 172, 3, 172]
abbrev dktX2_compareLongs_0 : List UInt8 := dkwX2_compareLongs_0 ++ []
theorem dksX2_compareLongs_0 : cX2_compareLongs.data.toList.drop 0 = dktX2_compareLongs_0 := by decide +kernel
theorem dX2_compareLongs_0 : decode cX2_compareLongs 0 = .ok (.lload_n 0, 1) := dk_30 (dk_at dksX2_compareLongs_0 0 rfl rfl)
theorem dX2_compareLongs_1 : decode cX2_compareLongs 1 = .ok (.lload_n 2, 1) := dk_32 (dk_at dksX2_compareLongs_0 1 rfl rfl)
theorem dX2_compareLongs_2 : decode cX2_compareLongs 2 = .ok (.lcmp, 1) := dk_148 (dk_at dksX2_compareLongs_0 2 rfl rfl)
theorem dX2_compareLongs_3 : decode cX2_compareLongs 3 = .ok (.ifCond .ge 5, 3) := dk_156 0 5 (dk_at dksX2_compareLongs_0 3 rfl rfl)
theorem dX2_compareLongs_6 : decode cX2_compareLongs 6 = .ok (.iconst (-1), 1) := dk_2 (dk_at dksX2_compareLongs_0 6 rfl rfl)
theorem dX2_compareLongs_7 : decode cX2_compareLongs 7 = .ok (.ireturn, 1) := dk_172 (dk_at dksX2_compareLongs_0 7 rfl rfl)
theorem dX2_compareLongs_8 : decode cX2_compareLongs 8 = .ok (.lload_n 0, 1) := dk_30 (dk_at dksX2_compareLongs_0 8 rfl rfl)
theorem dX2_compareLongs_9 : decode cX2_compareLongs 9 = .ok (.lload_n 2, 1) := dk_32 (dk_at dksX2_compareLongs_0 9 rfl rfl)
theorem dX2_compareLongs_10 : decode cX2_compareLongs 10 = .ok (.lcmp, 1) := dk_148 (dk_at dksX2_compareLongs_0 10 rfl rfl)
theorem dX2_compareLongs_11 : decode cX2_compareLongs 11 = .ok (.ifCond .le 5, 3) := dk_158 0 5 (dk_at dksX2_compareLongs_0 11 rfl rfl)
theorem dX2_compareLongs_14 : decode cX2_compareLongs 14 = .ok (.iconst 1, 1) := dk_4 (dk_at dksX2_compareLongs_0 14 rfl rfl)
theorem dX2_compareLongs_15 : decode cX2_compareLongs 15 = .ok (.ireturn, 1) := dk_172 (dk_at dksX2_compareLongs_0 15 rfl rfl)
theorem dX2_compareLongs_16 : decode cX2_compareLongs 16 = .ok (.iconst 0, 1) := dk_3 (dk_at dksX2_compareLongs_0 16 rfl rfl)
theorem dX2_compareLongs_17 : decode cX2_compareLongs 17 = .ok (.ireturn, 1) := dk_172 (dk_at dksX2_compareLongs_0 17 rfl rfl)
theorem q8 : (Jvm.Cond.initialized "Jdk8Methods") ∈ lw_all := lw_g (lw_at lw_m1 3 rfl) rfl
theorem q29 : (Jvm.Cond.static ({ cls := "Jdk8Methods", name := "floorDiv", desc := "(JJ)J" } : Jvm.MethodName)) ∈ lw_all := lw_g (lw_at lw_m1 24 rfl) rfl
theorem q30 : (Jvm.Cond.code ({ cls := "Jdk8Methods", name := "floorDiv", desc := "(JJ)J" } : Jvm.MethodName) prog_3_method_3_code (4 : Nat) (Option.some Jvm.ClassFile.FieldType.long)) ∈ lw_all := lw_g (lw_at lw_m1 25 rfl) rfl
theorem q32 : (Jvm.Cond.static ({ cls := "Jdk8Methods", name := "safeAdd", desc := "(JJ)J" } : Jvm.MethodName)) ∈ lw_all := lw_g (lw_at lw_m1 27 rfl) rfl
theorem q33 : (Jvm.Cond.code ({ cls := "Jdk8Methods", name := "safeAdd", desc := "(JJ)J" } : Jvm.MethodName) prog_3_method_2_code (6 : Nat) (Option.some Jvm.ClassFile.FieldType.long)) ∈ lw_all := lw_g (lw_at lw_m1 28 rfl) rfl
theorem q34 : (Jvm.Cond.classLink "Jdk8Methods" (1 : Nat) "java/lang/ArithmeticException") ∈ lw_all := lw_g (lw_at lw_m1 29 rfl) rfl
theorem q73 : (Jvm.Cond.stringRef "Jdk8Methods" (3 : Nat) "left out") ∈ lw_tbl := lw_at lw_m1 68 rfl
theorem q74 : (Jvm.Cond.methodLink "Jdk8Methods" (5 : Nat) ({ cls := "java/lang/ArithmeticException", name := "<init>", desc := "(Ljava/lang/String;)V" } : Jvm.MethodName)) ∈ lw_all := lw_g (lw_at lw_m1 69 rfl) rfl
theorem q102 : (Jvm.Cond.static ({ cls := "Jdk8Methods", name := "floorMod", desc := "(JI)I" } : Jvm.MethodName)) ∈ lw_all := lw_g (lw_at lw_m1 97 rfl) rfl
theorem q103 : (Jvm.Cond.code ({ cls := "Jdk8Methods", name := "floorMod", desc := "(JI)I" } : Jvm.MethodName) prog_3_method_4_code (3 : Nat) (Option.some Jvm.ClassFile.FieldType.int)) ∈ lw_all := lw_g (lw_at lw_m1 98 rfl) rfl
theorem q232 : (Jvm.Cond.static ({ cls := "Jdk8Methods", name := "compareLongs", desc := "(JJ)I" } : Jvm.MethodName)) ∈ lw_all := lw_g (lw_at lw_m1 227 rfl) rfl
theorem q233 : (Jvm.Cond.code ({ cls := "Jdk8Methods", name := "compareLongs", desc := "(JJ)I" } : Jvm.MethodName) prog_3_method_1_code (4 : Nat) (Option.some Jvm.ClassFile.FieldType.int)) ∈ lw_all := lw_g (lw_at lw_m1 228 rfl) rfl

/-! Duration -/
set_option maxRecDepth 100000
def RX1 : String := "Duration"
def TX1 : u_T := fun k => match k with
  | 0 => ("Duration", "seconds", "J", true)
  | _ => ("Duration", "nanos", "I", true)
def tyX1 : Nat → FieldType := fun k => match k with
  | 0 => .long
  | _ => .int
abbrev wsX10 : List Cond := u_ws RX1 TX1 2
theorem nmX1 : ∀ a, a < 2 → ∀ b, b < 2 → a ≠ b → (TX1 a).2.1 ≠ (TX1 b).2.1 := by decide +kernel
theorem tyX1_ok : ∀ k, k < 2 → parseFieldDescriptor (TX1 k).2.2.1 = some (tyX1 k) := by decide +kernel
abbrev cX1_ofSeconds : ByteArray := prog_2_method_1_code
def yX1_ofSeconds : MethodName := ⟨RX1, "ofSeconds", "(JJ)LDuration;"⟩
def dkwX1_ofSeconds_1 : List UInt8 := [21, 6, 184, 0, 19, 176]
abbrev dktX1_ofSeconds_1 : List UInt8 := dkwX1_ofSeconds_1 ++ []
def dkwX1_ofSeconds_0 : List UInt8 := [30, 32, 20, 0, 3, 184, 0, 5, 184, 0, 11, 55, 4, 32, 18, 14, 184, 0, 15, 54, 6, 22, 4]
abbrev dktX1_ofSeconds_0 : List UInt8 := dkwX1_ofSeconds_0 ++ dktX1_ofSeconds_1
theorem dksX1_ofSeconds_0 : cX1_ofSeconds.data.toList.drop 0 = dktX1_ofSeconds_0 := by decide +kernel
theorem dksX1_ofSeconds_1 : cX1_ofSeconds.data.toList.drop 23 = dktX1_ofSeconds_1 := dk_seg dksX1_ofSeconds_0 23 rfl rfl
theorem dX1_ofSeconds_0 : decode cX1_ofSeconds 0 = .ok (.lload_n 0, 1) := dk_30 (dk_at dksX1_ofSeconds_0 0 rfl rfl)
theorem dX1_ofSeconds_1 : decode cX1_ofSeconds 1 = .ok (.lload_n 2, 1) := dk_32 (dk_at dksX1_ofSeconds_0 1 rfl rfl)
theorem dX1_ofSeconds_2 : decode cX1_ofSeconds 2 = .ok (.ldc2_w 3, 3) := dk_20 0 3 (dk_at dksX1_ofSeconds_0 2 rfl rfl)
theorem dX1_ofSeconds_5 : decode cX1_ofSeconds 5 = .ok (.invokestatic 5, 3) := dk_184 0 5 (dk_at dksX1_ofSeconds_0 5 rfl rfl)
theorem dX1_ofSeconds_8 : decode cX1_ofSeconds 8 = .ok (.invokestatic 11, 3) := dk_184 0 11 (dk_at dksX1_ofSeconds_0 8 rfl rfl)
theorem dX1_ofSeconds_11 : decode cX1_ofSeconds 11 = .ok (.lstore 4, 2) := dk_55 4 (dk_at dksX1_ofSeconds_0 11 rfl rfl)
theorem dX1_ofSeconds_13 : decode cX1_ofSeconds 13 = .ok (.lload_n 2, 1) := dk_32 (dk_at dksX1_ofSeconds_0 13 rfl rfl)
theorem dX1_ofSeconds_14 : decode cX1_ofSeconds 14 = .ok (.ldc 14, 2) := dk_18 14 (dk_at dksX1_ofSeconds_0 14 rfl rfl)
theorem dX1_ofSeconds_16 : decode cX1_ofSeconds 16 = .ok (.invokestatic 15, 3) := dk_184 0 15 (dk_at dksX1_ofSeconds_0 16 rfl rfl)
theorem dX1_ofSeconds_19 : decode cX1_ofSeconds 19 = .ok (.istore 6, 2) := dk_54 6 (dk_at dksX1_ofSeconds_0 19 rfl rfl)
theorem dX1_ofSeconds_21 : decode cX1_ofSeconds 21 = .ok (.lload 4, 2) := dk_22 4 (dk_at dksX1_ofSeconds_0 21 rfl rfl)
theorem dX1_ofSeconds_23 : decode cX1_ofSeconds 23 = .ok (.iload 6, 2) := dk_21 6 (dk_at dksX1_ofSeconds_1 0 rfl rfl)
theorem dX1_ofSeconds_25 : decode cX1_ofSeconds 25 = .ok (.invokestatic 19, 3) := dk_184 0 19 (dk_at dksX1_ofSeconds_1 2 rfl rfl)
theorem dX1_ofSeconds_28 : decode cX1_ofSeconds 28 = .ok (.areturn, 1) := dk_176 (dk_at dksX1_ofSeconds_1 5 rfl rfl)
abbrev cX1_create : ByteArray := prog_2_method_2_code
def yX1_create : MethodName := ⟨RX1, "create", "(JI)LDuration;"⟩
def dkwX1_create_0 : List UInt8 := [30, 28, 133, 129, 9, 148, 154, 0, 7, 178, 0, 23, 176, 187, 0, 1, 89, 30, 28, 183, 0, 27, 176]
abbrev dktX1_create_0 : List UInt8 := dkwX1_create_0 ++ []
theorem dksX1_create_0 : cX1_create.data.toList.drop 0 = dktX1_create_0 := by decide +kernel
theorem dX1_create_0 : decode cX1_create 0 = .ok (.lload_n 0, 1) := dk_30 (dk_at dksX1_create_0 0 rfl rfl)
theorem dX1_create_1 : decode cX1_create 1 = .ok (.iload_n 2, 1) := dk_28 (dk_at dksX1_create_0 1 rfl rfl)
theorem dX1_create_2 : decode cX1_create 2 = .ok (.i2l, 1) := dk_133 (dk_at dksX1_create_0 2 rfl rfl)
theorem dX1_create_3 : decode cX1_create 3 = .ok (.lor, 1) := dk_129 (dk_at dksX1_create_0 3 rfl rfl)
theorem dX1_create_4 : decode cX1_create 4 = .ok (.lconst 0, 1) := dk_9 (dk_at dksX1_create_0 4 rfl rfl)
theorem dX1_create_5 : decode cX1_create 5 = .ok (.lcmp, 1) := dk_148 (dk_at dksX1_create_0 5 rfl rfl)
theorem dX1_create_6 : decode cX1_create 6 = .ok (.ifCond .ne 7, 3) := dk_154 0 7 (dk_at dksX1_create_0 6 rfl rfl)
theorem dX1_create_9 : decode cX1_create 9 = .ok (.getstatic 23, 3) := dk_178 0 23 (dk_at dksX1_create_0 9 rfl rfl)
theorem dX1_create_12 : decode cX1_create 12 = .ok (.areturn, 1) := dk_176 (dk_at dksX1_create_0 12 rfl rfl)
theorem dX1_create_13 : decode cX1_create 13 = .ok (.new 1, 3) := dk_187 0 1 (dk_at dksX1_create_0 13 rfl rfl)
theorem dX1_create_16 : decode cX1_create 16 = .ok (.dup, 1) := dk_89 (dk_at dksX1_create_0 16 rfl rfl)
theorem dX1_create_17 : decode cX1_create 17 = .ok (.lload_n 0, 1) := dk_30 (dk_at dksX1_create_0 17 rfl rfl)
theorem dX1_create_18 : decode cX1_create 18 = .ok (.iload_n 2, 1) := dk_28 (dk_at dksX1_create_0 18 rfl rfl)
theorem dX1_create_19 : decode cX1_create 19 = .ok (.invokespecial 27, 3) := dk_183 0 27 (dk_at dksX1_create_0 19 rfl rfl)
theorem dX1_create_22 : decode cX1_create 22 = .ok (.areturn, 1) := dk_176 (dk_at dksX1_create_0 22 rfl rfl)
abbrev cX1_init : ByteArray := prog_2_method_3_code
def yX1_init : MethodName := ⟨RX1, "<init>", "(JI)V"⟩
def dkwX1_init_0 : List UInt8 := [42, 183, 0, 31, 42, 31, 181, 0, 36, 42, 29, 181, 0, 40, 177]
abbrev dktX1_init_0 : List UInt8 := dkwX1_init_0 ++ []
theorem dksX1_init_0 : cX1_init.data.toList.drop 0 = dktX1_init_0 := by decide +kernel
theorem dX1_init_0 : decode cX1_init 0 = .ok (.aload_n 0, 1) := dk_42 (dk_at dksX1_init_0 0 rfl rfl)
theorem dX1_init_1 : decode cX1_init 1 = .ok (.invokespecial 31, 3) := dk_183 0 31 (dk_at dksX1_init_0 1 rfl rfl)
theorem dX1_init_4 : decode cX1_init 4 = .ok (.aload_n 0, 1) := dk_42 (dk_at dksX1_init_0 4 rfl rfl)
theorem dX1_init_5 : decode cX1_init 5 = .ok (.lload_n 1, 1) := dk_31 (dk_at dksX1_init_0 5 rfl rfl)
theorem dX1_init_6 : decode cX1_init 6 = .ok (.putfield 36, 3) := dk_181 0 36 (dk_at dksX1_init_0 6 rfl rfl)
theorem dX1_init_9 : decode cX1_init 9 = .ok (.aload_n 0, 1) := dk_42 (dk_at dksX1_init_0 9 rfl rfl)
theorem dX1_init_10 : decode cX1_init 10 = .ok (.iload_n 3, 1) := dk_29 (dk_at dksX1_init_0 10 rfl rfl)
theorem dX1_init_11 : decode cX1_init 11 = .ok (.putfield 40, 3) := dk_181 0 40 (dk_at dksX1_init_0 11 rfl rfl)
theorem dX1_init_14 : decode cX1_init 14 = .ok (.return_, 1) := dk_177 (dk_at dksX1_init_0 14 rfl rfl)
abbrev cX1_getSeconds : ByteArray := prog_2_method_6_code
def yX1_getSeconds : MethodName := ⟨RX1, "getSeconds", "()J"⟩
theorem dX1_getSeconds_0 : decode cX1_getSeconds 0 = .ok (.aload_n 0, 1) := by decide +kernel
theorem dX1_getSeconds_1 : decode cX1_getSeconds 1 = .ok (.getfield 36, 3) := by decide +kernel
theorem dX1_getSeconds_4 : decode cX1_getSeconds 4 = .ok (.lreturn, 1) := by decide +kernel
abbrev cX1_plus : ByteArray := prog_2_method_8_code
def yX1_plus : MethodName := ⟨RX1, "plus", "(LDuration;)LDuration;"⟩
def dkwX1_plus_0 : List UInt8 := [42, 43, 182, 0, 44, 43, 182, 0, 48, 133, 182, 0, 52, 176]
abbrev dktX1_plus_0 : List UInt8 := dkwX1_plus_0 ++ []
theorem dksX1_plus_0 : cX1_plus.data.toList.drop 0 = dktX1_plus_0 := by decide +kernel
theorem dX1_plus_0 : decode cX1_plus 0 = .ok (.aload_n 0, 1) := dk_42 (dk_at dksX1_plus_0 0 rfl rfl)
theorem dX1_plus_1 : decode cX1_plus 1 = .ok (.aload_n 1, 1) := dk_43 (dk_at dksX1_plus_0 1 rfl rfl)
theorem dX1_plus_2 : decode cX1_plus 2 = .ok (.invokevirtual 44, 3) := dk_182 0 44 (dk_at dksX1_plus_0 2 rfl rfl)
theorem dX1_plus_5 : decode cX1_plus 5 = .ok (.aload_n 1, 1) := dk_43 (dk_at dksX1_plus_0 5 rfl rfl)
theorem dX1_plus_6 : decode cX1_plus 6 = .ok (.invokevirtual 48, 3) := dk_182 0 48 (dk_at dksX1_plus_0 6 rfl rfl)
theorem dX1_plus_9 : decode cX1_plus 9 = .ok (.i2l, 1) := dk_133 (dk_at dksX1_plus_0 9 rfl rfl)
theorem dX1_plus_10 : decode cX1_plus 10 = .ok (.invokevirtual 52, 3) := dk_182 0 52 (dk_at dksX1_plus_0 10 rfl rfl)
theorem dX1_plus_13 : decode cX1_plus 13 = .ok (.areturn, 1) := dk_176 (dk_at dksX1_plus_0 13 rfl rfl)
abbrev cX1_getNano : ByteArray := prog_2_method_7_code
def yX1_getNano : MethodName := ⟨RX1, "getNano", "()I"⟩
theorem dX1_getNano_0 : decode cX1_getNano 0 = .ok (.aload_n 0, 1) := by decide +kernel
theorem dX1_getNano_1 : decode cX1_getNano 1 = .ok (.getfield 40, 3) := by decide +kernel
theorem dX1_getNano_4 : decode cX1_getNano 4 = .ok (.ireturn, 1) := by decide +kernel
abbrev cX1_plus_2 : ByteArray := prog_2_method_12_code
def yX1_plus_2 : MethodName := ⟨RX1, "plus", "(JJ)LDuration;"⟩
def dkwX1_plus_2_2 : List UInt8 := [22, 5, 22, 7, 184, 0, 60, 176]
abbrev dktX1_plus_2_2 : List UInt8 := dkwX1_plus_2_2 ++ []
def dkwX1_plus_2_1 : List UInt8 := [20, 0, 3, 109, 184, 0, 11, 55, 5, 33, 20, 0, 3, 113, 66, 42, 180, 0, 40, 133, 33, 97, 55, 7]
abbrev dktX1_plus_2_1 : List UInt8 := dkwX1_plus_2_1 ++ dktX1_plus_2_2
def dkwX1_plus_2_0 : List UInt8 := [31, 33, 129, 9, 148, 154, 0, 5, 42, 176, 42, 180, 0, 36, 31, 184, 0, 11, 55, 5, 22, 5, 33]
abbrev dktX1_plus_2_0 : List UInt8 := dkwX1_plus_2_0 ++ dktX1_plus_2_1
theorem dksX1_plus_2_0 : cX1_plus_2.data.toList.drop 0 = dktX1_plus_2_0 := by decide +kernel
theorem dksX1_plus_2_1 : cX1_plus_2.data.toList.drop 23 = dktX1_plus_2_1 := dk_seg dksX1_plus_2_0 23 rfl rfl
theorem dksX1_plus_2_2 : cX1_plus_2.data.toList.drop 47 = dktX1_plus_2_2 := dk_seg dksX1_plus_2_1 24 rfl rfl
theorem dX1_plus_2_0 : decode cX1_plus_2 0 = .ok (.lload_n 1, 1) := dk_31 (dk_at dksX1_plus_2_0 0 rfl rfl)
theorem dX1_plus_2_1 : decode cX1_plus_2 1 = .ok (.lload_n 3, 1) := dk_33 (dk_at dksX1_plus_2_0 1 rfl rfl)
theorem dX1_plus_2_2 : decode cX1_plus_2 2 = .ok (.lor, 1) := dk_129 (dk_at dksX1_plus_2_0 2 rfl rfl)
theorem dX1_plus_2_3 : decode cX1_plus_2 3 = .ok (.lconst 0, 1) := dk_9 (dk_at dksX1_plus_2_0 3 rfl rfl)
theorem dX1_plus_2_4 : decode cX1_plus_2 4 = .ok (.lcmp, 1) := dk_148 (dk_at dksX1_plus_2_0 4 rfl rfl)
theorem dX1_plus_2_5 : decode cX1_plus_2 5 = .ok (.ifCond .ne 5, 3) := dk_154 0 5 (dk_at dksX1_plus_2_0 5 rfl rfl)
theorem dX1_plus_2_8 : decode cX1_plus_2 8 = .ok (.aload_n 0, 1) := dk_42 (dk_at dksX1_plus_2_0 8 rfl rfl)
theorem dX1_plus_2_9 : decode cX1_plus_2 9 = .ok (.areturn, 1) := dk_176 (dk_at dksX1_plus_2_0 9 rfl rfl)
theorem dX1_plus_2_10 : decode cX1_plus_2 10 = .ok (.aload_n 0, 1) := dk_42 (dk_at dksX1_plus_2_0 10 rfl rfl)
theorem dX1_plus_2_11 : decode cX1_plus_2 11 = .ok (.getfield 36, 3) := dk_180 0 36 (dk_at dksX1_plus_2_0 11 rfl rfl)
theorem dX1_plus_2_14 : decode cX1_plus_2 14 = .ok (.lload_n 1, 1) := dk_31 (dk_at dksX1_plus_2_0 14 rfl rfl)
theorem dX1_plus_2_15 : decode cX1_plus_2 15 = .ok (.invokestatic 11, 3) := dk_184 0 11 (dk_at dksX1_plus_2_0 15 rfl rfl)
theorem dX1_plus_2_18 : decode cX1_plus_2 18 = .ok (.lstore 5, 2) := dk_55 5 (dk_at dksX1_plus_2_0 18 rfl rfl)
theorem dX1_plus_2_20 : decode cX1_plus_2 20 = .ok (.lload 5, 2) := dk_22 5 (dk_at dksX1_plus_2_0 20 rfl rfl)
theorem dX1_plus_2_22 : decode cX1_plus_2 22 = .ok (.lload_n 3, 1) := dk_33 (dk_at dksX1_plus_2_0 22 rfl rfl)
theorem dX1_plus_2_23 : decode cX1_plus_2 23 = .ok (.ldc2_w 3, 3) := dk_20 0 3 (dk_at dksX1_plus_2_1 0 rfl rfl)
theorem dX1_plus_2_26 : decode cX1_plus_2 26 = .ok (.ldiv, 1) := dk_109 (dk_at dksX1_plus_2_1 3 rfl rfl)
theorem dX1_plus_2_27 : decode cX1_plus_2 27 = .ok (.invokestatic 11, 3) := dk_184 0 11 (dk_at dksX1_plus_2_1 4 rfl rfl)
theorem dX1_plus_2_30 : decode cX1_plus_2 30 = .ok (.lstore 5, 2) := dk_55 5 (dk_at dksX1_plus_2_1 7 rfl rfl)
theorem dX1_plus_2_32 : decode cX1_plus_2 32 = .ok (.lload_n 3, 1) := dk_33 (dk_at dksX1_plus_2_1 9 rfl rfl)
theorem dX1_plus_2_33 : decode cX1_plus_2 33 = .ok (.ldc2_w 3, 3) := dk_20 0 3 (dk_at dksX1_plus_2_1 10 rfl rfl)
theorem dX1_plus_2_36 : decode cX1_plus_2 36 = .ok (.lrem, 1) := dk_113 (dk_at dksX1_plus_2_1 13 rfl rfl)
theorem dX1_plus_2_37 : decode cX1_plus_2 37 = .ok (.lstore_n 3, 1) := dk_66 (dk_at dksX1_plus_2_1 14 rfl rfl)
theorem dX1_plus_2_38 : decode cX1_plus_2 38 = .ok (.aload_n 0, 1) := dk_42 (dk_at dksX1_plus_2_1 15 rfl rfl)
theorem dX1_plus_2_39 : decode cX1_plus_2 39 = .ok (.getfield 40, 3) := dk_180 0 40 (dk_at dksX1_plus_2_1 16 rfl rfl)
theorem dX1_plus_2_42 : decode cX1_plus_2 42 = .ok (.i2l, 1) := dk_133 (dk_at dksX1_plus_2_1 19 rfl rfl)
theorem dX1_plus_2_43 : decode cX1_plus_2 43 = .ok (.lload_n 3, 1) := dk_33 (dk_at dksX1_plus_2_1 20 rfl rfl)
theorem dX1_plus_2_44 : decode cX1_plus_2 44 = .ok (.ladd, 1) := dk_97 (dk_at dksX1_plus_2_1 21 rfl rfl)
theorem dX1_plus_2_45 : decode cX1_plus_2 45 = .ok (.lstore 7, 2) := dk_55 7 (dk_at dksX1_plus_2_1 22 rfl rfl)
theorem dX1_plus_2_47 : decode cX1_plus_2 47 = .ok (.lload 5, 2) := dk_22 5 (dk_at dksX1_plus_2_2 0 rfl rfl)
theorem dX1_plus_2_49 : decode cX1_plus_2 49 = .ok (.lload 7, 2) := dk_22 7 (dk_at dksX1_plus_2_2 2 rfl rfl)
theorem dX1_plus_2_51 : decode cX1_plus_2 51 = .ok (.invokestatic 60, 3) := dk_184 0 60 (dk_at dksX1_plus_2_2 4 rfl rfl)
theorem dX1_plus_2_54 : decode cX1_plus_2 54 = .ok (.areturn, 1) := dk_176 (dk_at dksX1_plus_2_2 7 rfl rfl)
abbrev cX1_minus : ByteArray := prog_2_method_13_code
def yX1_minus : MethodName := ⟨RX1, "minus", "(LDuration;)LDuration;"⟩
def dkwX1_minus_1 : List UInt8 := [21, 4, 116, 133, 182, 0, 52, 10, 9, 182, 0, 52, 176, 42, 32, 117, 21, 4, 116, 133, 182, 0, 52, 176]
abbrev dktX1_minus_1 : List UInt8 := dkwX1_minus_1 ++ []
def dkwX1_minus_0 : List UInt8 := [43, 182, 0, 44, 65, 43, 182, 0, 48, 54, 4, 32, 20, 0, 65, 148, 154, 0, 20, 42, 20, 0, 67]
abbrev dktX1_minus_0 : List UInt8 := dkwX1_minus_0 ++ dktX1_minus_1
theorem dksX1_minus_0 : cX1_minus.data.toList.drop 0 = dktX1_minus_0 := by decide +kernel
theorem dksX1_minus_1 : cX1_minus.data.toList.drop 23 = dktX1_minus_1 := dk_seg dksX1_minus_0 23 rfl rfl
theorem dX1_minus_0 : decode cX1_minus 0 = .ok (.aload_n 1, 1) := dk_43 (dk_at dksX1_minus_0 0 rfl rfl)
theorem dX1_minus_1 : decode cX1_minus 1 = .ok (.invokevirtual 44, 3) := dk_182 0 44 (dk_at dksX1_minus_0 1 rfl rfl)
theorem dX1_minus_4 : decode cX1_minus 4 = .ok (.lstore_n 2, 1) := dk_65 (dk_at dksX1_minus_0 4 rfl rfl)
theorem dX1_minus_5 : decode cX1_minus 5 = .ok (.aload_n 1, 1) := dk_43 (dk_at dksX1_minus_0 5 rfl rfl)
theorem dX1_minus_6 : decode cX1_minus 6 = .ok (.invokevirtual 48, 3) := dk_182 0 48 (dk_at dksX1_minus_0 6 rfl rfl)
theorem dX1_minus_9 : decode cX1_minus 9 = .ok (.istore 4, 2) := dk_54 4 (dk_at dksX1_minus_0 9 rfl rfl)
theorem dX1_minus_11 : decode cX1_minus 11 = .ok (.lload_n 2, 1) := dk_32 (dk_at dksX1_minus_0 11 rfl rfl)
theorem dX1_minus_12 : decode cX1_minus 12 = .ok (.ldc2_w 65, 3) := dk_20 0 65 (dk_at dksX1_minus_0 12 rfl rfl)
theorem dX1_minus_15 : decode cX1_minus 15 = .ok (.lcmp, 1) := dk_148 (dk_at dksX1_minus_0 15 rfl rfl)
theorem dX1_minus_16 : decode cX1_minus 16 = .ok (.ifCond .ne 20, 3) := dk_154 0 20 (dk_at dksX1_minus_0 16 rfl rfl)
theorem dX1_minus_19 : decode cX1_minus 19 = .ok (.aload_n 0, 1) := dk_42 (dk_at dksX1_minus_0 19 rfl rfl)
theorem dX1_minus_20 : decode cX1_minus 20 = .ok (.ldc2_w 67, 3) := dk_20 0 67 (dk_at dksX1_minus_0 20 rfl rfl)
theorem dX1_minus_23 : decode cX1_minus 23 = .ok (.iload 4, 2) := dk_21 4 (dk_at dksX1_minus_1 0 rfl rfl)
theorem dX1_minus_25 : decode cX1_minus 25 = .ok (.ineg, 1) := dk_116 (dk_at dksX1_minus_1 2 rfl rfl)
theorem dX1_minus_26 : decode cX1_minus 26 = .ok (.i2l, 1) := dk_133 (dk_at dksX1_minus_1 3 rfl rfl)
theorem dX1_minus_27 : decode cX1_minus 27 = .ok (.invokevirtual 52, 3) := dk_182 0 52 (dk_at dksX1_minus_1 4 rfl rfl)
theorem dX1_minus_30 : decode cX1_minus 30 = .ok (.lconst 1, 1) := dk_10 (dk_at dksX1_minus_1 7 rfl rfl)
theorem dX1_minus_31 : decode cX1_minus 31 = .ok (.lconst 0, 1) := dk_9 (dk_at dksX1_minus_1 8 rfl rfl)
theorem dX1_minus_32 : decode cX1_minus 32 = .ok (.invokevirtual 52, 3) := dk_182 0 52 (dk_at dksX1_minus_1 9 rfl rfl)
theorem dX1_minus_35 : decode cX1_minus 35 = .ok (.areturn, 1) := dk_176 (dk_at dksX1_minus_1 12 rfl rfl)
theorem dX1_minus_36 : decode cX1_minus 36 = .ok (.aload_n 0, 1) := dk_42 (dk_at dksX1_minus_1 13 rfl rfl)
theorem dX1_minus_37 : decode cX1_minus 37 = .ok (.lload_n 2, 1) := dk_32 (dk_at dksX1_minus_1 14 rfl rfl)
theorem dX1_minus_38 : decode cX1_minus 38 = .ok (.lneg, 1) := dk_117 (dk_at dksX1_minus_1 15 rfl rfl)
theorem dX1_minus_39 : decode cX1_minus 39 = .ok (.iload 4, 2) := dk_21 4 (dk_at dksX1_minus_1 16 rfl rfl)
theorem dX1_minus_41 : decode cX1_minus 41 = .ok (.ineg, 1) := dk_116 (dk_at dksX1_minus_1 18 rfl rfl)
theorem dX1_minus_42 : decode cX1_minus 42 = .ok (.i2l, 1) := dk_133 (dk_at dksX1_minus_1 19 rfl rfl)
theorem dX1_minus_43 : decode cX1_minus 43 = .ok (.invokevirtual 52, 3) := dk_182 0 52 (dk_at dksX1_minus_1 20 rfl rfl)
theorem dX1_minus_46 : decode cX1_minus 46 = .ok (.areturn, 1) := dk_176 (dk_at dksX1_minus_1 23 rfl rfl)
abbrev cX1_plusSeconds : ByteArray := prog_2_method_9_code
def yX1_plusSeconds : MethodName := ⟨RX1, "plusSeconds", "(J)LDuration;"⟩
def dkwX1_plusSeconds_0 : List UInt8 := [42, 31, 9, 182, 0, 52, 176]
abbrev dktX1_plusSeconds_0 : List UInt8 := dkwX1_plusSeconds_0 ++ []
theorem dksX1_plusSeconds_0 : cX1_plusSeconds.data.toList.drop 0 = dktX1_plusSeconds_0 := by decide +kernel
theorem dX1_plusSeconds_0 : decode cX1_plusSeconds 0 = .ok (.aload_n 0, 1) := dk_42 (dk_at dksX1_plusSeconds_0 0 rfl rfl)
theorem dX1_plusSeconds_1 : decode cX1_plusSeconds 1 = .ok (.lload_n 1, 1) := dk_31 (dk_at dksX1_plusSeconds_0 1 rfl rfl)
theorem dX1_plusSeconds_2 : decode cX1_plusSeconds 2 = .ok (.lconst 0, 1) := dk_9 (dk_at dksX1_plusSeconds_0 2 rfl rfl)
theorem dX1_plusSeconds_3 : decode cX1_plusSeconds 3 = .ok (.invokevirtual 52, 3) := dk_182 0 52 (dk_at dksX1_plusSeconds_0 3 rfl rfl)
theorem dX1_plusSeconds_6 : decode cX1_plusSeconds 6 = .ok (.areturn, 1) := dk_176 (dk_at dksX1_plusSeconds_0 6 rfl rfl)
abbrev cX1_plusMillis : ByteArray := prog_2_method_10_code
def yX1_plusMillis : MethodName := ⟨RX1, "plusMillis", "(J)LDuration;"⟩
def dkwX1_plusMillis_0 : List UInt8 := [42, 31, 20, 0, 56, 109, 31, 20, 0, 56, 113, 20, 0, 58, 105, 182, 0, 52, 176]
abbrev dktX1_plusMillis_0 : List UInt8 := dkwX1_plusMillis_0 ++ []
theorem dksX1_plusMillis_0 : cX1_plusMillis.data.toList.drop 0 = dktX1_plusMillis_0 := by decide +kernel
theorem dX1_plusMillis_0 : decode cX1_plusMillis 0 = .ok (.aload_n 0, 1) := dk_42 (dk_at dksX1_plusMillis_0 0 rfl rfl)
theorem dX1_plusMillis_1 : decode cX1_plusMillis 1 = .ok (.lload_n 1, 1) := dk_31 (dk_at dksX1_plusMillis_0 1 rfl rfl)
theorem dX1_plusMillis_2 : decode cX1_plusMillis 2 = .ok (.ldc2_w 56, 3) := dk_20 0 56 (dk_at dksX1_plusMillis_0 2 rfl rfl)
theorem dX1_plusMillis_5 : decode cX1_plusMillis 5 = .ok (.ldiv, 1) := dk_109 (dk_at dksX1_plusMillis_0 5 rfl rfl)
theorem dX1_plusMillis_6 : decode cX1_plusMillis 6 = .ok (.lload_n 1, 1) := dk_31 (dk_at dksX1_plusMillis_0 6 rfl rfl)
theorem dX1_plusMillis_7 : decode cX1_plusMillis 7 = .ok (.ldc2_w 56, 3) := dk_20 0 56 (dk_at dksX1_plusMillis_0 7 rfl rfl)
theorem dX1_plusMillis_10 : decode cX1_plusMillis 10 = .ok (.lrem, 1) := dk_113 (dk_at dksX1_plusMillis_0 10 rfl rfl)
theorem dX1_plusMillis_11 : decode cX1_plusMillis 11 = .ok (.ldc2_w 58, 3) := dk_20 0 58 (dk_at dksX1_plusMillis_0 11 rfl rfl)
theorem dX1_plusMillis_14 : decode cX1_plusMillis 14 = .ok (.lmul, 1) := dk_105 (dk_at dksX1_plusMillis_0 14 rfl rfl)
theorem dX1_plusMillis_15 : decode cX1_plusMillis 15 = .ok (.invokevirtual 52, 3) := dk_182 0 52 (dk_at dksX1_plusMillis_0 15 rfl rfl)
theorem dX1_plusMillis_18 : decode cX1_plusMillis 18 = .ok (.areturn, 1) := dk_176 (dk_at dksX1_plusMillis_0 18 rfl rfl)
abbrev cX1_plusNanos : ByteArray := prog_2_method_11_code
def yX1_plusNanos : MethodName := ⟨RX1, "plusNanos", "(J)LDuration;"⟩
def dkwX1_plusNanos_0 : List UInt8 := [42, 9, 31, 182, 0, 52, 176]
abbrev dktX1_plusNanos_0 : List UInt8 := dkwX1_plusNanos_0 ++ []
theorem dksX1_plusNanos_0 : cX1_plusNanos.data.toList.drop 0 = dktX1_plusNanos_0 := by decide +kernel
theorem dX1_plusNanos_0 : decode cX1_plusNanos 0 = .ok (.aload_n 0, 1) := dk_42 (dk_at dksX1_plusNanos_0 0 rfl rfl)
theorem dX1_plusNanos_1 : decode cX1_plusNanos 1 = .ok (.lconst 0, 1) := dk_9 (dk_at dksX1_plusNanos_0 1 rfl rfl)
theorem dX1_plusNanos_2 : decode cX1_plusNanos 2 = .ok (.lload_n 1, 1) := dk_31 (dk_at dksX1_plusNanos_0 2 rfl rfl)
theorem dX1_plusNanos_3 : decode cX1_plusNanos 3 = .ok (.invokevirtual 52, 3) := dk_182 0 52 (dk_at dksX1_plusNanos_0 3 rfl rfl)
theorem dX1_plusNanos_6 : decode cX1_plusNanos 6 = .ok (.areturn, 1) := dk_176 (dk_at dksX1_plusNanos_0 6 rfl rfl)
abbrev cX1_isNegative : ByteArray := prog_2_method_5_code
def yX1_isNegative : MethodName := ⟨RX1, "isNegative", "()Z"⟩
def dkwX1_isNegative_0 : List UInt8 := [42, 180, 0, 36, 9, 148, 156, 0, 7, 4, 167, 0, 4, 3, 172]
abbrev dktX1_isNegative_0 : List UInt8 := dkwX1_isNegative_0 ++ []
theorem dksX1_isNegative_0 : cX1_isNegative.data.toList.drop 0 = dktX1_isNegative_0 := by decide +kernel
theorem dX1_isNegative_0 : decode cX1_isNegative 0 = .ok (.aload_n 0, 1) := dk_42 (dk_at dksX1_isNegative_0 0 rfl rfl)
theorem dX1_isNegative_1 : decode cX1_isNegative 1 = .ok (.getfield 36, 3) := dk_180 0 36 (dk_at dksX1_isNegative_0 1 rfl rfl)
theorem dX1_isNegative_4 : decode cX1_isNegative 4 = .ok (.lconst 0, 1) := dk_9 (dk_at dksX1_isNegative_0 4 rfl rfl)
theorem dX1_isNegative_5 : decode cX1_isNegative 5 = .ok (.lcmp, 1) := dk_148 (dk_at dksX1_isNegative_0 5 rfl rfl)
theorem dX1_isNegative_6 : decode cX1_isNegative 6 = .ok (.ifCond .ge 7, 3) := dk_156 0 7 (dk_at dksX1_isNegative_0 6 rfl rfl)
theorem dX1_isNegative_9 : decode cX1_isNegative 9 = .ok (.iconst 1, 1) := dk_4 (dk_at dksX1_isNegative_0 9 rfl rfl)
theorem dX1_isNegative_10 : decode cX1_isNegative 10 = .ok (.goto 4, 3) := dk_167 0 4 (dk_at dksX1_isNegative_0 10 rfl rfl)
theorem dX1_isNegative_13 : decode cX1_isNegative 13 = .ok (.iconst 0, 1) := dk_3 (dk_at dksX1_isNegative_0 13 rfl rfl)
theorem dX1_isNegative_14 : decode cX1_isNegative 14 = .ok (.ireturn, 1) := dk_172 (dk_at dksX1_isNegative_0 14 rfl rfl)
abbrev cX1_isZero : ByteArray := prog_2_method_4_code
def yX1_isZero : MethodName := ⟨RX1, "isZero", "()Z"⟩
def dkwX1_isZero_0 : List UInt8 := [42, 180, 0, 36, 42, 180, 0, 40, 133, 129, 9, 148, 154, 0, 7, 4, 167, 0, 4, 3, 172]
abbrev dktX1_isZero_0 : List UInt8 := dkwX1_isZero_0 ++ []
theorem dksX1_isZero_0 : cX1_isZero.data.toList.drop 0 = dktX1_isZero_0 := by decide +kernel
theorem dX1_isZero_0 : decode cX1_isZero 0 = .ok (.aload_n 0, 1) := dk_42 (dk_at dksX1_isZero_0 0 rfl rfl)
theorem dX1_isZero_1 : decode cX1_isZero 1 = .ok (.getfield 36, 3) := dk_180 0 36 (dk_at dksX1_isZero_0 1 rfl rfl)
theorem dX1_isZero_4 : decode cX1_isZero 4 = .ok (.aload_n 0, 1) := dk_42 (dk_at dksX1_isZero_0 4 rfl rfl)
theorem dX1_isZero_5 : decode cX1_isZero 5 = .ok (.getfield 40, 3) := dk_180 0 40 (dk_at dksX1_isZero_0 5 rfl rfl)
theorem dX1_isZero_8 : decode cX1_isZero 8 = .ok (.i2l, 1) := dk_133 (dk_at dksX1_isZero_0 8 rfl rfl)
theorem dX1_isZero_9 : decode cX1_isZero 9 = .ok (.lor, 1) := dk_129 (dk_at dksX1_isZero_0 9 rfl rfl)
theorem dX1_isZero_10 : decode cX1_isZero 10 = .ok (.lconst 0, 1) := dk_9 (dk_at dksX1_isZero_0 10 rfl rfl)
theorem dX1_isZero_11 : decode cX1_isZero 11 = .ok (.lcmp, 1) := dk_148 (dk_at dksX1_isZero_0 11 rfl rfl)
theorem dX1_isZero_12 : decode cX1_isZero 12 = .ok (.ifCond .ne 7, 3) := dk_154 0 7 (dk_at dksX1_isZero_0 12 rfl rfl)
theorem dX1_isZero_15 : decode cX1_isZero 15 = .ok (.iconst 1, 1) := dk_4 (dk_at dksX1_isZero_0 15 rfl rfl)
theorem dX1_isZero_16 : decode cX1_isZero 16 = .ok (.goto 4, 3) := dk_167 0 4 (dk_at dksX1_isZero_0 16 rfl rfl)
theorem dX1_isZero_19 : decode cX1_isZero 19 = .ok (.iconst 0, 1) := dk_3 (dk_at dksX1_isZero_0 19 rfl rfl)
theorem dX1_isZero_20 : decode cX1_isZero 20 = .ok (.ireturn, 1) := dk_172 (dk_at dksX1_isZero_0 20 rfl rfl)
abbrev cX1_compareTo : ByteArray := prog_2_method_16_code
def yX1_compareTo : MethodName := ⟨RX1, "compareTo", "(LDuration;)I"⟩
def dkwX1_compareTo_1 : List UInt8 := [180, 0, 40, 100, 172]
abbrev dktX1_compareTo_1 : List UInt8 := dkwX1_compareTo_1 ++ []
def dkwX1_compareTo_0 : List UInt8 := [42, 180, 0, 36, 43, 180, 0, 36, 184, 0, 75, 61, 28, 153, 0, 5, 28, 172, 42, 180, 0, 40, 43]
abbrev dktX1_compareTo_0 : List UInt8 := dkwX1_compareTo_0 ++ dktX1_compareTo_1
theorem dksX1_compareTo_0 : cX1_compareTo.data.toList.drop 0 = dktX1_compareTo_0 := by decide +kernel
theorem dksX1_compareTo_1 : cX1_compareTo.data.toList.drop 23 = dktX1_compareTo_1 := dk_seg dksX1_compareTo_0 23 rfl rfl
theorem dX1_compareTo_0 : decode cX1_compareTo 0 = .ok (.aload_n 0, 1) := dk_42 (dk_at dksX1_compareTo_0 0 rfl rfl)
theorem dX1_compareTo_1 : decode cX1_compareTo 1 = .ok (.getfield 36, 3) := dk_180 0 36 (dk_at dksX1_compareTo_0 1 rfl rfl)
theorem dX1_compareTo_4 : decode cX1_compareTo 4 = .ok (.aload_n 1, 1) := dk_43 (dk_at dksX1_compareTo_0 4 rfl rfl)
theorem dX1_compareTo_5 : decode cX1_compareTo 5 = .ok (.getfield 36, 3) := dk_180 0 36 (dk_at dksX1_compareTo_0 5 rfl rfl)
theorem dX1_compareTo_8 : decode cX1_compareTo 8 = .ok (.invokestatic 75, 3) := dk_184 0 75 (dk_at dksX1_compareTo_0 8 rfl rfl)
theorem dX1_compareTo_11 : decode cX1_compareTo 11 = .ok (.istore_n 2, 1) := dk_61 (dk_at dksX1_compareTo_0 11 rfl rfl)
theorem dX1_compareTo_12 : decode cX1_compareTo 12 = .ok (.iload_n 2, 1) := dk_28 (dk_at dksX1_compareTo_0 12 rfl rfl)
theorem dX1_compareTo_13 : decode cX1_compareTo 13 = .ok (.ifCond .eq 5, 3) := dk_153 0 5 (dk_at dksX1_compareTo_0 13 rfl rfl)
theorem dX1_compareTo_16 : decode cX1_compareTo 16 = .ok (.iload_n 2, 1) := dk_28 (dk_at dksX1_compareTo_0 16 rfl rfl)
theorem dX1_compareTo_17 : decode cX1_compareTo 17 = .ok (.ireturn, 1) := dk_172 (dk_at dksX1_compareTo_0 17 rfl rfl)
theorem dX1_compareTo_18 : decode cX1_compareTo 18 = .ok (.aload_n 0, 1) := dk_42 (dk_at dksX1_compareTo_0 18 rfl rfl)
theorem dX1_compareTo_19 : decode cX1_compareTo 19 = .ok (.getfield 40, 3) := dk_180 0 40 (dk_at dksX1_compareTo_0 19 rfl rfl)
theorem dX1_compareTo_22 : decode cX1_compareTo 22 = .ok (.aload_n 1, 1) := dk_43 (dk_at dksX1_compareTo_0 22 rfl rfl)
theorem dX1_compareTo_23 : decode cX1_compareTo 23 = .ok (.getfield 40, 3) := dk_180 0 40 (dk_at dksX1_compareTo_1 0 rfl rfl)
theorem dX1_compareTo_26 : decode cX1_compareTo 26 = .ok (.isub, 1) := dk_100 (dk_at dksX1_compareTo_1 3 rfl rfl)
theorem dX1_compareTo_27 : decode cX1_compareTo 27 = .ok (.ireturn, 1) := dk_172 (dk_at dksX1_compareTo_1 4 rfl rfl)
abbrev cX1_toDays : ByteArray := prog_2_method_14_code
def yX1_toDays : MethodName := ⟨RX1, "toDays", "()J"⟩
def dkwX1_toDays_0 : List UInt8 := [42, 180, 0, 36, 20, 0, 71, 109, 173]
abbrev dktX1_toDays_0 : List UInt8 := dkwX1_toDays_0 ++ []
theorem dksX1_toDays_0 : cX1_toDays.data.toList.drop 0 = dktX1_toDays_0 := by decide +kernel
theorem dX1_toDays_0 : decode cX1_toDays 0 = .ok (.aload_n 0, 1) := dk_42 (dk_at dksX1_toDays_0 0 rfl rfl)
theorem dX1_toDays_1 : decode cX1_toDays 1 = .ok (.getfield 36, 3) := dk_180 0 36 (dk_at dksX1_toDays_0 1 rfl rfl)
theorem dX1_toDays_4 : decode cX1_toDays 4 = .ok (.ldc2_w 71, 3) := dk_20 0 71 (dk_at dksX1_toDays_0 4 rfl rfl)
theorem dX1_toDays_7 : decode cX1_toDays 7 = .ok (.ldiv, 1) := dk_109 (dk_at dksX1_toDays_0 7 rfl rfl)
theorem dX1_toDays_8 : decode cX1_toDays 8 = .ok (.lreturn, 1) := dk_173 (dk_at dksX1_toDays_0 8 rfl rfl)
abbrev cX1_toMinutes : ByteArray := prog_2_method_15_code
def yX1_toMinutes : MethodName := ⟨RX1, "toMinutes", "()J"⟩
def dkwX1_toMinutes_0 : List UInt8 := [42, 180, 0, 36, 20, 0, 73, 109, 173]
abbrev dktX1_toMinutes_0 : List UInt8 := dkwX1_toMinutes_0 ++ []
theorem dksX1_toMinutes_0 : cX1_toMinutes.data.toList.drop 0 = dktX1_toMinutes_0 := by decide +kernel
theorem dX1_toMinutes_0 : decode cX1_toMinutes 0 = .ok (.aload_n 0, 1) := dk_42 (dk_at dksX1_toMinutes_0 0 rfl rfl)
theorem dX1_toMinutes_1 : decode cX1_toMinutes 1 = .ok (.getfield 36, 3) := dk_180 0 36 (dk_at dksX1_toMinutes_0 1 rfl rfl)
theorem dX1_toMinutes_4 : decode cX1_toMinutes 4 = .ok (.ldc2_w 73, 3) := dk_20 0 73 (dk_at dksX1_toMinutes_0 4 rfl rfl)
theorem dX1_toMinutes_7 : decode cX1_toMinutes 7 = .ok (.ldiv, 1) := dk_109 (dk_at dksX1_toMinutes_0 7 rfl rfl)
theorem dX1_toMinutes_8 : decode cX1_toMinutes 8 = .ok (.lreturn, 1) := dk_173 (dk_at dksX1_toMinutes_0 8 rfl rfl)
theorem q7 : (Jvm.Cond.initialized "Duration") ∈ lw_all := lw_g (lw_at lw_m1 2 rfl) rfl
theorem q25 : (Jvm.Cond.static ({ cls := "Duration", name := "ofSeconds", desc := "(JJ)LDuration;" } : Jvm.MethodName)) ∈ lw_all := lw_g (lw_at lw_m1 20 rfl) rfl
theorem q26 : (Jvm.Cond.code ({ cls := "Duration", name := "ofSeconds", desc := "(JJ)LDuration;" } : Jvm.MethodName) prog_2_method_1_code (7 : Nat) (Option.some (Jvm.ClassFile.FieldType.object "Duration"))) ∈ lw_all := lw_g (lw_at lw_m1 21 rfl) rfl
theorem q27 : (Jvm.Cond.constantLong "Duration" (3 : Nat) (1000000000 : Int64)) ∈ lw_all := lw_g (lw_at lw_m1 22 rfl) rfl
theorem q28 : (Jvm.Cond.methodLink "Duration" (5 : Nat) ({ cls := "Jdk8Methods", name := "floorDiv", desc := "(JJ)J" } : Jvm.MethodName)) ∈ lw_all := lw_g (lw_at lw_m1 23 rfl) rfl
theorem q31 : (Jvm.Cond.methodLink "Duration" (11 : Nat) ({ cls := "Jdk8Methods", name := "safeAdd", desc := "(JJ)J" } : Jvm.MethodName)) ∈ lw_all := lw_g (lw_at lw_m1 26 rfl) rfl
theorem q100 : (Jvm.Cond.constant "Duration" (14 : Nat) (1000000000 : Int32)) ∈ lw_all := lw_g (lw_at lw_m1 95 rfl) rfl
theorem q101 : (Jvm.Cond.methodLink "Duration" (15 : Nat) ({ cls := "Jdk8Methods", name := "floorMod", desc := "(JI)I" } : Jvm.MethodName)) ∈ lw_all := lw_g (lw_at lw_m1 96 rfl) rfl
theorem q104 : (Jvm.Cond.methodLink "Duration" (19 : Nat) ({ cls := "Duration", name := "create", desc := "(JI)LDuration;" } : Jvm.MethodName)) ∈ lw_all := lw_g (lw_at lw_m1 99 rfl) rfl
theorem q105 : (Jvm.Cond.static ({ cls := "Duration", name := "create", desc := "(JI)LDuration;" } : Jvm.MethodName)) ∈ lw_all := lw_g (lw_at lw_m1 100 rfl) rfl
theorem q106 : (Jvm.Cond.code ({ cls := "Duration", name := "create", desc := "(JI)LDuration;" } : Jvm.MethodName) prog_2_method_2_code (3 : Nat) (Option.some (Jvm.ClassFile.FieldType.object "Duration"))) ∈ lw_all := lw_g (lw_at lw_m1 101 rfl) rfl
theorem q107 : (Jvm.Cond.fieldLink "Duration" (23 : Nat) "Duration" "ZERO" "LDuration;") ∈ lw_all := lw_g (lw_at lw_m1 102 rfl) rfl
theorem q108 : (Jvm.Cond.laysStatic "Duration" "ZERO" "LDuration;") ∈ lw_tbl := lw_at lw_m1 103 rfl
theorem q109 : (Jvm.Cond.classLink "Duration" (1 : Nat) "Duration") ∈ lw_all := lw_g (lw_at lw_m1 104 rfl) rfl
theorem q110 : (Jvm.Cond.instantiable "Duration" (2 : Nat)) ∈ lw_all := lw_g (lw_at lw_m1 105 rfl) rfl
theorem q111 : (Jvm.Cond.methodLink "Duration" (27 : Nat) ({ cls := "Duration", name := "<init>", desc := "(JI)V" } : Jvm.MethodName)) ∈ lw_all := lw_g (lw_at lw_m1 106 rfl) rfl
theorem q112 : (Jvm.Cond.instanceMethod ({ cls := "Duration", name := "<init>", desc := "(JI)V" } : Jvm.MethodName)) ∈ lw_all := lw_g (lw_at lw_m1 107 rfl) rfl
theorem q113 : (Jvm.Cond.code ({ cls := "Duration", name := "<init>", desc := "(JI)V" } : Jvm.MethodName) prog_2_method_3_code (4 : Nat) (Option.none : Option Jvm.ClassFile.FieldType)) ∈ lw_all := lw_g (lw_at lw_m1 108 rfl) rfl
theorem q114 : (Jvm.Cond.methodLink "Duration" (31 : Nat) ({ cls := "java/lang/Object", name := "<init>", desc := "()V" } : Jvm.MethodName)) ∈ lw_all := lw_g (lw_at lw_m1 109 rfl) rfl
theorem q115 : (Jvm.Cond.fieldLink "Duration" (36 : Nat) "Duration" "seconds" "J") ∈ lw_all := lw_g (lw_at lw_m1 110 rfl) rfl
theorem q116 : (Jvm.Cond.fieldLink "Duration" (40 : Nat) "Duration" "nanos" "I") ∈ lw_all := lw_g (lw_at lw_m1 111 rfl) rfl
theorem q117 : (Jvm.Cond.laysFinal "Duration" "Duration" "seconds" "J") ∈ lw_all := lw_g (lw_at lw_m1 112 rfl) rfl
theorem q118 : (Jvm.Cond.soleField "Duration" "seconds") ∈ lw_all := lw_g (lw_at lw_m1 113 rfl) rfl
theorem q119 : (Jvm.Cond.laysFinal "Duration" "Duration" "nanos" "I") ∈ lw_all := lw_g (lw_at lw_m1 114 rfl) rfl
theorem q120 : (Jvm.Cond.soleField "Duration" "nanos") ∈ lw_all := lw_g (lw_at lw_m1 115 rfl) rfl
theorem q121 : (Jvm.Cond.superclass "Duration" "java/lang/Object") ∈ lw_all := lw_g (lw_at lw_m1 116 rfl) rfl
theorem q143 : (Jvm.Cond.instanceMethod ({ cls := "Duration", name := "getSeconds", desc := "()J" } : Jvm.MethodName)) ∈ lw_all := lw_g (lw_at lw_m1 138 rfl) rfl
theorem q144 : (Jvm.Cond.selects "Duration" ({ cls := "Duration", name := "getSeconds", desc := "()J" } : Jvm.MethodName) ({ cls := "Duration", name := "getSeconds", desc := "()J" } : Jvm.MethodName)) ∈ lw_all := lw_g (lw_at lw_m1 139 rfl) rfl
theorem q145 : (Jvm.Cond.code ({ cls := "Duration", name := "getSeconds", desc := "()J" } : Jvm.MethodName) prog_2_method_6_code (1 : Nat) (Option.some Jvm.ClassFile.FieldType.long)) ∈ lw_all := lw_g (lw_at lw_m1 140 rfl) rfl
theorem q149 : (Jvm.Cond.instanceMethod ({ cls := "Duration", name := "plus", desc := "(LDuration;)LDuration;" } : Jvm.MethodName)) ∈ lw_all := lw_g (lw_at lw_m1 144 rfl) rfl
theorem q150 : (Jvm.Cond.selects "Duration" ({ cls := "Duration", name := "plus", desc := "(LDuration;)LDuration;" } : Jvm.MethodName) ({ cls := "Duration", name := "plus", desc := "(LDuration;)LDuration;" } : Jvm.MethodName)) ∈ lw_all := lw_g (lw_at lw_m1 145 rfl) rfl
theorem q151 : (Jvm.Cond.code ({ cls := "Duration", name := "plus", desc := "(LDuration;)LDuration;" } : Jvm.MethodName) prog_2_method_8_code (2 : Nat) (Option.some (Jvm.ClassFile.FieldType.object "Duration"))) ∈ lw_all := lw_g (lw_at lw_m1 146 rfl) rfl
theorem q152 : (Jvm.Cond.methodLink "Duration" (44 : Nat) ({ cls := "Duration", name := "getSeconds", desc := "()J" } : Jvm.MethodName)) ∈ lw_all := lw_g (lw_at lw_m1 147 rfl) rfl
theorem q153 : (Jvm.Cond.methodLink "Duration" (48 : Nat) ({ cls := "Duration", name := "getNano", desc := "()I" } : Jvm.MethodName)) ∈ lw_all := lw_g (lw_at lw_m1 148 rfl) rfl
theorem q154 : (Jvm.Cond.instanceMethod ({ cls := "Duration", name := "getNano", desc := "()I" } : Jvm.MethodName)) ∈ lw_all := lw_g (lw_at lw_m1 149 rfl) rfl
theorem q155 : (Jvm.Cond.selects "Duration" ({ cls := "Duration", name := "getNano", desc := "()I" } : Jvm.MethodName) ({ cls := "Duration", name := "getNano", desc := "()I" } : Jvm.MethodName)) ∈ lw_all := lw_g (lw_at lw_m1 150 rfl) rfl
theorem q156 : (Jvm.Cond.code ({ cls := "Duration", name := "getNano", desc := "()I" } : Jvm.MethodName) prog_2_method_7_code (1 : Nat) (Option.some Jvm.ClassFile.FieldType.int)) ∈ lw_all := lw_g (lw_at lw_m1 151 rfl) rfl
theorem q157 : (Jvm.Cond.methodLink "Duration" (52 : Nat) ({ cls := "Duration", name := "plus", desc := "(JJ)LDuration;" } : Jvm.MethodName)) ∈ lw_all := lw_g (lw_at lw_m1 152 rfl) rfl
theorem q158 : (Jvm.Cond.privateMethod ({ cls := "Duration", name := "plus", desc := "(JJ)LDuration;" } : Jvm.MethodName)) ∈ lw_tbl := lw_at lw_m1 153 rfl
theorem q159 : (Jvm.Cond.instanceMethod ({ cls := "Duration", name := "plus", desc := "(JJ)LDuration;" } : Jvm.MethodName)) ∈ lw_all := lw_g (lw_at lw_m1 154 rfl) rfl
theorem q160 : (Jvm.Cond.code ({ cls := "Duration", name := "plus", desc := "(JJ)LDuration;" } : Jvm.MethodName) prog_2_method_12_code (9 : Nat) (Option.some (Jvm.ClassFile.FieldType.object "Duration"))) ∈ lw_all := lw_g (lw_at lw_m1 155 rfl) rfl
theorem q161 : (Jvm.Cond.methodLink "Duration" (60 : Nat) ({ cls := "Duration", name := "ofSeconds", desc := "(JJ)LDuration;" } : Jvm.MethodName)) ∈ lw_all := lw_g (lw_at lw_m1 156 rfl) rfl
theorem q167 : (Jvm.Cond.instanceMethod ({ cls := "Duration", name := "minus", desc := "(LDuration;)LDuration;" } : Jvm.MethodName)) ∈ lw_all := lw_g (lw_at lw_m1 162 rfl) rfl
theorem q168 : (Jvm.Cond.selects "Duration" ({ cls := "Duration", name := "minus", desc := "(LDuration;)LDuration;" } : Jvm.MethodName) ({ cls := "Duration", name := "minus", desc := "(LDuration;)LDuration;" } : Jvm.MethodName)) ∈ lw_all := lw_g (lw_at lw_m1 163 rfl) rfl
theorem q169 : (Jvm.Cond.code ({ cls := "Duration", name := "minus", desc := "(LDuration;)LDuration;" } : Jvm.MethodName) prog_2_method_13_code (5 : Nat) (Option.some (Jvm.ClassFile.FieldType.object "Duration"))) ∈ lw_all := lw_g (lw_at lw_m1 164 rfl) rfl
theorem q170 : (Jvm.Cond.constantLong "Duration" (65 : Nat) (-9223372036854775808 : Int64)) ∈ lw_all := lw_g (lw_at lw_m1 165 rfl) rfl
theorem q171 : (Jvm.Cond.constantLong "Duration" (67 : Nat) (9223372036854775807 : Int64)) ∈ lw_all := lw_g (lw_at lw_m1 166 rfl) rfl
theorem q177 : (Jvm.Cond.instanceMethod ({ cls := "Duration", name := "plusSeconds", desc := "(J)LDuration;" } : Jvm.MethodName)) ∈ lw_all := lw_g (lw_at lw_m1 172 rfl) rfl
theorem q178 : (Jvm.Cond.selects "Duration" ({ cls := "Duration", name := "plusSeconds", desc := "(J)LDuration;" } : Jvm.MethodName) ({ cls := "Duration", name := "plusSeconds", desc := "(J)LDuration;" } : Jvm.MethodName)) ∈ lw_all := lw_g (lw_at lw_m1 173 rfl) rfl
theorem q179 : (Jvm.Cond.code ({ cls := "Duration", name := "plusSeconds", desc := "(J)LDuration;" } : Jvm.MethodName) prog_2_method_9_code (3 : Nat) (Option.some (Jvm.ClassFile.FieldType.object "Duration"))) ∈ lw_all := lw_g (lw_at lw_m1 174 rfl) rfl
theorem q185 : (Jvm.Cond.instanceMethod ({ cls := "Duration", name := "plusMillis", desc := "(J)LDuration;" } : Jvm.MethodName)) ∈ lw_all := lw_g (lw_at lw_m1 180 rfl) rfl
theorem q186 : (Jvm.Cond.selects "Duration" ({ cls := "Duration", name := "plusMillis", desc := "(J)LDuration;" } : Jvm.MethodName) ({ cls := "Duration", name := "plusMillis", desc := "(J)LDuration;" } : Jvm.MethodName)) ∈ lw_all := lw_g (lw_at lw_m1 181 rfl) rfl
theorem q187 : (Jvm.Cond.code ({ cls := "Duration", name := "plusMillis", desc := "(J)LDuration;" } : Jvm.MethodName) prog_2_method_10_code (3 : Nat) (Option.some (Jvm.ClassFile.FieldType.object "Duration"))) ∈ lw_all := lw_g (lw_at lw_m1 182 rfl) rfl
theorem q188 : (Jvm.Cond.constantLong "Duration" (56 : Nat) (1000 : Int64)) ∈ lw_all := lw_g (lw_at lw_m1 183 rfl) rfl
theorem q189 : (Jvm.Cond.constantLong "Duration" (58 : Nat) (1000000 : Int64)) ∈ lw_all := lw_g (lw_at lw_m1 184 rfl) rfl
theorem q195 : (Jvm.Cond.instanceMethod ({ cls := "Duration", name := "plusNanos", desc := "(J)LDuration;" } : Jvm.MethodName)) ∈ lw_all := lw_g (lw_at lw_m1 190 rfl) rfl
theorem q196 : (Jvm.Cond.selects "Duration" ({ cls := "Duration", name := "plusNanos", desc := "(J)LDuration;" } : Jvm.MethodName) ({ cls := "Duration", name := "plusNanos", desc := "(J)LDuration;" } : Jvm.MethodName)) ∈ lw_all := lw_g (lw_at lw_m1 191 rfl) rfl
theorem q197 : (Jvm.Cond.code ({ cls := "Duration", name := "plusNanos", desc := "(J)LDuration;" } : Jvm.MethodName) prog_2_method_11_code (3 : Nat) (Option.some (Jvm.ClassFile.FieldType.object "Duration"))) ∈ lw_all := lw_g (lw_at lw_m1 192 rfl) rfl
theorem q212 : (Jvm.Cond.instanceMethod ({ cls := "Duration", name := "isNegative", desc := "()Z" } : Jvm.MethodName)) ∈ lw_all := lw_g (lw_at lw_m1 207 rfl) rfl
theorem q213 : (Jvm.Cond.selects "Duration" ({ cls := "Duration", name := "isNegative", desc := "()Z" } : Jvm.MethodName) ({ cls := "Duration", name := "isNegative", desc := "()Z" } : Jvm.MethodName)) ∈ lw_all := lw_g (lw_at lw_m1 208 rfl) rfl
theorem q214 : (Jvm.Cond.code ({ cls := "Duration", name := "isNegative", desc := "()Z" } : Jvm.MethodName) prog_2_method_5_code (1 : Nat) (Option.some Jvm.ClassFile.FieldType.boolean)) ∈ lw_all := lw_g (lw_at lw_m1 209 rfl) rfl
theorem q220 : (Jvm.Cond.instanceMethod ({ cls := "Duration", name := "isZero", desc := "()Z" } : Jvm.MethodName)) ∈ lw_all := lw_g (lw_at lw_m1 215 rfl) rfl
theorem q221 : (Jvm.Cond.selects "Duration" ({ cls := "Duration", name := "isZero", desc := "()Z" } : Jvm.MethodName) ({ cls := "Duration", name := "isZero", desc := "()Z" } : Jvm.MethodName)) ∈ lw_all := lw_g (lw_at lw_m1 216 rfl) rfl
theorem q222 : (Jvm.Cond.code ({ cls := "Duration", name := "isZero", desc := "()Z" } : Jvm.MethodName) prog_2_method_4_code (1 : Nat) (Option.some Jvm.ClassFile.FieldType.boolean)) ∈ lw_all := lw_g (lw_at lw_m1 217 rfl) rfl
theorem q228 : (Jvm.Cond.instanceMethod ({ cls := "Duration", name := "compareTo", desc := "(LDuration;)I" } : Jvm.MethodName)) ∈ lw_all := lw_g (lw_at lw_m1 223 rfl) rfl
theorem q229 : (Jvm.Cond.selects "Duration" ({ cls := "Duration", name := "compareTo", desc := "(LDuration;)I" } : Jvm.MethodName) ({ cls := "Duration", name := "compareTo", desc := "(LDuration;)I" } : Jvm.MethodName)) ∈ lw_all := lw_g (lw_at lw_m1 224 rfl) rfl
theorem q230 : (Jvm.Cond.code ({ cls := "Duration", name := "compareTo", desc := "(LDuration;)I" } : Jvm.MethodName) prog_2_method_16_code (3 : Nat) (Option.some Jvm.ClassFile.FieldType.int)) ∈ lw_all := lw_g (lw_at lw_m1 225 rfl) rfl
theorem q231 : (Jvm.Cond.methodLink "Duration" (75 : Nat) ({ cls := "Jdk8Methods", name := "compareLongs", desc := "(JJ)I" } : Jvm.MethodName)) ∈ lw_all := lw_g (lw_at lw_m1 226 rfl) rfl
theorem q239 : (Jvm.Cond.instanceMethod ({ cls := "Duration", name := "toDays", desc := "()J" } : Jvm.MethodName)) ∈ lw_all := lw_g (lw_at lw_m1 234 rfl) rfl
theorem q240 : (Jvm.Cond.selects "Duration" ({ cls := "Duration", name := "toDays", desc := "()J" } : Jvm.MethodName) ({ cls := "Duration", name := "toDays", desc := "()J" } : Jvm.MethodName)) ∈ lw_all := lw_g (lw_at lw_m1 235 rfl) rfl
theorem q241 : (Jvm.Cond.code ({ cls := "Duration", name := "toDays", desc := "()J" } : Jvm.MethodName) prog_2_method_14_code (1 : Nat) (Option.some Jvm.ClassFile.FieldType.long)) ∈ lw_all := lw_g (lw_at lw_m1 236 rfl) rfl
theorem q242 : (Jvm.Cond.constantLong "Duration" (71 : Nat) (86400 : Int64)) ∈ lw_all := lw_g (lw_at lw_m1 237 rfl) rfl
theorem q248 : (Jvm.Cond.instanceMethod ({ cls := "Duration", name := "toMinutes", desc := "()J" } : Jvm.MethodName)) ∈ lw_all := lw_g (lw_at lw_m2 3 rfl) rfl
theorem q249 : (Jvm.Cond.selects "Duration" ({ cls := "Duration", name := "toMinutes", desc := "()J" } : Jvm.MethodName) ({ cls := "Duration", name := "toMinutes", desc := "()J" } : Jvm.MethodName)) ∈ lw_all := lw_g (lw_at lw_m2 4 rfl) rfl
theorem q250 : (Jvm.Cond.code ({ cls := "Duration", name := "toMinutes", desc := "()J" } : Jvm.MethodName) prog_2_method_15_code (1 : Nat) (Option.some Jvm.ClassFile.FieldType.long)) ∈ lw_all := lw_g (lw_at lw_m2 5 rfl) rfl
theorem q251 : (Jvm.Cond.constantLong "Duration" (73 : Nat) (60 : Int64)) ∈ lw_all := lw_g (lw_at lw_m2 6 rfl) rfl
theorem in_X1 : ∀ w ∈ wsX10, w ∈ lw_all := lw_in wsX10 [117, 119] (by decide +kernel) (by decide +kernel)

/-! SpanDesk -/
set_option maxRecDepth 100000
def RX0 : String := "SpanDesk"
def TX0 : u_T := fun k => match k with
  | _ => ("SpanDesk", "span", "[LDuration;", true)
def tyX0 : Nat → FieldType := fun k => match k with
  | _ => .array (.object "Duration")
abbrev wsX00 : List Cond := u_ws RX0 TX0 1
theorem nmX0 : ∀ a, a < 1 → ∀ b, b < 1 → a ≠ b → (TX0 a).2.1 ≠ (TX0 b).2.1 := by decide +kernel
theorem tyX0_ok : ∀ k, k < 1 → parseFieldDescriptor (TX0 k).2.2.1 = some (tyX0 k) := by decide +kernel
abbrev cX0_init : ByteArray := prog_5_method_1_code
def yX0_init : MethodName := ⟨RX0, "<init>", "()V"⟩
def dkwX0_init_1 : List UInt8 := [83, 181, 0, 13, 177]
abbrev dktX0_init_1 : List UInt8 := dkwX0_init_1 ++ []
def dkwX0_init_0 : List UInt8 := [42, 183, 0, 1, 42, 5, 189, 0, 7, 89, 3, 9, 9, 184, 0, 9, 83, 89, 4, 9, 9, 184, 0, 9]
abbrev dktX0_init_0 : List UInt8 := dkwX0_init_0 ++ dktX0_init_1
theorem dksX0_init_0 : cX0_init.data.toList.drop 0 = dktX0_init_0 := by decide +kernel
theorem dksX0_init_1 : cX0_init.data.toList.drop 24 = dktX0_init_1 := dk_seg dksX0_init_0 24 rfl rfl
theorem dX0_init_0 : decode cX0_init 0 = .ok (.aload_n 0, 1) := dk_42 (dk_at dksX0_init_0 0 rfl rfl)
theorem dX0_init_1 : decode cX0_init 1 = .ok (.invokespecial 1, 3) := dk_183 0 1 (dk_at dksX0_init_0 1 rfl rfl)
theorem dX0_init_4 : decode cX0_init 4 = .ok (.aload_n 0, 1) := dk_42 (dk_at dksX0_init_0 4 rfl rfl)
theorem dX0_init_5 : decode cX0_init 5 = .ok (.iconst 2, 1) := dk_5 (dk_at dksX0_init_0 5 rfl rfl)
theorem dX0_init_6 : decode cX0_init 6 = .ok (.anewarray 7, 3) := dk_189 0 7 (dk_at dksX0_init_0 6 rfl rfl)
theorem dX0_init_9 : decode cX0_init 9 = .ok (.dup, 1) := dk_89 (dk_at dksX0_init_0 9 rfl rfl)
theorem dX0_init_10 : decode cX0_init 10 = .ok (.iconst 0, 1) := dk_3 (dk_at dksX0_init_0 10 rfl rfl)
theorem dX0_init_11 : decode cX0_init 11 = .ok (.lconst 0, 1) := dk_9 (dk_at dksX0_init_0 11 rfl rfl)
theorem dX0_init_12 : decode cX0_init 12 = .ok (.lconst 0, 1) := dk_9 (dk_at dksX0_init_0 12 rfl rfl)
theorem dX0_init_13 : decode cX0_init 13 = .ok (.invokestatic 9, 3) := dk_184 0 9 (dk_at dksX0_init_0 13 rfl rfl)
theorem dX0_init_16 : decode cX0_init 16 = .ok (.aastore, 1) := dk_83 (dk_at dksX0_init_0 16 rfl rfl)
theorem dX0_init_17 : decode cX0_init 17 = .ok (.dup, 1) := dk_89 (dk_at dksX0_init_0 17 rfl rfl)
theorem dX0_init_18 : decode cX0_init 18 = .ok (.iconst 1, 1) := dk_4 (dk_at dksX0_init_0 18 rfl rfl)
theorem dX0_init_19 : decode cX0_init 19 = .ok (.lconst 0, 1) := dk_9 (dk_at dksX0_init_0 19 rfl rfl)
theorem dX0_init_20 : decode cX0_init 20 = .ok (.lconst 0, 1) := dk_9 (dk_at dksX0_init_0 20 rfl rfl)
theorem dX0_init_21 : decode cX0_init 21 = .ok (.invokestatic 9, 3) := dk_184 0 9 (dk_at dksX0_init_0 21 rfl rfl)
theorem dX0_init_24 : decode cX0_init 24 = .ok (.aastore, 1) := dk_83 (dk_at dksX0_init_1 0 rfl rfl)
theorem dX0_init_25 : decode cX0_init 25 = .ok (.putfield 13, 3) := dk_181 0 13 (dk_at dksX0_init_1 1 rfl rfl)
theorem dX0_init_28 : decode cX0_init 28 = .ok (.return_, 1) := dk_177 (dk_at dksX0_init_1 4 rfl rfl)
abbrev cX0_set : ByteArray := prog_5_method_3_code
def yX0_set : MethodName := ⟨RX0, "set", "(IIII)V"⟩
def dkwX0_set_0 : List UInt8 := [42, 180, 0, 13, 27, 4, 126, 28, 29, 184, 0, 21, 21, 4, 133, 184, 0, 9, 83, 177]
abbrev dktX0_set_0 : List UInt8 := dkwX0_set_0 ++ []
theorem dksX0_set_0 : cX0_set.data.toList.drop 0 = dktX0_set_0 := by decide +kernel
theorem dX0_set_0 : decode cX0_set 0 = .ok (.aload_n 0, 1) := dk_42 (dk_at dksX0_set_0 0 rfl rfl)
theorem dX0_set_1 : decode cX0_set 1 = .ok (.getfield 13, 3) := dk_180 0 13 (dk_at dksX0_set_0 1 rfl rfl)
theorem dX0_set_4 : decode cX0_set 4 = .ok (.iload_n 1, 1) := dk_27 (dk_at dksX0_set_0 4 rfl rfl)
theorem dX0_set_5 : decode cX0_set 5 = .ok (.iconst 1, 1) := dk_4 (dk_at dksX0_set_0 5 rfl rfl)
theorem dX0_set_6 : decode cX0_set 6 = .ok (.iand, 1) := dk_126 (dk_at dksX0_set_0 6 rfl rfl)
theorem dX0_set_7 : decode cX0_set 7 = .ok (.iload_n 2, 1) := dk_28 (dk_at dksX0_set_0 7 rfl rfl)
theorem dX0_set_8 : decode cX0_set 8 = .ok (.iload_n 3, 1) := dk_29 (dk_at dksX0_set_0 8 rfl rfl)
theorem dX0_set_9 : decode cX0_set 9 = .ok (.invokestatic 21, 3) := dk_184 0 21 (dk_at dksX0_set_0 9 rfl rfl)
theorem dX0_set_12 : decode cX0_set 12 = .ok (.iload 4, 2) := dk_21 4 (dk_at dksX0_set_0 12 rfl rfl)
theorem dX0_set_14 : decode cX0_set 14 = .ok (.i2l, 1) := dk_133 (dk_at dksX0_set_0 14 rfl rfl)
theorem dX0_set_15 : decode cX0_set 15 = .ok (.invokestatic 9, 3) := dk_184 0 9 (dk_at dksX0_set_0 15 rfl rfl)
theorem dX0_set_18 : decode cX0_set 18 = .ok (.aastore, 1) := dk_83 (dk_at dksX0_set_0 18 rfl rfl)
theorem dX0_set_19 : decode cX0_set 19 = .ok (.return_, 1) := dk_177 (dk_at dksX0_set_0 19 rfl rfl)
abbrev cX0_wide : ByteArray := prog_5_method_2_code
def yX0_wide : MethodName := ⟨RX0, "wide", "(II)J"⟩
def dkwX0_wide_0 : List UInt8 := [26, 16, 8, 122, 133, 16, 32, 121, 27, 133, 20, 0, 19, 127, 129, 173]
abbrev dktX0_wide_0 : List UInt8 := dkwX0_wide_0 ++ []
theorem dksX0_wide_0 : cX0_wide.data.toList.drop 0 = dktX0_wide_0 := by decide +kernel
theorem dX0_wide_0 : decode cX0_wide 0 = .ok (.iload_n 0, 1) := dk_26 (dk_at dksX0_wide_0 0 rfl rfl)
theorem dX0_wide_1 : decode cX0_wide 1 = .ok (.bipush 8, 2) := dk_16 8 (dk_at dksX0_wide_0 1 rfl rfl)
theorem dX0_wide_3 : decode cX0_wide 3 = .ok (.ishr, 1) := dk_122 (dk_at dksX0_wide_0 3 rfl rfl)
theorem dX0_wide_4 : decode cX0_wide 4 = .ok (.i2l, 1) := dk_133 (dk_at dksX0_wide_0 4 rfl rfl)
theorem dX0_wide_5 : decode cX0_wide 5 = .ok (.bipush 32, 2) := dk_16 32 (dk_at dksX0_wide_0 5 rfl rfl)
theorem dX0_wide_7 : decode cX0_wide 7 = .ok (.lshl, 1) := dk_121 (dk_at dksX0_wide_0 7 rfl rfl)
theorem dX0_wide_8 : decode cX0_wide 8 = .ok (.iload_n 1, 1) := dk_27 (dk_at dksX0_wide_0 8 rfl rfl)
theorem dX0_wide_9 : decode cX0_wide 9 = .ok (.i2l, 1) := dk_133 (dk_at dksX0_wide_0 9 rfl rfl)
theorem dX0_wide_10 : decode cX0_wide 10 = .ok (.ldc2_w 19, 3) := dk_20 0 19 (dk_at dksX0_wide_0 10 rfl rfl)
theorem dX0_wide_13 : decode cX0_wide 13 = .ok (.land, 1) := dk_127 (dk_at dksX0_wide_0 13 rfl rfl)
theorem dX0_wide_14 : decode cX0_wide 14 = .ok (.lor, 1) := dk_129 (dk_at dksX0_wide_0 14 rfl rfl)
theorem dX0_wide_15 : decode cX0_wide 15 = .ok (.lreturn, 1) := dk_173 (dk_at dksX0_wide_0 15 rfl rfl)
abbrev cX0_plus : ByteArray := prog_5_method_5_code
def yX0_plus : MethodName := ⟨RX0, "plus", "(I)Z"⟩
def dkwX0_plus_1 : List UInt8 := [42, 180, 0, 13, 27, 2, 130, 4, 126, 50, 182, 0, 37, 83, 4, 172]
abbrev dktX0_plus_1 : List UInt8 := dkwX0_plus_1 ++ []
def dkwX0_plus_0 : List UInt8 := [42, 182, 0, 33, 154, 0, 5, 3, 172, 42, 180, 0, 13, 27, 4, 126, 42, 180, 0, 13, 27, 4, 126, 50]
abbrev dktX0_plus_0 : List UInt8 := dkwX0_plus_0 ++ dktX0_plus_1
theorem dksX0_plus_0 : cX0_plus.data.toList.drop 0 = dktX0_plus_0 := by decide +kernel
theorem dksX0_plus_1 : cX0_plus.data.toList.drop 24 = dktX0_plus_1 := dk_seg dksX0_plus_0 24 rfl rfl
theorem dX0_plus_0 : decode cX0_plus 0 = .ok (.aload_n 0, 1) := dk_42 (dk_at dksX0_plus_0 0 rfl rfl)
theorem dX0_plus_1 : decode cX0_plus 1 = .ok (.invokevirtual 33, 3) := dk_182 0 33 (dk_at dksX0_plus_0 1 rfl rfl)
theorem dX0_plus_4 : decode cX0_plus 4 = .ok (.ifCond .ne 5, 3) := dk_154 0 5 (dk_at dksX0_plus_0 4 rfl rfl)
theorem dX0_plus_7 : decode cX0_plus 7 = .ok (.iconst 0, 1) := dk_3 (dk_at dksX0_plus_0 7 rfl rfl)
theorem dX0_plus_8 : decode cX0_plus 8 = .ok (.ireturn, 1) := dk_172 (dk_at dksX0_plus_0 8 rfl rfl)
theorem dX0_plus_9 : decode cX0_plus 9 = .ok (.aload_n 0, 1) := dk_42 (dk_at dksX0_plus_0 9 rfl rfl)
theorem dX0_plus_10 : decode cX0_plus 10 = .ok (.getfield 13, 3) := dk_180 0 13 (dk_at dksX0_plus_0 10 rfl rfl)
theorem dX0_plus_13 : decode cX0_plus 13 = .ok (.iload_n 1, 1) := dk_27 (dk_at dksX0_plus_0 13 rfl rfl)
theorem dX0_plus_14 : decode cX0_plus 14 = .ok (.iconst 1, 1) := dk_4 (dk_at dksX0_plus_0 14 rfl rfl)
theorem dX0_plus_15 : decode cX0_plus 15 = .ok (.iand, 1) := dk_126 (dk_at dksX0_plus_0 15 rfl rfl)
theorem dX0_plus_16 : decode cX0_plus 16 = .ok (.aload_n 0, 1) := dk_42 (dk_at dksX0_plus_0 16 rfl rfl)
theorem dX0_plus_17 : decode cX0_plus 17 = .ok (.getfield 13, 3) := dk_180 0 13 (dk_at dksX0_plus_0 17 rfl rfl)
theorem dX0_plus_20 : decode cX0_plus 20 = .ok (.iload_n 1, 1) := dk_27 (dk_at dksX0_plus_0 20 rfl rfl)
theorem dX0_plus_21 : decode cX0_plus 21 = .ok (.iconst 1, 1) := dk_4 (dk_at dksX0_plus_0 21 rfl rfl)
theorem dX0_plus_22 : decode cX0_plus 22 = .ok (.iand, 1) := dk_126 (dk_at dksX0_plus_0 22 rfl rfl)
theorem dX0_plus_23 : decode cX0_plus 23 = .ok (.aaload, 1) := dk_50 (dk_at dksX0_plus_0 23 rfl rfl)
theorem dX0_plus_24 : decode cX0_plus 24 = .ok (.aload_n 0, 1) := dk_42 (dk_at dksX0_plus_1 0 rfl rfl)
theorem dX0_plus_25 : decode cX0_plus 25 = .ok (.getfield 13, 3) := dk_180 0 13 (dk_at dksX0_plus_1 1 rfl rfl)
theorem dX0_plus_28 : decode cX0_plus 28 = .ok (.iload_n 1, 1) := dk_27 (dk_at dksX0_plus_1 4 rfl rfl)
theorem dX0_plus_29 : decode cX0_plus 29 = .ok (.iconst (-1), 1) := dk_2 (dk_at dksX0_plus_1 5 rfl rfl)
theorem dX0_plus_30 : decode cX0_plus 30 = .ok (.ixor, 1) := dk_130 (dk_at dksX0_plus_1 6 rfl rfl)
theorem dX0_plus_31 : decode cX0_plus 31 = .ok (.iconst 1, 1) := dk_4 (dk_at dksX0_plus_1 7 rfl rfl)
theorem dX0_plus_32 : decode cX0_plus 32 = .ok (.iand, 1) := dk_126 (dk_at dksX0_plus_1 8 rfl rfl)
theorem dX0_plus_33 : decode cX0_plus 33 = .ok (.aaload, 1) := dk_50 (dk_at dksX0_plus_1 9 rfl rfl)
theorem dX0_plus_34 : decode cX0_plus 34 = .ok (.invokevirtual 37, 3) := dk_182 0 37 (dk_at dksX0_plus_1 10 rfl rfl)
theorem dX0_plus_37 : decode cX0_plus 37 = .ok (.aastore, 1) := dk_83 (dk_at dksX0_plus_1 13 rfl rfl)
theorem dX0_plus_38 : decode cX0_plus 38 = .ok (.iconst 1, 1) := dk_4 (dk_at dksX0_plus_1 14 rfl rfl)
theorem dX0_plus_39 : decode cX0_plus 39 = .ok (.ireturn, 1) := dk_172 (dk_at dksX0_plus_1 15 rfl rfl)
abbrev cX0_room : ByteArray := prog_5_method_4_code
def yX0_room : MethodName := ⟨RX0, "room", "()Z"⟩
def dkwX0_room_2 : List UInt8 := [148, 158, 0, 7, 4, 167, 0, 4, 3, 172]
abbrev dktX0_room_2 : List UInt8 := dkwX0_room_2 ++ []
def dkwX0_room_1 : List UInt8 := [148, 156, 0, 31, 31, 20, 0, 31, 148, 158, 0, 23, 33, 20, 0, 29, 148, 156, 0, 15, 33, 20, 0, 31]
abbrev dktX0_room_1 : List UInt8 := dkwX0_room_1 ++ dktX0_room_2
def dkwX0_room_0 : List UInt8 := [42, 180, 0, 13, 3, 50, 182, 0, 25, 64, 42, 180, 0, 13, 4, 50, 182, 0, 25, 66, 31, 20, 0, 29]
abbrev dktX0_room_0 : List UInt8 := dkwX0_room_0 ++ dktX0_room_1
theorem dksX0_room_0 : cX0_room.data.toList.drop 0 = dktX0_room_0 := by decide +kernel
theorem dksX0_room_1 : cX0_room.data.toList.drop 24 = dktX0_room_1 := dk_seg dksX0_room_0 24 rfl rfl
theorem dksX0_room_2 : cX0_room.data.toList.drop 48 = dktX0_room_2 := dk_seg dksX0_room_1 24 rfl rfl
theorem dX0_room_0 : decode cX0_room 0 = .ok (.aload_n 0, 1) := dk_42 (dk_at dksX0_room_0 0 rfl rfl)
theorem dX0_room_1 : decode cX0_room 1 = .ok (.getfield 13, 3) := dk_180 0 13 (dk_at dksX0_room_0 1 rfl rfl)
theorem dX0_room_4 : decode cX0_room 4 = .ok (.iconst 0, 1) := dk_3 (dk_at dksX0_room_0 4 rfl rfl)
theorem dX0_room_5 : decode cX0_room 5 = .ok (.aaload, 1) := dk_50 (dk_at dksX0_room_0 5 rfl rfl)
theorem dX0_room_6 : decode cX0_room 6 = .ok (.invokevirtual 25, 3) := dk_182 0 25 (dk_at dksX0_room_0 6 rfl rfl)
theorem dX0_room_9 : decode cX0_room 9 = .ok (.lstore_n 1, 1) := dk_64 (dk_at dksX0_room_0 9 rfl rfl)
theorem dX0_room_10 : decode cX0_room 10 = .ok (.aload_n 0, 1) := dk_42 (dk_at dksX0_room_0 10 rfl rfl)
theorem dX0_room_11 : decode cX0_room 11 = .ok (.getfield 13, 3) := dk_180 0 13 (dk_at dksX0_room_0 11 rfl rfl)
theorem dX0_room_14 : decode cX0_room 14 = .ok (.iconst 1, 1) := dk_4 (dk_at dksX0_room_0 14 rfl rfl)
theorem dX0_room_15 : decode cX0_room 15 = .ok (.aaload, 1) := dk_50 (dk_at dksX0_room_0 15 rfl rfl)
theorem dX0_room_16 : decode cX0_room 16 = .ok (.invokevirtual 25, 3) := dk_182 0 25 (dk_at dksX0_room_0 16 rfl rfl)
theorem dX0_room_19 : decode cX0_room 19 = .ok (.lstore_n 3, 1) := dk_66 (dk_at dksX0_room_0 19 rfl rfl)
theorem dX0_room_20 : decode cX0_room 20 = .ok (.lload_n 1, 1) := dk_31 (dk_at dksX0_room_0 20 rfl rfl)
theorem dX0_room_21 : decode cX0_room 21 = .ok (.ldc2_w 29, 3) := dk_20 0 29 (dk_at dksX0_room_0 21 rfl rfl)
theorem dX0_room_24 : decode cX0_room 24 = .ok (.lcmp, 1) := dk_148 (dk_at dksX0_room_1 0 rfl rfl)
theorem dX0_room_25 : decode cX0_room 25 = .ok (.ifCond .ge 31, 3) := dk_156 0 31 (dk_at dksX0_room_1 1 rfl rfl)
theorem dX0_room_28 : decode cX0_room 28 = .ok (.lload_n 1, 1) := dk_31 (dk_at dksX0_room_1 4 rfl rfl)
theorem dX0_room_29 : decode cX0_room 29 = .ok (.ldc2_w 31, 3) := dk_20 0 31 (dk_at dksX0_room_1 5 rfl rfl)
theorem dX0_room_32 : decode cX0_room 32 = .ok (.lcmp, 1) := dk_148 (dk_at dksX0_room_1 8 rfl rfl)
theorem dX0_room_33 : decode cX0_room 33 = .ok (.ifCond .le 23, 3) := dk_158 0 23 (dk_at dksX0_room_1 9 rfl rfl)
theorem dX0_room_36 : decode cX0_room 36 = .ok (.lload_n 3, 1) := dk_33 (dk_at dksX0_room_1 12 rfl rfl)
theorem dX0_room_37 : decode cX0_room 37 = .ok (.ldc2_w 29, 3) := dk_20 0 29 (dk_at dksX0_room_1 13 rfl rfl)
theorem dX0_room_40 : decode cX0_room 40 = .ok (.lcmp, 1) := dk_148 (dk_at dksX0_room_1 16 rfl rfl)
theorem dX0_room_41 : decode cX0_room 41 = .ok (.ifCond .ge 15, 3) := dk_156 0 15 (dk_at dksX0_room_1 17 rfl rfl)
theorem dX0_room_44 : decode cX0_room 44 = .ok (.lload_n 3, 1) := dk_33 (dk_at dksX0_room_1 20 rfl rfl)
theorem dX0_room_45 : decode cX0_room 45 = .ok (.ldc2_w 31, 3) := dk_20 0 31 (dk_at dksX0_room_1 21 rfl rfl)
theorem dX0_room_48 : decode cX0_room 48 = .ok (.lcmp, 1) := dk_148 (dk_at dksX0_room_2 0 rfl rfl)
theorem dX0_room_49 : decode cX0_room 49 = .ok (.ifCond .le 7, 3) := dk_158 0 7 (dk_at dksX0_room_2 1 rfl rfl)
theorem dX0_room_52 : decode cX0_room 52 = .ok (.iconst 1, 1) := dk_4 (dk_at dksX0_room_2 4 rfl rfl)
theorem dX0_room_53 : decode cX0_room 53 = .ok (.goto 4, 3) := dk_167 0 4 (dk_at dksX0_room_2 5 rfl rfl)
theorem dX0_room_56 : decode cX0_room 56 = .ok (.iconst 0, 1) := dk_3 (dk_at dksX0_room_2 8 rfl rfl)
theorem dX0_room_57 : decode cX0_room 57 = .ok (.ireturn, 1) := dk_172 (dk_at dksX0_room_2 9 rfl rfl)
abbrev cX0_minus : ByteArray := prog_5_method_6_code
def yX0_minus : MethodName := ⟨RX0, "minus", "(I)Z"⟩
def dkwX0_minus_1 : List UInt8 := [42, 180, 0, 13, 27, 2, 130, 4, 126, 50, 182, 0, 41, 83, 4, 172]
abbrev dktX0_minus_1 : List UInt8 := dkwX0_minus_1 ++ []
def dkwX0_minus_0 : List UInt8 := [42, 182, 0, 33, 154, 0, 5, 3, 172, 42, 180, 0, 13, 27, 4, 126, 42, 180, 0, 13, 27, 4, 126, 50]
abbrev dktX0_minus_0 : List UInt8 := dkwX0_minus_0 ++ dktX0_minus_1
theorem dksX0_minus_0 : cX0_minus.data.toList.drop 0 = dktX0_minus_0 := by decide +kernel
theorem dksX0_minus_1 : cX0_minus.data.toList.drop 24 = dktX0_minus_1 := dk_seg dksX0_minus_0 24 rfl rfl
theorem dX0_minus_0 : decode cX0_minus 0 = .ok (.aload_n 0, 1) := dk_42 (dk_at dksX0_minus_0 0 rfl rfl)
theorem dX0_minus_1 : decode cX0_minus 1 = .ok (.invokevirtual 33, 3) := dk_182 0 33 (dk_at dksX0_minus_0 1 rfl rfl)
theorem dX0_minus_4 : decode cX0_minus 4 = .ok (.ifCond .ne 5, 3) := dk_154 0 5 (dk_at dksX0_minus_0 4 rfl rfl)
theorem dX0_minus_7 : decode cX0_minus 7 = .ok (.iconst 0, 1) := dk_3 (dk_at dksX0_minus_0 7 rfl rfl)
theorem dX0_minus_8 : decode cX0_minus 8 = .ok (.ireturn, 1) := dk_172 (dk_at dksX0_minus_0 8 rfl rfl)
theorem dX0_minus_9 : decode cX0_minus 9 = .ok (.aload_n 0, 1) := dk_42 (dk_at dksX0_minus_0 9 rfl rfl)
theorem dX0_minus_10 : decode cX0_minus 10 = .ok (.getfield 13, 3) := dk_180 0 13 (dk_at dksX0_minus_0 10 rfl rfl)
theorem dX0_minus_13 : decode cX0_minus 13 = .ok (.iload_n 1, 1) := dk_27 (dk_at dksX0_minus_0 13 rfl rfl)
theorem dX0_minus_14 : decode cX0_minus 14 = .ok (.iconst 1, 1) := dk_4 (dk_at dksX0_minus_0 14 rfl rfl)
theorem dX0_minus_15 : decode cX0_minus 15 = .ok (.iand, 1) := dk_126 (dk_at dksX0_minus_0 15 rfl rfl)
theorem dX0_minus_16 : decode cX0_minus 16 = .ok (.aload_n 0, 1) := dk_42 (dk_at dksX0_minus_0 16 rfl rfl)
theorem dX0_minus_17 : decode cX0_minus 17 = .ok (.getfield 13, 3) := dk_180 0 13 (dk_at dksX0_minus_0 17 rfl rfl)
theorem dX0_minus_20 : decode cX0_minus 20 = .ok (.iload_n 1, 1) := dk_27 (dk_at dksX0_minus_0 20 rfl rfl)
theorem dX0_minus_21 : decode cX0_minus 21 = .ok (.iconst 1, 1) := dk_4 (dk_at dksX0_minus_0 21 rfl rfl)
theorem dX0_minus_22 : decode cX0_minus 22 = .ok (.iand, 1) := dk_126 (dk_at dksX0_minus_0 22 rfl rfl)
theorem dX0_minus_23 : decode cX0_minus 23 = .ok (.aaload, 1) := dk_50 (dk_at dksX0_minus_0 23 rfl rfl)
theorem dX0_minus_24 : decode cX0_minus 24 = .ok (.aload_n 0, 1) := dk_42 (dk_at dksX0_minus_1 0 rfl rfl)
theorem dX0_minus_25 : decode cX0_minus 25 = .ok (.getfield 13, 3) := dk_180 0 13 (dk_at dksX0_minus_1 1 rfl rfl)
theorem dX0_minus_28 : decode cX0_minus 28 = .ok (.iload_n 1, 1) := dk_27 (dk_at dksX0_minus_1 4 rfl rfl)
theorem dX0_minus_29 : decode cX0_minus 29 = .ok (.iconst (-1), 1) := dk_2 (dk_at dksX0_minus_1 5 rfl rfl)
theorem dX0_minus_30 : decode cX0_minus 30 = .ok (.ixor, 1) := dk_130 (dk_at dksX0_minus_1 6 rfl rfl)
theorem dX0_minus_31 : decode cX0_minus 31 = .ok (.iconst 1, 1) := dk_4 (dk_at dksX0_minus_1 7 rfl rfl)
theorem dX0_minus_32 : decode cX0_minus 32 = .ok (.iand, 1) := dk_126 (dk_at dksX0_minus_1 8 rfl rfl)
theorem dX0_minus_33 : decode cX0_minus 33 = .ok (.aaload, 1) := dk_50 (dk_at dksX0_minus_1 9 rfl rfl)
theorem dX0_minus_34 : decode cX0_minus 34 = .ok (.invokevirtual 41, 3) := dk_182 0 41 (dk_at dksX0_minus_1 10 rfl rfl)
theorem dX0_minus_37 : decode cX0_minus 37 = .ok (.aastore, 1) := dk_83 (dk_at dksX0_minus_1 13 rfl rfl)
theorem dX0_minus_38 : decode cX0_minus 38 = .ok (.iconst 1, 1) := dk_4 (dk_at dksX0_minus_1 14 rfl rfl)
theorem dX0_minus_39 : decode cX0_minus 39 = .ok (.ireturn, 1) := dk_172 (dk_at dksX0_minus_1 15 rfl rfl)
abbrev cX0_seconds : ByteArray := prog_5_method_7_code
def yX0_seconds : MethodName := ⟨RX0, "seconds", "(II)Z"⟩
def dkwX0_seconds_1 : List UInt8 := [28, 133, 182, 0, 44, 83, 4, 172]
abbrev dktX0_seconds_1 : List UInt8 := dkwX0_seconds_1 ++ []
def dkwX0_seconds_0 : List UInt8 := [42, 182, 0, 33, 154, 0, 5, 3, 172, 42, 180, 0, 13, 27, 4, 126, 42, 180, 0, 13, 27, 4, 126, 50]
abbrev dktX0_seconds_0 : List UInt8 := dkwX0_seconds_0 ++ dktX0_seconds_1
theorem dksX0_seconds_0 : cX0_seconds.data.toList.drop 0 = dktX0_seconds_0 := by decide +kernel
theorem dksX0_seconds_1 : cX0_seconds.data.toList.drop 24 = dktX0_seconds_1 := dk_seg dksX0_seconds_0 24 rfl rfl
theorem dX0_seconds_0 : decode cX0_seconds 0 = .ok (.aload_n 0, 1) := dk_42 (dk_at dksX0_seconds_0 0 rfl rfl)
theorem dX0_seconds_1 : decode cX0_seconds 1 = .ok (.invokevirtual 33, 3) := dk_182 0 33 (dk_at dksX0_seconds_0 1 rfl rfl)
theorem dX0_seconds_4 : decode cX0_seconds 4 = .ok (.ifCond .ne 5, 3) := dk_154 0 5 (dk_at dksX0_seconds_0 4 rfl rfl)
theorem dX0_seconds_7 : decode cX0_seconds 7 = .ok (.iconst 0, 1) := dk_3 (dk_at dksX0_seconds_0 7 rfl rfl)
theorem dX0_seconds_8 : decode cX0_seconds 8 = .ok (.ireturn, 1) := dk_172 (dk_at dksX0_seconds_0 8 rfl rfl)
theorem dX0_seconds_9 : decode cX0_seconds 9 = .ok (.aload_n 0, 1) := dk_42 (dk_at dksX0_seconds_0 9 rfl rfl)
theorem dX0_seconds_10 : decode cX0_seconds 10 = .ok (.getfield 13, 3) := dk_180 0 13 (dk_at dksX0_seconds_0 10 rfl rfl)
theorem dX0_seconds_13 : decode cX0_seconds 13 = .ok (.iload_n 1, 1) := dk_27 (dk_at dksX0_seconds_0 13 rfl rfl)
theorem dX0_seconds_14 : decode cX0_seconds 14 = .ok (.iconst 1, 1) := dk_4 (dk_at dksX0_seconds_0 14 rfl rfl)
theorem dX0_seconds_15 : decode cX0_seconds 15 = .ok (.iand, 1) := dk_126 (dk_at dksX0_seconds_0 15 rfl rfl)
theorem dX0_seconds_16 : decode cX0_seconds 16 = .ok (.aload_n 0, 1) := dk_42 (dk_at dksX0_seconds_0 16 rfl rfl)
theorem dX0_seconds_17 : decode cX0_seconds 17 = .ok (.getfield 13, 3) := dk_180 0 13 (dk_at dksX0_seconds_0 17 rfl rfl)
theorem dX0_seconds_20 : decode cX0_seconds 20 = .ok (.iload_n 1, 1) := dk_27 (dk_at dksX0_seconds_0 20 rfl rfl)
theorem dX0_seconds_21 : decode cX0_seconds 21 = .ok (.iconst 1, 1) := dk_4 (dk_at dksX0_seconds_0 21 rfl rfl)
theorem dX0_seconds_22 : decode cX0_seconds 22 = .ok (.iand, 1) := dk_126 (dk_at dksX0_seconds_0 22 rfl rfl)
theorem dX0_seconds_23 : decode cX0_seconds 23 = .ok (.aaload, 1) := dk_50 (dk_at dksX0_seconds_0 23 rfl rfl)
theorem dX0_seconds_24 : decode cX0_seconds 24 = .ok (.iload_n 2, 1) := dk_28 (dk_at dksX0_seconds_1 0 rfl rfl)
theorem dX0_seconds_25 : decode cX0_seconds 25 = .ok (.i2l, 1) := dk_133 (dk_at dksX0_seconds_1 1 rfl rfl)
theorem dX0_seconds_26 : decode cX0_seconds 26 = .ok (.invokevirtual 44, 3) := dk_182 0 44 (dk_at dksX0_seconds_1 2 rfl rfl)
theorem dX0_seconds_29 : decode cX0_seconds 29 = .ok (.aastore, 1) := dk_83 (dk_at dksX0_seconds_1 5 rfl rfl)
theorem dX0_seconds_30 : decode cX0_seconds 30 = .ok (.iconst 1, 1) := dk_4 (dk_at dksX0_seconds_1 6 rfl rfl)
theorem dX0_seconds_31 : decode cX0_seconds 31 = .ok (.ireturn, 1) := dk_172 (dk_at dksX0_seconds_1 7 rfl rfl)
abbrev cX0_millis : ByteArray := prog_5_method_8_code
def yX0_millis : MethodName := ⟨RX0, "millis", "(II)Z"⟩
def dkwX0_millis_1 : List UInt8 := [28, 133, 182, 0, 48, 83, 4, 172]
abbrev dktX0_millis_1 : List UInt8 := dkwX0_millis_1 ++ []
def dkwX0_millis_0 : List UInt8 := [42, 182, 0, 33, 154, 0, 5, 3, 172, 42, 180, 0, 13, 27, 4, 126, 42, 180, 0, 13, 27, 4, 126, 50]
abbrev dktX0_millis_0 : List UInt8 := dkwX0_millis_0 ++ dktX0_millis_1
theorem dksX0_millis_0 : cX0_millis.data.toList.drop 0 = dktX0_millis_0 := by decide +kernel
theorem dksX0_millis_1 : cX0_millis.data.toList.drop 24 = dktX0_millis_1 := dk_seg dksX0_millis_0 24 rfl rfl
theorem dX0_millis_0 : decode cX0_millis 0 = .ok (.aload_n 0, 1) := dk_42 (dk_at dksX0_millis_0 0 rfl rfl)
theorem dX0_millis_1 : decode cX0_millis 1 = .ok (.invokevirtual 33, 3) := dk_182 0 33 (dk_at dksX0_millis_0 1 rfl rfl)
theorem dX0_millis_4 : decode cX0_millis 4 = .ok (.ifCond .ne 5, 3) := dk_154 0 5 (dk_at dksX0_millis_0 4 rfl rfl)
theorem dX0_millis_7 : decode cX0_millis 7 = .ok (.iconst 0, 1) := dk_3 (dk_at dksX0_millis_0 7 rfl rfl)
theorem dX0_millis_8 : decode cX0_millis 8 = .ok (.ireturn, 1) := dk_172 (dk_at dksX0_millis_0 8 rfl rfl)
theorem dX0_millis_9 : decode cX0_millis 9 = .ok (.aload_n 0, 1) := dk_42 (dk_at dksX0_millis_0 9 rfl rfl)
theorem dX0_millis_10 : decode cX0_millis 10 = .ok (.getfield 13, 3) := dk_180 0 13 (dk_at dksX0_millis_0 10 rfl rfl)
theorem dX0_millis_13 : decode cX0_millis 13 = .ok (.iload_n 1, 1) := dk_27 (dk_at dksX0_millis_0 13 rfl rfl)
theorem dX0_millis_14 : decode cX0_millis 14 = .ok (.iconst 1, 1) := dk_4 (dk_at dksX0_millis_0 14 rfl rfl)
theorem dX0_millis_15 : decode cX0_millis 15 = .ok (.iand, 1) := dk_126 (dk_at dksX0_millis_0 15 rfl rfl)
theorem dX0_millis_16 : decode cX0_millis 16 = .ok (.aload_n 0, 1) := dk_42 (dk_at dksX0_millis_0 16 rfl rfl)
theorem dX0_millis_17 : decode cX0_millis 17 = .ok (.getfield 13, 3) := dk_180 0 13 (dk_at dksX0_millis_0 17 rfl rfl)
theorem dX0_millis_20 : decode cX0_millis 20 = .ok (.iload_n 1, 1) := dk_27 (dk_at dksX0_millis_0 20 rfl rfl)
theorem dX0_millis_21 : decode cX0_millis 21 = .ok (.iconst 1, 1) := dk_4 (dk_at dksX0_millis_0 21 rfl rfl)
theorem dX0_millis_22 : decode cX0_millis 22 = .ok (.iand, 1) := dk_126 (dk_at dksX0_millis_0 22 rfl rfl)
theorem dX0_millis_23 : decode cX0_millis 23 = .ok (.aaload, 1) := dk_50 (dk_at dksX0_millis_0 23 rfl rfl)
theorem dX0_millis_24 : decode cX0_millis 24 = .ok (.iload_n 2, 1) := dk_28 (dk_at dksX0_millis_1 0 rfl rfl)
theorem dX0_millis_25 : decode cX0_millis 25 = .ok (.i2l, 1) := dk_133 (dk_at dksX0_millis_1 1 rfl rfl)
theorem dX0_millis_26 : decode cX0_millis 26 = .ok (.invokevirtual 48, 3) := dk_182 0 48 (dk_at dksX0_millis_1 2 rfl rfl)
theorem dX0_millis_29 : decode cX0_millis 29 = .ok (.aastore, 1) := dk_83 (dk_at dksX0_millis_1 5 rfl rfl)
theorem dX0_millis_30 : decode cX0_millis 30 = .ok (.iconst 1, 1) := dk_4 (dk_at dksX0_millis_1 6 rfl rfl)
theorem dX0_millis_31 : decode cX0_millis 31 = .ok (.ireturn, 1) := dk_172 (dk_at dksX0_millis_1 7 rfl rfl)
abbrev cX0_nanos : ByteArray := prog_5_method_9_code
def yX0_nanos : MethodName := ⟨RX0, "nanos", "(II)Z"⟩
def dkwX0_nanos_1 : List UInt8 := [28, 133, 182, 0, 51, 83, 4, 172]
abbrev dktX0_nanos_1 : List UInt8 := dkwX0_nanos_1 ++ []
def dkwX0_nanos_0 : List UInt8 := [42, 182, 0, 33, 154, 0, 5, 3, 172, 42, 180, 0, 13, 27, 4, 126, 42, 180, 0, 13, 27, 4, 126, 50]
abbrev dktX0_nanos_0 : List UInt8 := dkwX0_nanos_0 ++ dktX0_nanos_1
theorem dksX0_nanos_0 : cX0_nanos.data.toList.drop 0 = dktX0_nanos_0 := by decide +kernel
theorem dksX0_nanos_1 : cX0_nanos.data.toList.drop 24 = dktX0_nanos_1 := dk_seg dksX0_nanos_0 24 rfl rfl
theorem dX0_nanos_0 : decode cX0_nanos 0 = .ok (.aload_n 0, 1) := dk_42 (dk_at dksX0_nanos_0 0 rfl rfl)
theorem dX0_nanos_1 : decode cX0_nanos 1 = .ok (.invokevirtual 33, 3) := dk_182 0 33 (dk_at dksX0_nanos_0 1 rfl rfl)
theorem dX0_nanos_4 : decode cX0_nanos 4 = .ok (.ifCond .ne 5, 3) := dk_154 0 5 (dk_at dksX0_nanos_0 4 rfl rfl)
theorem dX0_nanos_7 : decode cX0_nanos 7 = .ok (.iconst 0, 1) := dk_3 (dk_at dksX0_nanos_0 7 rfl rfl)
theorem dX0_nanos_8 : decode cX0_nanos 8 = .ok (.ireturn, 1) := dk_172 (dk_at dksX0_nanos_0 8 rfl rfl)
theorem dX0_nanos_9 : decode cX0_nanos 9 = .ok (.aload_n 0, 1) := dk_42 (dk_at dksX0_nanos_0 9 rfl rfl)
theorem dX0_nanos_10 : decode cX0_nanos 10 = .ok (.getfield 13, 3) := dk_180 0 13 (dk_at dksX0_nanos_0 10 rfl rfl)
theorem dX0_nanos_13 : decode cX0_nanos 13 = .ok (.iload_n 1, 1) := dk_27 (dk_at dksX0_nanos_0 13 rfl rfl)
theorem dX0_nanos_14 : decode cX0_nanos 14 = .ok (.iconst 1, 1) := dk_4 (dk_at dksX0_nanos_0 14 rfl rfl)
theorem dX0_nanos_15 : decode cX0_nanos 15 = .ok (.iand, 1) := dk_126 (dk_at dksX0_nanos_0 15 rfl rfl)
theorem dX0_nanos_16 : decode cX0_nanos 16 = .ok (.aload_n 0, 1) := dk_42 (dk_at dksX0_nanos_0 16 rfl rfl)
theorem dX0_nanos_17 : decode cX0_nanos 17 = .ok (.getfield 13, 3) := dk_180 0 13 (dk_at dksX0_nanos_0 17 rfl rfl)
theorem dX0_nanos_20 : decode cX0_nanos 20 = .ok (.iload_n 1, 1) := dk_27 (dk_at dksX0_nanos_0 20 rfl rfl)
theorem dX0_nanos_21 : decode cX0_nanos 21 = .ok (.iconst 1, 1) := dk_4 (dk_at dksX0_nanos_0 21 rfl rfl)
theorem dX0_nanos_22 : decode cX0_nanos 22 = .ok (.iand, 1) := dk_126 (dk_at dksX0_nanos_0 22 rfl rfl)
theorem dX0_nanos_23 : decode cX0_nanos 23 = .ok (.aaload, 1) := dk_50 (dk_at dksX0_nanos_0 23 rfl rfl)
theorem dX0_nanos_24 : decode cX0_nanos 24 = .ok (.iload_n 2, 1) := dk_28 (dk_at dksX0_nanos_1 0 rfl rfl)
theorem dX0_nanos_25 : decode cX0_nanos 25 = .ok (.i2l, 1) := dk_133 (dk_at dksX0_nanos_1 1 rfl rfl)
theorem dX0_nanos_26 : decode cX0_nanos 26 = .ok (.invokevirtual 51, 3) := dk_182 0 51 (dk_at dksX0_nanos_1 2 rfl rfl)
theorem dX0_nanos_29 : decode cX0_nanos 29 = .ok (.aastore, 1) := dk_83 (dk_at dksX0_nanos_1 5 rfl rfl)
theorem dX0_nanos_30 : decode cX0_nanos 30 = .ok (.iconst 1, 1) := dk_4 (dk_at dksX0_nanos_1 6 rfl rfl)
theorem dX0_nanos_31 : decode cX0_nanos 31 = .ok (.ireturn, 1) := dk_172 (dk_at dksX0_nanos_1 7 rfl rfl)
abbrev cX0_whole : ByteArray := prog_5_method_10_code
def yX0_whole : MethodName := ⟨RX0, "whole", "(I)J"⟩
def dkwX0_whole_0 : List UInt8 := [42, 180, 0, 13, 27, 4, 126, 50, 182, 0, 25, 173]
abbrev dktX0_whole_0 : List UInt8 := dkwX0_whole_0 ++ []
theorem dksX0_whole_0 : cX0_whole.data.toList.drop 0 = dktX0_whole_0 := by decide +kernel
theorem dX0_whole_0 : decode cX0_whole 0 = .ok (.aload_n 0, 1) := dk_42 (dk_at dksX0_whole_0 0 rfl rfl)
theorem dX0_whole_1 : decode cX0_whole 1 = .ok (.getfield 13, 3) := dk_180 0 13 (dk_at dksX0_whole_0 1 rfl rfl)
theorem dX0_whole_4 : decode cX0_whole 4 = .ok (.iload_n 1, 1) := dk_27 (dk_at dksX0_whole_0 4 rfl rfl)
theorem dX0_whole_5 : decode cX0_whole 5 = .ok (.iconst 1, 1) := dk_4 (dk_at dksX0_whole_0 5 rfl rfl)
theorem dX0_whole_6 : decode cX0_whole 6 = .ok (.iand, 1) := dk_126 (dk_at dksX0_whole_0 6 rfl rfl)
theorem dX0_whole_7 : decode cX0_whole 7 = .ok (.aaload, 1) := dk_50 (dk_at dksX0_whole_0 7 rfl rfl)
theorem dX0_whole_8 : decode cX0_whole 8 = .ok (.invokevirtual 25, 3) := dk_182 0 25 (dk_at dksX0_whole_0 8 rfl rfl)
theorem dX0_whole_11 : decode cX0_whole 11 = .ok (.lreturn, 1) := dk_173 (dk_at dksX0_whole_0 11 rfl rfl)
abbrev cX0_nano : ByteArray := prog_5_method_11_code
def yX0_nano : MethodName := ⟨RX0, "nano", "(I)I"⟩
def dkwX0_nano_0 : List UInt8 := [42, 180, 0, 13, 27, 4, 126, 50, 182, 0, 54, 172]
abbrev dktX0_nano_0 : List UInt8 := dkwX0_nano_0 ++ []
theorem dksX0_nano_0 : cX0_nano.data.toList.drop 0 = dktX0_nano_0 := by decide +kernel
theorem dX0_nano_0 : decode cX0_nano 0 = .ok (.aload_n 0, 1) := dk_42 (dk_at dksX0_nano_0 0 rfl rfl)
theorem dX0_nano_1 : decode cX0_nano 1 = .ok (.getfield 13, 3) := dk_180 0 13 (dk_at dksX0_nano_0 1 rfl rfl)
theorem dX0_nano_4 : decode cX0_nano 4 = .ok (.iload_n 1, 1) := dk_27 (dk_at dksX0_nano_0 4 rfl rfl)
theorem dX0_nano_5 : decode cX0_nano 5 = .ok (.iconst 1, 1) := dk_4 (dk_at dksX0_nano_0 5 rfl rfl)
theorem dX0_nano_6 : decode cX0_nano 6 = .ok (.iand, 1) := dk_126 (dk_at dksX0_nano_0 6 rfl rfl)
theorem dX0_nano_7 : decode cX0_nano 7 = .ok (.aaload, 1) := dk_50 (dk_at dksX0_nano_0 7 rfl rfl)
theorem dX0_nano_8 : decode cX0_nano 8 = .ok (.invokevirtual 54, 3) := dk_182 0 54 (dk_at dksX0_nano_0 8 rfl rfl)
theorem dX0_nano_11 : decode cX0_nano 11 = .ok (.ireturn, 1) := dk_172 (dk_at dksX0_nano_0 11 rfl rfl)
abbrev cX0_below : ByteArray := prog_5_method_12_code
def yX0_below : MethodName := ⟨RX0, "below", "(I)Z"⟩
def dkwX0_below_0 : List UInt8 := [42, 180, 0, 13, 27, 4, 126, 50, 182, 0, 58, 172]
abbrev dktX0_below_0 : List UInt8 := dkwX0_below_0 ++ []
theorem dksX0_below_0 : cX0_below.data.toList.drop 0 = dktX0_below_0 := by decide +kernel
theorem dX0_below_0 : decode cX0_below 0 = .ok (.aload_n 0, 1) := dk_42 (dk_at dksX0_below_0 0 rfl rfl)
theorem dX0_below_1 : decode cX0_below 1 = .ok (.getfield 13, 3) := dk_180 0 13 (dk_at dksX0_below_0 1 rfl rfl)
theorem dX0_below_4 : decode cX0_below 4 = .ok (.iload_n 1, 1) := dk_27 (dk_at dksX0_below_0 4 rfl rfl)
theorem dX0_below_5 : decode cX0_below 5 = .ok (.iconst 1, 1) := dk_4 (dk_at dksX0_below_0 5 rfl rfl)
theorem dX0_below_6 : decode cX0_below 6 = .ok (.iand, 1) := dk_126 (dk_at dksX0_below_0 6 rfl rfl)
theorem dX0_below_7 : decode cX0_below 7 = .ok (.aaload, 1) := dk_50 (dk_at dksX0_below_0 7 rfl rfl)
theorem dX0_below_8 : decode cX0_below 8 = .ok (.invokevirtual 58, 3) := dk_182 0 58 (dk_at dksX0_below_0 8 rfl rfl)
theorem dX0_below_11 : decode cX0_below 11 = .ok (.ireturn, 1) := dk_172 (dk_at dksX0_below_0 11 rfl rfl)
abbrev cX0_nought : ByteArray := prog_5_method_13_code
def yX0_nought : MethodName := ⟨RX0, "nought", "(I)Z"⟩
def dkwX0_nought_0 : List UInt8 := [42, 180, 0, 13, 27, 4, 126, 50, 182, 0, 61, 172]
abbrev dktX0_nought_0 : List UInt8 := dkwX0_nought_0 ++ []
theorem dksX0_nought_0 : cX0_nought.data.toList.drop 0 = dktX0_nought_0 := by decide +kernel
theorem dX0_nought_0 : decode cX0_nought 0 = .ok (.aload_n 0, 1) := dk_42 (dk_at dksX0_nought_0 0 rfl rfl)
theorem dX0_nought_1 : decode cX0_nought 1 = .ok (.getfield 13, 3) := dk_180 0 13 (dk_at dksX0_nought_0 1 rfl rfl)
theorem dX0_nought_4 : decode cX0_nought 4 = .ok (.iload_n 1, 1) := dk_27 (dk_at dksX0_nought_0 4 rfl rfl)
theorem dX0_nought_5 : decode cX0_nought 5 = .ok (.iconst 1, 1) := dk_4 (dk_at dksX0_nought_0 5 rfl rfl)
theorem dX0_nought_6 : decode cX0_nought 6 = .ok (.iand, 1) := dk_126 (dk_at dksX0_nought_0 6 rfl rfl)
theorem dX0_nought_7 : decode cX0_nought 7 = .ok (.aaload, 1) := dk_50 (dk_at dksX0_nought_0 7 rfl rfl)
theorem dX0_nought_8 : decode cX0_nought 8 = .ok (.invokevirtual 61, 3) := dk_182 0 61 (dk_at dksX0_nought_0 8 rfl rfl)
theorem dX0_nought_11 : decode cX0_nought 11 = .ok (.ireturn, 1) := dk_172 (dk_at dksX0_nought_0 11 rfl rfl)
abbrev cX0_order : ByteArray := prog_5_method_14_code
def yX0_order : MethodName := ⟨RX0, "order", "()I"⟩
def dkwX0_order_1 : List UInt8 := [27, 158, 0, 7, 4, 167, 0, 4, 3, 172]
abbrev dktX0_order_1 : List UInt8 := dkwX0_order_1 ++ []
def dkwX0_order_0 : List UInt8 := [42, 180, 0, 13, 3, 50, 42, 180, 0, 13, 4, 50, 182, 0, 64, 60, 27, 156, 0, 7, 2, 167, 0, 12]
abbrev dktX0_order_0 : List UInt8 := dkwX0_order_0 ++ dktX0_order_1
theorem dksX0_order_0 : cX0_order.data.toList.drop 0 = dktX0_order_0 := by decide +kernel
theorem dksX0_order_1 : cX0_order.data.toList.drop 24 = dktX0_order_1 := dk_seg dksX0_order_0 24 rfl rfl
theorem dX0_order_0 : decode cX0_order 0 = .ok (.aload_n 0, 1) := dk_42 (dk_at dksX0_order_0 0 rfl rfl)
theorem dX0_order_1 : decode cX0_order 1 = .ok (.getfield 13, 3) := dk_180 0 13 (dk_at dksX0_order_0 1 rfl rfl)
theorem dX0_order_4 : decode cX0_order 4 = .ok (.iconst 0, 1) := dk_3 (dk_at dksX0_order_0 4 rfl rfl)
theorem dX0_order_5 : decode cX0_order 5 = .ok (.aaload, 1) := dk_50 (dk_at dksX0_order_0 5 rfl rfl)
theorem dX0_order_6 : decode cX0_order 6 = .ok (.aload_n 0, 1) := dk_42 (dk_at dksX0_order_0 6 rfl rfl)
theorem dX0_order_7 : decode cX0_order 7 = .ok (.getfield 13, 3) := dk_180 0 13 (dk_at dksX0_order_0 7 rfl rfl)
theorem dX0_order_10 : decode cX0_order 10 = .ok (.iconst 1, 1) := dk_4 (dk_at dksX0_order_0 10 rfl rfl)
theorem dX0_order_11 : decode cX0_order 11 = .ok (.aaload, 1) := dk_50 (dk_at dksX0_order_0 11 rfl rfl)
theorem dX0_order_12 : decode cX0_order 12 = .ok (.invokevirtual 64, 3) := dk_182 0 64 (dk_at dksX0_order_0 12 rfl rfl)
theorem dX0_order_15 : decode cX0_order 15 = .ok (.istore_n 1, 1) := dk_60 (dk_at dksX0_order_0 15 rfl rfl)
theorem dX0_order_16 : decode cX0_order 16 = .ok (.iload_n 1, 1) := dk_27 (dk_at dksX0_order_0 16 rfl rfl)
theorem dX0_order_17 : decode cX0_order 17 = .ok (.ifCond .ge 7, 3) := dk_156 0 7 (dk_at dksX0_order_0 17 rfl rfl)
theorem dX0_order_20 : decode cX0_order 20 = .ok (.iconst (-1), 1) := dk_2 (dk_at dksX0_order_0 20 rfl rfl)
theorem dX0_order_21 : decode cX0_order 21 = .ok (.goto 12, 3) := dk_167 0 12 (dk_at dksX0_order_0 21 rfl rfl)
theorem dX0_order_24 : decode cX0_order 24 = .ok (.iload_n 1, 1) := dk_27 (dk_at dksX0_order_1 0 rfl rfl)
theorem dX0_order_25 : decode cX0_order 25 = .ok (.ifCond .le 7, 3) := dk_158 0 7 (dk_at dksX0_order_1 1 rfl rfl)
theorem dX0_order_28 : decode cX0_order 28 = .ok (.iconst 1, 1) := dk_4 (dk_at dksX0_order_1 4 rfl rfl)
theorem dX0_order_29 : decode cX0_order 29 = .ok (.goto 4, 3) := dk_167 0 4 (dk_at dksX0_order_1 5 rfl rfl)
theorem dX0_order_32 : decode cX0_order 32 = .ok (.iconst 0, 1) := dk_3 (dk_at dksX0_order_1 8 rfl rfl)
theorem dX0_order_33 : decode cX0_order 33 = .ok (.ireturn, 1) := dk_172 (dk_at dksX0_order_1 9 rfl rfl)
abbrev cX0_days : ByteArray := prog_5_method_15_code
def yX0_days : MethodName := ⟨RX0, "days", "(I)J"⟩
def dkwX0_days_0 : List UInt8 := [42, 180, 0, 13, 27, 4, 126, 50, 182, 0, 68, 173]
abbrev dktX0_days_0 : List UInt8 := dkwX0_days_0 ++ []
theorem dksX0_days_0 : cX0_days.data.toList.drop 0 = dktX0_days_0 := by decide +kernel
theorem dX0_days_0 : decode cX0_days 0 = .ok (.aload_n 0, 1) := dk_42 (dk_at dksX0_days_0 0 rfl rfl)
theorem dX0_days_1 : decode cX0_days 1 = .ok (.getfield 13, 3) := dk_180 0 13 (dk_at dksX0_days_0 1 rfl rfl)
theorem dX0_days_4 : decode cX0_days 4 = .ok (.iload_n 1, 1) := dk_27 (dk_at dksX0_days_0 4 rfl rfl)
theorem dX0_days_5 : decode cX0_days 5 = .ok (.iconst 1, 1) := dk_4 (dk_at dksX0_days_0 5 rfl rfl)
theorem dX0_days_6 : decode cX0_days 6 = .ok (.iand, 1) := dk_126 (dk_at dksX0_days_0 6 rfl rfl)
theorem dX0_days_7 : decode cX0_days 7 = .ok (.aaload, 1) := dk_50 (dk_at dksX0_days_0 7 rfl rfl)
theorem dX0_days_8 : decode cX0_days 8 = .ok (.invokevirtual 68, 3) := dk_182 0 68 (dk_at dksX0_days_0 8 rfl rfl)
theorem dX0_days_11 : decode cX0_days 11 = .ok (.lreturn, 1) := dk_173 (dk_at dksX0_days_0 11 rfl rfl)
abbrev cX0_minutes : ByteArray := prog_5_method_16_code
def yX0_minutes : MethodName := ⟨RX0, "minutes", "(I)J"⟩
def dkwX0_minutes_0 : List UInt8 := [42, 180, 0, 13, 27, 4, 126, 50, 182, 0, 71, 173]
abbrev dktX0_minutes_0 : List UInt8 := dkwX0_minutes_0 ++ []
theorem dksX0_minutes_0 : cX0_minutes.data.toList.drop 0 = dktX0_minutes_0 := by decide +kernel
theorem dX0_minutes_0 : decode cX0_minutes 0 = .ok (.aload_n 0, 1) := dk_42 (dk_at dksX0_minutes_0 0 rfl rfl)
theorem dX0_minutes_1 : decode cX0_minutes 1 = .ok (.getfield 13, 3) := dk_180 0 13 (dk_at dksX0_minutes_0 1 rfl rfl)
theorem dX0_minutes_4 : decode cX0_minutes 4 = .ok (.iload_n 1, 1) := dk_27 (dk_at dksX0_minutes_0 4 rfl rfl)
theorem dX0_minutes_5 : decode cX0_minutes 5 = .ok (.iconst 1, 1) := dk_4 (dk_at dksX0_minutes_0 5 rfl rfl)
theorem dX0_minutes_6 : decode cX0_minutes 6 = .ok (.iand, 1) := dk_126 (dk_at dksX0_minutes_0 6 rfl rfl)
theorem dX0_minutes_7 : decode cX0_minutes 7 = .ok (.aaload, 1) := dk_50 (dk_at dksX0_minutes_0 7 rfl rfl)
theorem dX0_minutes_8 : decode cX0_minutes 8 = .ok (.invokevirtual 71, 3) := dk_182 0 71 (dk_at dksX0_minutes_0 8 rfl rfl)
theorem dX0_minutes_11 : decode cX0_minutes 11 = .ok (.lreturn, 1) := dk_173 (dk_at dksX0_minutes_0 11 rfl rfl)
theorem q6 : (Jvm.Cond.initialized "SpanDesk") ∈ lw_all := lw_g (lw_at lw_m1 1 rfl) rfl
theorem q15 : (Jvm.Cond.instantiable "SpanDesk" (1 : Nat)) ∈ lw_all := lw_g (lw_at lw_m1 10 rfl) rfl
theorem q17 : (Jvm.Cond.instanceMethod ({ cls := "SpanDesk", name := "<init>", desc := "()V" } : Jvm.MethodName)) ∈ lw_all := lw_g (lw_at lw_m1 12 rfl) rfl
theorem q18 : (Jvm.Cond.code ({ cls := "SpanDesk", name := "<init>", desc := "()V" } : Jvm.MethodName) prog_5_method_1_code (1 : Nat) (Option.none : Option Jvm.ClassFile.FieldType)) ∈ lw_all := lw_g (lw_at lw_m1 13 rfl) rfl
theorem q19 : (Jvm.Cond.methodLink "SpanDesk" (1 : Nat) ({ cls := "java/lang/Object", name := "<init>", desc := "()V" } : Jvm.MethodName)) ∈ lw_all := lw_g (lw_at lw_m1 14 rfl) rfl
theorem q22 : (Jvm.Cond.classLink "SpanDesk" (7 : Nat) "Duration") ∈ lw_all := lw_g (lw_at lw_m1 17 rfl) rfl
theorem q24 : (Jvm.Cond.methodLink "SpanDesk" (9 : Nat) ({ cls := "Duration", name := "ofSeconds", desc := "(JJ)LDuration;" } : Jvm.MethodName)) ∈ lw_all := lw_g (lw_at lw_m1 19 rfl) rfl
theorem q122 : (Jvm.Cond.fieldLink "SpanDesk" (13 : Nat) "SpanDesk" "span" "[LDuration;") ∈ lw_all := lw_g (lw_at lw_m1 117 rfl) rfl
theorem q123 : (Jvm.Cond.laysFinal "SpanDesk" "SpanDesk" "span" "[LDuration;") ∈ lw_all := lw_g (lw_at lw_m1 118 rfl) rfl
theorem q124 : (Jvm.Cond.soleField "SpanDesk" "span") ∈ lw_all := lw_g (lw_at lw_m1 119 rfl) rfl
theorem q125 : (Jvm.Cond.superclass "SpanDesk" "java/lang/Object") ∈ lw_all := lw_g (lw_at lw_m1 120 rfl) rfl
theorem q127 : (Jvm.Cond.instanceMethod ({ cls := "SpanDesk", name := "set", desc := "(IIII)V" } : Jvm.MethodName)) ∈ lw_all := lw_g (lw_at lw_m1 122 rfl) rfl
theorem q128 : (Jvm.Cond.selects "SpanDesk" ({ cls := "SpanDesk", name := "set", desc := "(IIII)V" } : Jvm.MethodName) ({ cls := "SpanDesk", name := "set", desc := "(IIII)V" } : Jvm.MethodName)) ∈ lw_all := lw_g (lw_at lw_m1 123 rfl) rfl
theorem q129 : (Jvm.Cond.code ({ cls := "SpanDesk", name := "set", desc := "(IIII)V" } : Jvm.MethodName) prog_5_method_3_code (5 : Nat) (Option.none : Option Jvm.ClassFile.FieldType)) ∈ lw_all := lw_g (lw_at lw_m1 124 rfl) rfl
theorem q130 : (Jvm.Cond.methodLink "SpanDesk" (21 : Nat) ({ cls := "SpanDesk", name := "wide", desc := "(II)J" } : Jvm.MethodName)) ∈ lw_all := lw_g (lw_at lw_m1 125 rfl) rfl
theorem q131 : (Jvm.Cond.static ({ cls := "SpanDesk", name := "wide", desc := "(II)J" } : Jvm.MethodName)) ∈ lw_all := lw_g (lw_at lw_m1 126 rfl) rfl
theorem q132 : (Jvm.Cond.code ({ cls := "SpanDesk", name := "wide", desc := "(II)J" } : Jvm.MethodName) prog_5_method_2_code (2 : Nat) (Option.some Jvm.ClassFile.FieldType.long)) ∈ lw_all := lw_g (lw_at lw_m1 127 rfl) rfl
theorem q133 : (Jvm.Cond.constantLong "SpanDesk" (19 : Nat) (4294967295 : Int64)) ∈ lw_all := lw_g (lw_at lw_m1 128 rfl) rfl
theorem q135 : (Jvm.Cond.instanceMethod ({ cls := "SpanDesk", name := "plus", desc := "(I)Z" } : Jvm.MethodName)) ∈ lw_all := lw_g (lw_at lw_m1 130 rfl) rfl
theorem q136 : (Jvm.Cond.selects "SpanDesk" ({ cls := "SpanDesk", name := "plus", desc := "(I)Z" } : Jvm.MethodName) ({ cls := "SpanDesk", name := "plus", desc := "(I)Z" } : Jvm.MethodName)) ∈ lw_all := lw_g (lw_at lw_m1 131 rfl) rfl
theorem q137 : (Jvm.Cond.code ({ cls := "SpanDesk", name := "plus", desc := "(I)Z" } : Jvm.MethodName) prog_5_method_5_code (2 : Nat) (Option.some Jvm.ClassFile.FieldType.boolean)) ∈ lw_all := lw_g (lw_at lw_m1 132 rfl) rfl
theorem q138 : (Jvm.Cond.methodLink "SpanDesk" (33 : Nat) ({ cls := "SpanDesk", name := "room", desc := "()Z" } : Jvm.MethodName)) ∈ lw_all := lw_g (lw_at lw_m1 133 rfl) rfl
theorem q139 : (Jvm.Cond.privateMethod ({ cls := "SpanDesk", name := "room", desc := "()Z" } : Jvm.MethodName)) ∈ lw_tbl := lw_at lw_m1 134 rfl
theorem q140 : (Jvm.Cond.instanceMethod ({ cls := "SpanDesk", name := "room", desc := "()Z" } : Jvm.MethodName)) ∈ lw_all := lw_g (lw_at lw_m1 135 rfl) rfl
theorem q141 : (Jvm.Cond.code ({ cls := "SpanDesk", name := "room", desc := "()Z" } : Jvm.MethodName) prog_5_method_4_code (5 : Nat) (Option.some Jvm.ClassFile.FieldType.boolean)) ∈ lw_all := lw_g (lw_at lw_m1 136 rfl) rfl
theorem q142 : (Jvm.Cond.methodLink "SpanDesk" (25 : Nat) ({ cls := "Duration", name := "getSeconds", desc := "()J" } : Jvm.MethodName)) ∈ lw_all := lw_g (lw_at lw_m1 137 rfl) rfl
theorem q146 : (Jvm.Cond.constantLong "SpanDesk" (29 : Nat) (4611686018427387904 : Int64)) ∈ lw_all := lw_g (lw_at lw_m1 141 rfl) rfl
theorem q147 : (Jvm.Cond.constantLong "SpanDesk" (31 : Nat) (-4611686018427387904 : Int64)) ∈ lw_all := lw_g (lw_at lw_m1 142 rfl) rfl
theorem q148 : (Jvm.Cond.methodLink "SpanDesk" (37 : Nat) ({ cls := "Duration", name := "plus", desc := "(LDuration;)LDuration;" } : Jvm.MethodName)) ∈ lw_all := lw_g (lw_at lw_m1 143 rfl) rfl
theorem q163 : (Jvm.Cond.instanceMethod ({ cls := "SpanDesk", name := "minus", desc := "(I)Z" } : Jvm.MethodName)) ∈ lw_all := lw_g (lw_at lw_m1 158 rfl) rfl
theorem q164 : (Jvm.Cond.selects "SpanDesk" ({ cls := "SpanDesk", name := "minus", desc := "(I)Z" } : Jvm.MethodName) ({ cls := "SpanDesk", name := "minus", desc := "(I)Z" } : Jvm.MethodName)) ∈ lw_all := lw_g (lw_at lw_m1 159 rfl) rfl
theorem q165 : (Jvm.Cond.code ({ cls := "SpanDesk", name := "minus", desc := "(I)Z" } : Jvm.MethodName) prog_5_method_6_code (2 : Nat) (Option.some Jvm.ClassFile.FieldType.boolean)) ∈ lw_all := lw_g (lw_at lw_m1 160 rfl) rfl
theorem q166 : (Jvm.Cond.methodLink "SpanDesk" (41 : Nat) ({ cls := "Duration", name := "minus", desc := "(LDuration;)LDuration;" } : Jvm.MethodName)) ∈ lw_all := lw_g (lw_at lw_m1 161 rfl) rfl
theorem q173 : (Jvm.Cond.instanceMethod ({ cls := "SpanDesk", name := "seconds", desc := "(II)Z" } : Jvm.MethodName)) ∈ lw_all := lw_g (lw_at lw_m1 168 rfl) rfl
theorem q174 : (Jvm.Cond.selects "SpanDesk" ({ cls := "SpanDesk", name := "seconds", desc := "(II)Z" } : Jvm.MethodName) ({ cls := "SpanDesk", name := "seconds", desc := "(II)Z" } : Jvm.MethodName)) ∈ lw_all := lw_g (lw_at lw_m1 169 rfl) rfl
theorem q175 : (Jvm.Cond.code ({ cls := "SpanDesk", name := "seconds", desc := "(II)Z" } : Jvm.MethodName) prog_5_method_7_code (3 : Nat) (Option.some Jvm.ClassFile.FieldType.boolean)) ∈ lw_all := lw_g (lw_at lw_m1 170 rfl) rfl
theorem q176 : (Jvm.Cond.methodLink "SpanDesk" (44 : Nat) ({ cls := "Duration", name := "plusSeconds", desc := "(J)LDuration;" } : Jvm.MethodName)) ∈ lw_all := lw_g (lw_at lw_m1 171 rfl) rfl
theorem q181 : (Jvm.Cond.instanceMethod ({ cls := "SpanDesk", name := "millis", desc := "(II)Z" } : Jvm.MethodName)) ∈ lw_all := lw_g (lw_at lw_m1 176 rfl) rfl
theorem q182 : (Jvm.Cond.selects "SpanDesk" ({ cls := "SpanDesk", name := "millis", desc := "(II)Z" } : Jvm.MethodName) ({ cls := "SpanDesk", name := "millis", desc := "(II)Z" } : Jvm.MethodName)) ∈ lw_all := lw_g (lw_at lw_m1 177 rfl) rfl
theorem q183 : (Jvm.Cond.code ({ cls := "SpanDesk", name := "millis", desc := "(II)Z" } : Jvm.MethodName) prog_5_method_8_code (3 : Nat) (Option.some Jvm.ClassFile.FieldType.boolean)) ∈ lw_all := lw_g (lw_at lw_m1 178 rfl) rfl
theorem q184 : (Jvm.Cond.methodLink "SpanDesk" (48 : Nat) ({ cls := "Duration", name := "plusMillis", desc := "(J)LDuration;" } : Jvm.MethodName)) ∈ lw_all := lw_g (lw_at lw_m1 179 rfl) rfl
theorem q191 : (Jvm.Cond.instanceMethod ({ cls := "SpanDesk", name := "nanos", desc := "(II)Z" } : Jvm.MethodName)) ∈ lw_all := lw_g (lw_at lw_m1 186 rfl) rfl
theorem q192 : (Jvm.Cond.selects "SpanDesk" ({ cls := "SpanDesk", name := "nanos", desc := "(II)Z" } : Jvm.MethodName) ({ cls := "SpanDesk", name := "nanos", desc := "(II)Z" } : Jvm.MethodName)) ∈ lw_all := lw_g (lw_at lw_m1 187 rfl) rfl
theorem q193 : (Jvm.Cond.code ({ cls := "SpanDesk", name := "nanos", desc := "(II)Z" } : Jvm.MethodName) prog_5_method_9_code (3 : Nat) (Option.some Jvm.ClassFile.FieldType.boolean)) ∈ lw_all := lw_g (lw_at lw_m1 188 rfl) rfl
theorem q194 : (Jvm.Cond.methodLink "SpanDesk" (51 : Nat) ({ cls := "Duration", name := "plusNanos", desc := "(J)LDuration;" } : Jvm.MethodName)) ∈ lw_all := lw_g (lw_at lw_m1 189 rfl) rfl
theorem q199 : (Jvm.Cond.instanceMethod ({ cls := "SpanDesk", name := "whole", desc := "(I)J" } : Jvm.MethodName)) ∈ lw_all := lw_g (lw_at lw_m1 194 rfl) rfl
theorem q200 : (Jvm.Cond.selects "SpanDesk" ({ cls := "SpanDesk", name := "whole", desc := "(I)J" } : Jvm.MethodName) ({ cls := "SpanDesk", name := "whole", desc := "(I)J" } : Jvm.MethodName)) ∈ lw_all := lw_g (lw_at lw_m1 195 rfl) rfl
theorem q201 : (Jvm.Cond.code ({ cls := "SpanDesk", name := "whole", desc := "(I)J" } : Jvm.MethodName) prog_5_method_10_code (2 : Nat) (Option.some Jvm.ClassFile.FieldType.long)) ∈ lw_all := lw_g (lw_at lw_m1 196 rfl) rfl
theorem q203 : (Jvm.Cond.instanceMethod ({ cls := "SpanDesk", name := "nano", desc := "(I)I" } : Jvm.MethodName)) ∈ lw_all := lw_g (lw_at lw_m1 198 rfl) rfl
theorem q204 : (Jvm.Cond.selects "SpanDesk" ({ cls := "SpanDesk", name := "nano", desc := "(I)I" } : Jvm.MethodName) ({ cls := "SpanDesk", name := "nano", desc := "(I)I" } : Jvm.MethodName)) ∈ lw_all := lw_g (lw_at lw_m1 199 rfl) rfl
theorem q205 : (Jvm.Cond.code ({ cls := "SpanDesk", name := "nano", desc := "(I)I" } : Jvm.MethodName) prog_5_method_11_code (2 : Nat) (Option.some Jvm.ClassFile.FieldType.int)) ∈ lw_all := lw_g (lw_at lw_m1 200 rfl) rfl
theorem q206 : (Jvm.Cond.methodLink "SpanDesk" (54 : Nat) ({ cls := "Duration", name := "getNano", desc := "()I" } : Jvm.MethodName)) ∈ lw_all := lw_g (lw_at lw_m1 201 rfl) rfl
theorem q208 : (Jvm.Cond.instanceMethod ({ cls := "SpanDesk", name := "below", desc := "(I)Z" } : Jvm.MethodName)) ∈ lw_all := lw_g (lw_at lw_m1 203 rfl) rfl
theorem q209 : (Jvm.Cond.selects "SpanDesk" ({ cls := "SpanDesk", name := "below", desc := "(I)Z" } : Jvm.MethodName) ({ cls := "SpanDesk", name := "below", desc := "(I)Z" } : Jvm.MethodName)) ∈ lw_all := lw_g (lw_at lw_m1 204 rfl) rfl
theorem q210 : (Jvm.Cond.code ({ cls := "SpanDesk", name := "below", desc := "(I)Z" } : Jvm.MethodName) prog_5_method_12_code (2 : Nat) (Option.some Jvm.ClassFile.FieldType.boolean)) ∈ lw_all := lw_g (lw_at lw_m1 205 rfl) rfl
theorem q211 : (Jvm.Cond.methodLink "SpanDesk" (58 : Nat) ({ cls := "Duration", name := "isNegative", desc := "()Z" } : Jvm.MethodName)) ∈ lw_all := lw_g (lw_at lw_m1 206 rfl) rfl
theorem q216 : (Jvm.Cond.instanceMethod ({ cls := "SpanDesk", name := "nought", desc := "(I)Z" } : Jvm.MethodName)) ∈ lw_all := lw_g (lw_at lw_m1 211 rfl) rfl
theorem q217 : (Jvm.Cond.selects "SpanDesk" ({ cls := "SpanDesk", name := "nought", desc := "(I)Z" } : Jvm.MethodName) ({ cls := "SpanDesk", name := "nought", desc := "(I)Z" } : Jvm.MethodName)) ∈ lw_all := lw_g (lw_at lw_m1 212 rfl) rfl
theorem q218 : (Jvm.Cond.code ({ cls := "SpanDesk", name := "nought", desc := "(I)Z" } : Jvm.MethodName) prog_5_method_13_code (2 : Nat) (Option.some Jvm.ClassFile.FieldType.boolean)) ∈ lw_all := lw_g (lw_at lw_m1 213 rfl) rfl
theorem q219 : (Jvm.Cond.methodLink "SpanDesk" (61 : Nat) ({ cls := "Duration", name := "isZero", desc := "()Z" } : Jvm.MethodName)) ∈ lw_all := lw_g (lw_at lw_m1 214 rfl) rfl
theorem q224 : (Jvm.Cond.instanceMethod ({ cls := "SpanDesk", name := "order", desc := "()I" } : Jvm.MethodName)) ∈ lw_all := lw_g (lw_at lw_m1 219 rfl) rfl
theorem q225 : (Jvm.Cond.selects "SpanDesk" ({ cls := "SpanDesk", name := "order", desc := "()I" } : Jvm.MethodName) ({ cls := "SpanDesk", name := "order", desc := "()I" } : Jvm.MethodName)) ∈ lw_all := lw_g (lw_at lw_m1 220 rfl) rfl
theorem q226 : (Jvm.Cond.code ({ cls := "SpanDesk", name := "order", desc := "()I" } : Jvm.MethodName) prog_5_method_14_code (2 : Nat) (Option.some Jvm.ClassFile.FieldType.int)) ∈ lw_all := lw_g (lw_at lw_m1 221 rfl) rfl
theorem q227 : (Jvm.Cond.methodLink "SpanDesk" (64 : Nat) ({ cls := "Duration", name := "compareTo", desc := "(LDuration;)I" } : Jvm.MethodName)) ∈ lw_all := lw_g (lw_at lw_m1 222 rfl) rfl
theorem q235 : (Jvm.Cond.instanceMethod ({ cls := "SpanDesk", name := "days", desc := "(I)J" } : Jvm.MethodName)) ∈ lw_all := lw_g (lw_at lw_m1 230 rfl) rfl
theorem q236 : (Jvm.Cond.selects "SpanDesk" ({ cls := "SpanDesk", name := "days", desc := "(I)J" } : Jvm.MethodName) ({ cls := "SpanDesk", name := "days", desc := "(I)J" } : Jvm.MethodName)) ∈ lw_all := lw_g (lw_at lw_m1 231 rfl) rfl
theorem q237 : (Jvm.Cond.code ({ cls := "SpanDesk", name := "days", desc := "(I)J" } : Jvm.MethodName) prog_5_method_15_code (2 : Nat) (Option.some Jvm.ClassFile.FieldType.long)) ∈ lw_all := lw_g (lw_at lw_m1 232 rfl) rfl
theorem q238 : (Jvm.Cond.methodLink "SpanDesk" (68 : Nat) ({ cls := "Duration", name := "toDays", desc := "()J" } : Jvm.MethodName)) ∈ lw_all := lw_g (lw_at lw_m1 233 rfl) rfl
theorem q244 : (Jvm.Cond.instanceMethod ({ cls := "SpanDesk", name := "minutes", desc := "(I)J" } : Jvm.MethodName)) ∈ lw_all := lw_g (lw_at lw_m1 239 rfl) rfl
theorem q245 : (Jvm.Cond.selects "SpanDesk" ({ cls := "SpanDesk", name := "minutes", desc := "(I)J" } : Jvm.MethodName) ({ cls := "SpanDesk", name := "minutes", desc := "(I)J" } : Jvm.MethodName)) ∈ lw_all := lw_g (lw_at lw_m2 0 rfl) rfl
theorem q246 : (Jvm.Cond.code ({ cls := "SpanDesk", name := "minutes", desc := "(I)J" } : Jvm.MethodName) prog_5_method_16_code (2 : Nat) (Option.some Jvm.ClassFile.FieldType.long)) ∈ lw_all := lw_g (lw_at lw_m2 1 rfl) rfl
theorem q247 : (Jvm.Cond.methodLink "SpanDesk" (71 : Nat) ({ cls := "Duration", name := "toMinutes", desc := "()J" } : Jvm.MethodName)) ∈ lw_all := lw_g (lw_at lw_m2 2 rfl) rfl
theorem in_X0 : ∀ w ∈ wsX00, w ∈ lw_all := lw_in wsX00 [123] (by decide +kernel) (by decide +kernel)

/-! SpanDeskModel -/
set_option maxRecDepth 100000
def RX3 : String := "SpanDeskModel"
def TX3 : u_T := fun k => match k with
  | 0 => ("SpanDeskModel", "sec", "[J", true)
  | _ => ("SpanDeskModel", "nan", "[I", true)
def tyX3 : Nat → FieldType := fun k => match k with
  | 0 => .array .long
  | _ => .array .int
abbrev wsX30 : List Cond := u_ws RX3 TX3 2
theorem nmX3 : ∀ a, a < 2 → ∀ b, b < 2 → a ≠ b → (TX3 a).2.1 ≠ (TX3 b).2.1 := by decide +kernel
theorem tyX3_ok : ∀ k, k < 2 → parseFieldDescriptor (TX3 k).2.2.1 = some (tyX3 k) := by decide +kernel
abbrev cX3_init : ByteArray := prog_7_method_1_code
def yX3_init : MethodName := ⟨RX3, "<init>", "()V"⟩
def dkwX3_init_0 : List UInt8 := [42, 183, 0, 1, 42, 5, 188, 11, 181, 0, 7, 42, 5, 188, 10, 181, 0, 13, 177]
abbrev dktX3_init_0 : List UInt8 := dkwX3_init_0 ++ []
theorem dksX3_init_0 : cX3_init.data.toList.drop 0 = dktX3_init_0 := by decide +kernel
theorem dX3_init_0 : decode cX3_init 0 = .ok (.aload_n 0, 1) := dk_42 (dk_at dksX3_init_0 0 rfl rfl)
theorem dX3_init_1 : decode cX3_init 1 = .ok (.invokespecial 1, 3) := dk_183 0 1 (dk_at dksX3_init_0 1 rfl rfl)
theorem dX3_init_4 : decode cX3_init 4 = .ok (.aload_n 0, 1) := dk_42 (dk_at dksX3_init_0 4 rfl rfl)
theorem dX3_init_5 : decode cX3_init 5 = .ok (.iconst 2, 1) := dk_5 (dk_at dksX3_init_0 5 rfl rfl)
theorem dX3_init_6 : decode cX3_init 6 = .ok (.newarray .long, 2) := dk_188_11 (dk_at dksX3_init_0 6 rfl rfl)
theorem dX3_init_8 : decode cX3_init 8 = .ok (.putfield 7, 3) := dk_181 0 7 (dk_at dksX3_init_0 8 rfl rfl)
theorem dX3_init_11 : decode cX3_init 11 = .ok (.aload_n 0, 1) := dk_42 (dk_at dksX3_init_0 11 rfl rfl)
theorem dX3_init_12 : decode cX3_init 12 = .ok (.iconst 2, 1) := dk_5 (dk_at dksX3_init_0 12 rfl rfl)
theorem dX3_init_13 : decode cX3_init 13 = .ok (.newarray .int, 2) := dk_188_10 (dk_at dksX3_init_0 13 rfl rfl)
theorem dX3_init_15 : decode cX3_init 15 = .ok (.putfield 13, 3) := dk_181 0 13 (dk_at dksX3_init_0 15 rfl rfl)
theorem dX3_init_18 : decode cX3_init 18 = .ok (.return_, 1) := dk_177 (dk_at dksX3_init_0 18 rfl rfl)
abbrev cX3_set : ByteArray := prog_7_method_7_code
def yX3_set : MethodName := ⟨RX3, "set", "(IIII)V"⟩
def dkwX3_set_1 : List UInt8 := [55, 7, 42, 27, 184, 0, 17, 22, 5, 20, 0, 31, 105, 22, 7, 97, 21, 4, 133, 182, 0, 33, 177]
abbrev dktX3_set_1 : List UInt8 := dkwX3_set_1 ++ []
def dkwX3_set_0 : List UInt8 := [28, 16, 8, 122, 133, 55, 5, 29, 133, 55, 7, 22, 7, 9, 148, 156, 0, 11, 22, 7, 20, 0, 31, 97]
abbrev dktX3_set_0 : List UInt8 := dkwX3_set_0 ++ dktX3_set_1
theorem dksX3_set_0 : cX3_set.data.toList.drop 0 = dktX3_set_0 := by decide +kernel
theorem dksX3_set_1 : cX3_set.data.toList.drop 24 = dktX3_set_1 := dk_seg dksX3_set_0 24 rfl rfl
theorem dX3_set_0 : decode cX3_set 0 = .ok (.iload_n 2, 1) := dk_28 (dk_at dksX3_set_0 0 rfl rfl)
theorem dX3_set_1 : decode cX3_set 1 = .ok (.bipush 8, 2) := dk_16 8 (dk_at dksX3_set_0 1 rfl rfl)
theorem dX3_set_3 : decode cX3_set 3 = .ok (.ishr, 1) := dk_122 (dk_at dksX3_set_0 3 rfl rfl)
theorem dX3_set_4 : decode cX3_set 4 = .ok (.i2l, 1) := dk_133 (dk_at dksX3_set_0 4 rfl rfl)
theorem dX3_set_5 : decode cX3_set 5 = .ok (.lstore 5, 2) := dk_55 5 (dk_at dksX3_set_0 5 rfl rfl)
theorem dX3_set_7 : decode cX3_set 7 = .ok (.iload_n 3, 1) := dk_29 (dk_at dksX3_set_0 7 rfl rfl)
theorem dX3_set_8 : decode cX3_set 8 = .ok (.i2l, 1) := dk_133 (dk_at dksX3_set_0 8 rfl rfl)
theorem dX3_set_9 : decode cX3_set 9 = .ok (.lstore 7, 2) := dk_55 7 (dk_at dksX3_set_0 9 rfl rfl)
theorem dX3_set_11 : decode cX3_set 11 = .ok (.lload 7, 2) := dk_22 7 (dk_at dksX3_set_0 11 rfl rfl)
theorem dX3_set_13 : decode cX3_set 13 = .ok (.lconst 0, 1) := dk_9 (dk_at dksX3_set_0 13 rfl rfl)
theorem dX3_set_14 : decode cX3_set 14 = .ok (.lcmp, 1) := dk_148 (dk_at dksX3_set_0 14 rfl rfl)
theorem dX3_set_15 : decode cX3_set 15 = .ok (.ifCond .ge 11, 3) := dk_156 0 11 (dk_at dksX3_set_0 15 rfl rfl)
theorem dX3_set_18 : decode cX3_set 18 = .ok (.lload 7, 2) := dk_22 7 (dk_at dksX3_set_0 18 rfl rfl)
theorem dX3_set_20 : decode cX3_set 20 = .ok (.ldc2_w 31, 3) := dk_20 0 31 (dk_at dksX3_set_0 20 rfl rfl)
theorem dX3_set_23 : decode cX3_set 23 = .ok (.ladd, 1) := dk_97 (dk_at dksX3_set_0 23 rfl rfl)
theorem dX3_set_24 : decode cX3_set 24 = .ok (.lstore 7, 2) := dk_55 7 (dk_at dksX3_set_1 0 rfl rfl)
theorem dX3_set_26 : decode cX3_set 26 = .ok (.aload_n 0, 1) := dk_42 (dk_at dksX3_set_1 2 rfl rfl)
theorem dX3_set_27 : decode cX3_set 27 = .ok (.iload_n 1, 1) := dk_27 (dk_at dksX3_set_1 3 rfl rfl)
theorem dX3_set_28 : decode cX3_set 28 = .ok (.invokestatic 17, 3) := dk_184 0 17 (dk_at dksX3_set_1 4 rfl rfl)
theorem dX3_set_31 : decode cX3_set 31 = .ok (.lload 5, 2) := dk_22 5 (dk_at dksX3_set_1 7 rfl rfl)
theorem dX3_set_33 : decode cX3_set 33 = .ok (.ldc2_w 31, 3) := dk_20 0 31 (dk_at dksX3_set_1 9 rfl rfl)
theorem dX3_set_36 : decode cX3_set 36 = .ok (.lmul, 1) := dk_105 (dk_at dksX3_set_1 12 rfl rfl)
theorem dX3_set_37 : decode cX3_set 37 = .ok (.lload 7, 2) := dk_22 7 (dk_at dksX3_set_1 13 rfl rfl)
theorem dX3_set_39 : decode cX3_set 39 = .ok (.ladd, 1) := dk_97 (dk_at dksX3_set_1 15 rfl rfl)
theorem dX3_set_40 : decode cX3_set 40 = .ok (.iload 4, 2) := dk_21 4 (dk_at dksX3_set_1 16 rfl rfl)
theorem dX3_set_42 : decode cX3_set 42 = .ok (.i2l, 1) := dk_133 (dk_at dksX3_set_1 18 rfl rfl)
theorem dX3_set_43 : decode cX3_set 43 = .ok (.invokevirtual 33, 3) := dk_182 0 33 (dk_at dksX3_set_1 19 rfl rfl)
theorem dX3_set_46 : decode cX3_set 46 = .ok (.return_, 1) := dk_177 (dk_at dksX3_set_1 22 rfl rfl)
abbrev cX3_place : ByteArray := prog_7_method_2_code
def yX3_place : MethodName := ⟨RX3, "place", "(I)I"⟩
def dkwX3_place_0 : List UInt8 := [26, 4, 126, 154, 0, 7, 3, 167, 0, 4, 4, 172]
abbrev dktX3_place_0 : List UInt8 := dkwX3_place_0 ++ []
theorem dksX3_place_0 : cX3_place.data.toList.drop 0 = dktX3_place_0 := by decide +kernel
theorem dX3_place_0 : decode cX3_place 0 = .ok (.iload_n 0, 1) := dk_26 (dk_at dksX3_place_0 0 rfl rfl)
theorem dX3_place_1 : decode cX3_place 1 = .ok (.iconst 1, 1) := dk_4 (dk_at dksX3_place_0 1 rfl rfl)
theorem dX3_place_2 : decode cX3_place 2 = .ok (.iand, 1) := dk_126 (dk_at dksX3_place_0 2 rfl rfl)
theorem dX3_place_3 : decode cX3_place 3 = .ok (.ifCond .ne 7, 3) := dk_154 0 7 (dk_at dksX3_place_0 3 rfl rfl)
theorem dX3_place_6 : decode cX3_place 6 = .ok (.iconst 0, 1) := dk_3 (dk_at dksX3_place_0 6 rfl rfl)
theorem dX3_place_7 : decode cX3_place 7 = .ok (.goto 4, 3) := dk_167 0 4 (dk_at dksX3_place_0 7 rfl rfl)
theorem dX3_place_10 : decode cX3_place 10 = .ok (.iconst 1, 1) := dk_4 (dk_at dksX3_place_0 10 rfl rfl)
theorem dX3_place_11 : decode cX3_place 11 = .ok (.ireturn, 1) := dk_172 (dk_at dksX3_place_0 11 rfl rfl)
abbrev cX3_store : ByteArray := prog_7_method_4_code
def yX3_store : MethodName := ⟨RX3, "store", "(IJJ)V"⟩
def dkwX3_store_2 : List UInt8 := [180, 0, 7, 27, 32, 80, 42, 180, 0, 13, 27, 22, 4, 136, 79, 177]
abbrev dktX3_store_2 : List UInt8 := dkwX3_store_2 ++ []
def dkwX3_store_1 : List UInt8 := [20, 0, 21, 148, 155, 0, 18, 22, 4, 20, 0, 21, 101, 55, 4, 32, 10, 97, 65, 167, 255, 235, 42]
abbrev dktX3_store_1 : List UInt8 := dkwX3_store_1 ++ dktX3_store_2
def dkwX3_store_0 : List UInt8 := [22, 4, 9, 148, 156, 0, 18, 22, 4, 20, 0, 21, 97, 55, 4, 32, 10, 101, 65, 167, 255, 237, 22, 4]
abbrev dktX3_store_0 : List UInt8 := dkwX3_store_0 ++ dktX3_store_1
theorem dksX3_store_0 : cX3_store.data.toList.drop 0 = dktX3_store_0 := by decide +kernel
theorem dksX3_store_1 : cX3_store.data.toList.drop 24 = dktX3_store_1 := dk_seg dksX3_store_0 24 rfl rfl
theorem dksX3_store_2 : cX3_store.data.toList.drop 47 = dktX3_store_2 := dk_seg dksX3_store_1 23 rfl rfl
theorem dX3_store_0 : decode cX3_store 0 = .ok (.lload 4, 2) := dk_22 4 (dk_at dksX3_store_0 0 rfl rfl)
theorem dX3_store_2 : decode cX3_store 2 = .ok (.lconst 0, 1) := dk_9 (dk_at dksX3_store_0 2 rfl rfl)
theorem dX3_store_3 : decode cX3_store 3 = .ok (.lcmp, 1) := dk_148 (dk_at dksX3_store_0 3 rfl rfl)
theorem dX3_store_4 : decode cX3_store 4 = .ok (.ifCond .ge 18, 3) := dk_156 0 18 (dk_at dksX3_store_0 4 rfl rfl)
theorem dX3_store_7 : decode cX3_store 7 = .ok (.lload 4, 2) := dk_22 4 (dk_at dksX3_store_0 7 rfl rfl)
theorem dX3_store_9 : decode cX3_store 9 = .ok (.ldc2_w 21, 3) := dk_20 0 21 (dk_at dksX3_store_0 9 rfl rfl)
theorem dX3_store_12 : decode cX3_store 12 = .ok (.ladd, 1) := dk_97 (dk_at dksX3_store_0 12 rfl rfl)
theorem dX3_store_13 : decode cX3_store 13 = .ok (.lstore 4, 2) := dk_55 4 (dk_at dksX3_store_0 13 rfl rfl)
theorem dX3_store_15 : decode cX3_store 15 = .ok (.lload_n 2, 1) := dk_32 (dk_at dksX3_store_0 15 rfl rfl)
theorem dX3_store_16 : decode cX3_store 16 = .ok (.lconst 1, 1) := dk_10 (dk_at dksX3_store_0 16 rfl rfl)
theorem dX3_store_17 : decode cX3_store 17 = .ok (.lsub, 1) := dk_101 (dk_at dksX3_store_0 17 rfl rfl)
theorem dX3_store_18 : decode cX3_store 18 = .ok (.lstore_n 2, 1) := dk_65 (dk_at dksX3_store_0 18 rfl rfl)
theorem dX3_store_19 : decode cX3_store 19 = .ok (.goto (-19), 3) := dk_167 255 237 (dk_at dksX3_store_0 19 rfl rfl)
theorem dX3_store_22 : decode cX3_store 22 = .ok (.lload 4, 2) := dk_22 4 (dk_at dksX3_store_0 22 rfl rfl)
theorem dX3_store_24 : decode cX3_store 24 = .ok (.ldc2_w 21, 3) := dk_20 0 21 (dk_at dksX3_store_1 0 rfl rfl)
theorem dX3_store_27 : decode cX3_store 27 = .ok (.lcmp, 1) := dk_148 (dk_at dksX3_store_1 3 rfl rfl)
theorem dX3_store_28 : decode cX3_store 28 = .ok (.ifCond .lt 18, 3) := dk_155 0 18 (dk_at dksX3_store_1 4 rfl rfl)
theorem dX3_store_31 : decode cX3_store 31 = .ok (.lload 4, 2) := dk_22 4 (dk_at dksX3_store_1 7 rfl rfl)
theorem dX3_store_33 : decode cX3_store 33 = .ok (.ldc2_w 21, 3) := dk_20 0 21 (dk_at dksX3_store_1 9 rfl rfl)
theorem dX3_store_36 : decode cX3_store 36 = .ok (.lsub, 1) := dk_101 (dk_at dksX3_store_1 12 rfl rfl)
theorem dX3_store_37 : decode cX3_store 37 = .ok (.lstore 4, 2) := dk_55 4 (dk_at dksX3_store_1 13 rfl rfl)
theorem dX3_store_39 : decode cX3_store 39 = .ok (.lload_n 2, 1) := dk_32 (dk_at dksX3_store_1 15 rfl rfl)
theorem dX3_store_40 : decode cX3_store 40 = .ok (.lconst 1, 1) := dk_10 (dk_at dksX3_store_1 16 rfl rfl)
theorem dX3_store_41 : decode cX3_store 41 = .ok (.ladd, 1) := dk_97 (dk_at dksX3_store_1 17 rfl rfl)
theorem dX3_store_42 : decode cX3_store 42 = .ok (.lstore_n 2, 1) := dk_65 (dk_at dksX3_store_1 18 rfl rfl)
theorem dX3_store_43 : decode cX3_store 43 = .ok (.goto (-21), 3) := dk_167 255 235 (dk_at dksX3_store_1 19 rfl rfl)
theorem dX3_store_46 : decode cX3_store 46 = .ok (.aload_n 0, 1) := dk_42 (dk_at dksX3_store_1 22 rfl rfl)
theorem dX3_store_47 : decode cX3_store 47 = .ok (.getfield 7, 3) := dk_180 0 7 (dk_at dksX3_store_2 0 rfl rfl)
theorem dX3_store_50 : decode cX3_store 50 = .ok (.iload_n 1, 1) := dk_27 (dk_at dksX3_store_2 3 rfl rfl)
theorem dX3_store_51 : decode cX3_store 51 = .ok (.lload_n 2, 1) := dk_32 (dk_at dksX3_store_2 4 rfl rfl)
theorem dX3_store_52 : decode cX3_store 52 = .ok (.lastore, 1) := dk_80 (dk_at dksX3_store_2 5 rfl rfl)
theorem dX3_store_53 : decode cX3_store 53 = .ok (.aload_n 0, 1) := dk_42 (dk_at dksX3_store_2 6 rfl rfl)
theorem dX3_store_54 : decode cX3_store 54 = .ok (.getfield 13, 3) := dk_180 0 13 (dk_at dksX3_store_2 7 rfl rfl)
theorem dX3_store_57 : decode cX3_store 57 = .ok (.iload_n 1, 1) := dk_27 (dk_at dksX3_store_2 10 rfl rfl)
theorem dX3_store_58 : decode cX3_store 58 = .ok (.lload 4, 2) := dk_22 4 (dk_at dksX3_store_2 11 rfl rfl)
theorem dX3_store_60 : decode cX3_store 60 = .ok (.l2i, 1) := dk_136 (dk_at dksX3_store_2 13 rfl rfl)
theorem dX3_store_61 : decode cX3_store 61 = .ok (.iastore, 1) := dk_79 (dk_at dksX3_store_2 14 rfl rfl)
theorem dX3_store_62 : decode cX3_store 62 = .ok (.return_, 1) := dk_177 (dk_at dksX3_store_2 15 rfl rfl)
abbrev cX3_plus : ByteArray := prog_7_method_8_code
def yX3_plus : MethodName := ⟨RX3, "plus", "(I)Z"⟩
def dkwX3_plus_2 : List UInt8 := [46, 133, 97, 182, 0, 33, 4, 172]
abbrev dktX3_plus_2 : List UInt8 := dkwX3_plus_2 ++ []
def dkwX3_plus_1 : List UInt8 := [180, 0, 7, 28, 47, 42, 180, 0, 7, 29, 47, 97, 42, 180, 0, 13, 28, 46, 133, 42, 180, 0, 13, 29]
abbrev dktX3_plus_1 : List UInt8 := dkwX3_plus_1 ++ dktX3_plus_2
def dkwX3_plus_0 : List UInt8 := [42, 182, 0, 37, 154, 0, 5, 3, 172, 27, 184, 0, 17, 61, 27, 184, 0, 41, 62, 42, 28, 42]
abbrev dktX3_plus_0 : List UInt8 := dkwX3_plus_0 ++ dktX3_plus_1
theorem dksX3_plus_0 : cX3_plus.data.toList.drop 0 = dktX3_plus_0 := by decide +kernel
theorem dksX3_plus_1 : cX3_plus.data.toList.drop 22 = dktX3_plus_1 := dk_seg dksX3_plus_0 22 rfl rfl
theorem dksX3_plus_2 : cX3_plus.data.toList.drop 46 = dktX3_plus_2 := dk_seg dksX3_plus_1 24 rfl rfl
theorem dX3_plus_0 : decode cX3_plus 0 = .ok (.aload_n 0, 1) := dk_42 (dk_at dksX3_plus_0 0 rfl rfl)
theorem dX3_plus_1 : decode cX3_plus 1 = .ok (.invokevirtual 37, 3) := dk_182 0 37 (dk_at dksX3_plus_0 1 rfl rfl)
theorem dX3_plus_4 : decode cX3_plus 4 = .ok (.ifCond .ne 5, 3) := dk_154 0 5 (dk_at dksX3_plus_0 4 rfl rfl)
theorem dX3_plus_7 : decode cX3_plus 7 = .ok (.iconst 0, 1) := dk_3 (dk_at dksX3_plus_0 7 rfl rfl)
theorem dX3_plus_8 : decode cX3_plus 8 = .ok (.ireturn, 1) := dk_172 (dk_at dksX3_plus_0 8 rfl rfl)
theorem dX3_plus_9 : decode cX3_plus 9 = .ok (.iload_n 1, 1) := dk_27 (dk_at dksX3_plus_0 9 rfl rfl)
theorem dX3_plus_10 : decode cX3_plus 10 = .ok (.invokestatic 17, 3) := dk_184 0 17 (dk_at dksX3_plus_0 10 rfl rfl)
theorem dX3_plus_13 : decode cX3_plus 13 = .ok (.istore_n 2, 1) := dk_61 (dk_at dksX3_plus_0 13 rfl rfl)
theorem dX3_plus_14 : decode cX3_plus 14 = .ok (.iload_n 1, 1) := dk_27 (dk_at dksX3_plus_0 14 rfl rfl)
theorem dX3_plus_15 : decode cX3_plus 15 = .ok (.invokestatic 41, 3) := dk_184 0 41 (dk_at dksX3_plus_0 15 rfl rfl)
theorem dX3_plus_18 : decode cX3_plus 18 = .ok (.istore_n 3, 1) := dk_62 (dk_at dksX3_plus_0 18 rfl rfl)
theorem dX3_plus_19 : decode cX3_plus 19 = .ok (.aload_n 0, 1) := dk_42 (dk_at dksX3_plus_0 19 rfl rfl)
theorem dX3_plus_20 : decode cX3_plus 20 = .ok (.iload_n 2, 1) := dk_28 (dk_at dksX3_plus_0 20 rfl rfl)
theorem dX3_plus_21 : decode cX3_plus 21 = .ok (.aload_n 0, 1) := dk_42 (dk_at dksX3_plus_0 21 rfl rfl)
theorem dX3_plus_22 : decode cX3_plus 22 = .ok (.getfield 7, 3) := dk_180 0 7 (dk_at dksX3_plus_1 0 rfl rfl)
theorem dX3_plus_25 : decode cX3_plus 25 = .ok (.iload_n 2, 1) := dk_28 (dk_at dksX3_plus_1 3 rfl rfl)
theorem dX3_plus_26 : decode cX3_plus 26 = .ok (.laload, 1) := dk_47 (dk_at dksX3_plus_1 4 rfl rfl)
theorem dX3_plus_27 : decode cX3_plus 27 = .ok (.aload_n 0, 1) := dk_42 (dk_at dksX3_plus_1 5 rfl rfl)
theorem dX3_plus_28 : decode cX3_plus 28 = .ok (.getfield 7, 3) := dk_180 0 7 (dk_at dksX3_plus_1 6 rfl rfl)
theorem dX3_plus_31 : decode cX3_plus 31 = .ok (.iload_n 3, 1) := dk_29 (dk_at dksX3_plus_1 9 rfl rfl)
theorem dX3_plus_32 : decode cX3_plus 32 = .ok (.laload, 1) := dk_47 (dk_at dksX3_plus_1 10 rfl rfl)
theorem dX3_plus_33 : decode cX3_plus 33 = .ok (.ladd, 1) := dk_97 (dk_at dksX3_plus_1 11 rfl rfl)
theorem dX3_plus_34 : decode cX3_plus 34 = .ok (.aload_n 0, 1) := dk_42 (dk_at dksX3_plus_1 12 rfl rfl)
theorem dX3_plus_35 : decode cX3_plus 35 = .ok (.getfield 13, 3) := dk_180 0 13 (dk_at dksX3_plus_1 13 rfl rfl)
theorem dX3_plus_38 : decode cX3_plus 38 = .ok (.iload_n 2, 1) := dk_28 (dk_at dksX3_plus_1 16 rfl rfl)
theorem dX3_plus_39 : decode cX3_plus 39 = .ok (.iaload, 1) := dk_46 (dk_at dksX3_plus_1 17 rfl rfl)
theorem dX3_plus_40 : decode cX3_plus 40 = .ok (.i2l, 1) := dk_133 (dk_at dksX3_plus_1 18 rfl rfl)
theorem dX3_plus_41 : decode cX3_plus 41 = .ok (.aload_n 0, 1) := dk_42 (dk_at dksX3_plus_1 19 rfl rfl)
theorem dX3_plus_42 : decode cX3_plus 42 = .ok (.getfield 13, 3) := dk_180 0 13 (dk_at dksX3_plus_1 20 rfl rfl)
theorem dX3_plus_45 : decode cX3_plus 45 = .ok (.iload_n 3, 1) := dk_29 (dk_at dksX3_plus_1 23 rfl rfl)
theorem dX3_plus_46 : decode cX3_plus 46 = .ok (.iaload, 1) := dk_46 (dk_at dksX3_plus_2 0 rfl rfl)
theorem dX3_plus_47 : decode cX3_plus 47 = .ok (.i2l, 1) := dk_133 (dk_at dksX3_plus_2 1 rfl rfl)
theorem dX3_plus_48 : decode cX3_plus 48 = .ok (.ladd, 1) := dk_97 (dk_at dksX3_plus_2 2 rfl rfl)
theorem dX3_plus_49 : decode cX3_plus 49 = .ok (.invokevirtual 33, 3) := dk_182 0 33 (dk_at dksX3_plus_2 3 rfl rfl)
theorem dX3_plus_52 : decode cX3_plus 52 = .ok (.iconst 1, 1) := dk_4 (dk_at dksX3_plus_2 6 rfl rfl)
theorem dX3_plus_53 : decode cX3_plus 53 = .ok (.ireturn, 1) := dk_172 (dk_at dksX3_plus_2 7 rfl rfl)
abbrev cX3_room : ByteArray := prog_7_method_6_code
def yX3_room : MethodName := ⟨RX3, "room", "()Z"⟩
def dkwX3_room_1 : List UInt8 := [4, 167, 0, 4, 3, 172]
abbrev dktX3_room_1 : List UInt8 := dkwX3_room_1 ++ []
def dkwX3_room_0 : List UInt8 := [42, 180, 0, 7, 3, 47, 184, 0, 27, 153, 0, 19, 42, 180, 0, 7, 4, 47, 184, 0, 27, 153, 0, 7]
abbrev dktX3_room_0 : List UInt8 := dkwX3_room_0 ++ dktX3_room_1
theorem dksX3_room_0 : cX3_room.data.toList.drop 0 = dktX3_room_0 := by decide +kernel
theorem dksX3_room_1 : cX3_room.data.toList.drop 24 = dktX3_room_1 := dk_seg dksX3_room_0 24 rfl rfl
theorem dX3_room_0 : decode cX3_room 0 = .ok (.aload_n 0, 1) := dk_42 (dk_at dksX3_room_0 0 rfl rfl)
theorem dX3_room_1 : decode cX3_room 1 = .ok (.getfield 7, 3) := dk_180 0 7 (dk_at dksX3_room_0 1 rfl rfl)
theorem dX3_room_4 : decode cX3_room 4 = .ok (.iconst 0, 1) := dk_3 (dk_at dksX3_room_0 4 rfl rfl)
theorem dX3_room_5 : decode cX3_room 5 = .ok (.laload, 1) := dk_47 (dk_at dksX3_room_0 5 rfl rfl)
theorem dX3_room_6 : decode cX3_room 6 = .ok (.invokestatic 27, 3) := dk_184 0 27 (dk_at dksX3_room_0 6 rfl rfl)
theorem dX3_room_9 : decode cX3_room 9 = .ok (.ifCond .eq 19, 3) := dk_153 0 19 (dk_at dksX3_room_0 9 rfl rfl)
theorem dX3_room_12 : decode cX3_room 12 = .ok (.aload_n 0, 1) := dk_42 (dk_at dksX3_room_0 12 rfl rfl)
theorem dX3_room_13 : decode cX3_room 13 = .ok (.getfield 7, 3) := dk_180 0 7 (dk_at dksX3_room_0 13 rfl rfl)
theorem dX3_room_16 : decode cX3_room 16 = .ok (.iconst 1, 1) := dk_4 (dk_at dksX3_room_0 16 rfl rfl)
theorem dX3_room_17 : decode cX3_room 17 = .ok (.laload, 1) := dk_47 (dk_at dksX3_room_0 17 rfl rfl)
theorem dX3_room_18 : decode cX3_room 18 = .ok (.invokestatic 27, 3) := dk_184 0 27 (dk_at dksX3_room_0 18 rfl rfl)
theorem dX3_room_21 : decode cX3_room 21 = .ok (.ifCond .eq 7, 3) := dk_153 0 7 (dk_at dksX3_room_0 21 rfl rfl)
theorem dX3_room_24 : decode cX3_room 24 = .ok (.iconst 1, 1) := dk_4 (dk_at dksX3_room_1 0 rfl rfl)
theorem dX3_room_25 : decode cX3_room 25 = .ok (.goto 4, 3) := dk_167 0 4 (dk_at dksX3_room_1 1 rfl rfl)
theorem dX3_room_28 : decode cX3_room 28 = .ok (.iconst 0, 1) := dk_3 (dk_at dksX3_room_1 4 rfl rfl)
theorem dX3_room_29 : decode cX3_room 29 = .ok (.ireturn, 1) := dk_172 (dk_at dksX3_room_1 5 rfl rfl)
abbrev cX3_inside : ByteArray := prog_7_method_5_code
def yX3_inside : MethodName := ⟨RX3, "inside", "(J)Z"⟩
def dkwX3_inside_0 : List UInt8 := [20, 0, 23, 30, 148, 156, 0, 15, 30, 20, 0, 25, 148, 156, 0, 7, 4, 167, 0, 4, 3, 172]
abbrev dktX3_inside_0 : List UInt8 := dkwX3_inside_0 ++ []
theorem dksX3_inside_0 : cX3_inside.data.toList.drop 0 = dktX3_inside_0 := by decide +kernel
theorem dX3_inside_0 : decode cX3_inside 0 = .ok (.ldc2_w 23, 3) := dk_20 0 23 (dk_at dksX3_inside_0 0 rfl rfl)
theorem dX3_inside_3 : decode cX3_inside 3 = .ok (.lload_n 0, 1) := dk_30 (dk_at dksX3_inside_0 3 rfl rfl)
theorem dX3_inside_4 : decode cX3_inside 4 = .ok (.lcmp, 1) := dk_148 (dk_at dksX3_inside_0 4 rfl rfl)
theorem dX3_inside_5 : decode cX3_inside 5 = .ok (.ifCond .ge 15, 3) := dk_156 0 15 (dk_at dksX3_inside_0 5 rfl rfl)
theorem dX3_inside_8 : decode cX3_inside 8 = .ok (.lload_n 0, 1) := dk_30 (dk_at dksX3_inside_0 8 rfl rfl)
theorem dX3_inside_9 : decode cX3_inside 9 = .ok (.ldc2_w 25, 3) := dk_20 0 25 (dk_at dksX3_inside_0 9 rfl rfl)
theorem dX3_inside_12 : decode cX3_inside 12 = .ok (.lcmp, 1) := dk_148 (dk_at dksX3_inside_0 12 rfl rfl)
theorem dX3_inside_13 : decode cX3_inside 13 = .ok (.ifCond .ge 7, 3) := dk_156 0 7 (dk_at dksX3_inside_0 13 rfl rfl)
theorem dX3_inside_16 : decode cX3_inside 16 = .ok (.iconst 1, 1) := dk_4 (dk_at dksX3_inside_0 16 rfl rfl)
theorem dX3_inside_17 : decode cX3_inside 17 = .ok (.goto 4, 3) := dk_167 0 4 (dk_at dksX3_inside_0 17 rfl rfl)
theorem dX3_inside_20 : decode cX3_inside 20 = .ok (.iconst 0, 1) := dk_3 (dk_at dksX3_inside_0 20 rfl rfl)
theorem dX3_inside_21 : decode cX3_inside 21 = .ok (.ireturn, 1) := dk_172 (dk_at dksX3_inside_0 21 rfl rfl)
abbrev cX3_other : ByteArray := prog_7_method_3_code
def yX3_other : MethodName := ⟨RX3, "other", "(I)I"⟩
def dkwX3_other_0 : List UInt8 := [4, 26, 184, 0, 17, 100, 172]
abbrev dktX3_other_0 : List UInt8 := dkwX3_other_0 ++ []
theorem dksX3_other_0 : cX3_other.data.toList.drop 0 = dktX3_other_0 := by decide +kernel
theorem dX3_other_0 : decode cX3_other 0 = .ok (.iconst 1, 1) := dk_4 (dk_at dksX3_other_0 0 rfl rfl)
theorem dX3_other_1 : decode cX3_other 1 = .ok (.iload_n 0, 1) := dk_26 (dk_at dksX3_other_0 1 rfl rfl)
theorem dX3_other_2 : decode cX3_other 2 = .ok (.invokestatic 17, 3) := dk_184 0 17 (dk_at dksX3_other_0 2 rfl rfl)
theorem dX3_other_5 : decode cX3_other 5 = .ok (.isub, 1) := dk_100 (dk_at dksX3_other_0 5 rfl rfl)
theorem dX3_other_6 : decode cX3_other 6 = .ok (.ireturn, 1) := dk_172 (dk_at dksX3_other_0 6 rfl rfl)
abbrev cX3_minus : ByteArray := prog_7_method_9_code
def yX3_minus : MethodName := ⟨RX3, "minus", "(I)Z"⟩
def dkwX3_minus_2 : List UInt8 := [46, 133, 101, 182, 0, 33, 4, 172]
abbrev dktX3_minus_2 : List UInt8 := dkwX3_minus_2 ++ []
def dkwX3_minus_1 : List UInt8 := [180, 0, 7, 28, 47, 42, 180, 0, 7, 29, 47, 101, 42, 180, 0, 13, 28, 46, 133, 42, 180, 0, 13, 29]
abbrev dktX3_minus_1 : List UInt8 := dkwX3_minus_1 ++ dktX3_minus_2
def dkwX3_minus_0 : List UInt8 := [42, 182, 0, 37, 154, 0, 5, 3, 172, 27, 184, 0, 17, 61, 27, 184, 0, 41, 62, 42, 28, 42]
abbrev dktX3_minus_0 : List UInt8 := dkwX3_minus_0 ++ dktX3_minus_1
theorem dksX3_minus_0 : cX3_minus.data.toList.drop 0 = dktX3_minus_0 := by decide +kernel
theorem dksX3_minus_1 : cX3_minus.data.toList.drop 22 = dktX3_minus_1 := dk_seg dksX3_minus_0 22 rfl rfl
theorem dksX3_minus_2 : cX3_minus.data.toList.drop 46 = dktX3_minus_2 := dk_seg dksX3_minus_1 24 rfl rfl
theorem dX3_minus_0 : decode cX3_minus 0 = .ok (.aload_n 0, 1) := dk_42 (dk_at dksX3_minus_0 0 rfl rfl)
theorem dX3_minus_1 : decode cX3_minus 1 = .ok (.invokevirtual 37, 3) := dk_182 0 37 (dk_at dksX3_minus_0 1 rfl rfl)
theorem dX3_minus_4 : decode cX3_minus 4 = .ok (.ifCond .ne 5, 3) := dk_154 0 5 (dk_at dksX3_minus_0 4 rfl rfl)
theorem dX3_minus_7 : decode cX3_minus 7 = .ok (.iconst 0, 1) := dk_3 (dk_at dksX3_minus_0 7 rfl rfl)
theorem dX3_minus_8 : decode cX3_minus 8 = .ok (.ireturn, 1) := dk_172 (dk_at dksX3_minus_0 8 rfl rfl)
theorem dX3_minus_9 : decode cX3_minus 9 = .ok (.iload_n 1, 1) := dk_27 (dk_at dksX3_minus_0 9 rfl rfl)
theorem dX3_minus_10 : decode cX3_minus 10 = .ok (.invokestatic 17, 3) := dk_184 0 17 (dk_at dksX3_minus_0 10 rfl rfl)
theorem dX3_minus_13 : decode cX3_minus 13 = .ok (.istore_n 2, 1) := dk_61 (dk_at dksX3_minus_0 13 rfl rfl)
theorem dX3_minus_14 : decode cX3_minus 14 = .ok (.iload_n 1, 1) := dk_27 (dk_at dksX3_minus_0 14 rfl rfl)
theorem dX3_minus_15 : decode cX3_minus 15 = .ok (.invokestatic 41, 3) := dk_184 0 41 (dk_at dksX3_minus_0 15 rfl rfl)
theorem dX3_minus_18 : decode cX3_minus 18 = .ok (.istore_n 3, 1) := dk_62 (dk_at dksX3_minus_0 18 rfl rfl)
theorem dX3_minus_19 : decode cX3_minus 19 = .ok (.aload_n 0, 1) := dk_42 (dk_at dksX3_minus_0 19 rfl rfl)
theorem dX3_minus_20 : decode cX3_minus 20 = .ok (.iload_n 2, 1) := dk_28 (dk_at dksX3_minus_0 20 rfl rfl)
theorem dX3_minus_21 : decode cX3_minus 21 = .ok (.aload_n 0, 1) := dk_42 (dk_at dksX3_minus_0 21 rfl rfl)
theorem dX3_minus_22 : decode cX3_minus 22 = .ok (.getfield 7, 3) := dk_180 0 7 (dk_at dksX3_minus_1 0 rfl rfl)
theorem dX3_minus_25 : decode cX3_minus 25 = .ok (.iload_n 2, 1) := dk_28 (dk_at dksX3_minus_1 3 rfl rfl)
theorem dX3_minus_26 : decode cX3_minus 26 = .ok (.laload, 1) := dk_47 (dk_at dksX3_minus_1 4 rfl rfl)
theorem dX3_minus_27 : decode cX3_minus 27 = .ok (.aload_n 0, 1) := dk_42 (dk_at dksX3_minus_1 5 rfl rfl)
theorem dX3_minus_28 : decode cX3_minus 28 = .ok (.getfield 7, 3) := dk_180 0 7 (dk_at dksX3_minus_1 6 rfl rfl)
theorem dX3_minus_31 : decode cX3_minus 31 = .ok (.iload_n 3, 1) := dk_29 (dk_at dksX3_minus_1 9 rfl rfl)
theorem dX3_minus_32 : decode cX3_minus 32 = .ok (.laload, 1) := dk_47 (dk_at dksX3_minus_1 10 rfl rfl)
theorem dX3_minus_33 : decode cX3_minus 33 = .ok (.lsub, 1) := dk_101 (dk_at dksX3_minus_1 11 rfl rfl)
theorem dX3_minus_34 : decode cX3_minus 34 = .ok (.aload_n 0, 1) := dk_42 (dk_at dksX3_minus_1 12 rfl rfl)
theorem dX3_minus_35 : decode cX3_minus 35 = .ok (.getfield 13, 3) := dk_180 0 13 (dk_at dksX3_minus_1 13 rfl rfl)
theorem dX3_minus_38 : decode cX3_minus 38 = .ok (.iload_n 2, 1) := dk_28 (dk_at dksX3_minus_1 16 rfl rfl)
theorem dX3_minus_39 : decode cX3_minus 39 = .ok (.iaload, 1) := dk_46 (dk_at dksX3_minus_1 17 rfl rfl)
theorem dX3_minus_40 : decode cX3_minus 40 = .ok (.i2l, 1) := dk_133 (dk_at dksX3_minus_1 18 rfl rfl)
theorem dX3_minus_41 : decode cX3_minus 41 = .ok (.aload_n 0, 1) := dk_42 (dk_at dksX3_minus_1 19 rfl rfl)
theorem dX3_minus_42 : decode cX3_minus 42 = .ok (.getfield 13, 3) := dk_180 0 13 (dk_at dksX3_minus_1 20 rfl rfl)
theorem dX3_minus_45 : decode cX3_minus 45 = .ok (.iload_n 3, 1) := dk_29 (dk_at dksX3_minus_1 23 rfl rfl)
theorem dX3_minus_46 : decode cX3_minus 46 = .ok (.iaload, 1) := dk_46 (dk_at dksX3_minus_2 0 rfl rfl)
theorem dX3_minus_47 : decode cX3_minus 47 = .ok (.i2l, 1) := dk_133 (dk_at dksX3_minus_2 1 rfl rfl)
theorem dX3_minus_48 : decode cX3_minus 48 = .ok (.lsub, 1) := dk_101 (dk_at dksX3_minus_2 2 rfl rfl)
theorem dX3_minus_49 : decode cX3_minus 49 = .ok (.invokevirtual 33, 3) := dk_182 0 33 (dk_at dksX3_minus_2 3 rfl rfl)
theorem dX3_minus_52 : decode cX3_minus 52 = .ok (.iconst 1, 1) := dk_4 (dk_at dksX3_minus_2 6 rfl rfl)
theorem dX3_minus_53 : decode cX3_minus 53 = .ok (.ireturn, 1) := dk_172 (dk_at dksX3_minus_2 7 rfl rfl)
abbrev cX3_seconds : ByteArray := prog_7_method_10_code
def yX3_seconds : MethodName := ⟨RX3, "seconds", "(II)Z"⟩
def dkwX3_seconds_1 : List UInt8 := [97, 42, 180, 0, 13, 29, 46, 133, 182, 0, 33, 4, 172]
abbrev dktX3_seconds_1 : List UInt8 := dkwX3_seconds_1 ++ []
def dkwX3_seconds_0 : List UInt8 := [42, 182, 0, 37, 154, 0, 5, 3, 172, 27, 184, 0, 17, 62, 42, 29, 42, 180, 0, 7, 29, 47, 28, 133]
abbrev dktX3_seconds_0 : List UInt8 := dkwX3_seconds_0 ++ dktX3_seconds_1
theorem dksX3_seconds_0 : cX3_seconds.data.toList.drop 0 = dktX3_seconds_0 := by decide +kernel
theorem dksX3_seconds_1 : cX3_seconds.data.toList.drop 24 = dktX3_seconds_1 := dk_seg dksX3_seconds_0 24 rfl rfl
theorem dX3_seconds_0 : decode cX3_seconds 0 = .ok (.aload_n 0, 1) := dk_42 (dk_at dksX3_seconds_0 0 rfl rfl)
theorem dX3_seconds_1 : decode cX3_seconds 1 = .ok (.invokevirtual 37, 3) := dk_182 0 37 (dk_at dksX3_seconds_0 1 rfl rfl)
theorem dX3_seconds_4 : decode cX3_seconds 4 = .ok (.ifCond .ne 5, 3) := dk_154 0 5 (dk_at dksX3_seconds_0 4 rfl rfl)
theorem dX3_seconds_7 : decode cX3_seconds 7 = .ok (.iconst 0, 1) := dk_3 (dk_at dksX3_seconds_0 7 rfl rfl)
theorem dX3_seconds_8 : decode cX3_seconds 8 = .ok (.ireturn, 1) := dk_172 (dk_at dksX3_seconds_0 8 rfl rfl)
theorem dX3_seconds_9 : decode cX3_seconds 9 = .ok (.iload_n 1, 1) := dk_27 (dk_at dksX3_seconds_0 9 rfl rfl)
theorem dX3_seconds_10 : decode cX3_seconds 10 = .ok (.invokestatic 17, 3) := dk_184 0 17 (dk_at dksX3_seconds_0 10 rfl rfl)
theorem dX3_seconds_13 : decode cX3_seconds 13 = .ok (.istore_n 3, 1) := dk_62 (dk_at dksX3_seconds_0 13 rfl rfl)
theorem dX3_seconds_14 : decode cX3_seconds 14 = .ok (.aload_n 0, 1) := dk_42 (dk_at dksX3_seconds_0 14 rfl rfl)
theorem dX3_seconds_15 : decode cX3_seconds 15 = .ok (.iload_n 3, 1) := dk_29 (dk_at dksX3_seconds_0 15 rfl rfl)
theorem dX3_seconds_16 : decode cX3_seconds 16 = .ok (.aload_n 0, 1) := dk_42 (dk_at dksX3_seconds_0 16 rfl rfl)
theorem dX3_seconds_17 : decode cX3_seconds 17 = .ok (.getfield 7, 3) := dk_180 0 7 (dk_at dksX3_seconds_0 17 rfl rfl)
theorem dX3_seconds_20 : decode cX3_seconds 20 = .ok (.iload_n 3, 1) := dk_29 (dk_at dksX3_seconds_0 20 rfl rfl)
theorem dX3_seconds_21 : decode cX3_seconds 21 = .ok (.laload, 1) := dk_47 (dk_at dksX3_seconds_0 21 rfl rfl)
theorem dX3_seconds_22 : decode cX3_seconds 22 = .ok (.iload_n 2, 1) := dk_28 (dk_at dksX3_seconds_0 22 rfl rfl)
theorem dX3_seconds_23 : decode cX3_seconds 23 = .ok (.i2l, 1) := dk_133 (dk_at dksX3_seconds_0 23 rfl rfl)
theorem dX3_seconds_24 : decode cX3_seconds 24 = .ok (.ladd, 1) := dk_97 (dk_at dksX3_seconds_1 0 rfl rfl)
theorem dX3_seconds_25 : decode cX3_seconds 25 = .ok (.aload_n 0, 1) := dk_42 (dk_at dksX3_seconds_1 1 rfl rfl)
theorem dX3_seconds_26 : decode cX3_seconds 26 = .ok (.getfield 13, 3) := dk_180 0 13 (dk_at dksX3_seconds_1 2 rfl rfl)
theorem dX3_seconds_29 : decode cX3_seconds 29 = .ok (.iload_n 3, 1) := dk_29 (dk_at dksX3_seconds_1 5 rfl rfl)
theorem dX3_seconds_30 : decode cX3_seconds 30 = .ok (.iaload, 1) := dk_46 (dk_at dksX3_seconds_1 6 rfl rfl)
theorem dX3_seconds_31 : decode cX3_seconds 31 = .ok (.i2l, 1) := dk_133 (dk_at dksX3_seconds_1 7 rfl rfl)
theorem dX3_seconds_32 : decode cX3_seconds 32 = .ok (.invokevirtual 33, 3) := dk_182 0 33 (dk_at dksX3_seconds_1 8 rfl rfl)
theorem dX3_seconds_35 : decode cX3_seconds 35 = .ok (.iconst 1, 1) := dk_4 (dk_at dksX3_seconds_1 11 rfl rfl)
theorem dX3_seconds_36 : decode cX3_seconds 36 = .ok (.ireturn, 1) := dk_172 (dk_at dksX3_seconds_1 12 rfl rfl)
abbrev cX3_millis : ByteArray := prog_7_method_11_code
def yX3_millis : MethodName := ⟨RX3, "millis", "(II)Z"⟩
def dkwX3_millis_2 : List UInt8 := [133, 22, 6, 20, 0, 44, 105, 97, 182, 0, 33, 4, 172]
abbrev dktX3_millis_2 : List UInt8 := dkwX3_millis_2 ++ []
def dkwX3_millis_1 : List UInt8 := [17, 3, 232, 112, 133, 55, 6, 42, 29, 42, 180, 0, 7, 29, 47, 22, 4, 97, 42, 180, 0, 13, 29, 46]
abbrev dktX3_millis_1 : List UInt8 := dkwX3_millis_1 ++ dktX3_millis_2
def dkwX3_millis_0 : List UInt8 := [42, 182, 0, 37, 154, 0, 5, 3, 172, 27, 184, 0, 17, 62, 28, 17, 3, 232, 108, 133, 55, 4, 28]
abbrev dktX3_millis_0 : List UInt8 := dkwX3_millis_0 ++ dktX3_millis_1
theorem dksX3_millis_0 : cX3_millis.data.toList.drop 0 = dktX3_millis_0 := by decide +kernel
theorem dksX3_millis_1 : cX3_millis.data.toList.drop 23 = dktX3_millis_1 := dk_seg dksX3_millis_0 23 rfl rfl
theorem dksX3_millis_2 : cX3_millis.data.toList.drop 47 = dktX3_millis_2 := dk_seg dksX3_millis_1 24 rfl rfl
theorem dX3_millis_0 : decode cX3_millis 0 = .ok (.aload_n 0, 1) := dk_42 (dk_at dksX3_millis_0 0 rfl rfl)
theorem dX3_millis_1 : decode cX3_millis 1 = .ok (.invokevirtual 37, 3) := dk_182 0 37 (dk_at dksX3_millis_0 1 rfl rfl)
theorem dX3_millis_4 : decode cX3_millis 4 = .ok (.ifCond .ne 5, 3) := dk_154 0 5 (dk_at dksX3_millis_0 4 rfl rfl)
theorem dX3_millis_7 : decode cX3_millis 7 = .ok (.iconst 0, 1) := dk_3 (dk_at dksX3_millis_0 7 rfl rfl)
theorem dX3_millis_8 : decode cX3_millis 8 = .ok (.ireturn, 1) := dk_172 (dk_at dksX3_millis_0 8 rfl rfl)
theorem dX3_millis_9 : decode cX3_millis 9 = .ok (.iload_n 1, 1) := dk_27 (dk_at dksX3_millis_0 9 rfl rfl)
theorem dX3_millis_10 : decode cX3_millis 10 = .ok (.invokestatic 17, 3) := dk_184 0 17 (dk_at dksX3_millis_0 10 rfl rfl)
theorem dX3_millis_13 : decode cX3_millis 13 = .ok (.istore_n 3, 1) := dk_62 (dk_at dksX3_millis_0 13 rfl rfl)
theorem dX3_millis_14 : decode cX3_millis 14 = .ok (.iload_n 2, 1) := dk_28 (dk_at dksX3_millis_0 14 rfl rfl)
theorem dX3_millis_15 : decode cX3_millis 15 = .ok (.sipush 1000, 3) := dk_17 3 232 (dk_at dksX3_millis_0 15 rfl rfl)
theorem dX3_millis_18 : decode cX3_millis 18 = .ok (.idiv, 1) := dk_108 (dk_at dksX3_millis_0 18 rfl rfl)
theorem dX3_millis_19 : decode cX3_millis 19 = .ok (.i2l, 1) := dk_133 (dk_at dksX3_millis_0 19 rfl rfl)
theorem dX3_millis_20 : decode cX3_millis 20 = .ok (.lstore 4, 2) := dk_55 4 (dk_at dksX3_millis_0 20 rfl rfl)
theorem dX3_millis_22 : decode cX3_millis 22 = .ok (.iload_n 2, 1) := dk_28 (dk_at dksX3_millis_0 22 rfl rfl)
theorem dX3_millis_23 : decode cX3_millis 23 = .ok (.sipush 1000, 3) := dk_17 3 232 (dk_at dksX3_millis_1 0 rfl rfl)
theorem dX3_millis_26 : decode cX3_millis 26 = .ok (.irem, 1) := dk_112 (dk_at dksX3_millis_1 3 rfl rfl)
theorem dX3_millis_27 : decode cX3_millis 27 = .ok (.i2l, 1) := dk_133 (dk_at dksX3_millis_1 4 rfl rfl)
theorem dX3_millis_28 : decode cX3_millis 28 = .ok (.lstore 6, 2) := dk_55 6 (dk_at dksX3_millis_1 5 rfl rfl)
theorem dX3_millis_30 : decode cX3_millis 30 = .ok (.aload_n 0, 1) := dk_42 (dk_at dksX3_millis_1 7 rfl rfl)
theorem dX3_millis_31 : decode cX3_millis 31 = .ok (.iload_n 3, 1) := dk_29 (dk_at dksX3_millis_1 8 rfl rfl)
theorem dX3_millis_32 : decode cX3_millis 32 = .ok (.aload_n 0, 1) := dk_42 (dk_at dksX3_millis_1 9 rfl rfl)
theorem dX3_millis_33 : decode cX3_millis 33 = .ok (.getfield 7, 3) := dk_180 0 7 (dk_at dksX3_millis_1 10 rfl rfl)
theorem dX3_millis_36 : decode cX3_millis 36 = .ok (.iload_n 3, 1) := dk_29 (dk_at dksX3_millis_1 13 rfl rfl)
theorem dX3_millis_37 : decode cX3_millis 37 = .ok (.laload, 1) := dk_47 (dk_at dksX3_millis_1 14 rfl rfl)
theorem dX3_millis_38 : decode cX3_millis 38 = .ok (.lload 4, 2) := dk_22 4 (dk_at dksX3_millis_1 15 rfl rfl)
theorem dX3_millis_40 : decode cX3_millis 40 = .ok (.ladd, 1) := dk_97 (dk_at dksX3_millis_1 17 rfl rfl)
theorem dX3_millis_41 : decode cX3_millis 41 = .ok (.aload_n 0, 1) := dk_42 (dk_at dksX3_millis_1 18 rfl rfl)
theorem dX3_millis_42 : decode cX3_millis 42 = .ok (.getfield 13, 3) := dk_180 0 13 (dk_at dksX3_millis_1 19 rfl rfl)
theorem dX3_millis_45 : decode cX3_millis 45 = .ok (.iload_n 3, 1) := dk_29 (dk_at dksX3_millis_1 22 rfl rfl)
theorem dX3_millis_46 : decode cX3_millis 46 = .ok (.iaload, 1) := dk_46 (dk_at dksX3_millis_1 23 rfl rfl)
theorem dX3_millis_47 : decode cX3_millis 47 = .ok (.i2l, 1) := dk_133 (dk_at dksX3_millis_2 0 rfl rfl)
theorem dX3_millis_48 : decode cX3_millis 48 = .ok (.lload 6, 2) := dk_22 6 (dk_at dksX3_millis_2 1 rfl rfl)
theorem dX3_millis_50 : decode cX3_millis 50 = .ok (.ldc2_w 44, 3) := dk_20 0 44 (dk_at dksX3_millis_2 3 rfl rfl)
theorem dX3_millis_53 : decode cX3_millis 53 = .ok (.lmul, 1) := dk_105 (dk_at dksX3_millis_2 6 rfl rfl)
theorem dX3_millis_54 : decode cX3_millis 54 = .ok (.ladd, 1) := dk_97 (dk_at dksX3_millis_2 7 rfl rfl)
theorem dX3_millis_55 : decode cX3_millis 55 = .ok (.invokevirtual 33, 3) := dk_182 0 33 (dk_at dksX3_millis_2 8 rfl rfl)
theorem dX3_millis_58 : decode cX3_millis 58 = .ok (.iconst 1, 1) := dk_4 (dk_at dksX3_millis_2 11 rfl rfl)
theorem dX3_millis_59 : decode cX3_millis 59 = .ok (.ireturn, 1) := dk_172 (dk_at dksX3_millis_2 12 rfl rfl)
abbrev cX3_nanos : ByteArray := prog_7_method_12_code
def yX3_nanos : MethodName := ⟨RX3, "nanos", "(II)Z"⟩
def dkwX3_nanos_1 : List UInt8 := [180, 0, 13, 29, 46, 133, 28, 133, 97, 182, 0, 33, 4, 172]
abbrev dktX3_nanos_1 : List UInt8 := dkwX3_nanos_1 ++ []
def dkwX3_nanos_0 : List UInt8 := [42, 182, 0, 37, 154, 0, 5, 3, 172, 27, 184, 0, 17, 62, 42, 29, 42, 180, 0, 7, 29, 47, 42]
abbrev dktX3_nanos_0 : List UInt8 := dkwX3_nanos_0 ++ dktX3_nanos_1
theorem dksX3_nanos_0 : cX3_nanos.data.toList.drop 0 = dktX3_nanos_0 := by decide +kernel
theorem dksX3_nanos_1 : cX3_nanos.data.toList.drop 23 = dktX3_nanos_1 := dk_seg dksX3_nanos_0 23 rfl rfl
theorem dX3_nanos_0 : decode cX3_nanos 0 = .ok (.aload_n 0, 1) := dk_42 (dk_at dksX3_nanos_0 0 rfl rfl)
theorem dX3_nanos_1 : decode cX3_nanos 1 = .ok (.invokevirtual 37, 3) := dk_182 0 37 (dk_at dksX3_nanos_0 1 rfl rfl)
theorem dX3_nanos_4 : decode cX3_nanos 4 = .ok (.ifCond .ne 5, 3) := dk_154 0 5 (dk_at dksX3_nanos_0 4 rfl rfl)
theorem dX3_nanos_7 : decode cX3_nanos 7 = .ok (.iconst 0, 1) := dk_3 (dk_at dksX3_nanos_0 7 rfl rfl)
theorem dX3_nanos_8 : decode cX3_nanos 8 = .ok (.ireturn, 1) := dk_172 (dk_at dksX3_nanos_0 8 rfl rfl)
theorem dX3_nanos_9 : decode cX3_nanos 9 = .ok (.iload_n 1, 1) := dk_27 (dk_at dksX3_nanos_0 9 rfl rfl)
theorem dX3_nanos_10 : decode cX3_nanos 10 = .ok (.invokestatic 17, 3) := dk_184 0 17 (dk_at dksX3_nanos_0 10 rfl rfl)
theorem dX3_nanos_13 : decode cX3_nanos 13 = .ok (.istore_n 3, 1) := dk_62 (dk_at dksX3_nanos_0 13 rfl rfl)
theorem dX3_nanos_14 : decode cX3_nanos 14 = .ok (.aload_n 0, 1) := dk_42 (dk_at dksX3_nanos_0 14 rfl rfl)
theorem dX3_nanos_15 : decode cX3_nanos 15 = .ok (.iload_n 3, 1) := dk_29 (dk_at dksX3_nanos_0 15 rfl rfl)
theorem dX3_nanos_16 : decode cX3_nanos 16 = .ok (.aload_n 0, 1) := dk_42 (dk_at dksX3_nanos_0 16 rfl rfl)
theorem dX3_nanos_17 : decode cX3_nanos 17 = .ok (.getfield 7, 3) := dk_180 0 7 (dk_at dksX3_nanos_0 17 rfl rfl)
theorem dX3_nanos_20 : decode cX3_nanos 20 = .ok (.iload_n 3, 1) := dk_29 (dk_at dksX3_nanos_0 20 rfl rfl)
theorem dX3_nanos_21 : decode cX3_nanos 21 = .ok (.laload, 1) := dk_47 (dk_at dksX3_nanos_0 21 rfl rfl)
theorem dX3_nanos_22 : decode cX3_nanos 22 = .ok (.aload_n 0, 1) := dk_42 (dk_at dksX3_nanos_0 22 rfl rfl)
theorem dX3_nanos_23 : decode cX3_nanos 23 = .ok (.getfield 13, 3) := dk_180 0 13 (dk_at dksX3_nanos_1 0 rfl rfl)
theorem dX3_nanos_26 : decode cX3_nanos 26 = .ok (.iload_n 3, 1) := dk_29 (dk_at dksX3_nanos_1 3 rfl rfl)
theorem dX3_nanos_27 : decode cX3_nanos 27 = .ok (.iaload, 1) := dk_46 (dk_at dksX3_nanos_1 4 rfl rfl)
theorem dX3_nanos_28 : decode cX3_nanos 28 = .ok (.i2l, 1) := dk_133 (dk_at dksX3_nanos_1 5 rfl rfl)
theorem dX3_nanos_29 : decode cX3_nanos 29 = .ok (.iload_n 2, 1) := dk_28 (dk_at dksX3_nanos_1 6 rfl rfl)
theorem dX3_nanos_30 : decode cX3_nanos 30 = .ok (.i2l, 1) := dk_133 (dk_at dksX3_nanos_1 7 rfl rfl)
theorem dX3_nanos_31 : decode cX3_nanos 31 = .ok (.ladd, 1) := dk_97 (dk_at dksX3_nanos_1 8 rfl rfl)
theorem dX3_nanos_32 : decode cX3_nanos 32 = .ok (.invokevirtual 33, 3) := dk_182 0 33 (dk_at dksX3_nanos_1 9 rfl rfl)
theorem dX3_nanos_35 : decode cX3_nanos 35 = .ok (.iconst 1, 1) := dk_4 (dk_at dksX3_nanos_1 12 rfl rfl)
theorem dX3_nanos_36 : decode cX3_nanos 36 = .ok (.ireturn, 1) := dk_172 (dk_at dksX3_nanos_1 13 rfl rfl)
abbrev cX3_whole : ByteArray := prog_7_method_13_code
def yX3_whole : MethodName := ⟨RX3, "whole", "(I)J"⟩
def dkwX3_whole_0 : List UInt8 := [42, 180, 0, 7, 27, 184, 0, 17, 47, 173]
abbrev dktX3_whole_0 : List UInt8 := dkwX3_whole_0 ++ []
theorem dksX3_whole_0 : cX3_whole.data.toList.drop 0 = dktX3_whole_0 := by decide +kernel
theorem dX3_whole_0 : decode cX3_whole 0 = .ok (.aload_n 0, 1) := dk_42 (dk_at dksX3_whole_0 0 rfl rfl)
theorem dX3_whole_1 : decode cX3_whole 1 = .ok (.getfield 7, 3) := dk_180 0 7 (dk_at dksX3_whole_0 1 rfl rfl)
theorem dX3_whole_4 : decode cX3_whole 4 = .ok (.iload_n 1, 1) := dk_27 (dk_at dksX3_whole_0 4 rfl rfl)
theorem dX3_whole_5 : decode cX3_whole 5 = .ok (.invokestatic 17, 3) := dk_184 0 17 (dk_at dksX3_whole_0 5 rfl rfl)
theorem dX3_whole_8 : decode cX3_whole 8 = .ok (.laload, 1) := dk_47 (dk_at dksX3_whole_0 8 rfl rfl)
theorem dX3_whole_9 : decode cX3_whole 9 = .ok (.lreturn, 1) := dk_173 (dk_at dksX3_whole_0 9 rfl rfl)
abbrev cX3_nano : ByteArray := prog_7_method_14_code
def yX3_nano : MethodName := ⟨RX3, "nano", "(I)I"⟩
def dkwX3_nano_0 : List UInt8 := [42, 180, 0, 13, 27, 184, 0, 17, 46, 172]
abbrev dktX3_nano_0 : List UInt8 := dkwX3_nano_0 ++ []
theorem dksX3_nano_0 : cX3_nano.data.toList.drop 0 = dktX3_nano_0 := by decide +kernel
theorem dX3_nano_0 : decode cX3_nano 0 = .ok (.aload_n 0, 1) := dk_42 (dk_at dksX3_nano_0 0 rfl rfl)
theorem dX3_nano_1 : decode cX3_nano 1 = .ok (.getfield 13, 3) := dk_180 0 13 (dk_at dksX3_nano_0 1 rfl rfl)
theorem dX3_nano_4 : decode cX3_nano 4 = .ok (.iload_n 1, 1) := dk_27 (dk_at dksX3_nano_0 4 rfl rfl)
theorem dX3_nano_5 : decode cX3_nano 5 = .ok (.invokestatic 17, 3) := dk_184 0 17 (dk_at dksX3_nano_0 5 rfl rfl)
theorem dX3_nano_8 : decode cX3_nano 8 = .ok (.iaload, 1) := dk_46 (dk_at dksX3_nano_0 8 rfl rfl)
theorem dX3_nano_9 : decode cX3_nano 9 = .ok (.ireturn, 1) := dk_172 (dk_at dksX3_nano_0 9 rfl rfl)
abbrev cX3_below : ByteArray := prog_7_method_15_code
def yX3_below : MethodName := ⟨RX3, "below", "(I)Z"⟩
def dkwX3_below_0 : List UInt8 := [42, 180, 0, 7, 27, 184, 0, 17, 47, 9, 148, 156, 0, 7, 4, 167, 0, 4, 3, 172]
abbrev dktX3_below_0 : List UInt8 := dkwX3_below_0 ++ []
theorem dksX3_below_0 : cX3_below.data.toList.drop 0 = dktX3_below_0 := by decide +kernel
theorem dX3_below_0 : decode cX3_below 0 = .ok (.aload_n 0, 1) := dk_42 (dk_at dksX3_below_0 0 rfl rfl)
theorem dX3_below_1 : decode cX3_below 1 = .ok (.getfield 7, 3) := dk_180 0 7 (dk_at dksX3_below_0 1 rfl rfl)
theorem dX3_below_4 : decode cX3_below 4 = .ok (.iload_n 1, 1) := dk_27 (dk_at dksX3_below_0 4 rfl rfl)
theorem dX3_below_5 : decode cX3_below 5 = .ok (.invokestatic 17, 3) := dk_184 0 17 (dk_at dksX3_below_0 5 rfl rfl)
theorem dX3_below_8 : decode cX3_below 8 = .ok (.laload, 1) := dk_47 (dk_at dksX3_below_0 8 rfl rfl)
theorem dX3_below_9 : decode cX3_below 9 = .ok (.lconst 0, 1) := dk_9 (dk_at dksX3_below_0 9 rfl rfl)
theorem dX3_below_10 : decode cX3_below 10 = .ok (.lcmp, 1) := dk_148 (dk_at dksX3_below_0 10 rfl rfl)
theorem dX3_below_11 : decode cX3_below 11 = .ok (.ifCond .ge 7, 3) := dk_156 0 7 (dk_at dksX3_below_0 11 rfl rfl)
theorem dX3_below_14 : decode cX3_below 14 = .ok (.iconst 1, 1) := dk_4 (dk_at dksX3_below_0 14 rfl rfl)
theorem dX3_below_15 : decode cX3_below 15 = .ok (.goto 4, 3) := dk_167 0 4 (dk_at dksX3_below_0 15 rfl rfl)
theorem dX3_below_18 : decode cX3_below 18 = .ok (.iconst 0, 1) := dk_3 (dk_at dksX3_below_0 18 rfl rfl)
theorem dX3_below_19 : decode cX3_below 19 = .ok (.ireturn, 1) := dk_172 (dk_at dksX3_below_0 19 rfl rfl)
abbrev cX3_nought : ByteArray := prog_7_method_16_code
def yX3_nought : MethodName := ⟨RX3, "nought", "(I)Z"⟩
def dkwX3_nought_1 : List UInt8 := [154, 0, 7, 4, 167, 0, 4, 3, 172]
abbrev dktX3_nought_1 : List UInt8 := dkwX3_nought_1 ++ []
def dkwX3_nought_0 : List UInt8 := [27, 184, 0, 17, 61, 42, 180, 0, 7, 28, 47, 9, 148, 154, 0, 16, 42, 180, 0, 13, 28, 46]
abbrev dktX3_nought_0 : List UInt8 := dkwX3_nought_0 ++ dktX3_nought_1
theorem dksX3_nought_0 : cX3_nought.data.toList.drop 0 = dktX3_nought_0 := by decide +kernel
theorem dksX3_nought_1 : cX3_nought.data.toList.drop 22 = dktX3_nought_1 := dk_seg dksX3_nought_0 22 rfl rfl
theorem dX3_nought_0 : decode cX3_nought 0 = .ok (.iload_n 1, 1) := dk_27 (dk_at dksX3_nought_0 0 rfl rfl)
theorem dX3_nought_1 : decode cX3_nought 1 = .ok (.invokestatic 17, 3) := dk_184 0 17 (dk_at dksX3_nought_0 1 rfl rfl)
theorem dX3_nought_4 : decode cX3_nought 4 = .ok (.istore_n 2, 1) := dk_61 (dk_at dksX3_nought_0 4 rfl rfl)
theorem dX3_nought_5 : decode cX3_nought 5 = .ok (.aload_n 0, 1) := dk_42 (dk_at dksX3_nought_0 5 rfl rfl)
theorem dX3_nought_6 : decode cX3_nought 6 = .ok (.getfield 7, 3) := dk_180 0 7 (dk_at dksX3_nought_0 6 rfl rfl)
theorem dX3_nought_9 : decode cX3_nought 9 = .ok (.iload_n 2, 1) := dk_28 (dk_at dksX3_nought_0 9 rfl rfl)
theorem dX3_nought_10 : decode cX3_nought 10 = .ok (.laload, 1) := dk_47 (dk_at dksX3_nought_0 10 rfl rfl)
theorem dX3_nought_11 : decode cX3_nought 11 = .ok (.lconst 0, 1) := dk_9 (dk_at dksX3_nought_0 11 rfl rfl)
theorem dX3_nought_12 : decode cX3_nought 12 = .ok (.lcmp, 1) := dk_148 (dk_at dksX3_nought_0 12 rfl rfl)
theorem dX3_nought_13 : decode cX3_nought 13 = .ok (.ifCond .ne 16, 3) := dk_154 0 16 (dk_at dksX3_nought_0 13 rfl rfl)
theorem dX3_nought_16 : decode cX3_nought 16 = .ok (.aload_n 0, 1) := dk_42 (dk_at dksX3_nought_0 16 rfl rfl)
theorem dX3_nought_17 : decode cX3_nought 17 = .ok (.getfield 13, 3) := dk_180 0 13 (dk_at dksX3_nought_0 17 rfl rfl)
theorem dX3_nought_20 : decode cX3_nought 20 = .ok (.iload_n 2, 1) := dk_28 (dk_at dksX3_nought_0 20 rfl rfl)
theorem dX3_nought_21 : decode cX3_nought 21 = .ok (.iaload, 1) := dk_46 (dk_at dksX3_nought_0 21 rfl rfl)
theorem dX3_nought_22 : decode cX3_nought 22 = .ok (.ifCond .ne 7, 3) := dk_154 0 7 (dk_at dksX3_nought_1 0 rfl rfl)
theorem dX3_nought_25 : decode cX3_nought 25 = .ok (.iconst 1, 1) := dk_4 (dk_at dksX3_nought_1 3 rfl rfl)
theorem dX3_nought_26 : decode cX3_nought 26 = .ok (.goto 4, 3) := dk_167 0 4 (dk_at dksX3_nought_1 4 rfl rfl)
theorem dX3_nought_29 : decode cX3_nought 29 = .ok (.iconst 0, 1) := dk_3 (dk_at dksX3_nought_1 7 rfl rfl)
theorem dX3_nought_30 : decode cX3_nought 30 = .ok (.ireturn, 1) := dk_172 (dk_at dksX3_nought_1 8 rfl rfl)
abbrev cX3_order : ByteArray := prog_7_method_17_code
def yX3_order : MethodName := ⟨RX3, "order", "()I"⟩
def dkwX3_order_2 : List UInt8 := [162, 0, 5, 2, 172, 42, 180, 0, 13, 3, 46, 42, 180, 0, 13, 4, 46, 164, 0, 5, 4, 172, 3, 172]
abbrev dktX3_order_2 : List UInt8 := dkwX3_order_2 ++ []
def dkwX3_order_1 : List UInt8 := [42, 180, 0, 7, 4, 47, 148, 158, 0, 5, 4, 172, 42, 180, 0, 13, 3, 46, 42, 180, 0, 13, 4, 46]
abbrev dktX3_order_1 : List UInt8 := dkwX3_order_1 ++ dktX3_order_2
def dkwX3_order_0 : List UInt8 := [42, 180, 0, 7, 3, 47, 42, 180, 0, 7, 4, 47, 148, 156, 0, 5, 2, 172, 42, 180, 0, 7, 3, 47]
abbrev dktX3_order_0 : List UInt8 := dkwX3_order_0 ++ dktX3_order_1
theorem dksX3_order_0 : cX3_order.data.toList.drop 0 = dktX3_order_0 := by decide +kernel
theorem dksX3_order_1 : cX3_order.data.toList.drop 24 = dktX3_order_1 := dk_seg dksX3_order_0 24 rfl rfl
theorem dksX3_order_2 : cX3_order.data.toList.drop 48 = dktX3_order_2 := dk_seg dksX3_order_1 24 rfl rfl
theorem dX3_order_0 : decode cX3_order 0 = .ok (.aload_n 0, 1) := dk_42 (dk_at dksX3_order_0 0 rfl rfl)
theorem dX3_order_1 : decode cX3_order 1 = .ok (.getfield 7, 3) := dk_180 0 7 (dk_at dksX3_order_0 1 rfl rfl)
theorem dX3_order_4 : decode cX3_order 4 = .ok (.iconst 0, 1) := dk_3 (dk_at dksX3_order_0 4 rfl rfl)
theorem dX3_order_5 : decode cX3_order 5 = .ok (.laload, 1) := dk_47 (dk_at dksX3_order_0 5 rfl rfl)
theorem dX3_order_6 : decode cX3_order 6 = .ok (.aload_n 0, 1) := dk_42 (dk_at dksX3_order_0 6 rfl rfl)
theorem dX3_order_7 : decode cX3_order 7 = .ok (.getfield 7, 3) := dk_180 0 7 (dk_at dksX3_order_0 7 rfl rfl)
theorem dX3_order_10 : decode cX3_order 10 = .ok (.iconst 1, 1) := dk_4 (dk_at dksX3_order_0 10 rfl rfl)
theorem dX3_order_11 : decode cX3_order 11 = .ok (.laload, 1) := dk_47 (dk_at dksX3_order_0 11 rfl rfl)
theorem dX3_order_12 : decode cX3_order 12 = .ok (.lcmp, 1) := dk_148 (dk_at dksX3_order_0 12 rfl rfl)
theorem dX3_order_13 : decode cX3_order 13 = .ok (.ifCond .ge 5, 3) := dk_156 0 5 (dk_at dksX3_order_0 13 rfl rfl)
theorem dX3_order_16 : decode cX3_order 16 = .ok (.iconst (-1), 1) := dk_2 (dk_at dksX3_order_0 16 rfl rfl)
theorem dX3_order_17 : decode cX3_order 17 = .ok (.ireturn, 1) := dk_172 (dk_at dksX3_order_0 17 rfl rfl)
theorem dX3_order_18 : decode cX3_order 18 = .ok (.aload_n 0, 1) := dk_42 (dk_at dksX3_order_0 18 rfl rfl)
theorem dX3_order_19 : decode cX3_order 19 = .ok (.getfield 7, 3) := dk_180 0 7 (dk_at dksX3_order_0 19 rfl rfl)
theorem dX3_order_22 : decode cX3_order 22 = .ok (.iconst 0, 1) := dk_3 (dk_at dksX3_order_0 22 rfl rfl)
theorem dX3_order_23 : decode cX3_order 23 = .ok (.laload, 1) := dk_47 (dk_at dksX3_order_0 23 rfl rfl)
theorem dX3_order_24 : decode cX3_order 24 = .ok (.aload_n 0, 1) := dk_42 (dk_at dksX3_order_1 0 rfl rfl)
theorem dX3_order_25 : decode cX3_order 25 = .ok (.getfield 7, 3) := dk_180 0 7 (dk_at dksX3_order_1 1 rfl rfl)
theorem dX3_order_28 : decode cX3_order 28 = .ok (.iconst 1, 1) := dk_4 (dk_at dksX3_order_1 4 rfl rfl)
theorem dX3_order_29 : decode cX3_order 29 = .ok (.laload, 1) := dk_47 (dk_at dksX3_order_1 5 rfl rfl)
theorem dX3_order_30 : decode cX3_order 30 = .ok (.lcmp, 1) := dk_148 (dk_at dksX3_order_1 6 rfl rfl)
theorem dX3_order_31 : decode cX3_order 31 = .ok (.ifCond .le 5, 3) := dk_158 0 5 (dk_at dksX3_order_1 7 rfl rfl)
theorem dX3_order_34 : decode cX3_order 34 = .ok (.iconst 1, 1) := dk_4 (dk_at dksX3_order_1 10 rfl rfl)
theorem dX3_order_35 : decode cX3_order 35 = .ok (.ireturn, 1) := dk_172 (dk_at dksX3_order_1 11 rfl rfl)
theorem dX3_order_36 : decode cX3_order 36 = .ok (.aload_n 0, 1) := dk_42 (dk_at dksX3_order_1 12 rfl rfl)
theorem dX3_order_37 : decode cX3_order 37 = .ok (.getfield 13, 3) := dk_180 0 13 (dk_at dksX3_order_1 13 rfl rfl)
theorem dX3_order_40 : decode cX3_order 40 = .ok (.iconst 0, 1) := dk_3 (dk_at dksX3_order_1 16 rfl rfl)
theorem dX3_order_41 : decode cX3_order 41 = .ok (.iaload, 1) := dk_46 (dk_at dksX3_order_1 17 rfl rfl)
theorem dX3_order_42 : decode cX3_order 42 = .ok (.aload_n 0, 1) := dk_42 (dk_at dksX3_order_1 18 rfl rfl)
theorem dX3_order_43 : decode cX3_order 43 = .ok (.getfield 13, 3) := dk_180 0 13 (dk_at dksX3_order_1 19 rfl rfl)
theorem dX3_order_46 : decode cX3_order 46 = .ok (.iconst 1, 1) := dk_4 (dk_at dksX3_order_1 22 rfl rfl)
theorem dX3_order_47 : decode cX3_order 47 = .ok (.iaload, 1) := dk_46 (dk_at dksX3_order_1 23 rfl rfl)
theorem dX3_order_48 : decode cX3_order 48 = .ok (.if_icmp .ge 5, 3) := dk_162 0 5 (dk_at dksX3_order_2 0 rfl rfl)
theorem dX3_order_51 : decode cX3_order 51 = .ok (.iconst (-1), 1) := dk_2 (dk_at dksX3_order_2 3 rfl rfl)
theorem dX3_order_52 : decode cX3_order 52 = .ok (.ireturn, 1) := dk_172 (dk_at dksX3_order_2 4 rfl rfl)
theorem dX3_order_53 : decode cX3_order 53 = .ok (.aload_n 0, 1) := dk_42 (dk_at dksX3_order_2 5 rfl rfl)
theorem dX3_order_54 : decode cX3_order 54 = .ok (.getfield 13, 3) := dk_180 0 13 (dk_at dksX3_order_2 6 rfl rfl)
theorem dX3_order_57 : decode cX3_order 57 = .ok (.iconst 0, 1) := dk_3 (dk_at dksX3_order_2 9 rfl rfl)
theorem dX3_order_58 : decode cX3_order 58 = .ok (.iaload, 1) := dk_46 (dk_at dksX3_order_2 10 rfl rfl)
theorem dX3_order_59 : decode cX3_order 59 = .ok (.aload_n 0, 1) := dk_42 (dk_at dksX3_order_2 11 rfl rfl)
theorem dX3_order_60 : decode cX3_order 60 = .ok (.getfield 13, 3) := dk_180 0 13 (dk_at dksX3_order_2 12 rfl rfl)
theorem dX3_order_63 : decode cX3_order 63 = .ok (.iconst 1, 1) := dk_4 (dk_at dksX3_order_2 15 rfl rfl)
theorem dX3_order_64 : decode cX3_order 64 = .ok (.iaload, 1) := dk_46 (dk_at dksX3_order_2 16 rfl rfl)
theorem dX3_order_65 : decode cX3_order 65 = .ok (.if_icmp .le 5, 3) := dk_164 0 5 (dk_at dksX3_order_2 17 rfl rfl)
theorem dX3_order_68 : decode cX3_order 68 = .ok (.iconst 1, 1) := dk_4 (dk_at dksX3_order_2 20 rfl rfl)
theorem dX3_order_69 : decode cX3_order 69 = .ok (.ireturn, 1) := dk_172 (dk_at dksX3_order_2 21 rfl rfl)
theorem dX3_order_70 : decode cX3_order 70 = .ok (.iconst 0, 1) := dk_3 (dk_at dksX3_order_2 22 rfl rfl)
theorem dX3_order_71 : decode cX3_order 71 = .ok (.ireturn, 1) := dk_172 (dk_at dksX3_order_2 23 rfl rfl)
abbrev cX3_days : ByteArray := prog_7_method_18_code
def yX3_days : MethodName := ⟨RX3, "days", "(I)J"⟩
def dkwX3_days_0 : List UInt8 := [42, 180, 0, 7, 27, 184, 0, 17, 47, 20, 0, 46, 109, 173]
abbrev dktX3_days_0 : List UInt8 := dkwX3_days_0 ++ []
theorem dksX3_days_0 : cX3_days.data.toList.drop 0 = dktX3_days_0 := by decide +kernel
theorem dX3_days_0 : decode cX3_days 0 = .ok (.aload_n 0, 1) := dk_42 (dk_at dksX3_days_0 0 rfl rfl)
theorem dX3_days_1 : decode cX3_days 1 = .ok (.getfield 7, 3) := dk_180 0 7 (dk_at dksX3_days_0 1 rfl rfl)
theorem dX3_days_4 : decode cX3_days 4 = .ok (.iload_n 1, 1) := dk_27 (dk_at dksX3_days_0 4 rfl rfl)
theorem dX3_days_5 : decode cX3_days 5 = .ok (.invokestatic 17, 3) := dk_184 0 17 (dk_at dksX3_days_0 5 rfl rfl)
theorem dX3_days_8 : decode cX3_days 8 = .ok (.laload, 1) := dk_47 (dk_at dksX3_days_0 8 rfl rfl)
theorem dX3_days_9 : decode cX3_days 9 = .ok (.ldc2_w 46, 3) := dk_20 0 46 (dk_at dksX3_days_0 9 rfl rfl)
theorem dX3_days_12 : decode cX3_days 12 = .ok (.ldiv, 1) := dk_109 (dk_at dksX3_days_0 12 rfl rfl)
theorem dX3_days_13 : decode cX3_days 13 = .ok (.lreturn, 1) := dk_173 (dk_at dksX3_days_0 13 rfl rfl)
abbrev cX3_minutes : ByteArray := prog_7_method_19_code
def yX3_minutes : MethodName := ⟨RX3, "minutes", "(I)J"⟩
def dkwX3_minutes_0 : List UInt8 := [42, 180, 0, 7, 27, 184, 0, 17, 47, 20, 0, 48, 109, 173]
abbrev dktX3_minutes_0 : List UInt8 := dkwX3_minutes_0 ++ []
theorem dksX3_minutes_0 : cX3_minutes.data.toList.drop 0 = dktX3_minutes_0 := by decide +kernel
theorem dX3_minutes_0 : decode cX3_minutes 0 = .ok (.aload_n 0, 1) := dk_42 (dk_at dksX3_minutes_0 0 rfl rfl)
theorem dX3_minutes_1 : decode cX3_minutes 1 = .ok (.getfield 7, 3) := dk_180 0 7 (dk_at dksX3_minutes_0 1 rfl rfl)
theorem dX3_minutes_4 : decode cX3_minutes 4 = .ok (.iload_n 1, 1) := dk_27 (dk_at dksX3_minutes_0 4 rfl rfl)
theorem dX3_minutes_5 : decode cX3_minutes 5 = .ok (.invokestatic 17, 3) := dk_184 0 17 (dk_at dksX3_minutes_0 5 rfl rfl)
theorem dX3_minutes_8 : decode cX3_minutes 8 = .ok (.laload, 1) := dk_47 (dk_at dksX3_minutes_0 8 rfl rfl)
theorem dX3_minutes_9 : decode cX3_minutes 9 = .ok (.ldc2_w 48, 3) := dk_20 0 48 (dk_at dksX3_minutes_0 9 rfl rfl)
theorem dX3_minutes_12 : decode cX3_minutes 12 = .ok (.ldiv, 1) := dk_109 (dk_at dksX3_minutes_0 12 rfl rfl)
theorem dX3_minutes_13 : decode cX3_minutes 13 = .ok (.lreturn, 1) := dk_173 (dk_at dksX3_minutes_0 13 rfl rfl)
theorem q13 : (Jvm.Cond.initialized "SpanDeskModel") ∈ lw_all := lw_g (lw_at lw_m1 8 rfl) rfl
theorem q253 : (Jvm.Cond.instantiable "SpanDeskModel" (2 : Nat)) ∈ lw_all := lw_g (lw_at lw_m2 8 rfl) rfl
theorem q255 : (Jvm.Cond.instanceMethod ({ cls := "SpanDeskModel", name := "<init>", desc := "()V" } : Jvm.MethodName)) ∈ lw_all := lw_g (lw_at lw_m2 10 rfl) rfl
theorem q256 : (Jvm.Cond.code ({ cls := "SpanDeskModel", name := "<init>", desc := "()V" } : Jvm.MethodName) prog_7_method_1_code (1 : Nat) (Option.none : Option Jvm.ClassFile.FieldType)) ∈ lw_all := lw_g (lw_at lw_m2 11 rfl) rfl
theorem q257 : (Jvm.Cond.methodLink "SpanDeskModel" (1 : Nat) ({ cls := "java/lang/Object", name := "<init>", desc := "()V" } : Jvm.MethodName)) ∈ lw_all := lw_g (lw_at lw_m2 12 rfl) rfl
theorem q258 : (Jvm.Cond.fieldLink "SpanDeskModel" (7 : Nat) "SpanDeskModel" "sec" "[J") ∈ lw_all := lw_g (lw_at lw_m2 13 rfl) rfl
theorem q259 : (Jvm.Cond.fieldLink "SpanDeskModel" (13 : Nat) "SpanDeskModel" "nan" "[I") ∈ lw_all := lw_g (lw_at lw_m2 14 rfl) rfl
theorem q260 : (Jvm.Cond.laysFinal "SpanDeskModel" "SpanDeskModel" "sec" "[J") ∈ lw_all := lw_g (lw_at lw_m2 15 rfl) rfl
theorem q261 : (Jvm.Cond.soleField "SpanDeskModel" "sec") ∈ lw_all := lw_g (lw_at lw_m2 16 rfl) rfl
theorem q262 : (Jvm.Cond.laysFinal "SpanDeskModel" "SpanDeskModel" "nan" "[I") ∈ lw_all := lw_g (lw_at lw_m2 17 rfl) rfl
theorem q263 : (Jvm.Cond.soleField "SpanDeskModel" "nan") ∈ lw_all := lw_g (lw_at lw_m2 18 rfl) rfl
theorem q264 : (Jvm.Cond.superclass "SpanDeskModel" "java/lang/Object") ∈ lw_all := lw_g (lw_at lw_m2 19 rfl) rfl
theorem q268 : (Jvm.Cond.instanceMethod ({ cls := "SpanDeskModel", name := "set", desc := "(IIII)V" } : Jvm.MethodName)) ∈ lw_all := lw_g (lw_at lw_m2 23 rfl) rfl
theorem q269 : (Jvm.Cond.selects "SpanDeskModel" ({ cls := "SpanDeskModel", name := "set", desc := "(IIII)V" } : Jvm.MethodName) ({ cls := "SpanDeskModel", name := "set", desc := "(IIII)V" } : Jvm.MethodName)) ∈ lw_all := lw_g (lw_at lw_m2 24 rfl) rfl
theorem q270 : (Jvm.Cond.code ({ cls := "SpanDeskModel", name := "set", desc := "(IIII)V" } : Jvm.MethodName) prog_7_method_7_code (9 : Nat) (Option.none : Option Jvm.ClassFile.FieldType)) ∈ lw_all := lw_g (lw_at lw_m2 25 rfl) rfl
theorem q271 : (Jvm.Cond.constantLong "SpanDeskModel" (31 : Nat) (4294967296 : Int64)) ∈ lw_all := lw_g (lw_at lw_m2 26 rfl) rfl
theorem q272 : (Jvm.Cond.methodLink "SpanDeskModel" (17 : Nat) ({ cls := "SpanDeskModel", name := "place", desc := "(I)I" } : Jvm.MethodName)) ∈ lw_all := lw_g (lw_at lw_m2 27 rfl) rfl
theorem q273 : (Jvm.Cond.static ({ cls := "SpanDeskModel", name := "place", desc := "(I)I" } : Jvm.MethodName)) ∈ lw_all := lw_g (lw_at lw_m2 28 rfl) rfl
theorem q274 : (Jvm.Cond.code ({ cls := "SpanDeskModel", name := "place", desc := "(I)I" } : Jvm.MethodName) prog_7_method_2_code (1 : Nat) (Option.some Jvm.ClassFile.FieldType.int)) ∈ lw_all := lw_g (lw_at lw_m2 29 rfl) rfl
theorem q275 : (Jvm.Cond.methodLink "SpanDeskModel" (33 : Nat) ({ cls := "SpanDeskModel", name := "store", desc := "(IJJ)V" } : Jvm.MethodName)) ∈ lw_all := lw_g (lw_at lw_m2 30 rfl) rfl
theorem q276 : (Jvm.Cond.privateMethod ({ cls := "SpanDeskModel", name := "store", desc := "(IJJ)V" } : Jvm.MethodName)) ∈ lw_tbl := lw_at lw_m2 31 rfl
theorem q277 : (Jvm.Cond.instanceMethod ({ cls := "SpanDeskModel", name := "store", desc := "(IJJ)V" } : Jvm.MethodName)) ∈ lw_all := lw_g (lw_at lw_m2 32 rfl) rfl
theorem q278 : (Jvm.Cond.code ({ cls := "SpanDeskModel", name := "store", desc := "(IJJ)V" } : Jvm.MethodName) prog_7_method_4_code (6 : Nat) (Option.none : Option Jvm.ClassFile.FieldType)) ∈ lw_all := lw_g (lw_at lw_m2 33 rfl) rfl
theorem q279 : (Jvm.Cond.constantLong "SpanDeskModel" (21 : Nat) (1000000000 : Int64)) ∈ lw_all := lw_g (lw_at lw_m2 34 rfl) rfl
theorem q281 : (Jvm.Cond.instanceMethod ({ cls := "SpanDeskModel", name := "plus", desc := "(I)Z" } : Jvm.MethodName)) ∈ lw_all := lw_g (lw_at lw_m2 36 rfl) rfl
theorem q282 : (Jvm.Cond.selects "SpanDeskModel" ({ cls := "SpanDeskModel", name := "plus", desc := "(I)Z" } : Jvm.MethodName) ({ cls := "SpanDeskModel", name := "plus", desc := "(I)Z" } : Jvm.MethodName)) ∈ lw_all := lw_g (lw_at lw_m2 37 rfl) rfl
theorem q283 : (Jvm.Cond.code ({ cls := "SpanDeskModel", name := "plus", desc := "(I)Z" } : Jvm.MethodName) prog_7_method_8_code (4 : Nat) (Option.some Jvm.ClassFile.FieldType.boolean)) ∈ lw_all := lw_g (lw_at lw_m2 38 rfl) rfl
theorem q284 : (Jvm.Cond.methodLink "SpanDeskModel" (37 : Nat) ({ cls := "SpanDeskModel", name := "room", desc := "()Z" } : Jvm.MethodName)) ∈ lw_all := lw_g (lw_at lw_m2 39 rfl) rfl
theorem q285 : (Jvm.Cond.privateMethod ({ cls := "SpanDeskModel", name := "room", desc := "()Z" } : Jvm.MethodName)) ∈ lw_tbl := lw_at lw_m2 40 rfl
theorem q286 : (Jvm.Cond.instanceMethod ({ cls := "SpanDeskModel", name := "room", desc := "()Z" } : Jvm.MethodName)) ∈ lw_all := lw_g (lw_at lw_m2 41 rfl) rfl
theorem q287 : (Jvm.Cond.code ({ cls := "SpanDeskModel", name := "room", desc := "()Z" } : Jvm.MethodName) prog_7_method_6_code (1 : Nat) (Option.some Jvm.ClassFile.FieldType.boolean)) ∈ lw_all := lw_g (lw_at lw_m2 42 rfl) rfl
theorem q288 : (Jvm.Cond.methodLink "SpanDeskModel" (27 : Nat) ({ cls := "SpanDeskModel", name := "inside", desc := "(J)Z" } : Jvm.MethodName)) ∈ lw_all := lw_g (lw_at lw_m2 43 rfl) rfl
theorem q289 : (Jvm.Cond.static ({ cls := "SpanDeskModel", name := "inside", desc := "(J)Z" } : Jvm.MethodName)) ∈ lw_all := lw_g (lw_at lw_m2 44 rfl) rfl
theorem q290 : (Jvm.Cond.code ({ cls := "SpanDeskModel", name := "inside", desc := "(J)Z" } : Jvm.MethodName) prog_7_method_5_code (2 : Nat) (Option.some Jvm.ClassFile.FieldType.boolean)) ∈ lw_all := lw_g (lw_at lw_m2 45 rfl) rfl
theorem q291 : (Jvm.Cond.constantLong "SpanDeskModel" (23 : Nat) (-4611686018427387904 : Int64)) ∈ lw_all := lw_g (lw_at lw_m2 46 rfl) rfl
theorem q292 : (Jvm.Cond.constantLong "SpanDeskModel" (25 : Nat) (4611686018427387904 : Int64)) ∈ lw_all := lw_g (lw_at lw_m2 47 rfl) rfl
theorem q293 : (Jvm.Cond.methodLink "SpanDeskModel" (41 : Nat) ({ cls := "SpanDeskModel", name := "other", desc := "(I)I" } : Jvm.MethodName)) ∈ lw_all := lw_g (lw_at lw_m2 48 rfl) rfl
theorem q294 : (Jvm.Cond.static ({ cls := "SpanDeskModel", name := "other", desc := "(I)I" } : Jvm.MethodName)) ∈ lw_all := lw_g (lw_at lw_m2 49 rfl) rfl
theorem q295 : (Jvm.Cond.code ({ cls := "SpanDeskModel", name := "other", desc := "(I)I" } : Jvm.MethodName) prog_7_method_3_code (1 : Nat) (Option.some Jvm.ClassFile.FieldType.int)) ∈ lw_all := lw_g (lw_at lw_m2 50 rfl) rfl
theorem q297 : (Jvm.Cond.instanceMethod ({ cls := "SpanDeskModel", name := "minus", desc := "(I)Z" } : Jvm.MethodName)) ∈ lw_all := lw_g (lw_at lw_m2 52 rfl) rfl
theorem q298 : (Jvm.Cond.selects "SpanDeskModel" ({ cls := "SpanDeskModel", name := "minus", desc := "(I)Z" } : Jvm.MethodName) ({ cls := "SpanDeskModel", name := "minus", desc := "(I)Z" } : Jvm.MethodName)) ∈ lw_all := lw_g (lw_at lw_m2 53 rfl) rfl
theorem q299 : (Jvm.Cond.code ({ cls := "SpanDeskModel", name := "minus", desc := "(I)Z" } : Jvm.MethodName) prog_7_method_9_code (4 : Nat) (Option.some Jvm.ClassFile.FieldType.boolean)) ∈ lw_all := lw_g (lw_at lw_m2 54 rfl) rfl
theorem q301 : (Jvm.Cond.instanceMethod ({ cls := "SpanDeskModel", name := "seconds", desc := "(II)Z" } : Jvm.MethodName)) ∈ lw_all := lw_g (lw_at lw_m2 56 rfl) rfl
theorem q302 : (Jvm.Cond.selects "SpanDeskModel" ({ cls := "SpanDeskModel", name := "seconds", desc := "(II)Z" } : Jvm.MethodName) ({ cls := "SpanDeskModel", name := "seconds", desc := "(II)Z" } : Jvm.MethodName)) ∈ lw_all := lw_g (lw_at lw_m2 57 rfl) rfl
theorem q303 : (Jvm.Cond.code ({ cls := "SpanDeskModel", name := "seconds", desc := "(II)Z" } : Jvm.MethodName) prog_7_method_10_code (4 : Nat) (Option.some Jvm.ClassFile.FieldType.boolean)) ∈ lw_all := lw_g (lw_at lw_m2 58 rfl) rfl
theorem q305 : (Jvm.Cond.instanceMethod ({ cls := "SpanDeskModel", name := "millis", desc := "(II)Z" } : Jvm.MethodName)) ∈ lw_all := lw_g (lw_at lw_m2 60 rfl) rfl
theorem q306 : (Jvm.Cond.selects "SpanDeskModel" ({ cls := "SpanDeskModel", name := "millis", desc := "(II)Z" } : Jvm.MethodName) ({ cls := "SpanDeskModel", name := "millis", desc := "(II)Z" } : Jvm.MethodName)) ∈ lw_all := lw_g (lw_at lw_m2 61 rfl) rfl
theorem q307 : (Jvm.Cond.code ({ cls := "SpanDeskModel", name := "millis", desc := "(II)Z" } : Jvm.MethodName) prog_7_method_11_code (8 : Nat) (Option.some Jvm.ClassFile.FieldType.boolean)) ∈ lw_all := lw_g (lw_at lw_m2 62 rfl) rfl
theorem q308 : (Jvm.Cond.constantLong "SpanDeskModel" (44 : Nat) (1000000 : Int64)) ∈ lw_all := lw_g (lw_at lw_m2 63 rfl) rfl
theorem q310 : (Jvm.Cond.instanceMethod ({ cls := "SpanDeskModel", name := "nanos", desc := "(II)Z" } : Jvm.MethodName)) ∈ lw_all := lw_g (lw_at lw_m2 65 rfl) rfl
theorem q311 : (Jvm.Cond.selects "SpanDeskModel" ({ cls := "SpanDeskModel", name := "nanos", desc := "(II)Z" } : Jvm.MethodName) ({ cls := "SpanDeskModel", name := "nanos", desc := "(II)Z" } : Jvm.MethodName)) ∈ lw_all := lw_g (lw_at lw_m2 66 rfl) rfl
theorem q312 : (Jvm.Cond.code ({ cls := "SpanDeskModel", name := "nanos", desc := "(II)Z" } : Jvm.MethodName) prog_7_method_12_code (4 : Nat) (Option.some Jvm.ClassFile.FieldType.boolean)) ∈ lw_all := lw_g (lw_at lw_m2 67 rfl) rfl
theorem q314 : (Jvm.Cond.instanceMethod ({ cls := "SpanDeskModel", name := "whole", desc := "(I)J" } : Jvm.MethodName)) ∈ lw_all := lw_g (lw_at lw_m2 69 rfl) rfl
theorem q315 : (Jvm.Cond.selects "SpanDeskModel" ({ cls := "SpanDeskModel", name := "whole", desc := "(I)J" } : Jvm.MethodName) ({ cls := "SpanDeskModel", name := "whole", desc := "(I)J" } : Jvm.MethodName)) ∈ lw_all := lw_g (lw_at lw_m2 70 rfl) rfl
theorem q316 : (Jvm.Cond.code ({ cls := "SpanDeskModel", name := "whole", desc := "(I)J" } : Jvm.MethodName) prog_7_method_13_code (2 : Nat) (Option.some Jvm.ClassFile.FieldType.long)) ∈ lw_all := lw_g (lw_at lw_m2 71 rfl) rfl
theorem q318 : (Jvm.Cond.instanceMethod ({ cls := "SpanDeskModel", name := "nano", desc := "(I)I" } : Jvm.MethodName)) ∈ lw_all := lw_g (lw_at lw_m2 73 rfl) rfl
theorem q319 : (Jvm.Cond.selects "SpanDeskModel" ({ cls := "SpanDeskModel", name := "nano", desc := "(I)I" } : Jvm.MethodName) ({ cls := "SpanDeskModel", name := "nano", desc := "(I)I" } : Jvm.MethodName)) ∈ lw_all := lw_g (lw_at lw_m2 74 rfl) rfl
theorem q320 : (Jvm.Cond.code ({ cls := "SpanDeskModel", name := "nano", desc := "(I)I" } : Jvm.MethodName) prog_7_method_14_code (2 : Nat) (Option.some Jvm.ClassFile.FieldType.int)) ∈ lw_all := lw_g (lw_at lw_m2 75 rfl) rfl
theorem q322 : (Jvm.Cond.instanceMethod ({ cls := "SpanDeskModel", name := "below", desc := "(I)Z" } : Jvm.MethodName)) ∈ lw_all := lw_g (lw_at lw_m2 77 rfl) rfl
theorem q323 : (Jvm.Cond.selects "SpanDeskModel" ({ cls := "SpanDeskModel", name := "below", desc := "(I)Z" } : Jvm.MethodName) ({ cls := "SpanDeskModel", name := "below", desc := "(I)Z" } : Jvm.MethodName)) ∈ lw_all := lw_g (lw_at lw_m2 78 rfl) rfl
theorem q324 : (Jvm.Cond.code ({ cls := "SpanDeskModel", name := "below", desc := "(I)Z" } : Jvm.MethodName) prog_7_method_15_code (2 : Nat) (Option.some Jvm.ClassFile.FieldType.boolean)) ∈ lw_all := lw_g (lw_at lw_m2 79 rfl) rfl
theorem q326 : (Jvm.Cond.instanceMethod ({ cls := "SpanDeskModel", name := "nought", desc := "(I)Z" } : Jvm.MethodName)) ∈ lw_all := lw_g (lw_at lw_m2 81 rfl) rfl
theorem q327 : (Jvm.Cond.selects "SpanDeskModel" ({ cls := "SpanDeskModel", name := "nought", desc := "(I)Z" } : Jvm.MethodName) ({ cls := "SpanDeskModel", name := "nought", desc := "(I)Z" } : Jvm.MethodName)) ∈ lw_all := lw_g (lw_at lw_m2 82 rfl) rfl
theorem q328 : (Jvm.Cond.code ({ cls := "SpanDeskModel", name := "nought", desc := "(I)Z" } : Jvm.MethodName) prog_7_method_16_code (3 : Nat) (Option.some Jvm.ClassFile.FieldType.boolean)) ∈ lw_all := lw_g (lw_at lw_m2 83 rfl) rfl
theorem q330 : (Jvm.Cond.instanceMethod ({ cls := "SpanDeskModel", name := "order", desc := "()I" } : Jvm.MethodName)) ∈ lw_all := lw_g (lw_at lw_m2 85 rfl) rfl
theorem q331 : (Jvm.Cond.selects "SpanDeskModel" ({ cls := "SpanDeskModel", name := "order", desc := "()I" } : Jvm.MethodName) ({ cls := "SpanDeskModel", name := "order", desc := "()I" } : Jvm.MethodName)) ∈ lw_all := lw_g (lw_at lw_m2 86 rfl) rfl
theorem q332 : (Jvm.Cond.code ({ cls := "SpanDeskModel", name := "order", desc := "()I" } : Jvm.MethodName) prog_7_method_17_code (1 : Nat) (Option.some Jvm.ClassFile.FieldType.int)) ∈ lw_all := lw_g (lw_at lw_m2 87 rfl) rfl
theorem q334 : (Jvm.Cond.instanceMethod ({ cls := "SpanDeskModel", name := "days", desc := "(I)J" } : Jvm.MethodName)) ∈ lw_all := lw_g (lw_at lw_m2 89 rfl) rfl
theorem q335 : (Jvm.Cond.selects "SpanDeskModel" ({ cls := "SpanDeskModel", name := "days", desc := "(I)J" } : Jvm.MethodName) ({ cls := "SpanDeskModel", name := "days", desc := "(I)J" } : Jvm.MethodName)) ∈ lw_all := lw_g (lw_at lw_m2 90 rfl) rfl
theorem q336 : (Jvm.Cond.code ({ cls := "SpanDeskModel", name := "days", desc := "(I)J" } : Jvm.MethodName) prog_7_method_18_code (2 : Nat) (Option.some Jvm.ClassFile.FieldType.long)) ∈ lw_all := lw_g (lw_at lw_m2 91 rfl) rfl
theorem q337 : (Jvm.Cond.constantLong "SpanDeskModel" (46 : Nat) (86400 : Int64)) ∈ lw_all := lw_g (lw_at lw_m2 92 rfl) rfl
theorem q339 : (Jvm.Cond.instanceMethod ({ cls := "SpanDeskModel", name := "minutes", desc := "(I)J" } : Jvm.MethodName)) ∈ lw_all := lw_g (lw_at lw_m2 94 rfl) rfl
theorem q340 : (Jvm.Cond.selects "SpanDeskModel" ({ cls := "SpanDeskModel", name := "minutes", desc := "(I)J" } : Jvm.MethodName) ({ cls := "SpanDeskModel", name := "minutes", desc := "(I)J" } : Jvm.MethodName)) ∈ lw_all := lw_g (lw_at lw_m2 95 rfl) rfl
theorem q341 : (Jvm.Cond.code ({ cls := "SpanDeskModel", name := "minutes", desc := "(I)J" } : Jvm.MethodName) prog_7_method_19_code (2 : Nat) (Option.some Jvm.ClassFile.FieldType.long)) ∈ lw_all := lw_g (lw_at lw_m2 96 rfl) rfl
theorem q342 : (Jvm.Cond.constantLong "SpanDeskModel" (48 : Nat) (60 : Int64)) ∈ lw_all := lw_g (lw_at lw_m2 97 rfl) rfl
theorem in_X3 : ∀ w ∈ wsX30, w ∈ lw_all := lw_in wsX30 [260, 262] (by decide +kernel) (by decide +kernel)

/-! the law's own entry -/
set_option maxRecDepth 100000
abbrev cL_law : ByteArray := code
def dkwL_law_18 : List UInt8 := [4, 172]
abbrev dktL_law_18 : List UInt8 := dkwL_law_18 ++ []
def dkwL_law_17 : List UInt8 := [182, 0, 67, 44, 42, 29, 4, 96, 46, 182, 0, 70, 148, 153, 0, 5, 3, 172, 132, 3, 6, 167, 254, 77]
abbrev dktL_law_17 : List UInt8 := dkwL_law_17 ++ dktL_law_18
def dkwL_law_16 : List UInt8 := [182, 0, 63, 44, 42, 29, 4, 96, 46, 182, 0, 66, 148, 153, 0, 29, 3, 172, 43, 42, 29, 4, 96, 46]
abbrev dktL_law_16 : List UInt8 := dkwL_law_16 ++ dktL_law_17
def dkwL_law_15 : List UInt8 := [159, 0, 66, 3, 172, 43, 182, 0, 58, 44, 182, 0, 62, 159, 0, 53, 3, 172, 43, 42, 29, 4, 96, 46]
abbrev dktL_law_15 : List UInt8 := dkwL_law_15 ++ dktL_law_16
def dkwL_law_14 : List UInt8 := [159, 0, 89, 3, 172, 43, 42, 29, 4, 96, 46, 182, 0, 54, 44, 42, 29, 4, 96, 46, 182, 0, 57]
abbrev dktL_law_14 : List UInt8 := dkwL_law_14 ++ dktL_law_15
def dkwL_law_13 : List UInt8 := [159, 0, 112, 3, 172, 43, 42, 29, 4, 96, 46, 182, 0, 50, 44, 42, 29, 4, 96, 46, 182, 0, 53]
abbrev dktL_law_13 : List UInt8 := dkwL_law_13 ++ dktL_law_14
def dkwL_law_12 : List UInt8 := [153, 0, 135, 3, 172, 43, 42, 29, 4, 96, 46, 182, 0, 45, 44, 42, 29, 4, 96, 46, 182, 0, 49]
abbrev dktL_law_12 : List UInt8 := dkwL_law_12 ++ dktL_law_13
def dkwL_law_11 : List UInt8 := [159, 0, 159, 3, 172, 43, 42, 29, 4, 96, 46, 182, 0, 40, 44, 42, 29, 4, 96, 46, 182, 0, 44, 148]
abbrev dktL_law_11 : List UInt8 := dkwL_law_11 ++ dktL_law_12
def dkwL_law_10 : List UInt8 := [46, 42, 29, 5, 96, 46, 182, 0, 36, 44, 42, 29, 4, 96, 46, 42, 29, 5, 96, 46, 182, 0, 39]
abbrev dktL_law_10 : List UInt8 := dkwL_law_10 ++ dktL_law_11
def dkwL_law_9 : List UInt8 := [44, 42, 29, 4, 96, 46, 42, 29, 5, 96, 46, 182, 0, 35, 159, 0, 192, 3, 172, 43, 42, 29, 4, 96]
abbrev dktL_law_9 : List UInt8 := dkwL_law_9 ++ dktL_law_10
def dkwL_law_8 : List UInt8 := [96, 46, 182, 0, 31, 159, 0, 225, 3, 172, 43, 42, 29, 4, 96, 46, 42, 29, 5, 96, 46, 182, 0, 32]
abbrev dktL_law_8 : List UInt8 := dkwL_law_8 ++ dktL_law_9
def dkwL_law_7 : List UInt8 := [172, 43, 42, 29, 4, 96, 46, 42, 29, 5, 96, 46, 182, 0, 27, 44, 42, 29, 4, 96, 46, 42, 29, 5]
abbrev dktL_law_7 : List UInt8 := dkwL_law_7 ++ dktL_law_8
def dkwL_law_6 : List UInt8 := [3, 172, 43, 42, 29, 4, 96, 46, 182, 0, 23, 44, 42, 29, 4, 96, 46, 182, 0, 26, 159, 1, 2, 3]
abbrev dktL_law_6 : List UInt8 := dkwL_law_6 ++ dktL_law_7
def dkwL_law_5 : List UInt8 := [167, 1, 46, 43, 42, 29, 4, 96, 46, 182, 0, 18, 44, 42, 29, 4, 96, 46, 182, 0, 22, 159, 1, 25]
abbrev dktL_law_5 : List UInt8 := dkwL_law_5 ++ dktL_law_6
def dkwL_law_4 : List UInt8 := [44, 42, 29, 4, 96, 46, 42, 29, 5, 96, 46, 42, 29, 6, 96, 46, 42, 29, 7, 96, 46, 182, 0, 17]
abbrev dktL_law_4 : List UInt8 := dkwL_law_4 ++ dktL_law_5
def dkwL_law_3 : List UInt8 := [43, 42, 29, 4, 96, 46, 42, 29, 5, 96, 46, 42, 29, 6, 96, 46, 42, 29, 7, 96, 46, 182, 0, 13]
abbrev dktL_law_3 : List UInt8 := dkwL_law_3 ++ dktL_law_4
def dkwL_law_2 : List UInt8 := [170, 0, 0, 0, 0, 1, 161, 0, 0, 0, 0, 0, 0, 0, 12, 0, 0, 0, 67, 0, 0, 0, 118, 0, 0, 0, 141, 0, 0, 0, 164, 0, 0, 0, 197, 0, 0, 0, 230, 0, 0, 1, 7, 0, 0, 1, 31, 0, 0, 1, 54, 0, 0, 1, 77, 0, 0, 1, 100, 0, 0, 1, 113, 0, 0, 1, 137]
abbrev dktL_law_2 : List UInt8 := dkwL_law_2 ++ dktL_law_3
def dkwL_law_1 : List UInt8 := [163, 1, 176, 42, 29, 46, 16, 15, 126]
abbrev dktL_law_1 : List UInt8 := dkwL_law_1 ++ dktL_law_2
def dkwL_law_0 : List UInt8 := [187, 0, 7, 89, 183, 0, 9, 76, 187, 0, 10, 89, 183, 0, 12, 77, 3, 62, 29, 42, 190, 16, 6, 100]
abbrev dktL_law_0 : List UInt8 := dkwL_law_0 ++ dktL_law_1
theorem dksL_law_0 : cL_law.data.toList.drop 0 = dktL_law_0 := by decide +kernel
theorem dksL_law_1 : cL_law.data.toList.drop 24 = dktL_law_1 := dk_seg dksL_law_0 24 rfl rfl
theorem dksL_law_2 : cL_law.data.toList.drop 33 = dktL_law_2 := dk_seg dksL_law_1 9 rfl rfl
theorem dksL_law_3 : cL_law.data.toList.drop 100 = dktL_law_3 := dk_seg dksL_law_2 67 rfl rfl
theorem dksL_law_4 : cL_law.data.toList.drop 124 = dktL_law_4 := dk_seg dksL_law_3 24 rfl rfl
theorem dksL_law_5 : cL_law.data.toList.drop 148 = dktL_law_5 := dk_seg dksL_law_4 24 rfl rfl
theorem dksL_law_6 : cL_law.data.toList.drop 172 = dktL_law_6 := dk_seg dksL_law_5 24 rfl rfl
theorem dksL_law_7 : cL_law.data.toList.drop 196 = dktL_law_7 := dk_seg dksL_law_6 24 rfl rfl
theorem dksL_law_8 : cL_law.data.toList.drop 220 = dktL_law_8 := dk_seg dksL_law_7 24 rfl rfl
theorem dksL_law_9 : cL_law.data.toList.drop 244 = dktL_law_9 := dk_seg dksL_law_8 24 rfl rfl
theorem dksL_law_10 : cL_law.data.toList.drop 268 = dktL_law_10 := dk_seg dksL_law_9 24 rfl rfl
theorem dksL_law_11 : cL_law.data.toList.drop 291 = dktL_law_11 := dk_seg dksL_law_10 23 rfl rfl
theorem dksL_law_12 : cL_law.data.toList.drop 315 = dktL_law_12 := dk_seg dksL_law_11 24 rfl rfl
theorem dksL_law_13 : cL_law.data.toList.drop 338 = dktL_law_13 := dk_seg dksL_law_12 23 rfl rfl
theorem dksL_law_14 : cL_law.data.toList.drop 361 = dktL_law_14 := dk_seg dksL_law_13 23 rfl rfl
theorem dksL_law_15 : cL_law.data.toList.drop 384 = dktL_law_15 := dk_seg dksL_law_14 23 rfl rfl
theorem dksL_law_16 : cL_law.data.toList.drop 408 = dktL_law_16 := dk_seg dksL_law_15 24 rfl rfl
theorem dksL_law_17 : cL_law.data.toList.drop 432 = dktL_law_17 := dk_seg dksL_law_16 24 rfl rfl
theorem dksL_law_18 : cL_law.data.toList.drop 456 = dktL_law_18 := dk_seg dksL_law_17 24 rfl rfl
theorem dL_law_0 : decode cL_law 0 = .ok (.new 7, 3) := dk_187 0 7 (dk_at dksL_law_0 0 rfl rfl)
theorem dL_law_3 : decode cL_law 3 = .ok (.dup, 1) := dk_89 (dk_at dksL_law_0 3 rfl rfl)
theorem dL_law_4 : decode cL_law 4 = .ok (.invokespecial 9, 3) := dk_183 0 9 (dk_at dksL_law_0 4 rfl rfl)
theorem dL_law_7 : decode cL_law 7 = .ok (.astore_n 1, 1) := dk_76 (dk_at dksL_law_0 7 rfl rfl)
theorem dL_law_8 : decode cL_law 8 = .ok (.new 10, 3) := dk_187 0 10 (dk_at dksL_law_0 8 rfl rfl)
theorem dL_law_11 : decode cL_law 11 = .ok (.dup, 1) := dk_89 (dk_at dksL_law_0 11 rfl rfl)
theorem dL_law_12 : decode cL_law 12 = .ok (.invokespecial 12, 3) := dk_183 0 12 (dk_at dksL_law_0 12 rfl rfl)
theorem dL_law_15 : decode cL_law 15 = .ok (.astore_n 2, 1) := dk_77 (dk_at dksL_law_0 15 rfl rfl)
theorem dL_law_16 : decode cL_law 16 = .ok (.iconst 0, 1) := dk_3 (dk_at dksL_law_0 16 rfl rfl)
theorem dL_law_17 : decode cL_law 17 = .ok (.istore_n 3, 1) := dk_62 (dk_at dksL_law_0 17 rfl rfl)
theorem dL_law_18 : decode cL_law 18 = .ok (.iload_n 3, 1) := dk_29 (dk_at dksL_law_0 18 rfl rfl)
theorem dL_law_19 : decode cL_law 19 = .ok (.aload_n 0, 1) := dk_42 (dk_at dksL_law_0 19 rfl rfl)
theorem dL_law_20 : decode cL_law 20 = .ok (.arraylength, 1) := dk_190 (dk_at dksL_law_0 20 rfl rfl)
theorem dL_law_21 : decode cL_law 21 = .ok (.bipush 6, 2) := dk_16 6 (dk_at dksL_law_0 21 rfl rfl)
theorem dL_law_23 : decode cL_law 23 = .ok (.isub, 1) := dk_100 (dk_at dksL_law_0 23 rfl rfl)
theorem dL_law_24 : decode cL_law 24 = .ok (.if_icmp .gt 432, 3) := dk_163 1 176 (dk_at dksL_law_1 0 rfl rfl)
theorem dL_law_27 : decode cL_law 27 = .ok (.aload_n 0, 1) := dk_42 (dk_at dksL_law_1 3 rfl rfl)
theorem dL_law_28 : decode cL_law 28 = .ok (.iload_n 3, 1) := dk_29 (dk_at dksL_law_1 4 rfl rfl)
theorem dL_law_29 : decode cL_law 29 = .ok (.iaload, 1) := dk_46 (dk_at dksL_law_1 5 rfl rfl)
theorem dL_law_30 : decode cL_law 30 = .ok (.bipush 15, 2) := dk_16 15 (dk_at dksL_law_1 6 rfl rfl)
theorem dL_law_32 : decode cL_law 32 = .ok (.iand, 1) := dk_126 (dk_at dksL_law_1 8 rfl rfl)
theorem dL_law_33 : decode cL_law 33 = .ok (.tableswitch 417 0 12 #[67, 118, 141, 164, 197, 230, 263, 287, 310, 333, 356, 369, 393], 67) := by decide +kernel
theorem dL_law_100 : decode cL_law 100 = .ok (.aload_n 1, 1) := dk_43 (dk_at dksL_law_3 0 rfl rfl)
theorem dL_law_101 : decode cL_law 101 = .ok (.aload_n 0, 1) := dk_42 (dk_at dksL_law_3 1 rfl rfl)
theorem dL_law_102 : decode cL_law 102 = .ok (.iload_n 3, 1) := dk_29 (dk_at dksL_law_3 2 rfl rfl)
theorem dL_law_103 : decode cL_law 103 = .ok (.iconst 1, 1) := dk_4 (dk_at dksL_law_3 3 rfl rfl)
theorem dL_law_104 : decode cL_law 104 = .ok (.iadd, 1) := dk_96 (dk_at dksL_law_3 4 rfl rfl)
theorem dL_law_105 : decode cL_law 105 = .ok (.iaload, 1) := dk_46 (dk_at dksL_law_3 5 rfl rfl)
theorem dL_law_106 : decode cL_law 106 = .ok (.aload_n 0, 1) := dk_42 (dk_at dksL_law_3 6 rfl rfl)
theorem dL_law_107 : decode cL_law 107 = .ok (.iload_n 3, 1) := dk_29 (dk_at dksL_law_3 7 rfl rfl)
theorem dL_law_108 : decode cL_law 108 = .ok (.iconst 2, 1) := dk_5 (dk_at dksL_law_3 8 rfl rfl)
theorem dL_law_109 : decode cL_law 109 = .ok (.iadd, 1) := dk_96 (dk_at dksL_law_3 9 rfl rfl)
theorem dL_law_110 : decode cL_law 110 = .ok (.iaload, 1) := dk_46 (dk_at dksL_law_3 10 rfl rfl)
theorem dL_law_111 : decode cL_law 111 = .ok (.aload_n 0, 1) := dk_42 (dk_at dksL_law_3 11 rfl rfl)
theorem dL_law_112 : decode cL_law 112 = .ok (.iload_n 3, 1) := dk_29 (dk_at dksL_law_3 12 rfl rfl)
theorem dL_law_113 : decode cL_law 113 = .ok (.iconst 3, 1) := dk_6 (dk_at dksL_law_3 13 rfl rfl)
theorem dL_law_114 : decode cL_law 114 = .ok (.iadd, 1) := dk_96 (dk_at dksL_law_3 14 rfl rfl)
theorem dL_law_115 : decode cL_law 115 = .ok (.iaload, 1) := dk_46 (dk_at dksL_law_3 15 rfl rfl)
theorem dL_law_116 : decode cL_law 116 = .ok (.aload_n 0, 1) := dk_42 (dk_at dksL_law_3 16 rfl rfl)
theorem dL_law_117 : decode cL_law 117 = .ok (.iload_n 3, 1) := dk_29 (dk_at dksL_law_3 17 rfl rfl)
theorem dL_law_118 : decode cL_law 118 = .ok (.iconst 4, 1) := dk_7 (dk_at dksL_law_3 18 rfl rfl)
theorem dL_law_119 : decode cL_law 119 = .ok (.iadd, 1) := dk_96 (dk_at dksL_law_3 19 rfl rfl)
theorem dL_law_120 : decode cL_law 120 = .ok (.iaload, 1) := dk_46 (dk_at dksL_law_3 20 rfl rfl)
theorem dL_law_121 : decode cL_law 121 = .ok (.invokevirtual 13, 3) := dk_182 0 13 (dk_at dksL_law_3 21 rfl rfl)
theorem dL_law_124 : decode cL_law 124 = .ok (.aload_n 2, 1) := dk_44 (dk_at dksL_law_4 0 rfl rfl)
theorem dL_law_125 : decode cL_law 125 = .ok (.aload_n 0, 1) := dk_42 (dk_at dksL_law_4 1 rfl rfl)
theorem dL_law_126 : decode cL_law 126 = .ok (.iload_n 3, 1) := dk_29 (dk_at dksL_law_4 2 rfl rfl)
theorem dL_law_127 : decode cL_law 127 = .ok (.iconst 1, 1) := dk_4 (dk_at dksL_law_4 3 rfl rfl)
theorem dL_law_128 : decode cL_law 128 = .ok (.iadd, 1) := dk_96 (dk_at dksL_law_4 4 rfl rfl)
theorem dL_law_129 : decode cL_law 129 = .ok (.iaload, 1) := dk_46 (dk_at dksL_law_4 5 rfl rfl)
theorem dL_law_130 : decode cL_law 130 = .ok (.aload_n 0, 1) := dk_42 (dk_at dksL_law_4 6 rfl rfl)
theorem dL_law_131 : decode cL_law 131 = .ok (.iload_n 3, 1) := dk_29 (dk_at dksL_law_4 7 rfl rfl)
theorem dL_law_132 : decode cL_law 132 = .ok (.iconst 2, 1) := dk_5 (dk_at dksL_law_4 8 rfl rfl)
theorem dL_law_133 : decode cL_law 133 = .ok (.iadd, 1) := dk_96 (dk_at dksL_law_4 9 rfl rfl)
theorem dL_law_134 : decode cL_law 134 = .ok (.iaload, 1) := dk_46 (dk_at dksL_law_4 10 rfl rfl)
theorem dL_law_135 : decode cL_law 135 = .ok (.aload_n 0, 1) := dk_42 (dk_at dksL_law_4 11 rfl rfl)
theorem dL_law_136 : decode cL_law 136 = .ok (.iload_n 3, 1) := dk_29 (dk_at dksL_law_4 12 rfl rfl)
theorem dL_law_137 : decode cL_law 137 = .ok (.iconst 3, 1) := dk_6 (dk_at dksL_law_4 13 rfl rfl)
theorem dL_law_138 : decode cL_law 138 = .ok (.iadd, 1) := dk_96 (dk_at dksL_law_4 14 rfl rfl)
theorem dL_law_139 : decode cL_law 139 = .ok (.iaload, 1) := dk_46 (dk_at dksL_law_4 15 rfl rfl)
theorem dL_law_140 : decode cL_law 140 = .ok (.aload_n 0, 1) := dk_42 (dk_at dksL_law_4 16 rfl rfl)
theorem dL_law_141 : decode cL_law 141 = .ok (.iload_n 3, 1) := dk_29 (dk_at dksL_law_4 17 rfl rfl)
theorem dL_law_142 : decode cL_law 142 = .ok (.iconst 4, 1) := dk_7 (dk_at dksL_law_4 18 rfl rfl)
theorem dL_law_143 : decode cL_law 143 = .ok (.iadd, 1) := dk_96 (dk_at dksL_law_4 19 rfl rfl)
theorem dL_law_144 : decode cL_law 144 = .ok (.iaload, 1) := dk_46 (dk_at dksL_law_4 20 rfl rfl)
theorem dL_law_145 : decode cL_law 145 = .ok (.invokevirtual 17, 3) := dk_182 0 17 (dk_at dksL_law_4 21 rfl rfl)
theorem dL_law_148 : decode cL_law 148 = .ok (.goto 302, 3) := dk_167 1 46 (dk_at dksL_law_5 0 rfl rfl)
theorem dL_law_151 : decode cL_law 151 = .ok (.aload_n 1, 1) := dk_43 (dk_at dksL_law_5 3 rfl rfl)
theorem dL_law_152 : decode cL_law 152 = .ok (.aload_n 0, 1) := dk_42 (dk_at dksL_law_5 4 rfl rfl)
theorem dL_law_153 : decode cL_law 153 = .ok (.iload_n 3, 1) := dk_29 (dk_at dksL_law_5 5 rfl rfl)
theorem dL_law_154 : decode cL_law 154 = .ok (.iconst 1, 1) := dk_4 (dk_at dksL_law_5 6 rfl rfl)
theorem dL_law_155 : decode cL_law 155 = .ok (.iadd, 1) := dk_96 (dk_at dksL_law_5 7 rfl rfl)
theorem dL_law_156 : decode cL_law 156 = .ok (.iaload, 1) := dk_46 (dk_at dksL_law_5 8 rfl rfl)
theorem dL_law_157 : decode cL_law 157 = .ok (.invokevirtual 18, 3) := dk_182 0 18 (dk_at dksL_law_5 9 rfl rfl)
theorem dL_law_160 : decode cL_law 160 = .ok (.aload_n 2, 1) := dk_44 (dk_at dksL_law_5 12 rfl rfl)
theorem dL_law_161 : decode cL_law 161 = .ok (.aload_n 0, 1) := dk_42 (dk_at dksL_law_5 13 rfl rfl)
theorem dL_law_162 : decode cL_law 162 = .ok (.iload_n 3, 1) := dk_29 (dk_at dksL_law_5 14 rfl rfl)
theorem dL_law_163 : decode cL_law 163 = .ok (.iconst 1, 1) := dk_4 (dk_at dksL_law_5 15 rfl rfl)
theorem dL_law_164 : decode cL_law 164 = .ok (.iadd, 1) := dk_96 (dk_at dksL_law_5 16 rfl rfl)
theorem dL_law_165 : decode cL_law 165 = .ok (.iaload, 1) := dk_46 (dk_at dksL_law_5 17 rfl rfl)
theorem dL_law_166 : decode cL_law 166 = .ok (.invokevirtual 22, 3) := dk_182 0 22 (dk_at dksL_law_5 18 rfl rfl)
theorem dL_law_169 : decode cL_law 169 = .ok (.if_icmp .eq 281, 3) := dk_159 1 25 (dk_at dksL_law_5 21 rfl rfl)
theorem dL_law_172 : decode cL_law 172 = .ok (.iconst 0, 1) := dk_3 (dk_at dksL_law_6 0 rfl rfl)
theorem dL_law_173 : decode cL_law 173 = .ok (.ireturn, 1) := dk_172 (dk_at dksL_law_6 1 rfl rfl)
theorem dL_law_174 : decode cL_law 174 = .ok (.aload_n 1, 1) := dk_43 (dk_at dksL_law_6 2 rfl rfl)
theorem dL_law_175 : decode cL_law 175 = .ok (.aload_n 0, 1) := dk_42 (dk_at dksL_law_6 3 rfl rfl)
theorem dL_law_176 : decode cL_law 176 = .ok (.iload_n 3, 1) := dk_29 (dk_at dksL_law_6 4 rfl rfl)
theorem dL_law_177 : decode cL_law 177 = .ok (.iconst 1, 1) := dk_4 (dk_at dksL_law_6 5 rfl rfl)
theorem dL_law_178 : decode cL_law 178 = .ok (.iadd, 1) := dk_96 (dk_at dksL_law_6 6 rfl rfl)
theorem dL_law_179 : decode cL_law 179 = .ok (.iaload, 1) := dk_46 (dk_at dksL_law_6 7 rfl rfl)
theorem dL_law_180 : decode cL_law 180 = .ok (.invokevirtual 23, 3) := dk_182 0 23 (dk_at dksL_law_6 8 rfl rfl)
theorem dL_law_183 : decode cL_law 183 = .ok (.aload_n 2, 1) := dk_44 (dk_at dksL_law_6 11 rfl rfl)
theorem dL_law_184 : decode cL_law 184 = .ok (.aload_n 0, 1) := dk_42 (dk_at dksL_law_6 12 rfl rfl)
theorem dL_law_185 : decode cL_law 185 = .ok (.iload_n 3, 1) := dk_29 (dk_at dksL_law_6 13 rfl rfl)
theorem dL_law_186 : decode cL_law 186 = .ok (.iconst 1, 1) := dk_4 (dk_at dksL_law_6 14 rfl rfl)
theorem dL_law_187 : decode cL_law 187 = .ok (.iadd, 1) := dk_96 (dk_at dksL_law_6 15 rfl rfl)
theorem dL_law_188 : decode cL_law 188 = .ok (.iaload, 1) := dk_46 (dk_at dksL_law_6 16 rfl rfl)
theorem dL_law_189 : decode cL_law 189 = .ok (.invokevirtual 26, 3) := dk_182 0 26 (dk_at dksL_law_6 17 rfl rfl)
theorem dL_law_192 : decode cL_law 192 = .ok (.if_icmp .eq 258, 3) := dk_159 1 2 (dk_at dksL_law_6 20 rfl rfl)
theorem dL_law_195 : decode cL_law 195 = .ok (.iconst 0, 1) := dk_3 (dk_at dksL_law_6 23 rfl rfl)
theorem dL_law_196 : decode cL_law 196 = .ok (.ireturn, 1) := dk_172 (dk_at dksL_law_7 0 rfl rfl)
theorem dL_law_197 : decode cL_law 197 = .ok (.aload_n 1, 1) := dk_43 (dk_at dksL_law_7 1 rfl rfl)
theorem dL_law_198 : decode cL_law 198 = .ok (.aload_n 0, 1) := dk_42 (dk_at dksL_law_7 2 rfl rfl)
theorem dL_law_199 : decode cL_law 199 = .ok (.iload_n 3, 1) := dk_29 (dk_at dksL_law_7 3 rfl rfl)
theorem dL_law_200 : decode cL_law 200 = .ok (.iconst 1, 1) := dk_4 (dk_at dksL_law_7 4 rfl rfl)
theorem dL_law_201 : decode cL_law 201 = .ok (.iadd, 1) := dk_96 (dk_at dksL_law_7 5 rfl rfl)
theorem dL_law_202 : decode cL_law 202 = .ok (.iaload, 1) := dk_46 (dk_at dksL_law_7 6 rfl rfl)
theorem dL_law_203 : decode cL_law 203 = .ok (.aload_n 0, 1) := dk_42 (dk_at dksL_law_7 7 rfl rfl)
theorem dL_law_204 : decode cL_law 204 = .ok (.iload_n 3, 1) := dk_29 (dk_at dksL_law_7 8 rfl rfl)
theorem dL_law_205 : decode cL_law 205 = .ok (.iconst 2, 1) := dk_5 (dk_at dksL_law_7 9 rfl rfl)
theorem dL_law_206 : decode cL_law 206 = .ok (.iadd, 1) := dk_96 (dk_at dksL_law_7 10 rfl rfl)
theorem dL_law_207 : decode cL_law 207 = .ok (.iaload, 1) := dk_46 (dk_at dksL_law_7 11 rfl rfl)
theorem dL_law_208 : decode cL_law 208 = .ok (.invokevirtual 27, 3) := dk_182 0 27 (dk_at dksL_law_7 12 rfl rfl)
theorem dL_law_211 : decode cL_law 211 = .ok (.aload_n 2, 1) := dk_44 (dk_at dksL_law_7 15 rfl rfl)
theorem dL_law_212 : decode cL_law 212 = .ok (.aload_n 0, 1) := dk_42 (dk_at dksL_law_7 16 rfl rfl)
theorem dL_law_213 : decode cL_law 213 = .ok (.iload_n 3, 1) := dk_29 (dk_at dksL_law_7 17 rfl rfl)
theorem dL_law_214 : decode cL_law 214 = .ok (.iconst 1, 1) := dk_4 (dk_at dksL_law_7 18 rfl rfl)
theorem dL_law_215 : decode cL_law 215 = .ok (.iadd, 1) := dk_96 (dk_at dksL_law_7 19 rfl rfl)
theorem dL_law_216 : decode cL_law 216 = .ok (.iaload, 1) := dk_46 (dk_at dksL_law_7 20 rfl rfl)
theorem dL_law_217 : decode cL_law 217 = .ok (.aload_n 0, 1) := dk_42 (dk_at dksL_law_7 21 rfl rfl)
theorem dL_law_218 : decode cL_law 218 = .ok (.iload_n 3, 1) := dk_29 (dk_at dksL_law_7 22 rfl rfl)
theorem dL_law_219 : decode cL_law 219 = .ok (.iconst 2, 1) := dk_5 (dk_at dksL_law_7 23 rfl rfl)
theorem dL_law_220 : decode cL_law 220 = .ok (.iadd, 1) := dk_96 (dk_at dksL_law_8 0 rfl rfl)
theorem dL_law_221 : decode cL_law 221 = .ok (.iaload, 1) := dk_46 (dk_at dksL_law_8 1 rfl rfl)
theorem dL_law_222 : decode cL_law 222 = .ok (.invokevirtual 31, 3) := dk_182 0 31 (dk_at dksL_law_8 2 rfl rfl)
theorem dL_law_225 : decode cL_law 225 = .ok (.if_icmp .eq 225, 3) := dk_159 0 225 (dk_at dksL_law_8 5 rfl rfl)
theorem dL_law_228 : decode cL_law 228 = .ok (.iconst 0, 1) := dk_3 (dk_at dksL_law_8 8 rfl rfl)
theorem dL_law_229 : decode cL_law 229 = .ok (.ireturn, 1) := dk_172 (dk_at dksL_law_8 9 rfl rfl)
theorem dL_law_230 : decode cL_law 230 = .ok (.aload_n 1, 1) := dk_43 (dk_at dksL_law_8 10 rfl rfl)
theorem dL_law_231 : decode cL_law 231 = .ok (.aload_n 0, 1) := dk_42 (dk_at dksL_law_8 11 rfl rfl)
theorem dL_law_232 : decode cL_law 232 = .ok (.iload_n 3, 1) := dk_29 (dk_at dksL_law_8 12 rfl rfl)
theorem dL_law_233 : decode cL_law 233 = .ok (.iconst 1, 1) := dk_4 (dk_at dksL_law_8 13 rfl rfl)
theorem dL_law_234 : decode cL_law 234 = .ok (.iadd, 1) := dk_96 (dk_at dksL_law_8 14 rfl rfl)
theorem dL_law_235 : decode cL_law 235 = .ok (.iaload, 1) := dk_46 (dk_at dksL_law_8 15 rfl rfl)
theorem dL_law_236 : decode cL_law 236 = .ok (.aload_n 0, 1) := dk_42 (dk_at dksL_law_8 16 rfl rfl)
theorem dL_law_237 : decode cL_law 237 = .ok (.iload_n 3, 1) := dk_29 (dk_at dksL_law_8 17 rfl rfl)
theorem dL_law_238 : decode cL_law 238 = .ok (.iconst 2, 1) := dk_5 (dk_at dksL_law_8 18 rfl rfl)
theorem dL_law_239 : decode cL_law 239 = .ok (.iadd, 1) := dk_96 (dk_at dksL_law_8 19 rfl rfl)
theorem dL_law_240 : decode cL_law 240 = .ok (.iaload, 1) := dk_46 (dk_at dksL_law_8 20 rfl rfl)
theorem dL_law_241 : decode cL_law 241 = .ok (.invokevirtual 32, 3) := dk_182 0 32 (dk_at dksL_law_8 21 rfl rfl)
theorem dL_law_244 : decode cL_law 244 = .ok (.aload_n 2, 1) := dk_44 (dk_at dksL_law_9 0 rfl rfl)
theorem dL_law_245 : decode cL_law 245 = .ok (.aload_n 0, 1) := dk_42 (dk_at dksL_law_9 1 rfl rfl)
theorem dL_law_246 : decode cL_law 246 = .ok (.iload_n 3, 1) := dk_29 (dk_at dksL_law_9 2 rfl rfl)
theorem dL_law_247 : decode cL_law 247 = .ok (.iconst 1, 1) := dk_4 (dk_at dksL_law_9 3 rfl rfl)
theorem dL_law_248 : decode cL_law 248 = .ok (.iadd, 1) := dk_96 (dk_at dksL_law_9 4 rfl rfl)
theorem dL_law_249 : decode cL_law 249 = .ok (.iaload, 1) := dk_46 (dk_at dksL_law_9 5 rfl rfl)
theorem dL_law_250 : decode cL_law 250 = .ok (.aload_n 0, 1) := dk_42 (dk_at dksL_law_9 6 rfl rfl)
theorem dL_law_251 : decode cL_law 251 = .ok (.iload_n 3, 1) := dk_29 (dk_at dksL_law_9 7 rfl rfl)
theorem dL_law_252 : decode cL_law 252 = .ok (.iconst 2, 1) := dk_5 (dk_at dksL_law_9 8 rfl rfl)
theorem dL_law_253 : decode cL_law 253 = .ok (.iadd, 1) := dk_96 (dk_at dksL_law_9 9 rfl rfl)
theorem dL_law_254 : decode cL_law 254 = .ok (.iaload, 1) := dk_46 (dk_at dksL_law_9 10 rfl rfl)
theorem dL_law_255 : decode cL_law 255 = .ok (.invokevirtual 35, 3) := dk_182 0 35 (dk_at dksL_law_9 11 rfl rfl)
theorem dL_law_258 : decode cL_law 258 = .ok (.if_icmp .eq 192, 3) := dk_159 0 192 (dk_at dksL_law_9 14 rfl rfl)
theorem dL_law_261 : decode cL_law 261 = .ok (.iconst 0, 1) := dk_3 (dk_at dksL_law_9 17 rfl rfl)
theorem dL_law_262 : decode cL_law 262 = .ok (.ireturn, 1) := dk_172 (dk_at dksL_law_9 18 rfl rfl)
theorem dL_law_263 : decode cL_law 263 = .ok (.aload_n 1, 1) := dk_43 (dk_at dksL_law_9 19 rfl rfl)
theorem dL_law_264 : decode cL_law 264 = .ok (.aload_n 0, 1) := dk_42 (dk_at dksL_law_9 20 rfl rfl)
theorem dL_law_265 : decode cL_law 265 = .ok (.iload_n 3, 1) := dk_29 (dk_at dksL_law_9 21 rfl rfl)
theorem dL_law_266 : decode cL_law 266 = .ok (.iconst 1, 1) := dk_4 (dk_at dksL_law_9 22 rfl rfl)
theorem dL_law_267 : decode cL_law 267 = .ok (.iadd, 1) := dk_96 (dk_at dksL_law_9 23 rfl rfl)
theorem dL_law_268 : decode cL_law 268 = .ok (.iaload, 1) := dk_46 (dk_at dksL_law_10 0 rfl rfl)
theorem dL_law_269 : decode cL_law 269 = .ok (.aload_n 0, 1) := dk_42 (dk_at dksL_law_10 1 rfl rfl)
theorem dL_law_270 : decode cL_law 270 = .ok (.iload_n 3, 1) := dk_29 (dk_at dksL_law_10 2 rfl rfl)
theorem dL_law_271 : decode cL_law 271 = .ok (.iconst 2, 1) := dk_5 (dk_at dksL_law_10 3 rfl rfl)
theorem dL_law_272 : decode cL_law 272 = .ok (.iadd, 1) := dk_96 (dk_at dksL_law_10 4 rfl rfl)
theorem dL_law_273 : decode cL_law 273 = .ok (.iaload, 1) := dk_46 (dk_at dksL_law_10 5 rfl rfl)
theorem dL_law_274 : decode cL_law 274 = .ok (.invokevirtual 36, 3) := dk_182 0 36 (dk_at dksL_law_10 6 rfl rfl)
theorem dL_law_277 : decode cL_law 277 = .ok (.aload_n 2, 1) := dk_44 (dk_at dksL_law_10 9 rfl rfl)
theorem dL_law_278 : decode cL_law 278 = .ok (.aload_n 0, 1) := dk_42 (dk_at dksL_law_10 10 rfl rfl)
theorem dL_law_279 : decode cL_law 279 = .ok (.iload_n 3, 1) := dk_29 (dk_at dksL_law_10 11 rfl rfl)
theorem dL_law_280 : decode cL_law 280 = .ok (.iconst 1, 1) := dk_4 (dk_at dksL_law_10 12 rfl rfl)
theorem dL_law_281 : decode cL_law 281 = .ok (.iadd, 1) := dk_96 (dk_at dksL_law_10 13 rfl rfl)
theorem dL_law_282 : decode cL_law 282 = .ok (.iaload, 1) := dk_46 (dk_at dksL_law_10 14 rfl rfl)
theorem dL_law_283 : decode cL_law 283 = .ok (.aload_n 0, 1) := dk_42 (dk_at dksL_law_10 15 rfl rfl)
theorem dL_law_284 : decode cL_law 284 = .ok (.iload_n 3, 1) := dk_29 (dk_at dksL_law_10 16 rfl rfl)
theorem dL_law_285 : decode cL_law 285 = .ok (.iconst 2, 1) := dk_5 (dk_at dksL_law_10 17 rfl rfl)
theorem dL_law_286 : decode cL_law 286 = .ok (.iadd, 1) := dk_96 (dk_at dksL_law_10 18 rfl rfl)
theorem dL_law_287 : decode cL_law 287 = .ok (.iaload, 1) := dk_46 (dk_at dksL_law_10 19 rfl rfl)
theorem dL_law_288 : decode cL_law 288 = .ok (.invokevirtual 39, 3) := dk_182 0 39 (dk_at dksL_law_10 20 rfl rfl)
theorem dL_law_291 : decode cL_law 291 = .ok (.if_icmp .eq 159, 3) := dk_159 0 159 (dk_at dksL_law_11 0 rfl rfl)
theorem dL_law_294 : decode cL_law 294 = .ok (.iconst 0, 1) := dk_3 (dk_at dksL_law_11 3 rfl rfl)
theorem dL_law_295 : decode cL_law 295 = .ok (.ireturn, 1) := dk_172 (dk_at dksL_law_11 4 rfl rfl)
theorem dL_law_296 : decode cL_law 296 = .ok (.aload_n 1, 1) := dk_43 (dk_at dksL_law_11 5 rfl rfl)
theorem dL_law_297 : decode cL_law 297 = .ok (.aload_n 0, 1) := dk_42 (dk_at dksL_law_11 6 rfl rfl)
theorem dL_law_298 : decode cL_law 298 = .ok (.iload_n 3, 1) := dk_29 (dk_at dksL_law_11 7 rfl rfl)
theorem dL_law_299 : decode cL_law 299 = .ok (.iconst 1, 1) := dk_4 (dk_at dksL_law_11 8 rfl rfl)
theorem dL_law_300 : decode cL_law 300 = .ok (.iadd, 1) := dk_96 (dk_at dksL_law_11 9 rfl rfl)
theorem dL_law_301 : decode cL_law 301 = .ok (.iaload, 1) := dk_46 (dk_at dksL_law_11 10 rfl rfl)
theorem dL_law_302 : decode cL_law 302 = .ok (.invokevirtual 40, 3) := dk_182 0 40 (dk_at dksL_law_11 11 rfl rfl)
theorem dL_law_305 : decode cL_law 305 = .ok (.aload_n 2, 1) := dk_44 (dk_at dksL_law_11 14 rfl rfl)
theorem dL_law_306 : decode cL_law 306 = .ok (.aload_n 0, 1) := dk_42 (dk_at dksL_law_11 15 rfl rfl)
theorem dL_law_307 : decode cL_law 307 = .ok (.iload_n 3, 1) := dk_29 (dk_at dksL_law_11 16 rfl rfl)
theorem dL_law_308 : decode cL_law 308 = .ok (.iconst 1, 1) := dk_4 (dk_at dksL_law_11 17 rfl rfl)
theorem dL_law_309 : decode cL_law 309 = .ok (.iadd, 1) := dk_96 (dk_at dksL_law_11 18 rfl rfl)
theorem dL_law_310 : decode cL_law 310 = .ok (.iaload, 1) := dk_46 (dk_at dksL_law_11 19 rfl rfl)
theorem dL_law_311 : decode cL_law 311 = .ok (.invokevirtual 44, 3) := dk_182 0 44 (dk_at dksL_law_11 20 rfl rfl)
theorem dL_law_314 : decode cL_law 314 = .ok (.lcmp, 1) := dk_148 (dk_at dksL_law_11 23 rfl rfl)
theorem dL_law_315 : decode cL_law 315 = .ok (.ifCond .eq 135, 3) := dk_153 0 135 (dk_at dksL_law_12 0 rfl rfl)
theorem dL_law_318 : decode cL_law 318 = .ok (.iconst 0, 1) := dk_3 (dk_at dksL_law_12 3 rfl rfl)
theorem dL_law_319 : decode cL_law 319 = .ok (.ireturn, 1) := dk_172 (dk_at dksL_law_12 4 rfl rfl)
theorem dL_law_320 : decode cL_law 320 = .ok (.aload_n 1, 1) := dk_43 (dk_at dksL_law_12 5 rfl rfl)
theorem dL_law_321 : decode cL_law 321 = .ok (.aload_n 0, 1) := dk_42 (dk_at dksL_law_12 6 rfl rfl)
theorem dL_law_322 : decode cL_law 322 = .ok (.iload_n 3, 1) := dk_29 (dk_at dksL_law_12 7 rfl rfl)
theorem dL_law_323 : decode cL_law 323 = .ok (.iconst 1, 1) := dk_4 (dk_at dksL_law_12 8 rfl rfl)
theorem dL_law_324 : decode cL_law 324 = .ok (.iadd, 1) := dk_96 (dk_at dksL_law_12 9 rfl rfl)
theorem dL_law_325 : decode cL_law 325 = .ok (.iaload, 1) := dk_46 (dk_at dksL_law_12 10 rfl rfl)
theorem dL_law_326 : decode cL_law 326 = .ok (.invokevirtual 45, 3) := dk_182 0 45 (dk_at dksL_law_12 11 rfl rfl)
theorem dL_law_329 : decode cL_law 329 = .ok (.aload_n 2, 1) := dk_44 (dk_at dksL_law_12 14 rfl rfl)
theorem dL_law_330 : decode cL_law 330 = .ok (.aload_n 0, 1) := dk_42 (dk_at dksL_law_12 15 rfl rfl)
theorem dL_law_331 : decode cL_law 331 = .ok (.iload_n 3, 1) := dk_29 (dk_at dksL_law_12 16 rfl rfl)
theorem dL_law_332 : decode cL_law 332 = .ok (.iconst 1, 1) := dk_4 (dk_at dksL_law_12 17 rfl rfl)
theorem dL_law_333 : decode cL_law 333 = .ok (.iadd, 1) := dk_96 (dk_at dksL_law_12 18 rfl rfl)
theorem dL_law_334 : decode cL_law 334 = .ok (.iaload, 1) := dk_46 (dk_at dksL_law_12 19 rfl rfl)
theorem dL_law_335 : decode cL_law 335 = .ok (.invokevirtual 49, 3) := dk_182 0 49 (dk_at dksL_law_12 20 rfl rfl)
theorem dL_law_338 : decode cL_law 338 = .ok (.if_icmp .eq 112, 3) := dk_159 0 112 (dk_at dksL_law_13 0 rfl rfl)
theorem dL_law_341 : decode cL_law 341 = .ok (.iconst 0, 1) := dk_3 (dk_at dksL_law_13 3 rfl rfl)
theorem dL_law_342 : decode cL_law 342 = .ok (.ireturn, 1) := dk_172 (dk_at dksL_law_13 4 rfl rfl)
theorem dL_law_343 : decode cL_law 343 = .ok (.aload_n 1, 1) := dk_43 (dk_at dksL_law_13 5 rfl rfl)
theorem dL_law_344 : decode cL_law 344 = .ok (.aload_n 0, 1) := dk_42 (dk_at dksL_law_13 6 rfl rfl)
theorem dL_law_345 : decode cL_law 345 = .ok (.iload_n 3, 1) := dk_29 (dk_at dksL_law_13 7 rfl rfl)
theorem dL_law_346 : decode cL_law 346 = .ok (.iconst 1, 1) := dk_4 (dk_at dksL_law_13 8 rfl rfl)
theorem dL_law_347 : decode cL_law 347 = .ok (.iadd, 1) := dk_96 (dk_at dksL_law_13 9 rfl rfl)
theorem dL_law_348 : decode cL_law 348 = .ok (.iaload, 1) := dk_46 (dk_at dksL_law_13 10 rfl rfl)
theorem dL_law_349 : decode cL_law 349 = .ok (.invokevirtual 50, 3) := dk_182 0 50 (dk_at dksL_law_13 11 rfl rfl)
theorem dL_law_352 : decode cL_law 352 = .ok (.aload_n 2, 1) := dk_44 (dk_at dksL_law_13 14 rfl rfl)
theorem dL_law_353 : decode cL_law 353 = .ok (.aload_n 0, 1) := dk_42 (dk_at dksL_law_13 15 rfl rfl)
theorem dL_law_354 : decode cL_law 354 = .ok (.iload_n 3, 1) := dk_29 (dk_at dksL_law_13 16 rfl rfl)
theorem dL_law_355 : decode cL_law 355 = .ok (.iconst 1, 1) := dk_4 (dk_at dksL_law_13 17 rfl rfl)
theorem dL_law_356 : decode cL_law 356 = .ok (.iadd, 1) := dk_96 (dk_at dksL_law_13 18 rfl rfl)
theorem dL_law_357 : decode cL_law 357 = .ok (.iaload, 1) := dk_46 (dk_at dksL_law_13 19 rfl rfl)
theorem dL_law_358 : decode cL_law 358 = .ok (.invokevirtual 53, 3) := dk_182 0 53 (dk_at dksL_law_13 20 rfl rfl)
theorem dL_law_361 : decode cL_law 361 = .ok (.if_icmp .eq 89, 3) := dk_159 0 89 (dk_at dksL_law_14 0 rfl rfl)
theorem dL_law_364 : decode cL_law 364 = .ok (.iconst 0, 1) := dk_3 (dk_at dksL_law_14 3 rfl rfl)
theorem dL_law_365 : decode cL_law 365 = .ok (.ireturn, 1) := dk_172 (dk_at dksL_law_14 4 rfl rfl)
theorem dL_law_366 : decode cL_law 366 = .ok (.aload_n 1, 1) := dk_43 (dk_at dksL_law_14 5 rfl rfl)
theorem dL_law_367 : decode cL_law 367 = .ok (.aload_n 0, 1) := dk_42 (dk_at dksL_law_14 6 rfl rfl)
theorem dL_law_368 : decode cL_law 368 = .ok (.iload_n 3, 1) := dk_29 (dk_at dksL_law_14 7 rfl rfl)
theorem dL_law_369 : decode cL_law 369 = .ok (.iconst 1, 1) := dk_4 (dk_at dksL_law_14 8 rfl rfl)
theorem dL_law_370 : decode cL_law 370 = .ok (.iadd, 1) := dk_96 (dk_at dksL_law_14 9 rfl rfl)
theorem dL_law_371 : decode cL_law 371 = .ok (.iaload, 1) := dk_46 (dk_at dksL_law_14 10 rfl rfl)
theorem dL_law_372 : decode cL_law 372 = .ok (.invokevirtual 54, 3) := dk_182 0 54 (dk_at dksL_law_14 11 rfl rfl)
theorem dL_law_375 : decode cL_law 375 = .ok (.aload_n 2, 1) := dk_44 (dk_at dksL_law_14 14 rfl rfl)
theorem dL_law_376 : decode cL_law 376 = .ok (.aload_n 0, 1) := dk_42 (dk_at dksL_law_14 15 rfl rfl)
theorem dL_law_377 : decode cL_law 377 = .ok (.iload_n 3, 1) := dk_29 (dk_at dksL_law_14 16 rfl rfl)
theorem dL_law_378 : decode cL_law 378 = .ok (.iconst 1, 1) := dk_4 (dk_at dksL_law_14 17 rfl rfl)
theorem dL_law_379 : decode cL_law 379 = .ok (.iadd, 1) := dk_96 (dk_at dksL_law_14 18 rfl rfl)
theorem dL_law_380 : decode cL_law 380 = .ok (.iaload, 1) := dk_46 (dk_at dksL_law_14 19 rfl rfl)
theorem dL_law_381 : decode cL_law 381 = .ok (.invokevirtual 57, 3) := dk_182 0 57 (dk_at dksL_law_14 20 rfl rfl)
theorem dL_law_384 : decode cL_law 384 = .ok (.if_icmp .eq 66, 3) := dk_159 0 66 (dk_at dksL_law_15 0 rfl rfl)
theorem dL_law_387 : decode cL_law 387 = .ok (.iconst 0, 1) := dk_3 (dk_at dksL_law_15 3 rfl rfl)
theorem dL_law_388 : decode cL_law 388 = .ok (.ireturn, 1) := dk_172 (dk_at dksL_law_15 4 rfl rfl)
theorem dL_law_389 : decode cL_law 389 = .ok (.aload_n 1, 1) := dk_43 (dk_at dksL_law_15 5 rfl rfl)
theorem dL_law_390 : decode cL_law 390 = .ok (.invokevirtual 58, 3) := dk_182 0 58 (dk_at dksL_law_15 6 rfl rfl)
theorem dL_law_393 : decode cL_law 393 = .ok (.aload_n 2, 1) := dk_44 (dk_at dksL_law_15 9 rfl rfl)
theorem dL_law_394 : decode cL_law 394 = .ok (.invokevirtual 62, 3) := dk_182 0 62 (dk_at dksL_law_15 10 rfl rfl)
theorem dL_law_397 : decode cL_law 397 = .ok (.if_icmp .eq 53, 3) := dk_159 0 53 (dk_at dksL_law_15 13 rfl rfl)
theorem dL_law_400 : decode cL_law 400 = .ok (.iconst 0, 1) := dk_3 (dk_at dksL_law_15 16 rfl rfl)
theorem dL_law_401 : decode cL_law 401 = .ok (.ireturn, 1) := dk_172 (dk_at dksL_law_15 17 rfl rfl)
theorem dL_law_402 : decode cL_law 402 = .ok (.aload_n 1, 1) := dk_43 (dk_at dksL_law_15 18 rfl rfl)
theorem dL_law_403 : decode cL_law 403 = .ok (.aload_n 0, 1) := dk_42 (dk_at dksL_law_15 19 rfl rfl)
theorem dL_law_404 : decode cL_law 404 = .ok (.iload_n 3, 1) := dk_29 (dk_at dksL_law_15 20 rfl rfl)
theorem dL_law_405 : decode cL_law 405 = .ok (.iconst 1, 1) := dk_4 (dk_at dksL_law_15 21 rfl rfl)
theorem dL_law_406 : decode cL_law 406 = .ok (.iadd, 1) := dk_96 (dk_at dksL_law_15 22 rfl rfl)
theorem dL_law_407 : decode cL_law 407 = .ok (.iaload, 1) := dk_46 (dk_at dksL_law_15 23 rfl rfl)
theorem dL_law_408 : decode cL_law 408 = .ok (.invokevirtual 63, 3) := dk_182 0 63 (dk_at dksL_law_16 0 rfl rfl)
theorem dL_law_411 : decode cL_law 411 = .ok (.aload_n 2, 1) := dk_44 (dk_at dksL_law_16 3 rfl rfl)
theorem dL_law_412 : decode cL_law 412 = .ok (.aload_n 0, 1) := dk_42 (dk_at dksL_law_16 4 rfl rfl)
theorem dL_law_413 : decode cL_law 413 = .ok (.iload_n 3, 1) := dk_29 (dk_at dksL_law_16 5 rfl rfl)
theorem dL_law_414 : decode cL_law 414 = .ok (.iconst 1, 1) := dk_4 (dk_at dksL_law_16 6 rfl rfl)
theorem dL_law_415 : decode cL_law 415 = .ok (.iadd, 1) := dk_96 (dk_at dksL_law_16 7 rfl rfl)
theorem dL_law_416 : decode cL_law 416 = .ok (.iaload, 1) := dk_46 (dk_at dksL_law_16 8 rfl rfl)
theorem dL_law_417 : decode cL_law 417 = .ok (.invokevirtual 66, 3) := dk_182 0 66 (dk_at dksL_law_16 9 rfl rfl)
theorem dL_law_420 : decode cL_law 420 = .ok (.lcmp, 1) := dk_148 (dk_at dksL_law_16 12 rfl rfl)
theorem dL_law_421 : decode cL_law 421 = .ok (.ifCond .eq 29, 3) := dk_153 0 29 (dk_at dksL_law_16 13 rfl rfl)
theorem dL_law_424 : decode cL_law 424 = .ok (.iconst 0, 1) := dk_3 (dk_at dksL_law_16 16 rfl rfl)
theorem dL_law_425 : decode cL_law 425 = .ok (.ireturn, 1) := dk_172 (dk_at dksL_law_16 17 rfl rfl)
theorem dL_law_426 : decode cL_law 426 = .ok (.aload_n 1, 1) := dk_43 (dk_at dksL_law_16 18 rfl rfl)
theorem dL_law_427 : decode cL_law 427 = .ok (.aload_n 0, 1) := dk_42 (dk_at dksL_law_16 19 rfl rfl)
theorem dL_law_428 : decode cL_law 428 = .ok (.iload_n 3, 1) := dk_29 (dk_at dksL_law_16 20 rfl rfl)
theorem dL_law_429 : decode cL_law 429 = .ok (.iconst 1, 1) := dk_4 (dk_at dksL_law_16 21 rfl rfl)
theorem dL_law_430 : decode cL_law 430 = .ok (.iadd, 1) := dk_96 (dk_at dksL_law_16 22 rfl rfl)
theorem dL_law_431 : decode cL_law 431 = .ok (.iaload, 1) := dk_46 (dk_at dksL_law_16 23 rfl rfl)
theorem dL_law_432 : decode cL_law 432 = .ok (.invokevirtual 67, 3) := dk_182 0 67 (dk_at dksL_law_17 0 rfl rfl)
theorem dL_law_435 : decode cL_law 435 = .ok (.aload_n 2, 1) := dk_44 (dk_at dksL_law_17 3 rfl rfl)
theorem dL_law_436 : decode cL_law 436 = .ok (.aload_n 0, 1) := dk_42 (dk_at dksL_law_17 4 rfl rfl)
theorem dL_law_437 : decode cL_law 437 = .ok (.iload_n 3, 1) := dk_29 (dk_at dksL_law_17 5 rfl rfl)
theorem dL_law_438 : decode cL_law 438 = .ok (.iconst 1, 1) := dk_4 (dk_at dksL_law_17 6 rfl rfl)
theorem dL_law_439 : decode cL_law 439 = .ok (.iadd, 1) := dk_96 (dk_at dksL_law_17 7 rfl rfl)
theorem dL_law_440 : decode cL_law 440 = .ok (.iaload, 1) := dk_46 (dk_at dksL_law_17 8 rfl rfl)
theorem dL_law_441 : decode cL_law 441 = .ok (.invokevirtual 70, 3) := dk_182 0 70 (dk_at dksL_law_17 9 rfl rfl)
theorem dL_law_444 : decode cL_law 444 = .ok (.lcmp, 1) := dk_148 (dk_at dksL_law_17 12 rfl rfl)
theorem dL_law_445 : decode cL_law 445 = .ok (.ifCond .eq 5, 3) := dk_153 0 5 (dk_at dksL_law_17 13 rfl rfl)
theorem dL_law_448 : decode cL_law 448 = .ok (.iconst 0, 1) := dk_3 (dk_at dksL_law_17 16 rfl rfl)
theorem dL_law_449 : decode cL_law 449 = .ok (.ireturn, 1) := dk_172 (dk_at dksL_law_17 17 rfl rfl)
theorem dL_law_450 : decode cL_law 450 = .ok (.iinc 3 6, 3) := dk_132 3 6 (dk_at dksL_law_17 18 rfl rfl)
theorem dL_law_453 : decode cL_law 453 = .ok (.goto (-435), 3) := dk_167 254 77 (dk_at dksL_law_17 21 rfl rfl)
theorem dL_law_456 : decode cL_law 456 = .ok (.iconst 1, 1) := dk_4 (dk_at dksL_law_18 0 rfl rfl)
theorem dL_law_457 : decode cL_law 457 = .ok (.ireturn, 1) := dk_172 (dk_at dksL_law_18 1 rfl rfl)

theorem q5 : (Jvm.Cond.initialized "SpanDeskLaw") ∈ lw_all := lw_g (lw_at lw_m1 0 rfl) rfl
set_option maxRecDepth 100000
theorem q14 : (Jvm.Cond.classLink "SpanDeskLaw" (7 : Nat) "SpanDesk") ∈ lw_all := lw_g (lw_at lw_m1 9 rfl) rfl
theorem q16 : (Jvm.Cond.methodLink "SpanDeskLaw" (9 : Nat) ({ cls := "SpanDesk", name := "<init>", desc := "()V" } : Jvm.MethodName)) ∈ lw_all := lw_g (lw_at lw_m1 11 rfl) rfl
theorem q126 : (Jvm.Cond.methodLink "SpanDeskLaw" (13 : Nat) ({ cls := "SpanDesk", name := "set", desc := "(IIII)V" } : Jvm.MethodName)) ∈ lw_all := lw_g (lw_at lw_m1 121 rfl) rfl
theorem q134 : (Jvm.Cond.methodLink "SpanDeskLaw" (18 : Nat) ({ cls := "SpanDesk", name := "plus", desc := "(I)Z" } : Jvm.MethodName)) ∈ lw_all := lw_g (lw_at lw_m1 129 rfl) rfl
theorem q162 : (Jvm.Cond.methodLink "SpanDeskLaw" (23 : Nat) ({ cls := "SpanDesk", name := "minus", desc := "(I)Z" } : Jvm.MethodName)) ∈ lw_all := lw_g (lw_at lw_m1 157 rfl) rfl
theorem q172 : (Jvm.Cond.methodLink "SpanDeskLaw" (27 : Nat) ({ cls := "SpanDesk", name := "seconds", desc := "(II)Z" } : Jvm.MethodName)) ∈ lw_all := lw_g (lw_at lw_m1 167 rfl) rfl
theorem q180 : (Jvm.Cond.methodLink "SpanDeskLaw" (32 : Nat) ({ cls := "SpanDesk", name := "millis", desc := "(II)Z" } : Jvm.MethodName)) ∈ lw_all := lw_g (lw_at lw_m1 175 rfl) rfl
theorem q190 : (Jvm.Cond.methodLink "SpanDeskLaw" (36 : Nat) ({ cls := "SpanDesk", name := "nanos", desc := "(II)Z" } : Jvm.MethodName)) ∈ lw_all := lw_g (lw_at lw_m1 185 rfl) rfl
theorem q198 : (Jvm.Cond.methodLink "SpanDeskLaw" (40 : Nat) ({ cls := "SpanDesk", name := "whole", desc := "(I)J" } : Jvm.MethodName)) ∈ lw_all := lw_g (lw_at lw_m1 193 rfl) rfl
theorem q202 : (Jvm.Cond.methodLink "SpanDeskLaw" (45 : Nat) ({ cls := "SpanDesk", name := "nano", desc := "(I)I" } : Jvm.MethodName)) ∈ lw_all := lw_g (lw_at lw_m1 197 rfl) rfl
theorem q207 : (Jvm.Cond.methodLink "SpanDeskLaw" (50 : Nat) ({ cls := "SpanDesk", name := "below", desc := "(I)Z" } : Jvm.MethodName)) ∈ lw_all := lw_g (lw_at lw_m1 202 rfl) rfl
theorem q215 : (Jvm.Cond.methodLink "SpanDeskLaw" (54 : Nat) ({ cls := "SpanDesk", name := "nought", desc := "(I)Z" } : Jvm.MethodName)) ∈ lw_all := lw_g (lw_at lw_m1 210 rfl) rfl
theorem q223 : (Jvm.Cond.methodLink "SpanDeskLaw" (58 : Nat) ({ cls := "SpanDesk", name := "order", desc := "()I" } : Jvm.MethodName)) ∈ lw_all := lw_g (lw_at lw_m1 218 rfl) rfl
theorem q234 : (Jvm.Cond.methodLink "SpanDeskLaw" (63 : Nat) ({ cls := "SpanDesk", name := "days", desc := "(I)J" } : Jvm.MethodName)) ∈ lw_all := lw_g (lw_at lw_m1 229 rfl) rfl
theorem q243 : (Jvm.Cond.methodLink "SpanDeskLaw" (67 : Nat) ({ cls := "SpanDesk", name := "minutes", desc := "(I)J" } : Jvm.MethodName)) ∈ lw_all := lw_g (lw_at lw_m1 238 rfl) rfl
theorem q252 : (Jvm.Cond.classLink "SpanDeskLaw" (10 : Nat) "SpanDeskModel") ∈ lw_all := lw_g (lw_at lw_m2 7 rfl) rfl
theorem q254 : (Jvm.Cond.methodLink "SpanDeskLaw" (12 : Nat) ({ cls := "SpanDeskModel", name := "<init>", desc := "()V" } : Jvm.MethodName)) ∈ lw_all := lw_g (lw_at lw_m2 9 rfl) rfl
theorem q267 : (Jvm.Cond.methodLink "SpanDeskLaw" (17 : Nat) ({ cls := "SpanDeskModel", name := "set", desc := "(IIII)V" } : Jvm.MethodName)) ∈ lw_all := lw_g (lw_at lw_m2 22 rfl) rfl
theorem q280 : (Jvm.Cond.methodLink "SpanDeskLaw" (22 : Nat) ({ cls := "SpanDeskModel", name := "plus", desc := "(I)Z" } : Jvm.MethodName)) ∈ lw_all := lw_g (lw_at lw_m2 35 rfl) rfl
theorem q296 : (Jvm.Cond.methodLink "SpanDeskLaw" (26 : Nat) ({ cls := "SpanDeskModel", name := "minus", desc := "(I)Z" } : Jvm.MethodName)) ∈ lw_all := lw_g (lw_at lw_m2 51 rfl) rfl
theorem q300 : (Jvm.Cond.methodLink "SpanDeskLaw" (31 : Nat) ({ cls := "SpanDeskModel", name := "seconds", desc := "(II)Z" } : Jvm.MethodName)) ∈ lw_all := lw_g (lw_at lw_m2 55 rfl) rfl
theorem q304 : (Jvm.Cond.methodLink "SpanDeskLaw" (35 : Nat) ({ cls := "SpanDeskModel", name := "millis", desc := "(II)Z" } : Jvm.MethodName)) ∈ lw_all := lw_g (lw_at lw_m2 59 rfl) rfl
theorem q309 : (Jvm.Cond.methodLink "SpanDeskLaw" (39 : Nat) ({ cls := "SpanDeskModel", name := "nanos", desc := "(II)Z" } : Jvm.MethodName)) ∈ lw_all := lw_g (lw_at lw_m2 64 rfl) rfl
theorem q313 : (Jvm.Cond.methodLink "SpanDeskLaw" (44 : Nat) ({ cls := "SpanDeskModel", name := "whole", desc := "(I)J" } : Jvm.MethodName)) ∈ lw_all := lw_g (lw_at lw_m2 68 rfl) rfl
theorem q317 : (Jvm.Cond.methodLink "SpanDeskLaw" (49 : Nat) ({ cls := "SpanDeskModel", name := "nano", desc := "(I)I" } : Jvm.MethodName)) ∈ lw_all := lw_g (lw_at lw_m2 72 rfl) rfl
theorem q321 : (Jvm.Cond.methodLink "SpanDeskLaw" (53 : Nat) ({ cls := "SpanDeskModel", name := "below", desc := "(I)Z" } : Jvm.MethodName)) ∈ lw_all := lw_g (lw_at lw_m2 76 rfl) rfl
theorem q325 : (Jvm.Cond.methodLink "SpanDeskLaw" (57 : Nat) ({ cls := "SpanDeskModel", name := "nought", desc := "(I)Z" } : Jvm.MethodName)) ∈ lw_all := lw_g (lw_at lw_m2 80 rfl) rfl
theorem q329 : (Jvm.Cond.methodLink "SpanDeskLaw" (62 : Nat) ({ cls := "SpanDeskModel", name := "order", desc := "()I" } : Jvm.MethodName)) ∈ lw_all := lw_g (lw_at lw_m2 84 rfl) rfl
theorem q333 : (Jvm.Cond.methodLink "SpanDeskLaw" (66 : Nat) ({ cls := "SpanDeskModel", name := "days", desc := "(I)J" } : Jvm.MethodName)) ∈ lw_all := lw_g (lw_at lw_m2 88 rfl) rfl
theorem q338 : (Jvm.Cond.methodLink "SpanDeskLaw" (70 : Nat) ({ cls := "SpanDeskModel", name := "minutes", desc := "(I)J" } : Jvm.MethodName)) ∈ lw_all := lw_g (lw_at lw_m2 93 rfl) rfl

theorem q23 : (Jvm.Cond.arrayOver (Jvm.ClassFile.FieldType.object "Duration")) ∈ lw_tbl := lw_at lw_m1 18 rfl
set_option maxRecDepth 100000
theorem q99 : (Jvm.Cond.arrayClass Jvm.ClassFile.FieldType.byte) ∈ lw_all := lw_g (lw_at lw_m1 94 rfl) rfl
theorem q265 : (Jvm.Cond.arrayClass Jvm.ClassFile.FieldType.long) ∈ lw_all := lw_g (lw_at lw_m2 20 rfl) rfl
theorem q266 : (Jvm.Cond.arrayClass Jvm.ClassFile.FieldType.int) ∈ lw_all := lw_g (lw_at lw_m2 21 rfl) rfl
end
section
/-! BASE: the classes, a Duration at an address, every method's start, its entry, its calls, and rows that also say that every other cell stays -/
set_option maxRecDepth 100000
abbrev vwCl : List vw_C := [(RX1, TX1, 2), (RX0, TX0, 1), (RX3, TX3, 2)]
abbrev duE (x : Int64) (n : Int32) : va_E := .inr (0, [.long x, .int n])
/-- a Duration of x seconds and n nanoseconds lies at a -/
def du (D : va_G) (a : Nat) (x : Int64) (n : Int32) (H : Heap) : Prop := va_at D vwCl (a, duE x n) H
/-- which cells a method may change: those of L, and those that it makes -/
def fr (L : List Nat) (sz : Nat) : Nat → Prop := fun q => q ∈ L ∨ sz ≤ q
theorem P1 {D : va_G} {cl : List vw_C} {q : Nat × va_E} {H : Heap} (h : va_at D cl q H) : va_P D cl [q] H := by
  intro k x hx
  have hz : k < 1 := (List.getElem?_eq_some_iff.mp hx).1
  rw [show k = 0 by omega] at hx
  cases hx
  exact h
theorem va_at.stay {D : va_G} {cl : List vw_C} {q : Nat × va_E} {H H1 : Heap} {L : List Nat} (h : va_at D cl q H) (hk : ∀ a : Nat, a < H.size → ¬ fr L H.size a → H1[a]? = H[a]?) (hL : q.1 ∉ L) : va_at D cl q H1 :=
  h.kept (hk q.1 h.lt (fun z => z.elim hL (fun z2 => absurd h.lt (Nat.not_lt.mpr z2))))
theorem va_at.stay0 {D : va_G} {cl : List vw_C} {q : Nat × va_E} {H H1 : Heap} (h : va_at D cl q H) (hk : ∀ a : Nat, a < H.size → ¬ fr [] H.size a → H1[a]? = H[a]?) : va_at D cl q H1 := h.stay hk (fun z => by cases z)
theorem va_at.away {D : va_G} {cl : List vw_C} {q : Nat × va_E} {H H1 : Heap} {a : Nat} (h : va_at D cl q H) (hk : ∀ b : Nat, b ≠ a → H1[b]? = H[b]?) (hL : q.1 ≠ a) : va_at D cl q H1 := h.kept (hk q.1 hL)
theorem va_at.born {D : va_G} {cl : List vw_C} {q : Nat × va_E} {H H1 : Heap} (h : va_at D cl q H) (hk : ∀ b : Nat, b < H.size → H1[b]? = H[b]?) : va_at D cl q H1 := h.kept (hk q.1 h.lt)
/-- Duration.ZERO, as the start gives it -/
def KZ (D : va_G) (z : Nat) (A : Nat → Prop) (U : State) (H : Heap) : Prop := va_Z "Duration" "ZERO" "LDuration;" (.ref z) A U H ∧ va_at D vwCl (z, duE 0 0) H ∧ ¬ A z
theorem KZ.call {D : va_G} {z : Nat} {A A1 : Nat → Prop} {s U : State} {H : Heap} {locs : List Loc} (h : KZ D z A s s.heap) (hvm : s.vm.Alike U.vm) (hS : va_S A s.heap H locs) (hF : ∀ q, A1 q → A q) : KZ D z A1 U H :=
  ⟨va_Z.moved hvm ((h.1.kept hS.2.1).narrow hF), h.2.1.kept (hS.2.1 z h.2.1.lt h.2.2), fun q => h.2.2 (hF z q)⟩
theorem KZ.du {D : va_G} {z : Nat} {A : Nat → Prop} {s : State} {H : Heap} {locs : List Loc} (h : KZ D z A s s.heap) (hS : va_S A s.heap H locs) : va_at D vwCl (z, duE 0 0) H := h.2.1.kept (hS.2.1 z h.2.1.lt h.2.2)
/-- the start of every method's contract -/
def sdPre (D : va_G) (z : Nat) (tys : List (ClassId × FieldType)) (L : List Nat) (sz : Nat) (X : Heap → Prop) (U : State) : Prop :=
  U.heap.size = sz ∧ va_K D vwCl tys U ∧ KZ D z (fr L sz) U U.heap ∧ va_AO "Duration" U ∧ X U.heap
theorem sdPre.blind {D : va_G} {z : Nat} {tys : List (ClassId × FieldType)} {L : List Nat} {sz : Nat} {X : Heap → Prop} {av : List Value} : FrameBlind (va_Pc av (sdPre D z tys L sz X)) := by
  intro a U g mk q
  obtain ⟨q0, q1, qK, qZ, qO, qX⟩ := q
  exact ⟨q0, q1, va_K.moved (u := U) (U := U.calling g mk a) (Vm.Alike.refl U.vm) qK, ⟨va_Z.moved (u := U) (U := U.calling g mk a) (Vm.Alike.refl U.vm) qZ.1, qZ.2⟩, va_AO.moved (u := U) (U := U.calling g mk a) (Vm.Alike.refl U.vm) qO, qX⟩
theorem sdPre.mk' {s : State} {H : Heap} {locs : List Loc} {A : Nat → Prop} {D : va_G} {z : Nat} {tys : List (ClassId × FieldType)} {L : List Nat} {X : Heap → Prop} {av : List Value} (hK : va_K D vwCl tys s) (hZ : KZ D z A s s.heap) (hO : va_AO "Duration" s) (hS : va_S A s.heap H locs) (hF : ∀ q, fr L H.size q → A q) (hX : X H) : ∀ U : State, U.heap = H → s.WarmedH U.vm → va_Pc av (sdPre D z tys L H.size X) av.toArray U := by
  intro U hU hW
  subst hU
  exact ⟨rfl, rfl, va_K.moved hW.alike hK, hZ.call hW.alike hS hF, va_AO.moved hW.alike hO, hX⟩
set_option maxHeartbeats 4000000 in
/-- a method's entry -/
theorem sd_open {l : Launch} {y : MethodName} {cc : ByteArray} {maxL : Nat} {ret : Option FieldType} {rm : Room} {av : List Value} {D : va_G} {z : Nat} {tys : List (ClassId × FieldType)} {L : List Nat} {sz : Nat} {X : Heap → Prop} {Qc : Array Value → State → Outcome → State → Prop} {mc ms : Nat} {free : Addr → Prop} (hy : plainName y.cls = true) (hlen : (lg_sl av).length ≤ maxL)
    (body : ∀ (p : Program) (e : Env) (s : State) (m : MethodId) (below : List Frame) (meth : Method) (c : Code) (ls : Array Slot), p.tables.exec = Jvm.exec → c.code = cc → meth.sig.returnType = ret → meth.locks = false → c.maxLocals = maxL → meth.name = y.name → s.vm.findClass y.cls = some m.cls → (∀ w ∈ lw_all, w.before av.toArray s = true) → lv_has ls maxL (lv_args 0 av) → s.heap.size = sz → va_K D vwCl tys s → KZ D z (fr L sz) s s.heap → va_AO "Duration" s → X s.heap →
      W p l e rm s m av.toArray below meth c s.heap [] 0 0 (MQ below Qc av.toArray s mc ms free) (F0 m 0 ls [])) : Met l y (ws_ y cc maxL ret) rm (va_Pc av (sdPre D z tys L sz X)) Qc mc ms free := by
  refine Met.ofW (cc := cc) (maxL := maxL) (ret := ret) hy rfl ?_
  intro p e s m args below meth c s₁ B hml hv
  obtain ⟨rfl, hsz, hK, hZ, hO, hX⟩ := hv
  have hts := atoms_spec (ws := ws_ y cc maxL ret) B.pre
  have hl := lv_entry av (n := maxL) hlen
  rw [lg_entry_eq]
  exact body p e s m below meth c _ B.exec B.bytes B.returns B.notSynchronized hml (name_of_methodNamed B.named B.method).1 (findClass_of_methodNamed B.named) (fun w h => hts w (List.mem_cons_of_mem _ h)) hl hsz hK hZ hO hX
section SDC
variable {p : Program} {l : Launch} {e : Env} {R : Room} {s : State} {m : MethodId} {args : Array Value} {below : List Frame} {meth : Method} {c : Code} {H : Heap} {locs : List Loc} {cells slots : Nat} {Q : State → Prop}
variable {cc : ByteArray} {nL pc : Nat} {ls : Array Slot} {own : String} {y : MethodName} {bytes : ByteArray} {maxL mc ms index : Nat} {ret : Option FieldType} {rm : Room} {Qc : Array Value → State → Outcome → State → Prop} {D : va_G} {z : Nat} {tys : List (ClassId × FieldType)} {L : List Nat} {X : Heap → Prop} {A : Nat → Prop} {st rest As : List Value} {b : Nat}
/-- a call of a static method -/
theorem sd_S (S : CallFix p m c cc nL s args lw_all own) (hM : Met l y (ws_ y bytes maxL ret) rm (va_Pc As (sdPre D z tys L H.size X)) Qc mc ms (fr L H.size))
    (q1 : Cond.methodLink own index y ∈ lw_all) (q2 : Cond.static y ∈ lw_all) (q3 : Cond.initialized y.cls ∈ lw_all) (q4 : Cond.code y bytes maxL ret ∈ lw_all)
    {n : Nat} (hn : As.length = n) (hd : y.cls ≠ "java/lang/invoke/MethodHandle" ∧ y.cls ≠ "java/lang/invoke/VarHandle" ∧ (parseMethodDescriptor y.desc).map (fun d => d.parameters.length) = some n)
    (hrc : rm.cells = mc) (hrs : rm.slots = ms) (hR : rm.frames + 1 ≤ R.frames ∧ 8 + (maxL + 11) + rm.locals ≤ R.locals)
    (hK : va_K D vwCl tys s) (hZ : KZ D z A s s.heap) (hO : va_AO "Duration" s) (hS : va_S A s.heap H locs) (hF : ∀ q, fr L H.size q → A q) (hX : X H)
    (hsize : ls.size = nL) (hstk : st = As.reverse ++ rest) (hw : (rest.map fun v => v.category).sum ≤ 8) (hdg : decode cc pc = .ok (.invokestatic index, 3)) (hf : cells + mc ≤ R.cells ∧ slots + ms ≤ R.slots) :
    va_Run p l e R s m args below meth c H locs cells slots mc ms (F0 m pc ls st) rest (Qc As.toArray) (fr L H.size) :=
  va_runS S hM (va_cwS n S.2.2.2.2 (lw_S q1 q2 q3 q4) rfl hrc hrs hd hR) ⟨sdPre.blind, sdPre.mk' hK hZ hO hS hF hX⟩ rfl hn hsize hstk (by show 2 * 0 + _ ≤ 8; omega) hdg hf
/-- a call through an object -/
theorem sd_V (S : CallFix p m c cc nL s args lw_all own) (hM : Met l y (ws_ y bytes maxL ret) rm (va_Pc (.ref b :: As) (sdPre D z tys L H.size X)) Qc mc ms (fr L H.size))
    (q1 : Cond.methodLink own index y ∈ lw_all) (q2 : Cond.instanceMethod y ∈ lw_all) (q3 : Cond.selects y.cls y y ∈ lw_all) (q4 : Cond.initialized y.cls ∈ lw_all) (q5 : Cond.code y bytes maxL ret ∈ lw_all)
    {n : Nat} (hn : As.length = n) (hd : y.cls ≠ "java/lang/invoke/MethodHandle" ∧ y.cls ≠ "java/lang/invoke/VarHandle" ∧ (parseMethodDescriptor y.desc).map (fun d => d.parameters.length) = some n)
    (hrc : rm.cells = mc) (hrs : rm.slots = ms) (hR : rm.frames + 1 ≤ R.frames ∧ 8 + (maxL + 11) + rm.locals ≤ R.locals)
    (hrecv : ∃ cell : Cell, H[b]? = some cell ∧ cell.vm.isStatics = false ∧ s.vm.findClass y.cls = some cell.cls)
    (hK : va_K D vwCl tys s) (hZ : KZ D z A s s.heap) (hO : va_AO "Duration" s) (hS : va_S A s.heap H locs) (hF : ∀ q, fr L H.size q → A q) (hX : X H)
    (hsize : ls.size = nL) (hstk : st = As.reverse ++ .ref b :: rest) (hw : (rest.map fun v => v.category).sum ≤ 8) (hdg : decode cc pc = .ok (.invokevirtual index, 3)) (hf : cells + mc ≤ R.cells ∧ slots + ms ≤ R.slots) :
    va_Run p l e R s m args below meth c H locs cells slots mc ms (F0 m pc ls st) rest (Qc (Value.ref b :: As).toArray) (fr L H.size) :=
  va_runV (C := y.cls) S hM (cwV n S.2.2.2.2 (lw_V q1 q2 q3 q4 q5) rfl hrc hrs ⟨rfl, hd⟩ hR) ⟨sdPre.blind, hrecv, sdPre.mk' hK hZ hO hS hF hX⟩ rfl hn hsize hstk (by show 2 * 0 + _ ≤ 8; omega) hdg hf
/-- a call of a constructor -/
theorem sd_I (S : CallFix p m c cc nL s args lw_all own) (hM : Met l y (ws_ y bytes maxL none) rm (va_Pc (.ref b :: As) (sdPre D z tys L H.size X)) Qc mc ms (fr L H.size))
    (q1 : Cond.methodLink own index y ∈ lw_all) (q2 : Cond.instanceMethod y ∈ lw_all) (q4 : Cond.initialized y.cls ∈ lw_all) (q5 : Cond.code y bytes maxL none ∈ lw_all) (hy1 : y.name = "<init>")
    {n : Nat} (hn : As.length = n) (hd : y.cls ≠ "java/lang/invoke/MethodHandle" ∧ y.cls ≠ "java/lang/invoke/VarHandle" ∧ (parseMethodDescriptor y.desc).map (fun d => d.parameters.length) = some n)
    (hrc : rm.cells = mc) (hrs : rm.slots = ms) (hR : rm.frames + 1 ≤ R.frames ∧ 8 + (maxL + 11) + rm.locals ≤ R.locals)
    (hK : va_K D vwCl tys s) (hZ : KZ D z A s s.heap) (hO : va_AO "Duration" s) (hS : va_S A s.heap H locs) (hF : ∀ q, fr L H.size q → A q) (hX : X H)
    (hsize : ls.size = nL) (hstk : st = As.reverse ++ .ref b :: rest) (hw : (rest.map fun v => v.category).sum ≤ 8) (hdg : decode cc pc = .ok (.invokespecial index, 3)) (hf : cells + mc ≤ R.cells ∧ slots + ms ≤ R.slots) :
    va_Run p l e R s m args below meth c H locs cells slots mc ms (F0 m pc ls st) rest (Qc (Value.ref b :: As).toArray) (fr L H.size) :=
  va_runI S hM (cwI n S.2.2.2.2 (lw_meth q5) rfl hrc hrs (S.2.2.2.2 _ q4) (S.2.2.2.2 _ q1) (S.2.2.2.2 _ q2) hy1 hd hR) ⟨sdPre.blind, sdPre.mk' hK hZ hO hS hF hX⟩ rfl hn hsize hstk (by show 2 * 0 + _ ≤ 8; omega) hdg hf
end SDC
section SDR
variable {p : Program} {l : Launch} {e : Env} {R : Room} {s : State} {m : MethodId} {args : Array Value} {below : List Frame} {meth : Method} {c : Code} {H : Heap} {locs : List Loc} {cells slots : Nat} {Q : State → Prop}
variable {cc : ByteArray} {pc : Nat} {ls : Array Slot} {rest : List Value} {D : va_G} {A : Nat → Prop} {a : Nat} {tys : List (ClassId × FieldType)} {H0 : Heap}
/-- an element of an array of references is read, whose address is known -/
theorem sd_aald (hexec : p.tables.exec = Jvm.exec) (hb : c.code = cc) (hK : va_K D vwCl tys s) (t0 : Nat) {cA : ClassId} {C : String} {f : Nat → Option Nat} (ha : va_at D vwCl (a, .inl (cA, 2, .inr (.inr (.inr (.inr f))))) H) (ht : tys[t0]? = some (cA, .object C)) {i : Int32} {k v : Nat} (hi : i = nI k) (hk : k < 2) (hv : f k = some v) (hdg : decode cc pc = .ok (.aaload, 1))
    (kk : W p l e R s m args below meth c H locs cells slots Q (F0 m (pc + 1) ls (.ref v :: rest))) : W p l e R s m args below meth c H locs cells slots Q (F0 m pc ls (.int i :: .ref a :: rest)) := by
  subst hi
  refine va_aldq hexec hb hK (P1 ha) 0 t0 rfl ht (vp_in_nI hk (by omega)) hdg ?_
  rw [nI_clamp (by omega), hv]
  exact kk
theorem sd_lald (hexec : p.tables.exec = Jvm.exec) (hb : c.code = cc) (hK : va_K D vwCl tys s) (t0 : Nat) {cA : ClassId} {f : Nat → Int64} (ha : va_at D vwCl (a, .inl (cA, 2, .inr (.inl f))) H) (ht : tys[t0]? = some (cA, .long)) {i : Int32} {k : Nat} (hi : i = nI k) (hk : k < 2) (hdg : decode cc pc = .ok (.laload, 1))
    (kk : W p l e R s m args below meth c H locs cells slots Q (F0 m (pc + 1) ls (.long (f k) :: rest))) : W p l e R s m args below meth c H locs cells slots Q (F0 m pc ls (.int i :: .ref a :: rest)) := by
  subst hi
  refine va_lald hexec hb hK (P1 ha) 0 t0 rfl ht (vp_in_nI hk (by omega)) hdg ?_
  rw [nI_clamp (by omega)]
  exact kk
theorem sd_iald (hexec : p.tables.exec = Jvm.exec) (hb : c.code = cc) (hK : va_K D vwCl tys s) (t0 : Nat) {cA : ClassId} {f : Nat → Int32} (ha : va_at D vwCl (a, .inl (cA, 2, .inl f)) H) (ht : tys[t0]? = some (cA, .int)) {i : Int32} {k : Nat} (hi : i = nI k) (hk : k < 2) (hdg : decode cc pc = .ok (.iaload, 1))
    (kk : W p l e R s m args below meth c H locs cells slots Q (F0 m (pc + 1) ls (.int (f k) :: rest))) : W p l e R s m args below meth c H locs cells slots Q (F0 m pc ls (.int i :: .ref a :: rest)) := by
  subst hi
  refine va_iald hexec hb hK (P1 ha) 0 t0 rfl ht (vp_in_nI hk (by omega)) hdg ?_
  rw [nI_clamp (by omega)]
  exact kk
theorem sd_cell_q (cA : ClassId) (f : Nat → Option Nat) (k v : Nat) : (vp_cell cA (2, .inr (.inr (.inr (.inr f))))).setSlot k (.ref v) = vp_cell cA (2, .inr (.inr (.inr (.inr (va_up f k (some v)))))) := by
  rw [vp_cell_q, vp_cell_q, arrV_store]
  congr 1
  funext q
  by_cases hq : q = k
  · subst hq
    simp [updV, va_up, va_rf]
  · simp [updV, va_up, hq]
theorem sd_cell_l (cA : ClassId) (f : Nat → Int64) (k : Nat) (v : Int64) : (vp_cell cA (2, .inr (.inl f))).setSlot k (.long v) = vp_cell cA (2, .inr (.inl (vp_updL f k v))) := by
  rw [vp_cell_l, vp_cell_l, arrV_store]
  congr 1
  funext q
  by_cases hq : q = k
  · subst hq
    simp [updV, vp_updL]
  · simp [updV, vp_updL, hq]
theorem sd_cell_i (cA : ClassId) (f : Nat → Int32) (k : Nat) (v : Int32) : (vp_cell cA (2, .inl f)).setSlot k (.int v) = vp_cell cA (2, .inl (upd f k v)) := by
  rw [vp_cell_i, vp_cell_i, arrV_store]
  congr 1
  funext q
  by_cases hq : q = k
  · subst hq
    simp [updV, upd]
  · simp [updV, upd, hq]
/-- a Duration is stored in an array of Durations; every other cell stays -/
theorem sd_aast (hexec : p.tables.exec = Jvm.exec) (hb : c.code = cc) (hK : va_K D vwCl tys s) (t0 : Nat) {cA : ClassId} {f : Nat → Option Nat} (ha : va_at D vwCl (a, .inl (cA, 2, .inr (.inr (.inr (.inr f))))) H) (ht : tys[t0]? = some (cA, .object "Duration")) {v : Nat} {x : Int64} {n : Int32} (hv : va_at D vwCl (v, duE x n) H) {i : Int32} {k : Nat} (hi : i = nI k) (hk : k < 2) (hS : va_S A H0 H locs) (hA : A a) (hdg : decode cc pc = .ok (.aastore, 1))
    (kk : ∀ (H1 : Heap) (locs1 : List Loc), va_at D vwCl (a, .inl (cA, 2, .inr (.inr (.inr (.inr (va_up f k (some v))))))) H1 → (∀ q : Nat, q ≠ a → H1[q]? = H[q]?) → va_S A H0 H1 locs1 → W p l e R s m args below meth c H1 locs1 cells slots Q (F0 m (pc + 1) ls rest)) : W p l e R s m args below meth c H locs cells slots Q (F0 m pc ls (.ref v :: .int i :: .ref a :: rest)) := by
  subst hi
  have hin : vp_in (nI k) 2 := vp_in_nI hk (by omega)
  have hlt : (nI k).toNatClampNeg < 2 := Nat.not_le.mp fun q => hin (Or.inr q)
  have h0 : ¬ nI k < 0 := fun q => hin (Or.inl q)
  obtain ⟨r', hr', cellV, g1, g2, g3, -⟩ := hv
  have hcls := (hK.1 0 _ rfl).2
  obtain ⟨kA, comp, k1, k2, k3, -⟩ := (hK.2 t0 _ ht).2
  have hcomp : comp = D.1 0 := Option.some.inj (k3.symm.trans hcls.1)
  subst hcomp
  obtain ⟨kC, hkC, -⟩ := hcls.2
  refine W.aast hexec hb ha (fun q h => by cases h) (fun h => by cases h) k1 k2 rfl hkC ⟨h0, by show _ < (arrV _ _ _).slots.size; rw [arrV_size]; exact hlt⟩ g1 (fun q h => by rw [g3] at h; cases h) (by rw [g2]; exact hkC) (by rw [g2]; exact va_assign hcls) rfl rfl hdg fun H1 e z oq => ?_
  refine kk H1 _ ?_ oq (hS.put z oq hA)
  show H1[a]? = some (vp_cell _ _)
  rw [e, nI_clamp (by omega)]
  exact congrArg some (sd_cell_q cA f k v)
theorem sd_last (hexec : p.tables.exec = Jvm.exec) (hb : c.code = cc) (hK : va_K D vwCl tys s) (t0 : Nat) {cA : ClassId} {f : Nat → Int64} (ha : va_at D vwCl (a, .inl (cA, 2, .inr (.inl f))) H) (ht : tys[t0]? = some (cA, .long)) {x : Int64} {i : Int32} {k : Nat} (hi : i = nI k) (hk : k < 2) (hS : va_S A H0 H locs) (hA : A a) (hdg : decode cc pc = .ok (.lastore, 1))
    (kk : ∀ (H1 : Heap) (locs1 : List Loc), va_at D vwCl (a, .inl (cA, 2, .inr (.inl (vp_updL f k x)))) H1 → (∀ q : Nat, q ≠ a → H1[q]? = H[q]?) → va_S A H0 H1 locs1 → W p l e R s m args below meth c H1 locs1 cells slots Q (F0 m (pc + 1) ls rest)) : W p l e R s m args below meth c H locs cells slots Q (F0 m pc ls (.long x :: .int i :: .ref a :: rest)) := by
  subst hi
  have hin : vp_in (nI k) 2 := vp_in_nI hk (by omega)
  refine W.last hexec hb ha ((hK.2 t0 _ ht).1 2 (fun j => .long (f j))) (fun q => by cases q) (by show ¬ (nI k < 0 ∨ (arrV _ _ _).slots.size ≤ _); rw [arrV_size]; exact hin) rfl rfl hdg fun H1 e z oq => ?_
  refine kk H1 _ ?_ oq (hS.put z oq hA)
  show H1[a]? = some (vp_cell _ _)
  rw [e, nI_clamp (by omega)]
  exact congrArg some (sd_cell_l cA f k x)
theorem sd_iast (hexec : p.tables.exec = Jvm.exec) (hb : c.code = cc) (hK : va_K D vwCl tys s) (t0 : Nat) {cA : ClassId} {f : Nat → Int32} (ha : va_at D vwCl (a, .inl (cA, 2, .inl f)) H) (ht : tys[t0]? = some (cA, .int)) {x : Int32} {i : Int32} {k : Nat} (hi : i = nI k) (hk : k < 2) (hS : va_S A H0 H locs) (hA : A a) (hdg : decode cc pc = .ok (.iastore, 1))
    (kk : ∀ (H1 : Heap) (locs1 : List Loc), va_at D vwCl (a, .inl (cA, 2, .inl (upd f k x))) H1 → (∀ q : Nat, q ≠ a → H1[q]? = H[q]?) → va_S A H0 H1 locs1 → W p l e R s m args below meth c H1 locs1 cells slots Q (F0 m (pc + 1) ls rest)) : W p l e R s m args below meth c H locs cells slots Q (F0 m pc ls (.int x :: .int i :: .ref a :: rest)) := by
  subst hi
  have hin : vp_in (nI k) 2 := vp_in_nI hk (by omega)
  refine W.iast hexec hb ha ((hK.2 t0 _ ht).1 2 (fun j => .int (f j))) (fun q => by cases q) (by show ¬ (nI k < 0 ∨ (arrV _ _ _).slots.size ≤ _); rw [arrV_size]; exact hin) rfl rfl hdg fun H1 e z oq => ?_
  refine kk H1 _ ?_ oq (hS.put z oq hA)
  show H1[a]? = some (vp_cell _ _)
  rw [e, nI_clamp (by omega)]
  exact congrArg some (sd_cell_i cA f k x)
/-- a final field in a constructor; every other cell stays -/
theorem sd_putF (hexec : p.tables.exec = Jvm.exec) (hb : c.code = cc) {own C : String} {T : u_T} {N ci index : Nat} (hts : ∀ w ∈ lw_all, w.before args s = true) (hin : ∀ w ∈ u_ws C T N, w ∈ lw_all) (ty0 : Nat → FieldType) (hty : ∀ k, k < N → parseFieldDescriptor (T k).2.2.1 = some (ty0 k)) (hnm : ∀ a, a < N → ∀ b, b < N → a ≠ b → (T a).2.1 ≠ (T b).2.1) (hown : s.vm.findClass own = some m.cls) (hK : va_K D vwCl tys s) {fs : List Value} (ha : va_at D vwCl (a, .inr (ci, fs)) H) (hS0 : va_S A H0 H locs) (hA : A a) (hc : vwCl[ci]? = some (C, T, N)) (k : Nat) (hk : k < N) (hlink : Cond.fieldLink own index (T k).1 (T k).2.1 (T k).2.2.1 ∈ lw_all) (hfin : (T k).2.2.2 = true) (hin2 : meth.name = "<init>") (hdecl : (T k).1 = own) {ty : FieldType} {v : Value} (hd : parseFieldDescriptor (T k).2.2.1 = some ty) (hn : narrow ty v = v) (hfit : fits ty v = true) (hl : k < fs.length)
    (hdg : decode cc pc = .ok (.putfield index, 3)) (kk : ∀ (H1 : Heap) (locs1 : List Loc), va_at D vwCl (a, .inr (ci, fs.set k v)) H1 → (∀ q : Nat, q ≠ a → H1[q]? = H[q]?) → va_S A H0 H1 locs1 → W p l e R s m args below meth c H1 locs1 cells slots Q (F0 m (pc + 3) ls rest)) : W p l e R s m args below meth c H locs cells slots Q (F0 m pc ls (v :: .ref a :: rest)) := by
  have hap := va_apart (own := own) hts hin ty0 hty hnm hK hc
  obtain ⟨r, h1, cell, q1, q2, q3, q4⟩ := ha
  have hr : r = (C, T, N) := Option.some.inj (h1.symm.trans hc)
  subst hr
  obtain ⟨hS, hfc, kC, hkC, hkind⟩ := hK.1 ci _ hc
  obtain ⟨cf, kf, fi, f, hi, hsl⟩ := hS k hk
  have hlay := hts _ (hin _ (u_in_lay hk))
  unfold u_lay at hlay
  rw [if_pos hfin] at hlay
  have hst := (u_facts hfc hkC (u_lays hts hin hk) hi).1
  have hcf : m.cls = cf := by
    obtain ⟨_, _, c', _, _, _, -, -, hf', -, -, -, hown2, -⟩ := Cond.laysFinal_spec hlay
    have e1 : c' = cf := by have := hi.symm.trans hf'; simp at this; exact this.1.symm
    rw [hdecl] at hown2
    rw [← e1]; exact Option.some.inj (hown.symm.trans hown2)
  have h6 := u_fits hfc hkC hkind (Or.inr hlay) hi hd hn hfit
  refine W.putFinK hexec hb hown (hts _ hlink) hi hst hcf hin2 (by rw [q2]; exact h6) q1 q3 (by rw [hsl]; exact k2_hasslot (q4 k hk)) rfl rfl hdg fun H' e1 e2 e3 => ?_
  rw [hsl] at e1 ⊢
  exact kk H' _ ⟨_, hc, t_OB.to (V := updV (vp_V fs) k v) ⟨_, e1, q2, q3, t_set q4 hap hk v⟩ (fun j _ => vp_updV_set hl v j)⟩ e3 (hS0.put e2 e3 hA)
/-- a new object; every old cell stays -/
theorem sd_new {c0 : Code} (hexec : p.tables.exec = Jvm.exec) (hb : c0.code = cc) {own C : String} {T : u_T} {N ci index : Nat} (hts : ∀ w ∈ lw_all, w.before args s = true) (hin : ∀ w ∈ u_ws C T N, w ∈ lw_all) (ty : Nat → FieldType) (hty : ∀ k, k < N → parseFieldDescriptor (T k).2.2.1 = some (ty k)) (hown : s.vm.findClass own = some m.cls) (hcl : Cond.classLink own index C ∈ lw_all) (hinst : Cond.instantiable C N ∈ lw_all) (hini : Cond.initialized C ∈ lw_all)
    (hK : va_K D vwCl tys s) (hS : va_S A H0 H locs) (hc : vwCl[ci]? = some (C, T, N)) {fs : List Value} (hfs : ∀ j, j < N → defaultValue (ty j) = vp_V fs j) (hcells : cells + 1 ≤ R.cells) (hslots : slots + N ≤ R.slots) (hdg : decode cc pc = .ok (.new index, 3))
    (kk : ∀ (q : Nat) (H1 : Heap), q = H.size → H1.size = H.size + 1 → va_at D vwCl (q, .inr (ci, fs)) H1 → (∀ b : Nat, b < H.size → H1[b]? = H[b]?) → va_S A H0 H1 locs →
      W p l e R s m args below meth c0 H1 locs (cells + 1) (slots + N) Q (F0 m (pc + 3) ls (.ref q :: rest))) : W p l e R s m args below meth c0 H locs cells slots Q (F0 m pc ls rest) := by
  have hKn := hK.1 ci _ hc
  refine W.newcK hexec hb hown (hts _ hcl) (hts _ hinst) (hts _ hini) rfl hdg hcells hslots hKn.2.1 rfl fun H1 kC hkC e1 z1 o1 => ?_
  exact kk H.size H1 rfl z1 ⟨_, hc, (u_born ty hts hin hKn hkC e1 hty).to hfs⟩ o1 ⟨Nat.le_trans hS.1 (by omega), fun x h1 h2 => (o1 x (Nat.lt_of_lt_of_le h1 hS.1)).trans (hS.2.1 x h1 h2), hS.2.2⟩
/-- a new array of Durations -/
theorem sd_newq (hexec : p.tables.exec = Jvm.exec) (hb : c.code = cc) {own : String} {index : Nat} (hown : s.vm.findClass own = some m.cls) (hclink : (Cond.classLink own index "Duration").before args s = true) (hover : va_AO "Duration" s) (hS : va_S A H0 H locs)
    {n : Int32} (hn : n = nI 2) (hcells : cells + 1 ≤ R.cells) (hslots : slots + 2 ≤ R.slots) (hdg : decode cc pc = .ok (.anewarray index, 3))
    (kk : ∀ (q : Nat) (cA : ClassId) (H1 : Heap), q = H.size → H1.size = H.size + 1 → (∀ tys : List (ClassId × FieldType), va_K D vwCl tys s → va_K D vwCl (tys ++ [(cA, .object "Duration")]) s) → va_at D vwCl (q, .inl (cA, 2, .inr (.inr (.inr (.inr (fun _ => none)))))) H1 → (∀ b : Nat, b < H.size → H1[b]? = H[b]?) → va_S A H0 H1 locs →
      W p l e R s m args below meth c H1 locs (cells + 1) (slots + 2) Q (F0 m (pc + 3) ls (.ref q :: rest))) : W p l e R s m args below meth c H locs cells slots Q (F0 m pc ls (.int n :: rest)) := by
  subst hn
  refine W.anew hexec hb hown hclink (va_AO.use hover) rfl hdg rfl (nI_pos (by omega)) (by rw [nI_clamp (by omega)]; omega) hcells (by rw [nI_clamp (by omega)]; exact hslots) fun cA kA comp f1 f2 f3 f4 => ?_
  rw [nI_clamp (by omega)]
  generalize hH1 : H.push ({ cls := cA, slots := Array.replicate 2 .null, vm := .none } : Cell) = H1
  have z1 : H1.size = H.size + 1 := by rw [← hH1, Array.size_push]
  have e1 : H1[H.size]? = some (arrV cA 2 (fun _ => .null)) := by rw [← hH1, Array.getElem?_push_size, ← arrV_new]
  have o1 : ∀ q : Nat, q < H.size → H1[q]? = H[q]? := fun q hq => by rw [← hH1, Array.getElem?_push, if_neg (Nat.ne_of_lt hq)]
  have hAr : ArrOfT s cA (.object "Duration") := fun N z => ⟨(fun k h => by cases h), kA, f2, comp, f3⟩
  refine kk H.size cA H1 rfl z1 (fun tys hK => ⟨hK.1, fun k x hx => ?_⟩) ?_ o1 ⟨Nat.le_trans hS.1 (by omega), fun x h1 h2 => (o1 x (Nat.lt_of_lt_of_le h1 hS.1)).trans (hS.2.1 x h1 h2), hS.2.2⟩
  · by_cases hl : k < tys.length
    · rw [List.getElem?_append_left hl] at hx
      exact hK.2 k x hx
    · rw [List.getElem?_append_right (by omega)] at hx
      have hz : k - tys.length < 1 := (List.getElem?_eq_some_iff.mp hx).1
      rw [show k - tys.length = 0 by omega] at hx
      cases hx
      exact ⟨hAr, kA, comp, f2, f3, f4, f1⟩
  · show H1[H.size]? = some (vp_cell _ _)
    rw [vp_cell_q]
    exact e1
/-- a new array of two longs or ints -/
theorem sd_newa (hexec : p.tables.exec = Jvm.exec) (hb : c.code = cc) (atype : ArrayType) (harr : (Cond.arrayClass (newarray.typeOf atype)).before args s = true) {ty : FieldType} (hty : newarray.typeOf atype = ty) (hty2 : ty = .long ∨ ty = .int) (hS : va_S A H0 H locs)
    {n : Int32} (hn : n = nI 2) {a0 : vp_A} (h0 : ∀ cA : ClassId, vp_cell cA a0 = arrV cA 2 (fun _ => defaultValue ty)) (hcells : cells + 1 ≤ R.cells) (hslots : slots + 2 ≤ R.slots) (hdg : decode cc pc = .ok (.newarray atype, 2))
    (kk : ∀ (q : Nat) (cA : ClassId) (H1 : Heap), q = H.size → H1.size = H.size + 1 → (∀ tys : List (ClassId × FieldType), va_K D vwCl tys s → va_K D vwCl (tys ++ [(cA, ty)]) s) → va_at D vwCl (q, .inl (cA, a0)) H1 → (∀ b : Nat, b < H.size → H1[b]? = H[b]?) → va_S A H0 H1 locs →
      W p l e R s m args below meth c H1 locs (cells + 1) (slots + 2) Q (F0 m (pc + 2) ls (.ref q :: rest))) : W p l e R s m args below meth c H locs cells slots Q (F0 m pc ls (.int n :: rest)) := by
  subst hn
  subst hty
  have hbytes : 2 * componentBytes (newarray.typeOf atype) ≤ 536870912 := by
    rcases hty2 with h | h <;> rw [h] <;> exact Nat.le_of_ble_eq_true rfl
  refine va_newaK hexec hb harr rfl hdg rfl (nI_pos (by omega)) (nI_clamp (by omega)) hbytes hcells hslots rfl fun H1 cA e1 z1 o1 hAr hNm => ?_
  refine kk H.size cA H1 rfl z1 (fun tys hK => ⟨hK.1, fun k x hx => ?_⟩) ?_ o1 ⟨Nat.le_trans hS.1 (by omega), fun x h1 h2 => (o1 x (Nat.lt_of_lt_of_le h1 hS.1)).trans (hS.2.1 x h1 h2), hS.2.2⟩
  · by_cases hl : k < tys.length
    · rw [List.getElem?_append_left hl] at hx
      exact hK.2 k x hx
    · rw [List.getElem?_append_right (by omega)] at hx
      have hz : k - tys.length < 1 := (List.getElem?_eq_some_iff.mp hx).1
      rw [show k - tys.length = 0 by omega] at hx
      cases hx
      exact ⟨hAr, by cases atype <;> exact hNm⟩
  · show H1[H.size]? = some (vp_cell _ _)
    rw [h0]
    exact e1
end SDR
/-! addresses that hold cells of two kinds are apart -/
theorem vp_cell_cls (cA : ClassId) (x : vp_A) : (vp_cell cA x).cls = cA := by
  obtain ⟨n, f | f | f | f | f⟩ := x <;> rfl
theorem ne_kind {D : va_G} {tys : List (ClassId × FieldType)} {s : State} {H : Heap} {a b ci t0 : Nat} {fs : List Value} {cA : ClassId} {ty : FieldType} {x : vp_A} (hK : va_K D vwCl tys s) (ht : tys[t0]? = some (cA, ty)) (ha : va_at D vwCl (a, .inr (ci, fs)) H) (hb : va_at D vwCl (b, .inl (cA, x)) H) : a ≠ b := by
  intro e
  subst e
  obtain ⟨r, h1, cell, q1, q2, q3, q4⟩ := ha
  have hb1 : H[a]? = some (vp_cell cA x) := hb
  cases hb1.symm.trans q1
  rw [vp_cell_cls] at q2
  obtain ⟨-, -, kC, hkC, hkind⟩ := hK.1 ci r h1
  obtain ⟨-, k, hk, comp, hk2⟩ := (hK.2 t0 _ ht).1 0 (fun _ => .null)
  have hk' : s.vm.classes[cA]? = some k := hk
  have hkC' : s.vm.classes[D.1 ci]? = some kC := hkC
  have q2' : cA = D.1 ci := q2
  rw [← q2', hk'] at hkC'
  cases hkC'
  rw [hk2] at hkind
  cases hkind
theorem ne_cell {D : va_G} {H : Heap} {a b : Nat} {cA cB : ClassId} {x y : vp_A} (ha : va_at D vwCl (a, .inl (cA, x)) H) (hb : va_at D vwCl (b, .inl (cB, y)) H) (h : (vp_cell cA x).slots[0]? ≠ (vp_cell cB y).slots[0]?) : a ≠ b := by
  intro e
  subst e
  have h1 : H[a]? = some (vp_cell cA x) := ha
  have h2 : H[a]? = some (vp_cell cB y) := hb
  rw [h1] at h2
  exact h (congrArg (fun c : Cell => c.slots[0]?) (Option.some.inj h2))
theorem ne_lq {D : va_G} {H : Heap} {a b : Nat} {cA cB : ClassId} {f : Nat → Int64} {g : Nat → Option Nat} (ha : va_at D vwCl (a, .inl (cA, 2, .inr (.inl f))) H) (hb : va_at D vwCl (b, .inl (cB, 2, .inr (.inr (.inr (.inr g))))) H) : a ≠ b := by
  refine ne_cell ha hb ?_
  rw [vp_cell_l, vp_cell_q, arrV_read _ _ (by omega), arrV_read _ _ (by omega)]
  intro h
  cases hg : g 0 <;> rw [hg] at h <;> cases h
theorem ne_iq {D : va_G} {H : Heap} {a b : Nat} {cA cB : ClassId} {f : Nat → Int32} {g : Nat → Option Nat} (ha : va_at D vwCl (a, .inl (cA, 2, .inl f)) H) (hb : va_at D vwCl (b, .inl (cB, 2, .inr (.inr (.inr (.inr g))))) H) : a ≠ b := by
  refine ne_cell ha hb ?_
  rw [vp_cell_i, vp_cell_q, arrV_read _ _ (by omega), arrV_read _ _ (by omega)]
  intro h
  cases hg : g 0 <;> rw [hg] at h <;> cases h
theorem ne_li {D : va_G} {H : Heap} {a b : Nat} {cA cB : ClassId} {f : Nat → Int64} {g : Nat → Int32} (ha : va_at D vwCl (a, .inl (cA, 2, .inr (.inl f))) H) (hb : va_at D vwCl (b, .inl (cB, 2, .inl g)) H) : a ≠ b := by
  refine ne_cell ha hb ?_
  rw [vp_cell_l, vp_cell_i, arrV_read _ _ (by omega), arrV_read _ _ (by omega)]
  intro h
  cases h
theorem fr_call {L L1 : List Nat} {H0 H : Heap} {locs : List Loc} (hS : va_S (fr L H0.size) H0 H locs) (h : ∀ q, q ∈ L1 → fr L H0.size q) : ∀ q, fr L1 H.size q → fr L H0.size q := fun q z => z.elim (h q) (fun z2 => Or.inr (Nat.le_trans hS.1 z2))
theorem fr_0 {L : List Nat} {H0 H : Heap} {locs : List Loc} (hS : va_S (fr L H0.size) H0 H locs) : ∀ q, fr [] H.size q → fr L H0.size q := fr_call hS (fun q h => absurd h List.not_mem_nil)
theorem du_recv {D : va_G} {tys : List (ClassId × FieldType)} {s : State} {H : Heap} {a : Nat} {x : Int64} {n : Int32} (hK : va_K D vwCl tys s) (h : va_at D vwCl (a, duE x n) H) : ∃ cell : Cell, H[a]? = some cell ∧ cell.vm.isStatics = false ∧ s.vm.findClass RX1 = some cell.cls := va_recv hK (P1 h) (ci := 0) (q0 := 0) (q := (RX1, TX1, 2)) rfl rfl
theorem dk_recv {D : va_G} {tys : List (ClassId × FieldType)} {s : State} {H : Heap} {a : Nat} {fs : List Value} (hK : va_K D vwCl tys s) (h : va_at D vwCl (a, .inr (1, fs)) H) : ∃ cell : Cell, H[a]? = some cell ∧ cell.vm.isStatics = false ∧ s.vm.findClass RX0 = some cell.cls := va_recv hK (P1 h) (ci := 1) (q0 := 0) (q := (RX0, TX0, 1)) rfl rfl
theorem md_recv {D : va_G} {tys : List (ClassId × FieldType)} {s : State} {H : Heap} {a : Nat} {fs : List Value} (hK : va_K D vwCl tys s) (h : va_at D vwCl (a, .inr (2, fs)) H) : ∃ cell : Cell, H[a]? = some cell ∧ cell.vm.isStatics = false ∧ s.vm.findClass RX3 = some cell.cls := va_recv hK (P1 h) (ci := 2) (q0 := 0) (q := (RX3, TX3, 2)) rfl rfl
/-- the desk's array: each of its two seats holds a Duration of S and N -/
def PD (D : va_G) (f : Nat → Option Nat) (S : Nat → Int64) (N : Nat → Int32) (H : Heap) : Prop := ∀ i, i < 2 → ∃ d, f i = some d ∧ va_at D vwCl (d, duE (S i) (N i)) H
def DW (D : va_G) (h0 h1 : Nat) (cA : ClassId) (S : Nat → Int64) (N : Nat → Int32) (H : Heap) : Prop := va_at D vwCl (h0, .inr (1, [.ref h1])) H ∧ ∃ f, va_at D vwCl (h1, .inl (cA, 2, .inr (.inr (.inr (.inr f))))) H ∧ PD D f S N H
/-- the reference: two arrays -/
def MW (D : va_G) (h0 h1 h2 : Nat) (cL cI : ClassId) (S : Nat → Int64) (N : Nat → Int32) (H : Heap) : Prop := va_at D vwCl (h0, .inr (2, [.ref h1, .ref h2])) H ∧ va_at D vwCl (h1, .inl (cL, 2, .inr (.inl S))) H ∧ va_at D vwCl (h2, .inl (cI, 2, .inl N)) H
theorem PD.stay0 {D : va_G} {f : Nat → Option Nat} {S : Nat → Int64} {N : Nat → Int32} {H H1 : Heap} (h : PD D f S N H) (hk : ∀ a : Nat, a < H.size → ¬ fr [] H.size a → H1[a]? = H[a]?) : PD D f S N H1 := fun i hi => by
  obtain ⟨d, h1, h2⟩ := h i hi
  exact ⟨d, h1, h2.stay0 hk⟩
theorem PD.born {D : va_G} {f : Nat → Option Nat} {S : Nat → Int64} {N : Nat → Int32} {H H1 : Heap} (h : PD D f S N H) (hk : ∀ a : Nat, a < H.size → H1[a]? = H[a]?) : PD D f S N H1 := fun i hi => by
  obtain ⟨d, h1, h2⟩ := h i hi
  exact ⟨d, h1, h2.born hk⟩
theorem PD.put {D : va_G} {f : Nat → Option Nat} {S : Nat → Int64} {N : Nat → Int32} {H H1 : Heap} {s : State} {tys : List (ClassId × FieldType)} {t0 h1 k a : Nat} {cA : ClassId} {ty : FieldType} {g : Nat → Option Nat} {x : Int64} {y : Int32} (h : PD D f S N H) (hK : va_K D vwCl tys s) (ht : tys[t0]? = some (cA, ty)) (h1a : va_at D vwCl (h1, .inl (cA, 2, .inr (.inr (.inr (.inr g))))) H) (ha : va_at D vwCl (a, duE x y) H) (hk : ∀ q : Nat, q ≠ h1 → H1[q]? = H[q]?) : PD D (va_up f k (some a)) (vp_updL S k x) (upd N k y) H1 := fun i hi => by
  by_cases e : i = k
  · subst e
    refine ⟨a, va_up_self _ _ _, ?_⟩
    rw [pk_uLs, pk_us]
    exact ha.away hk (ne_kind hK ht ha h1a)
  · obtain ⟨d, g1, g2⟩ := h i hi
    refine ⟨d, (va_up_ne _ _ e).trans g1, ?_⟩
    rw [pk_uLn e, pk_un e]
    exact g2.away hk (ne_kind hK ht g2 h1a)
theorem DW.stay0 {D : va_G} {h0 h1 : Nat} {cA : ClassId} {S : Nat → Int64} {N : Nat → Int32} {H H1 : Heap} (h : DW D h0 h1 cA S N H) (hk : ∀ a : Nat, a < H.size → ¬ fr [] H.size a → H1[a]? = H[a]?) : DW D h0 h1 cA S N H1 := by
  obtain ⟨a, f, b, c⟩ := h
  exact ⟨a.stay0 hk, f, b.stay0 hk, c.stay0 hk⟩
theorem MW.stay0 {D : va_G} {h0 h1 h2 : Nat} {cL cI : ClassId} {S : Nat → Int64} {N : Nat → Int32} {H H1 : Heap} (h : MW D h0 h1 h2 cL cI S N H) (hk : ∀ a : Nat, a < H.size → ¬ fr [] H.size a → H1[a]? = H[a]?) : MW D h0 h1 h2 cL cI S N H1 := ⟨h.1.stay0 hk, h.2.1.stay0 hk, h.2.2.stay0 hk⟩
theorem nI_zero : (0 : Int32) = nI 0 := by decide +kernel
theorem nI_one : (1 : Int32) = nI 1 := by decide +kernel
theorem nb01 {r : Int32} (h : r = 0 ∨ r = 1) : narrow .boolean (.int r) = .int r := by
  rcases h with rfl | rfl <;> decide +kernel
end
section
/-! PURE: whole numbers of 32 and 64 bits, no program in sight -/
set_option maxRecDepth 100000
def inR (x : Int) : Prop := -9223372036854775808 ≤ x ∧ x < 9223372036854775808
theorem inR_l (x : Int64) : -9223372036854775808 ≤ x.toInt ∧ x.toInt < 9223372036854775808 := ⟨x.le_toInt, x.toInt_lt⟩
theorem inR_i (x : Int32) : -2147483648 ≤ x.toInt ∧ x.toInt < 2147483648 := ⟨x.le_toInt, x.toInt_lt⟩
theorem bm64 {x : Int} (h : inR x) : x.bmod (2 ^ 64) = x := by
  obtain ⟨h1, h2⟩ := h
  exact Int.bmod_eq_of_le (by omega) (by omega)
theorem bm32 {x : Int} (h1 : -2147483648 ≤ x) (h2 : x < 2147483648) : x.bmod (2 ^ 32) = x := Int.bmod_eq_of_le (by omega) (by omega)
theorem l_of {x : Int} (h : inR x) : (Int64.ofInt x).toInt = x := Int64.toInt_ofInt_of_le h.1 h.2
theorem i_of {x : Int} (h1 : -2147483648 ≤ x) (h2 : x < 2147483648) : (Int32.ofInt x).toInt = x := Int32.toInt_ofInt_of_le h1 h2
theorem l_add {a b : Int64} (h : inR (a.toInt + b.toInt)) : (a + b).toInt = a.toInt + b.toInt := by rw [Int64.toInt_add, bm64 h]
theorem l_sub {a b : Int64} (h : inR (a.toInt - b.toInt)) : (a - b).toInt = a.toInt - b.toInt := by rw [Int64.toInt_sub, bm64 h]
theorem l_mul {a b : Int64} (h : inR (a.toInt * b.toInt)) : (a * b).toInt = a.toInt * b.toInt := by rw [Int64.toInt_mul, bm64 h]
theorem l_neg {a : Int64} (h : inR (-a.toInt)) : (-a).toInt = -a.toInt := by rw [Int64.toInt_neg, bm64 h]
theorem i_sub {a b : Int32} (h1 : -2147483648 ≤ a.toInt - b.toInt) (h2 : a.toInt - b.toInt < 2147483648) : (a - b).toInt = a.toInt - b.toInt := by rw [Int32.toInt_sub, bm32 h1 h2]
theorem i_neg {a : Int32} (h1 : -2147483648 ≤ -a.toInt) (h2 : -a.toInt < 2147483648) : (-a).toInt = -a.toInt := by rw [Int32.toInt_neg, bm32 h1 h2]
theorem td {a b : Int} (hb : 0 < b) : (0 ≤ a → a.tdiv b = a / b) ∧ (a ≤ 0 → a.tdiv b = -((-a) / b)) := by
  refine ⟨fun h => Int.tdiv_eq_ediv_of_nonneg h, fun h => ?_⟩
  rw [← Int.tdiv_eq_ediv_of_nonneg (show 0 ≤ -a by omega), Int.neg_tdiv, Int.neg_neg]
theorem k9 : (1000000000 : Int64).toInt = 1000000000 := by decide +kernel
theorem k3 : (1000 : Int64).toInt = 1000 := by decide +kernel
theorem k6 : (1000000 : Int64).toInt = 1000000 := by decide +kernel
theorem k1 : (1 : Int64).toInt = 1 := by decide +kernel
theorem k0 : (0 : Int64).toInt = 0 := by decide +kernel
theorem l_div9 (a : Int64) : (a / 1000000000).toInt = a.toInt.tdiv 1000000000 := by
  rw [Int64.toInt_div_of_ne_right _ _ (by decide), k9]
theorem l_div3 (a : Int64) : (a / 1000).toInt = a.toInt.tdiv 1000 := by
  rw [Int64.toInt_div_of_ne_right _ _ (by decide), k3]
theorem t9 (x : Int) : (0 ≤ x ∧ x.tdiv 1000000000 = x / 1000000000) ∨ (x < 0 ∧ x.tdiv 1000000000 = -((-x) / 1000000000)) := by
  obtain ⟨h1, h2⟩ := td (a := x) (b := 1000000000) (by omega)
  rcases Int.lt_or_le x 0 with h | h
  · exact Or.inr ⟨h, h2 (by omega)⟩
  · exact Or.inl ⟨h, h1 h⟩
theorem t3 (x : Int) : (0 ≤ x ∧ x.tdiv 1000 = x / 1000) ∨ (x < 0 ∧ x.tdiv 1000 = -((-x) / 1000)) := by
  obtain ⟨h1, h2⟩ := td (a := x) (b := 1000) (by omega)
  rcases Int.lt_or_le x 0 with h | h
  · exact Or.inr ⟨h, h2 (by omega)⟩
  · exact Or.inl ⟨h, h1 h⟩
/-- the rest by 1000000000, as the machine has it -/
theorem l_rem9 (a : Int64) : (a - a / 1000000000 * 1000000000).toInt = a.toInt - a.toInt.tdiv 1000000000 * 1000000000 := by
  have ha := inR_l a
  have ht := t9 a.toInt
  have hd := l_div9 a
  have hm : (a / 1000000000 * 1000000000).toInt = a.toInt.tdiv 1000000000 * 1000000000 := by
    rw [l_mul (by rw [hd, k9]; exact ⟨by omega, by omega⟩), hd, k9]
  rw [l_sub (by rw [hm]; exact ⟨by omega, by omega⟩), hm]
theorem l_rem3 (a : Int64) : (a - a / 1000 * 1000).toInt = a.toInt - a.toInt.tdiv 1000 * 1000 := by
  have ha := inR_l a
  have ht := t3 a.toInt
  have hd := l_div3 a
  have hm : (a / 1000 * 1000).toInt = a.toInt.tdiv 1000 * 1000 := by
    rw [l_mul (by rw [hd, k3]; exact ⟨by omega, by omega⟩), hd, k3]
  rw [l_sub (by rw [hm]; exact ⟨by omega, by omega⟩), hm]
/-- floor by a billion, and what is left -/
def fdv (a : Int64) : Int64 := Int64.ofInt (a.toInt / 1000000000)
def fmd (a : Int64) : Int32 := Int32.ofInt (a.toInt % 1000000000)
theorem fdv_T (a : Int64) : (fdv a).toInt = a.toInt / 1000000000 := by
  have ha := inR_l a
  exact l_of ⟨by omega, by omega⟩
theorem fmd_T (a : Int64) : (fmd a).toInt = a.toInt % 1000000000 := i_of (by omega) (by omega)
theorem cmp0_lt {a : Int64} : lg_cmp a 0 < 0 ↔ a.toInt < 0 := by
  rw [lg_cmp_lt, Int64.lt_iff_toInt_lt, k0]
theorem fdv_nn {a : Int64} (h : ¬ lg_cmp a 0 < 0) : a / 1000000000 = fdv a := by
  rw [cmp0_lt] at h
  apply Int64.toInt_inj.mp
  rw [fdv_T, l_div9]
  exact (td (by omega)).1 (by omega)
theorem fdv_ng {a : Int64} (h : lg_cmp a 0 < 0) : (a + 1) / 1000000000 - 1 = fdv a := by
  rw [cmp0_lt] at h
  have ha := inR_l a
  have e1 : (a + 1).toInt = a.toInt + 1 := by rw [l_add (by rw [k1]; exact ⟨by omega, by omega⟩), k1]
  have e2 : ((a + 1) / 1000000000).toInt = -((-(a.toInt + 1)) / 1000000000) := by
    rw [l_div9, e1]
    exact (td (by omega)).2 (by omega)
  apply Int64.toInt_inj.mp
  rw [fdv_T, l_sub (by rw [e2, k1]; exact ⟨by omega, by omega⟩), e2, k1]
  omega
theorem fmd_eq (a : Int64) : ((a - a / 1000000000 * 1000000000 + 1000000000) - (a - a / 1000000000 * 1000000000 + 1000000000) / 1000000000 * 1000000000).toInt32 = fmd a := by
  have ha := inR_l a
  have ht := t9 a.toInt
  have e1 := l_rem9 a
  have e2 : (a - a / 1000000000 * 1000000000 + 1000000000).toInt = a.toInt - a.toInt.tdiv 1000000000 * 1000000000 + 1000000000 := by
    rw [l_add (by rw [e1, k9]; exact ⟨by omega, by omega⟩), e1, k9]
  generalize a - a / 1000000000 * 1000000000 + 1000000000 = b at e2 ⊢
  have e3 := l_rem9 b
  have hb : b.toInt.tdiv 1000000000 = b.toInt / 1000000000 := (td (by omega)).1 (by omega)
  apply Int32.toInt_inj.mp
  rw [Int64.toInt_toInt32, e3, hb, fmd_T, bm32 (by omega) (by omega)]
  omega
/-! safeAdd: where the sum fits, the road to the exception is closed -/
theorem l_neg_msb (x : Int64) : x.toInt < 0 ↔ x.toBitVec.msb = true := by
  rw [BitVec.msb_eq_toInt, decide_eq_true_iff]
  exact Iff.rfl
theorem xor_neg (a b : Int64) : (a ^^^ b).toInt < 0 ↔ ¬ (a.toInt < 0 ↔ b.toInt < 0) := by
  rw [l_neg_msb, l_neg_msb, l_neg_msb, Int64.toBitVec_xor, BitVec.msb_xor]
  cases a.toBitVec.msb <;> cases b.toBitVec.msb <;> simp
theorem safe_ok {a b : Int64} (h : inR (a.toInt + b.toInt)) (h1 : ¬ 0 ≤ lg_cmp (a ^^^ (a + b)) 0) : lg_cmp (a ^^^ b) 0 < 0 := by
  have h2 : lg_cmp (a ^^^ (a + b)) 0 < 0 := Int32.not_le.mp h1
  rw [cmp0_lt, xor_neg, l_add h] at h2
  rw [cmp0_lt, xor_neg]
  omega
theorem or_zero {a b : Int64} : (a ||| b) = 0 ↔ a = 0 ∧ b = 0 := by
  rw [← Int64.toBitVec_inj, ← Int64.toBitVec_inj, ← Int64.toBitVec_inj, Int64.toBitVec_or]
  exact BitVec.or_eq_zero_iff
theorem i2l_zero {n : Int32} : n.toInt64 = 0 ↔ n = 0 := by
  constructor
  · intro h
    have h1 := congrArg Int64.toInt h
    rw [Int32.toInt_toInt64, k0] at h1
    exact Int32.toInt_inj.mp h1
  · intro h
    rw [h]
    decide +kernel
theorem i2l_T (n : Int32) : n.toInt64.toInt = n.toInt := Int32.toInt_toInt64 n
theorem fdv_small {a : Int64} (h0 : 0 ≤ a.toInt) (h1 : a.toInt < 1000000000) : fdv a = 0 := by
  apply Int64.toInt_inj.mp
  rw [fdv_T, k0]
  omega
theorem fmd_small {n : Int32} (h0 : 0 ≤ n.toInt) (h1 : n.toInt < 1000000000) : fmd n.toInt64 = n := by
  apply Int32.toInt_inj.mp
  rw [fmd_T, i2l_T]
  omega
theorem fmd_in (a : Int64) : 0 ≤ (fmd a).toInt ∧ (fmd a).toInt < 1000000000 := by
  rw [fmd_T]
  omega
/-! Duration's plus: seconds and nanoseconds of the answer -/
def nx (x : Int64) (n : Int32) (a b : Int64) : Int64 := x + a + fdv (n.toInt64 + b)
def ny (n : Int32) (b : Int64) : Int32 := fmd (n.toInt64 + b)
/-- what keeps the sums within 64 bits -/
def okP (x : Int64) (n : Int32) (a b : Int64) : Prop :=
  (0 ≤ n.toInt ∧ n.toInt < 1000000000) ∧ (-1000000000000000000 ≤ b.toInt ∧ b.toInt ≤ 1000000000000000000) ∧ inR (x.toInt + a.toInt) ∧ inR (x.toInt + a.toInt + b.toInt.tdiv 1000000000) ∧ inR (x.toInt + a.toInt + (n.toInt + b.toInt) / 1000000000)
theorem okP_n {x : Int64} {n : Int32} {a b : Int64} (h : okP x n a b) : (n.toInt64 + b).toInt = n.toInt + b.toInt := by
  obtain ⟨h1, h2, -⟩ := h
  rw [l_add (by rw [i2l_T]; exact ⟨by omega, by omega⟩), i2l_T]
theorem okP_2 {x : Int64} {n : Int32} {a b : Int64} (h : okP x n a b) : inR ((x + a).toInt + (b / 1000000000).toInt) := by
  rw [l_add h.2.2.1, l_div9]
  exact h.2.2.2.1
theorem okP_e2 {x : Int64} {n : Int32} {a b : Int64} (h : okP x n a b) : (x + a + b / 1000000000).toInt = x.toInt + a.toInt + b.toInt.tdiv 1000000000 := by
  rw [l_add (okP_2 h), l_add h.2.2.1, l_div9]
theorem okP_adj {x : Int64} {n : Int32} {a b : Int64} (h : okP x n a b) : (n.toInt64 + (b - b / 1000000000 * 1000000000)).toInt = n.toInt + (b.toInt - b.toInt.tdiv 1000000000 * 1000000000) := by
  obtain ⟨h1, h2, -⟩ := h
  have ht := t9 b.toInt
  rw [l_add (by rw [i2l_T, l_rem9]; exact ⟨by omega, by omega⟩), i2l_T, l_rem9]
theorem okP_3 {x : Int64} {n : Int32} {a b : Int64} (h : okP x n a b) : inR ((x + a + b / 1000000000).toInt + (n.toInt64 + (b - b / 1000000000 * 1000000000)).toInt / 1000000000) := by
  rw [okP_e2 h, okP_adj h]
  obtain ⟨h1, h2, h3, h4, h5, h6⟩ := h
  have ht := t9 b.toInt
  exact ⟨by omega, by omega⟩
theorem okP_x {x : Int64} {n : Int32} {a b : Int64} (h : okP x n a b) : x + a + b / 1000000000 + fdv (n.toInt64 + (b - b / 1000000000 * 1000000000)) = nx x n a b := by
  apply Int64.toInt_inj.mp
  have h9 := okP_n h
  have h3 := okP_3 h
  rw [l_add (by rw [fdv_T]; exact h3), fdv_T, okP_e2 h, okP_adj h]
  unfold nx
  rw [l_add (by rw [fdv_T, h9, l_add h.2.2.1]; exact h.2.2.2.2), fdv_T, h9, l_add h.2.2.1]
  have ht := t9 b.toInt
  omega
theorem okP_y {x : Int64} {n : Int32} {a b : Int64} (h : okP x n a b) : fmd (n.toInt64 + (b - b / 1000000000 * 1000000000)) = ny n b := by
  apply Int32.toInt_inj.mp
  unfold ny
  rw [fmd_T, fmd_T, okP_adj h, okP_n h]
  have ht := t9 b.toInt
  omega
theorem okP_0 {x : Int64} {n : Int32} {a b : Int64} (h : okP x n a b) (hz : (a ||| b) = 0) : nx x n a b = x ∧ ny n b = n := by
  obtain ⟨rfl, rfl⟩ := or_zero.mp hz
  obtain ⟨h1, -⟩ := h
  unfold nx ny
  rw [Int64.add_zero, Int64.add_zero, fdv_small (by rw [i2l_T]; exact h1.1) (by rw [i2l_T]; exact h1.2), Int64.add_zero]
  exact ⟨rfl, fmd_small h1.1 h1.2⟩
/-! the two seats: which is meant -/
def ix (w : Int32) : Nat := (w &&& 1).toNatClampNeg
theorem ix_eq (w : Int32) : w &&& 1 = nI (ix w) ∧ ix w < 2 := by
  obtain ⟨j, hj, e⟩ := pk_andE w (m := 1) 1 (by decide)
  have hx : ix w = j := by
    unfold ix
    rw [e, nI_clamp (by omega)]
  rw [hx]
  exact ⟨e, by omega⟩
theorem ix_not (w : Int32) : (w ^^^ (-1)) &&& 1 = nI (1 - ix w) := by
  have h1 := pk_and w (m := 1) 1 (by decide)
  have h2 := pk_and (w ^^^ (-1)) (m := 1) 1 (by decide)
  have h3 : (w ^^^ (-1)).toBitVec.toNat % 2 ^ 1 = 1 - w.toBitVec.toNat % 2 ^ 1 := by
    have e : (w ^^^ (-1)).toBitVec = ~~~ w.toBitVec := by
      rw [Int32.toBitVec_xor, show (-1 : Int32).toBitVec = BitVec.allOnes 32 by decide +kernel, BitVec.xor_allOnes]
    have hl := w.toBitVec.isLt
    rw [e, BitVec.toNat_not]
    omega
  rw [h3] at h2
  rw [h2]
  unfold ix
  rw [h1, nI_clamp (by omega)]
/-! wide: two ints make a number of seconds -/
def wd (h l : Int32) : Int64 := Int64.ofInt ((h.toInt / 256) * 4294967296 + l.toInt % 4294967296)
theorem wd_T (h l : Int32) : (wd h l).toInt = (h.toInt / 256) * 4294967296 + l.toInt % 4294967296 := by
  have h1 := inR_i h
  exact l_of ⟨by omega, by omega⟩
theorem wd_in (h l : Int32) : -36028797018963968 ≤ (wd h l).toInt ∧ (wd h l).toInt < 36028797018963968 := by
  have h1 := inR_i h
  rw [wd_T]
  exact ⟨by omega, by omega⟩
theorem wd_hi (h : Int32) : (h >>> ((8 : Int32) &&& 31)).toInt64.toInt = h.toInt / 256 := by
  rw [i2l_T, pk_shr h _ 8 (by decide +kernel), Int.shiftRight_eq_div_pow]
  rfl
theorem wd_m (h l : Int32) {low : Int64} (hl : low.toInt = l.toInt % 4294967296) : (h >>> ((8 : Int32) &&& 31)).toInt64 * 4294967296 + low = wd h l := by
  have h1 := inR_i h
  have e0 : (4294967296 : Int64).toInt = 4294967296 := by decide +kernel
  have e1 : ((h >>> ((8 : Int32) &&& 31)).toInt64 * 4294967296).toInt = (h.toInt / 256) * 4294967296 := by
    rw [l_mul (by rw [wd_hi, e0]; exact ⟨by omega, by omega⟩), wd_hi, e0]
  apply Int64.toInt_inj.mp
  rw [wd_T, l_add (by rw [e1, hl]; exact ⟨by omega, by omega⟩), e1, hl]
theorem wd_low_n {l : Int32} (h : ¬ 0 ≤ lg_cmp l.toInt64 0) : (l.toInt64 + 4294967296).toInt = l.toInt % 4294967296 := by
  have h2 : lg_cmp l.toInt64 0 < 0 := Int32.not_le.mp h
  rw [cmp0_lt, i2l_T] at h2
  have h1 := inR_i l
  have e0 : (4294967296 : Int64).toInt = 4294967296 := by decide +kernel
  rw [l_add (by rw [i2l_T, e0]; exact ⟨by omega, by omega⟩), i2l_T, e0]
  omega
theorem wd_low_p {l : Int32} (h : 0 ≤ lg_cmp l.toInt64 0) : l.toInt64.toInt = l.toInt % 4294967296 := by
  have h2 : ¬ lg_cmp l.toInt64 0 < 0 := Int32.not_lt.mpr h
  rw [cmp0_lt, i2l_T] at h2
  have h1 := inR_i l
  rw [i2l_T]
  omega
theorem l_nat (x : Int64) : x.toInt = if 2 * x.toBitVec.toNat < 18446744073709551616 then (x.toBitVec.toNat : Int) else (x.toBitVec.toNat : Int) - 18446744073709551616 := by
  have h := BitVec.toInt_eq_toNat_cond x.toBitVec
  exact h
theorem wd_d (h l : Int32) : ((h >>> ((8 : Int32) &&& 31)).toInt64 <<< ((32 : Int32).toInt64 &&& 63)) ||| (l.toInt64 &&& 4294967295) = wd h l := by
  have h1 := inR_i h
  have h2 := inR_i l
  have hA := wd_hi h
  have hB := i2l_T l
  generalize (h >>> ((8 : Int32) &&& 31)).toInt64 = a at hA ⊢
  generalize l.toInt64 = b at hB ⊢
  apply Int64.toInt_inj.mp
  rw [wd_T]
  have e1 : (a <<< ((32 : Int32).toInt64 &&& 63)).toBitVec.toNat = a.toBitVec.toNat * 4294967296 % 18446744073709551616 := by
    rw [Int64.toBitVec_shiftLeft]
    rw [show (((32 : Int32).toInt64 &&& 63).toBitVec.smod 64) = 32#64 by decide +kernel]
    rw [BitVec.shiftLeft_eq', BitVec.toNat_shiftLeft, Nat.shiftLeft_eq]
    rfl
  have e2 : (b &&& 4294967295).toBitVec.toNat = b.toBitVec.toNat % 4294967296 := by
    rw [Int64.toBitVec_and, BitVec.toNat_and, show (4294967295 : Int64).toBitVec.toNat = 2 ^ 32 - 1 by decide +kernel, Nat.and_two_pow_sub_one_eq_mod]
  have e3 : (a <<< ((32 : Int32).toInt64 &&& 63) ||| (b &&& 4294967295)).toBitVec.toNat = 4294967296 * (a.toBitVec.toNat % 4294967296) + b.toBitVec.toNat % 4294967296 := by
    rw [Int64.toBitVec_or, BitVec.toNat_or, e1, e2, show a.toBitVec.toNat * 4294967296 % 18446744073709551616 = 2 ^ 32 * (a.toBitVec.toNat % 4294967296) by omega]
    rw [← Nat.two_pow_add_eq_or_of_lt (show b.toBitVec.toNat % 4294967296 < 2 ^ 32 by omega)]
  have c1 := l_nat a
  have c2 := l_nat b
  have c3 := l_nat (a <<< ((32 : Int32).toInt64 &&& 63) ||| (b &&& 4294967295))
  have d1 := a.toBitVec.isLt
  have d2 := b.toBitVec.isLt
  rw [e3] at c3
  rw [c3]
  generalize a.toBitVec.toNat = na at *
  generalize b.toBitVec.toNat = nb at *
  split at c1 <;> split at c2 <;> split <;> omega
/-! the desk's state: seconds S and nanoseconds N of the two seats -/
def nrm (N : Nat → Int32) : Prop := ∀ i, i < 2 → 0 ≤ (N i).toInt ∧ (N i).toInt < 1000000000
def roomy (S : Nat → Int64) : Prop := ∀ i, i < 2 → -4611686018427387904 < (S i).toInt ∧ (S i).toInt < 4611686018427387904
noncomputable def rb (S : Nat → Int64) : Int32 := by
  classical
  exact if roomy S then 1 else 0
noncomputable def mS (S : Nat → Int64) (k : Nat) (x : Int64) : Nat → Int64 := by
  classical
  exact if roomy S then vp_updL S k x else S
noncomputable def mN (S : Nat → Int64) (N : Nat → Int32) (k : Nat) (y : Int32) : Nat → Int32 := by
  classical
  exact if roomy S then upd N k y else N
theorem rb_y {S : Nat → Int64} (h : roomy S) : rb S = 1 := by simp [rb, h]
theorem rb_n {S : Nat → Int64} (h : ¬ roomy S) : rb S = 0 := by simp [rb, h]
theorem mS_y {S : Nat → Int64} {k : Nat} {x : Int64} (h : roomy S) : mS S k x = vp_updL S k x := by simp [mS, h]
theorem mS_n {S : Nat → Int64} {k : Nat} {x : Int64} (h : ¬ roomy S) : mS S k x = S := by simp [mS, h]
theorem mN_y {S : Nat → Int64} {N : Nat → Int32} {k : Nat} {y : Int32} (h : roomy S) : mN S N k y = upd N k y := by simp [mN, h]
theorem mN_n {S : Nat → Int64} {N : Nat → Int32} {k : Nat} {y : Int32} (h : ¬ roomy S) : mN S N k y = N := by simp [mN, h]
theorem nrm_upd {N : Nat → Int32} {k : Nat} {a : Int64} (h : nrm N) : nrm (upd N k (fmd a)) := by
  intro i hi
  by_cases e : i = k
  · subst e
    rw [pk_us]
    exact fmd_in a
  · rw [pk_un e]
    exact h i hi
theorem nrm_m {S : Nat → Int64} {N : Nat → Int32} {k : Nat} {a : Int64} (h : nrm N) : nrm (mN S N k (fmd a)) := by
  by_cases hr : roomy S
  · rw [mN_y hr]
    exact nrm_upd h
  · rw [mN_n hr]
    exact h
theorem rb_ne {S : Nat → Int64} : rb S = 0 ↔ ¬ roomy S := by
  constructor
  · intro h hr
    rw [rb_y hr] at h
    exact absurd h (by decide)
  · exact rb_n
/-- one side's four compares -/
theorem roomy_4 {S : Nat → Int64} : roomy S ↔ (¬ 0 ≤ lg_cmp (S 0) 4611686018427387904 ∧ ¬ lg_cmp (S 0) (-4611686018427387904) ≤ 0 ∧ ¬ 0 ≤ lg_cmp (S 1) 4611686018427387904 ∧ ¬ lg_cmp (S 1) (-4611686018427387904) ≤ 0) := by
  have e1 : (4611686018427387904 : Int64).toInt = 4611686018427387904 := by decide +kernel
  have e2 : (-4611686018427387904 : Int64).toInt = -4611686018427387904 := by decide +kernel
  rw [lg_cmp_ge, lg_cmp_ge, lg_cmp_le, lg_cmp_le, Int64.le_iff_toInt_le, Int64.le_iff_toInt_le, Int64.le_iff_toInt_le, Int64.le_iff_toInt_le, e1, e2]
  constructor
  · intro h
    have h0 := h 0 (by omega)
    have h1 := h 1 (by omega)
    omega
  · intro h i hi
    rcases (show i = 0 ∨ i = 1 by omega) with rfl | rfl
    · omega
    · omega
/-- the other side's: inside -/
noncomputable def ins (x : Int64) : Int32 := by
  classical
  exact if -4611686018427387904 < x.toInt ∧ x.toInt < 4611686018427387904 then 1 else 0
theorem ins_c {x : Int64} : (-4611686018427387904 < x.toInt ∧ x.toInt < 4611686018427387904) ↔ (¬ 0 ≤ lg_cmp (-4611686018427387904) x ∧ ¬ 0 ≤ lg_cmp x 4611686018427387904) := by
  have e1 : (4611686018427387904 : Int64).toInt = 4611686018427387904 := by decide +kernel
  have e2 : (-4611686018427387904 : Int64).toInt = -4611686018427387904 := by decide +kernel
  rw [lg_cmp_ge, lg_cmp_ge, Int64.le_iff_toInt_le, Int64.le_iff_toInt_le, e1, e2]
  omega
theorem ins_1 {x : Int64} (h : -4611686018427387904 < x.toInt ∧ x.toInt < 4611686018427387904) : ins x = 1 := by simp [ins, h]
theorem ins_0 {x : Int64} (h : ¬ (-4611686018427387904 < x.toInt ∧ x.toInt < 4611686018427387904)) : ins x = 0 := by
  unfold ins
  rw [if_neg h]
theorem ins_z {x : Int64} : ins x = 0 ↔ ¬ (-4611686018427387904 < x.toInt ∧ x.toInt < 4611686018427387904) := by
  constructor
  · intro h hx
    rw [ins_1 hx] at h
    exact absurd h (by decide)
  · exact ins_0
theorem roomy_ins {S : Nat → Int64} : roomy S ↔ (¬ ins (S 0) = 0 ∧ ¬ ins (S 1) = 0) := by
  rw [ins_z, ins_z, Decidable.not_not, Decidable.not_not]
  constructor
  · intro h
    exact ⟨h 0 (by omega), h 1 (by omega)⟩
  · intro h i hi
    rcases (show i = 0 ∨ i = 1 by omega) with rfl | rfl
    · exact h.1
    · exact h.2
/-! the bounds of the five operations -/
theorem ok_plus {S : Nat → Int64} {N : Nat → Int32} {k : Nat} (hr : roomy S) (hn : nrm N) (hk : k < 2) : okP (S k) (N k) (S (1 - k)) (N (1 - k)).toInt64 := by
  have a1 := hr k hk
  have a2 := hr (1 - k) (by omega)
  have b1 := hn k hk
  have b2 := hn (1 - k) (by omega)
  have ht := t9 (N (1 - k)).toInt64.toInt
  rw [i2l_T] at ht
  unfold okP inR
  rw [i2l_T]
  omega
theorem neg_i2l {n : Int32} (h0 : 0 ≤ n.toInt) : (-n).toInt64 = -n.toInt64 := by
  have h1 := inR_i n
  apply Int64.toInt_inj.mp
  rw [i2l_T, i_neg (by omega) (by omega), l_neg (by rw [i2l_T]; exact ⟨by omega, by omega⟩), i2l_T]
theorem ok_minus {S : Nat → Int64} {N : Nat → Int32} {k : Nat} (hr : roomy S) (hn : nrm N) (hk : k < 2) : okP (S k) (N k) (-(S (1 - k))) (-(N (1 - k)).toInt64) := by
  have a1 := hr k hk
  have a2 := hr (1 - k) (by omega)
  have b1 := hn k hk
  have b2 := hn (1 - k) (by omega)
  have e1 : (-(S (1 - k))).toInt = -(S (1 - k)).toInt := l_neg ⟨by omega, by omega⟩
  have e2 : (-(N (1 - k)).toInt64).toInt = -(N (1 - k)).toInt := by
    rw [l_neg (by rw [i2l_T]; exact ⟨by omega, by omega⟩), i2l_T]
  have ht := t9 (-(N (1 - k)).toInt)
  unfold okP inR
  rw [e1, e2]
  omega
theorem ok_seconds {S : Nat → Int64} {N : Nat → Int32} {k : Nat} (n : Int32) (hr : roomy S) (hn : nrm N) (hk : k < 2) : okP (S k) (N k) n.toInt64 0 := by
  have a1 := hr k hk
  have b1 := hn k hk
  have c1 := inR_i n
  have ht := t9 0
  unfold okP inR
  rw [i2l_T, k0]
  omega
theorem mil_T (n : Int32) : ((n.toInt64 - n.toInt64 / 1000 * 1000) * 1000000).toInt = (n.toInt - n.toInt.tdiv 1000 * 1000) * 1000000 := by
  have c1 := inR_i n
  have ht := t3 n.toInt
  have e := l_rem3 n.toInt64
  rw [i2l_T] at e
  rw [l_mul (by rw [e, k6]; exact ⟨by omega, by omega⟩), e, k6]
theorem ok_millis {S : Nat → Int64} {N : Nat → Int32} {k : Nat} (n : Int32) (hr : roomy S) (hn : nrm N) (hk : k < 2) : okP (S k) (N k) (n.toInt64 / 1000) ((n.toInt64 - n.toInt64 / 1000 * 1000) * 1000000) := by
  have a1 := hr k hk
  have b1 := hn k hk
  have c1 := inR_i n
  have hm := mil_T n
  have hd := l_div3 n.toInt64
  rw [i2l_T] at hd
  have h3 := t3 n.toInt
  have ht := t9 ((n.toInt64 - n.toInt64 / 1000 * 1000) * 1000000).toInt
  unfold okP inR
  rw [hd]
  generalize ((n.toInt64 - n.toInt64 / 1000 * 1000) * 1000000).toInt = b at *
  generalize n.toInt.tdiv 1000 = q at *
  generalize b.tdiv 1000000000 = d at *
  omega
theorem ok_nanos {S : Nat → Int64} {N : Nat → Int32} {k : Nat} (n : Int32) (hr : roomy S) (hn : nrm N) (hk : k < 2) : okP (S k) (N k) 0 n.toInt64 := by
  have a1 := hr k hk
  have b1 := hn k hk
  have c1 := inR_i n
  have ht := t9 n.toInt
  unfold okP inR
  rw [i2l_T, k0]
  omega
theorem ok_set (h l n : Int32) : inR ((wd h l).toInt + n.toInt64.toInt / 1000000000) := by
  have a1 := wd_in h l
  have c1 := inR_i n
  rw [i2l_T]
  exact ⟨by omega, by omega⟩
/-- millis: the reference divides ints -/
theorem mil_q (n : Int32) : (n / 1000).toInt64 = n.toInt64 / 1000 := by
  rw [Int32.toInt64_div_of_ne_right _ _ (by decide)]
  rfl
theorem mil_r (n : Int32) : (n - n / 1000 * 1000).toInt64 = n.toInt64 - n.toInt64 / 1000 * 1000 := by
  have c1 := inR_i n
  have h3 := t3 n.toInt
  have e1 : (n / 1000).toInt = n.toInt.tdiv 1000 := by
    rw [← i2l_T, mil_q, l_div3, i2l_T]
  have e0 : (1000 : Int32).toInt = 1000 := by decide +kernel
  have e2 : (n / 1000 * 1000).toInt = n.toInt.tdiv 1000 * 1000 := by
    rw [Int32.toInt_mul, e1, e0, bm32 (by omega) (by omega)]
  have e := l_rem3 n.toInt64
  rw [i2l_T] at e
  apply Int64.toInt_inj.mp
  rw [i2l_T, i_sub (by rw [e2]; omega) (by rw [e2]; omega), e2, e]
/-! the reference's store: its two loops -/
theorem st_up {n s : Int64} (h : ¬ 0 ≤ lg_cmp n 0) : s - 1 + fdv (n + 1000000000) = s + fdv n ∧ fmd (n + 1000000000) = fmd n ∧ (n + 1000000000).toInt = n.toInt + 1000000000 ∧ n.toInt < 0 := by
  have h2 : lg_cmp n 0 < 0 := Int32.not_le.mp h
  rw [cmp0_lt] at h2
  have hn := inR_l n
  have e : (n + 1000000000).toInt = n.toInt + 1000000000 := by
    rw [l_add (by rw [k9]; exact ⟨by omega, by omega⟩), k9]
  have f : fdv (n + 1000000000) = 1 + fdv n := by
    apply Int64.toInt_inj.mp
    have g : (1 + fdv n).toInt = 1 + n.toInt / 1000000000 := by
      rw [l_add (by rw [k1, fdv_T]; exact ⟨by omega, by omega⟩), k1, fdv_T]
    rw [fdv_T, e, g]
    omega
  refine ⟨?_, ?_, e, h2⟩
  · rw [f, ← Int64.add_assoc, Int64.sub_add_cancel]
  · apply Int32.toInt_inj.mp
    rw [fmd_T, fmd_T, e]
    omega
theorem st_dn {n s : Int64} (h : ¬ lg_cmp n 1000000000 < 0) : s + 1 + fdv (n - 1000000000) = s + fdv n ∧ fmd (n - 1000000000) = fmd n ∧ (n - 1000000000).toInt = n.toInt - 1000000000 ∧ 1000000000 ≤ n.toInt := by
  rw [lg_cmp_lt, Int64.lt_iff_toInt_lt, k9] at h
  have hn := inR_l n
  have e : (n - 1000000000).toInt = n.toInt - 1000000000 := by
    rw [l_sub (by rw [k9]; exact ⟨by omega, by omega⟩), k9]
  have f : 1 + fdv (n - 1000000000) = fdv n := by
    apply Int64.toInt_inj.mp
    rw [l_add (by rw [fdv_T, k1, e]; exact ⟨by omega, by omega⟩), fdv_T, fdv_T, k1, e]
    omega
  refine ⟨?_, ?_, e, by omega⟩
  · rw [Int64.add_assoc, f]
  · apply Int32.toInt_inj.mp
    rw [fmd_T, fmd_T, e]
    omega
theorem st_end {n s : Int64} (h0 : 0 ≤ n.toInt) (h : lg_cmp n 1000000000 < 0) : s = s + fdv n ∧ n.toInt32 = fmd n := by
  rw [lg_cmp_lt, Int64.lt_iff_toInt_lt, k9] at h
  refine ⟨?_, ?_⟩
  · rw [fdv_small h0 h, Int64.add_zero]
  · apply Int32.toInt_inj.mp
    rw [fmd_T, Int64.toInt_toInt32, bm32 (by omega) (by omega)]
    omega
/-! the answers that are read -/
def cl (a b : Int64) : Int32 := if a.toInt < b.toInt then -1 else if b.toInt < a.toInt then 1 else 0
theorem cl_lt {a b : Int64} (h : ¬ 0 ≤ lg_cmp a b) : -1 = cl a b := by
  rw [lg_cmp_ge, Int64.le_iff_toInt_le] at h
  unfold cl
  rw [if_pos (by omega)]
theorem cl_gt {a b : Int64} (h1 : 0 ≤ lg_cmp a b) (h : ¬ lg_cmp a b ≤ 0) : 1 = cl a b := by
  rw [lg_cmp_ge, Int64.le_iff_toInt_le] at h1
  rw [lg_cmp_le, Int64.le_iff_toInt_le] at h
  unfold cl
  rw [if_neg (by omega), if_pos (by omega)]
theorem cl_eq {a b : Int64} (h1 : 0 ≤ lg_cmp a b) (h : lg_cmp a b ≤ 0) : 0 = cl a b := by
  rw [lg_cmp_ge, Int64.le_iff_toInt_le] at h1
  rw [lg_cmp_le, Int64.le_iff_toInt_le] at h
  unfold cl
  rw [if_neg (by omega), if_neg (by omega)]
def isz (x : Int64) (n : Int32) : Int32 := if x = 0 ∧ n = 0 then 1 else 0
def ngv (x : Int64) : Int32 := if x.toInt < 0 then 1 else 0
theorem isz_01 (x : Int64) (n : Int32) : isz x n = 0 ∨ isz x n = 1 := by
  unfold isz
  split
  · exact Or.inr rfl
  · exact Or.inl rfl
theorem ngv_01 (x : Int64) : ngv x = 0 ∨ ngv x = 1 := by
  unfold ngv
  split
  · exact Or.inr rfl
  · exact Or.inl rfl
theorem rb_01 (S : Nat → Int64) : rb S = 0 ∨ rb S = 1 := by
  by_cases h : roomy S
  · exact Or.inr (rb_y h)
  · exact Or.inl (rb_n h)
theorem isz_n {x : Int64} {n : Int32} (h : ¬ lg_cmp (x ||| n.toInt64) 0 = 0) : 0 = isz x n := by
  rw [lg_cmp_eq, or_zero, i2l_zero] at h
  unfold isz
  rw [if_neg h]
theorem isz_y {x : Int64} {n : Int32} (h : lg_cmp (x ||| n.toInt64) 0 = 0) : 1 = isz x n := by
  rw [lg_cmp_eq, or_zero, i2l_zero] at h
  unfold isz
  rw [if_pos h]
theorem isz_n1 {x : Int64} {n : Int32} (h : ¬ lg_cmp x 0 = 0) : 0 = isz x n := by
  rw [lg_cmp_eq] at h
  unfold isz
  rw [if_neg (fun q => h q.1)]
theorem isz_n2 {x : Int64} {n : Int32} (h : ¬ n = 0) : 0 = isz x n := by
  unfold isz
  rw [if_neg (fun q => h q.2)]
theorem isz_y2 {x : Int64} {n : Int32} (h : lg_cmp x 0 = 0) (h2 : n = 0) : 1 = isz x n := by
  rw [lg_cmp_eq] at h
  unfold isz
  rw [if_pos ⟨h, h2⟩]
theorem ngv_n {x : Int64} (h : 0 ≤ lg_cmp x 0) : 0 = ngv x := by
  rw [lg_cmp_ge, Int64.le_iff_toInt_le, k0] at h
  unfold ngv
  rw [if_neg (by omega)]
theorem ngv_y {x : Int64} (h : ¬ 0 ≤ lg_cmp x 0) : 1 = ngv x := by
  rw [lg_cmp_ge, Int64.le_iff_toInt_le, k0] at h
  unfold ngv
  rw [if_pos (by omega)]
def cmpv (x : Int64) (n : Int32) (x2 : Int64) (n2 : Int32) : Int32 := if cl x x2 = 0 then n - n2 else cl x x2
theorem cmpv_0 {x x2 : Int64} {n n2 : Int32} (h : cl x x2 = 0) : n - n2 = cmpv x n x2 n2 := by
  unfold cmpv
  rw [if_pos h]
theorem cmpv_1 {x x2 : Int64} {n n2 : Int32} (h : ¬ cl x x2 = 0) : cl x x2 = cmpv x n x2 n2 := by
  unfold cmpv
  rw [if_neg h]
/-- which of two spans is the longer -/
def od (x : Int64) (n : Int32) (x2 : Int64) (n2 : Int32) : Int32 := if x.toInt < x2.toInt then -1 else if x2.toInt < x.toInt then 1 else if n.toInt < n2.toInt then -1 else if n2.toInt < n.toInt then 1 else 0
theorem od_cmpv {x x2 : Int64} {n n2 : Int32} (h1 : 0 ≤ n.toInt ∧ n.toInt < 1000000000) (h2 : 0 ≤ n2.toInt ∧ n2.toInt < 1000000000) : (cmpv x n x2 n2 < 0 → -1 = od x n x2 n2) ∧ (0 < cmpv x n x2 n2 → 1 = od x n x2 n2) ∧ (¬ cmpv x n x2 n2 < 0 → ¬ 0 < cmpv x n x2 n2 → 0 = od x n x2 n2) := by
  have e0 : (0 : Int32).toInt = 0 := by decide +kernel
  have e := i_sub (a := n) (b := n2) (by omega) (by omega)
  by_cases a : x.toInt < x2.toInt
  · have c1 : cl x x2 = -1 := by unfold cl; rw [if_pos a]
    have c2 : cmpv x n x2 n2 = -1 := by rw [← cmpv_1 (by rw [c1]; decide), c1]
    rw [c2]
    unfold od
    rw [if_pos a]
    exact ⟨fun _ => rfl, fun h => absurd h (by decide), fun h => absurd (by decide) h⟩
  · by_cases b : x2.toInt < x.toInt
    · have c1 : cl x x2 = 1 := by unfold cl; rw [if_neg a, if_pos b]
      have c2 : cmpv x n x2 n2 = 1 := by rw [← cmpv_1 (by rw [c1]; decide), c1]
      rw [c2]
      unfold od
      rw [if_neg a, if_pos b]
      exact ⟨fun h => absurd h (by decide), fun _ => rfl, fun _ h => absurd (by decide) h⟩
    · have c1 : cl x x2 = 0 := by unfold cl; rw [if_neg a, if_neg b]
      rw [← cmpv_0 (n := n) (n2 := n2) c1]
      unfold od
      rw [if_neg a, if_neg b, Int32.lt_iff_toInt_lt, Int32.lt_iff_toInt_lt, e, e0]
      refine ⟨fun h => ?_, fun h => ?_, fun g h => ?_⟩
      · rw [if_pos (by omega)]
      · rw [if_neg (by omega), if_pos (by omega)]
      · rw [if_neg (by omega), if_neg (by omega)]
theorem od_lt {x x2 : Int64} {n n2 : Int32} (h : ¬ 0 ≤ lg_cmp x x2) : -1 = od x n x2 n2 := by
  rw [lg_cmp_ge, Int64.le_iff_toInt_le] at h
  unfold od
  rw [if_pos (by omega)]
theorem od_gt {x x2 : Int64} {n n2 : Int32} (h1 : 0 ≤ lg_cmp x x2) (h : ¬ lg_cmp x x2 ≤ 0) : 1 = od x n x2 n2 := by
  rw [lg_cmp_ge, Int64.le_iff_toInt_le] at h1
  rw [lg_cmp_le, Int64.le_iff_toInt_le] at h
  unfold od
  rw [if_neg (by omega), if_pos (by omega)]
theorem od_eq {x x2 : Int64} {n n2 : Int32} (h1 : 0 ≤ lg_cmp x x2) (h : lg_cmp x x2 ≤ 0) : (¬ n2 ≤ n → -1 = od x n x2 n2) ∧ (n2 ≤ n → ¬ n ≤ n2 → 1 = od x n x2 n2) ∧ (n2 ≤ n → n ≤ n2 → 0 = od x n x2 n2) := by
  rw [lg_cmp_ge, Int64.le_iff_toInt_le] at h1
  rw [lg_cmp_le, Int64.le_iff_toInt_le] at h
  rw [Int32.le_iff_toInt_le, Int32.le_iff_toInt_le]
  unfold od
  rw [if_neg (by omega), if_neg (by omega)]
  refine ⟨fun g => ?_, fun g1 g2 => ?_, fun g1 g2 => ?_⟩
  · rw [if_pos (by omega)]
  · rw [if_neg (by omega), if_pos (by omega)]
  · rw [if_neg (by omega), if_neg (by omega)]
theorem pl_1 {w : Int32} (h : ¬ w &&& 1 = 0) : 1 = nI (ix w) := by
  obtain ⟨e, hk⟩ := ix_eq w
  rw [e] at h
  rcases (show ix w = 0 ∨ ix w = 1 by omega) with q | q
  · rw [q] at h
    exact absurd (by decide +kernel) h
  · rw [q]
    decide +kernel
theorem pl_0 {w : Int32} (h : w &&& 1 = 0) : 0 = nI (ix w) := by
  obtain ⟨e, hk⟩ := ix_eq w
  rw [← e, h]
theorem ot_eq {k : Nat} (hk : k < 2) : (1 : Int32) - nI k = nI (1 - k) := by
  rcases (show k = 0 ∨ k = 1 by omega) with rfl | rfl <;> decide +kernel
end
section
/-! JDK8METHODS AND DURATION: contracts (printed by gen/contracts.py) -/
set_option maxRecDepth 100000
set_option maxHeartbeats 4000000 in
/-- floorDiv by a billion -/
theorem met_floorDiv (l : Launch) (D : va_G) (z : Nat) (a : Int64) (sz : Nat) : Met l yX2_floorDiv (ws_ yX2_floorDiv cX2_floorDiv 4 (some .long)) ({ frames := 0, cells := 0, slots := 0, locals := 0 }) (va_Pc [.long a, .long 1000000000] (sdPre D z [] [] sz (fun H => True))) (va_Ql (fun (r : Int64) (_ : Unit) => r = fdv a) (fun _ _ => True) (fr [] sz)) 0 0 (fr [] sz) := by
  refine sd_open (by decide) (Nat.le_of_ble_eq_true rfl) ?_
  intro p e s m below meth c ls hx hb hr hlocks hml hin hown hts hl hsz hK hZ hO hX
  subst hsz
  have hS : va_S (fr [] s.heap.size) s.heap s.heap [] := va_S.rf
  have hl : lv_has ls 4 [(0, .long a), (2, .long 1000000000)] := hl
  refine lv_lload_n hx hb dX2_floorDiv_0 rfl (lv_at hl 0 rfl) ?_
  refine lv_lconst (v := 0) hx hb dX2_floorDiv_1 (by decide) ?_
  refine W.lcmp hx hb dX2_floorDiv_2 ?_
  refine lv_if_lt (tgt := 12) hx hb dX2_floorDiv_3 (by decide) (fun c1 => ?_) (fun c1 => ?_)
  · refine lv_lload_n hx hb dX2_floorDiv_12 rfl (lv_at hl 0 rfl) ?_
    refine lv_lconst (v := 1) hx hb dX2_floorDiv_13 (by decide) ?_
    refine lv_ladd hx hb dX2_floorDiv_14 ?_
    refine lv_lload_n hx hb dX2_floorDiv_15 rfl (lv_at hl 1 rfl) ?_
    refine lv_ldiv hx hb dX2_floorDiv_16 (by decide) ?_
    refine lv_lconst (v := 1) hx hb dX2_floorDiv_17 (by decide) ?_
    refine lv_lsub hx hb dX2_floorDiv_18 ?_
    exact W.lret hx hb hr (fun t ht hW => ⟨⟨_, (), rfl, fdv_ng c1, trivial⟩, hS.F ht⟩) hS.2.2 dX2_floorDiv_19
  · refine lv_lload_n hx hb dX2_floorDiv_6 rfl (lv_at hl 0 rfl) ?_
    refine lv_lload_n hx hb dX2_floorDiv_7 rfl (lv_at hl 1 rfl) ?_
    refine lv_ldiv hx hb dX2_floorDiv_8 (by decide) ?_
    refine lv_goto (tgt := 19) hx hb dX2_floorDiv_9 (by decide) ?_
    exact W.lret hx hb hr (fun t ht hW => ⟨⟨_, (), rfl, fdv_nn c1, trivial⟩, hS.F ht⟩) hS.2.2 dX2_floorDiv_19
set_option maxHeartbeats 4000000 in
/-- safeAdd where the sum fits -/
theorem met_safeAdd (l : Launch) (D : va_G) (z : Nat) (a b : Int64) (sz : Nat) (h : inR (a.toInt + b.toInt)) : Met l yX2_safeAdd (ws_ yX2_safeAdd cX2_safeAdd 6 (some .long)) ({ frames := 0, cells := 0, slots := 0, locals := 0 }) (va_Pc [.long a, .long b] (sdPre D z [] [] sz (fun H => True))) (va_Ql (fun (r : Int64) (_ : Unit) => r = a + b) (fun _ _ => True) (fr [] sz)) 0 0 (fr [] sz) := by
  refine sd_open (by decide) (Nat.le_of_ble_eq_true rfl) ?_
  intro p e s m below meth c ls hx hb hr hlocks hml hin hown hts hl hsz hK hZ hO hX
  subst hsz
  have hS : va_S (fr [] s.heap.size) s.heap s.heap [] := va_S.rf
  have hl : lv_has ls 6 [(0, .long a), (2, .long b)] := hl
  refine lv_lload_n hx hb dX2_safeAdd_0 rfl (lv_at hl 0 rfl) ?_
  refine lv_lload_n hx hb dX2_safeAdd_1 rfl (lv_at hl 1 rfl) ?_
  refine lv_ladd hx hb dX2_safeAdd_2 ?_
  refine lv_lstore (lv' := [(4, .long (a + b)), (0, .long a), (2, .long b)]) hx hb dX2_safeAdd_3 hl (by decide) rfl (fun ls hl => ?_)
  refine lv_lload_n hx hb dX2_safeAdd_5 rfl (lv_at hl 1 rfl) ?_
  refine lv_lload hx hb dX2_safeAdd_6 (lv_at hl 0 rfl) ?_
  refine lv_lxor hx hb dX2_safeAdd_8 ?_
  refine lv_lconst (v := 0) hx hb dX2_safeAdd_9 (by decide) ?_
  refine W.lcmp hx hb dX2_safeAdd_10 ?_
  refine lv_if_ge (tgt := 32) hx hb dX2_safeAdd_11 (by decide) (fun c1 => ?_) (fun c1 => ?_)
  · refine lv_lload hx hb dX2_safeAdd_32 (lv_at hl 0 rfl) ?_
    exact W.lret hx hb hr (fun t ht hW => ⟨⟨_, (), rfl, rfl, trivial⟩, hS.F ht⟩) hS.2.2 dX2_safeAdd_34
  · refine lv_lload_n hx hb dX2_safeAdd_14 rfl (lv_at hl 1 rfl) ?_
    refine lv_lload_n hx hb dX2_safeAdd_15 rfl (lv_at hl 2 rfl) ?_
    refine lv_lxor hx hb dX2_safeAdd_16 ?_
    refine lv_lconst (v := 0) hx hb dX2_safeAdd_17 (by decide) ?_
    refine W.lcmp hx hb dX2_safeAdd_18 ?_
    refine lv_if_lt (tgt := 32) hx hb dX2_safeAdd_19 (by decide) (fun c2 => ?_) (fun c2 => ?_)
    · refine lv_lload hx hb dX2_safeAdd_32 (lv_at hl 0 rfl) ?_
      exact W.lret hx hb hr (fun t ht hW => ⟨⟨_, (), rfl, rfl, trivial⟩, hS.F ht⟩) hS.2.2 dX2_safeAdd_34
    · exact absurd (safe_ok h c1) c2
set_option maxHeartbeats 4000000 in
/-- floorMod by a billion -/
theorem met_floorMod (l : Launch) (D : va_G) (z : Nat) (a : Int64) (sz : Nat) : Met l yX2_floorMod (ws_ yX2_floorMod cX2_floorMod 3 (some .int)) ({ frames := 0, cells := 0, slots := 0, locals := 0 }) (va_Pc [.long a, .int 1000000000] (sdPre D z [] [] sz (fun H => True))) (va_Qi (fun (r : Int32) (_ : Unit) => r = fmd a) (fun _ _ => True) (fr [] sz)) 0 0 (fr [] sz) := by
  refine sd_open (by decide) (Nat.le_of_ble_eq_true rfl) ?_
  intro p e s m below meth c ls hx hb hr hlocks hml hin hown hts hl hsz hK hZ hO hX
  subst hsz
  have hS : va_S (fr [] s.heap.size) s.heap s.heap [] := va_S.rf
  have hl : lv_has ls 3 [(0, .long a), (2, .int 1000000000)] := hl
  refine lv_lload_n hx hb dX2_floorMod_0 rfl (lv_at hl 0 rfl) ?_
  refine lv_iload_n hx hb dX2_floorMod_1 rfl (lv_at hl 1 rfl) ?_
  refine lv_i2l (v := 1000000000) hx hb dX2_floorMod_2 (by decide +kernel) ?_
  refine lv_lrem hx hb dX2_floorMod_3 (by decide) ?_
  refine lv_iload_n hx hb dX2_floorMod_4 rfl (lv_at hl 1 rfl) ?_
  refine lv_i2l (v := 1000000000) hx hb dX2_floorMod_5 (by decide +kernel) ?_
  refine lv_ladd hx hb dX2_floorMod_6 ?_
  refine lv_iload_n hx hb dX2_floorMod_7 rfl (lv_at hl 1 rfl) ?_
  refine lv_i2l (v := 1000000000) hx hb dX2_floorMod_8 (by decide +kernel) ?_
  refine lv_lrem hx hb dX2_floorMod_9 (by decide) ?_
  refine lv_l2i hx hb dX2_floorMod_10 rfl ?_
  exact W.iret hx hb hr (fun t ht hW => ⟨⟨_, (), rfl, fmd_eq a, trivial⟩, hS.F ht⟩) hS.2.2 dX2_floorMod_11
set_option maxHeartbeats 4000000 in
theorem met_compareLongs (l : Launch) (D : va_G) (z : Nat) (a b : Int64) (sz : Nat) : Met l yX2_compareLongs (ws_ yX2_compareLongs cX2_compareLongs 4 (some .int)) ({ frames := 0, cells := 0, slots := 0, locals := 0 }) (va_Pc [.long a, .long b] (sdPre D z [] [] sz (fun H => True))) (va_Qi (fun (r : Int32) (_ : Unit) => r = cl a b) (fun _ _ => True) (fr [] sz)) 0 0 (fr [] sz) := by
  refine sd_open (by decide) (Nat.le_of_ble_eq_true rfl) ?_
  intro p e s m below meth c ls hx hb hr hlocks hml hin hown hts hl hsz hK hZ hO hX
  subst hsz
  have hS : va_S (fr [] s.heap.size) s.heap s.heap [] := va_S.rf
  have hl : lv_has ls 4 [(0, .long a), (2, .long b)] := hl
  refine lv_lload_n hx hb dX2_compareLongs_0 rfl (lv_at hl 0 rfl) ?_
  refine lv_lload_n hx hb dX2_compareLongs_1 rfl (lv_at hl 1 rfl) ?_
  refine W.lcmp hx hb dX2_compareLongs_2 ?_
  refine lv_if_ge (tgt := 8) hx hb dX2_compareLongs_3 (by decide) (fun c1 => ?_) (fun c1 => ?_)
  · refine lv_lload_n hx hb dX2_compareLongs_8 rfl (lv_at hl 0 rfl) ?_
    refine lv_lload_n hx hb dX2_compareLongs_9 rfl (lv_at hl 1 rfl) ?_
    refine W.lcmp hx hb dX2_compareLongs_10 ?_
    refine lv_if_le (tgt := 16) hx hb dX2_compareLongs_11 (by decide) (fun c2 => ?_) (fun c2 => ?_)
    · refine lv_iconst (v := 0) hx hb dX2_compareLongs_16 (by decide) ?_
      exact W.iret hx hb hr (fun t ht hW => ⟨⟨_, (), rfl, cl_eq c1 c2, trivial⟩, hS.F ht⟩) hS.2.2 dX2_compareLongs_17
    · refine lv_iconst (v := 1) hx hb dX2_compareLongs_14 (by decide) ?_
      exact W.iret hx hb hr (fun t ht hW => ⟨⟨_, (), rfl, cl_gt c1 c2, trivial⟩, hS.F ht⟩) hS.2.2 dX2_compareLongs_15
  · refine lv_iconst (v := (-1)) hx hb dX2_compareLongs_6 (by decide) ?_
    exact W.iret hx hb hr (fun t ht hW => ⟨⟨_, (), rfl, cl_lt c1, trivial⟩, hS.F ht⟩) hS.2.2 dX2_compareLongs_7
set_option maxHeartbeats 4000000 in
theorem met_D_init (l : Launch) (D : va_G) (z : Nat) (h0 : Nat) (x : Int64) (n : Int32) (sz : Nat) : Met l yX1_init (ws_ yX1_init cX1_init 4 none) ({ frames := 1, cells := 0, slots := 0, locals := 19 }) (va_Pc [.ref h0, .long x, .int n] (sdPre D z [] [h0] sz (fun H => va_at D vwCl (h0, .inr (0, [.long 0, .int 0])) H))) (va_Qv (fun (_ : Unit) => True) (fun _ t => va_at D vwCl (h0, duE x n) t.heap) (fr [h0] sz)) 0 0 (fr [h0] sz) := by
  refine sd_open (by decide) (Nat.le_of_ble_eq_true rfl) ?_
  intro p e s m below meth c ls hx hb hr hlocks hml hin hown hts hl hsz hK hZ hO hX
  subst hsz
  have hS : va_S (fr [h0] s.heap.size) s.heap s.heap [] := va_S.rf
  have hl : lv_has ls 4 [(0, .ref h0), (1, .long x), (3, .int n)] := hl
  have hd : va_at D vwCl (h0, .inr (0, [.long 0, .int 0])) s.heap := hX
  refine lv_aload_n hx hb dX1_init_0 rfl (lv_at hl 0 rfl) ?_
  refine W.objInit hx hb hown (hts _ q114) (hts _ q20) (hts _ q21) rfl (by rw [hml]; exact hl.1) rfl dX1_init_1 (Nat.le_of_ble_eq_true rfl) (Nat.le_of_ble_eq_true rfl) ?_
  refine W.eq (g2 := F0 m 4 ls []) rfl ?_
  refine lv_aload_n hx hb dX1_init_4 rfl (lv_at hl 0 rfl) ?_
  refine lv_lload_n hx hb dX1_init_5 rfl (lv_at hl 1 rfl) ?_
  refine sd_putF (C := RX1) (T := TX1) (ty := .long) hx hb hts in_X1 tyX1 tyX1_ok nmX1 hown hK hd hS (Or.inl List.mem_cons_self) rfl 0 (by decide) q115 rfl hin rfl (by decide +kernel) rfl rfl (Nat.le_of_ble_eq_true rfl) dX1_init_6 (fun H1 locs1 hd hk2 hS => ?_)
  have hd : va_at D vwCl (h0, .inr (0, [.long x, .int 0])) H1 := hd
  refine lv_aload_n hx hb dX1_init_9 rfl (lv_at hl 0 rfl) ?_
  refine lv_iload_n hx hb dX1_init_10 rfl (lv_at hl 2 rfl) ?_
  refine sd_putF (C := RX1) (T := TX1) (ty := .int) hx hb hts in_X1 tyX1 tyX1_ok nmX1 hown hK hd hS (Or.inl List.mem_cons_self) rfl 1 (by decide) q116 rfl hin rfl (by decide +kernel) rfl rfl (Nat.le_of_ble_eq_true rfl) dX1_init_11 (fun H2 locs1 hd hk2 hS => ?_)
  have hd : va_at D vwCl (h0, .inr (0, [.long x, .int n])) H2 := hd
  exact W.vret hx hb hr (fun t ht hW => ⟨⟨(), rfl, trivial, by try dsimp only; rw [ht]; exact hd⟩, hS.F ht⟩) hS.2.2 dX1_init_14
set_option maxHeartbeats 4000000 in
theorem met_create (l : Launch) (D : va_G) (z : Nat) (x : Int64) (n : Int32) (sz : Nat) : Met l yX1_create (ws_ yX1_create cX1_create 3 (some (.object "Duration"))) ({ frames := 2, cells := 1, slots := 2, locals := 42 }) (va_Pc [.long x, .int n] (sdPre D z [] [] sz (fun H => True))) (va_Qr (fun (_ : Unit) => True) (fun _ ra t => va_at D vwCl (ra, duE x n) t.heap) (fr [] sz)) 1 2 (fr [] sz) := by
  refine sd_open (by decide) (Nat.le_of_ble_eq_true rfl) ?_
  intro p e s m below meth c ls hx hb hr hlocks hml hin hown hts hl hsz hK hZ hO hX
  subst hsz
  have hS : va_S (fr [] s.heap.size) s.heap s.heap [] := va_S.rf
  have hl : lv_has ls 3 [(0, .long x), (2, .int n)] := hl
  refine lv_lload_n hx hb dX1_create_0 rfl (lv_at hl 0 rfl) ?_
  refine lv_iload_n hx hb dX1_create_1 rfl (lv_at hl 1 rfl) ?_
  refine lv_i2l hx hb dX1_create_2 rfl ?_
  refine lv_lor hx hb dX1_create_3 ?_
  refine lv_lconst (v := 0) hx hb dX1_create_4 (by decide) ?_
  refine W.lcmp hx hb dX1_create_5 ?_
  refine lv_if_ne (tgt := 13) hx hb dX1_create_6 (by decide) (fun c1 => ?_) (fun c1 => ?_)
  · refine sd_new (ci := 0) (fs := [.long 0, .int 0]) (C := RX1) (T := TX1) (N := 2) hx hb hts in_X1 tyX1 tyX1_ok hown q109 q110 q7 hK hS rfl (fun j hj => by rcases (show j = 0 ∨ j = 1 by omega) with rfl | rfl <;> rfl) (Nat.le_of_ble_eq_true rfl) (Nat.le_of_ble_eq_true rfl) dX1_create_13 (fun h0 H1 hq0 hq1 hd hk2 hS => ?_)
    refine lv_dup hx hb dX1_create_16 rfl ?_
    refine lv_lload_n hx hb dX1_create_17 rfl (lv_at hl 0 rfl) ?_
    refine lv_iload_n hx hb dX1_create_18 rfl (lv_at hl 1 rfl) ?_
    refine va_callv (sd_I (own := RX1) (nL := 3) (n := 2) (As := [.long x, .int n]) (rest := [.ref h0]) ⟨hx, hb, hml, hown, hts⟩ (met_D_init l D z h0 x n H1.size) q111 q112 q7 q113 rfl rfl (by decide +kernel) rfl rfl ⟨Nat.le_of_ble_eq_true rfl, Nat.le_of_ble_eq_true rfl⟩ (hK.sub (tys' := []) [] rfl) hZ hO hS (fr_call hS (fun q h => by rcases List.mem_singleton.mp h with rfl; rw [hq0]; exact Or.inr (Nat.le_refl _))) hd hl.1 rfl (Nat.le_of_ble_eq_true rfl) dX1_create_19 ⟨Nat.le_of_ble_eq_true rfl, Nat.le_of_ble_eq_true rfl⟩) hS (fun q _ h => (fr_call hS (fun q h => by rcases List.mem_singleton.mp h with rfl; rw [hq0]; exact Or.inr (Nat.le_refl _))) q h) (fr_call hS (fun q h => by rcases List.mem_singleton.mp h with rfl; rw [hq0]; exact Or.inr (Nat.le_refl _))) (fun _ t H2 locs1 ht hvm hw hB hz1 hk1 hS => ?_)
    have hd : va_at D vwCl (h0, duE x n) H2 := by rw [ht] at hB; exact hB
    refine W.widen (k := 1) (n := 2) (Nat.le_of_ble_eq_true rfl) (Nat.le_of_ble_eq_true rfl) ?_
    exact W.aret hx hb hr (Or.inl ⟨_, rfl⟩) (Or.inr ⟨_, rfl⟩) (fun t ht hW => ⟨⟨(), _, rfl, trivial, by try dsimp only; rw [ht]; exact hd⟩, hS.F ht⟩) hS.2.2 dX1_create_22
  · refine va_gets hx hb hZ.1 hS hown (hts _ q107) (fun _ h9 => h9) dX1_create_9 ?_
    have e1 : x = 0 := (or_zero.mp ((lg_cmp_eq _ _).mp c1)).1
    have e2 : n = 0 := i2l_zero.mp (or_zero.mp ((lg_cmp_eq _ _).mp c1)).2
    subst e1
    subst e2
    refine W.widen (k := 1) (n := 2) (Nat.le_of_ble_eq_true rfl) (Nat.le_of_ble_eq_true rfl) ?_
    exact W.aret hx hb hr (Or.inl ⟨_, rfl⟩) (Or.inr ⟨_, rfl⟩) (fun t ht hW => ⟨⟨(), _, rfl, trivial, by try dsimp only; rw [ht]; exact hZ.du hS⟩, hS.F ht⟩) hS.2.2 dX1_create_12
set_option maxHeartbeats 4000000 in
theorem met_ofSeconds (l : Launch) (D : va_G) (z : Nat) (x n : Int64) (sz : Nat) (h : inR (x.toInt + n.toInt / 1000000000)) : Met l yX1_ofSeconds (ws_ yX1_ofSeconds cX1_ofSeconds 7 (some (.object "Duration"))) ({ frames := 3, cells := 1, slots := 2, locals := 64 }) (va_Pc [.long x, .long n] (sdPre D z [] [] sz (fun H => True))) (va_Qr (fun (_ : Unit) => True) (fun _ ra t => va_at D vwCl (ra, duE (x + fdv n) (fmd n)) t.heap) (fr [] sz)) 1 2 (fr [] sz) := by
  refine sd_open (by decide) (Nat.le_of_ble_eq_true rfl) ?_
  intro p e s m below meth c ls hx hb hr hlocks hml hin hown hts hl hsz hK hZ hO hX
  subst hsz
  have hS : va_S (fr [] s.heap.size) s.heap s.heap [] := va_S.rf
  have hl : lv_has ls 7 [(0, .long x), (2, .long n)] := hl
  refine lv_lload_n hx hb dX1_ofSeconds_0 rfl (lv_at hl 0 rfl) ?_
  refine lv_lload_n hx hb dX1_ofSeconds_1 rfl (lv_at hl 1 rfl) ?_
  refine lv_ldc2 (v := 1000000000) hx hb hown (hts _ q27) dX1_ofSeconds_2 ?_
  refine va_calll (sd_S (own := RX1) (nL := 7) (n := 2) (As := [.long n, .long 1000000000]) (rest := [.long x]) ⟨hx, hb, hml, hown, hts⟩ (met_floorDiv l D z n s.heap.size) q28 q29 q8 q30 rfl (by decide +kernel) rfl rfl ⟨Nat.le_of_ble_eq_true rfl, Nat.le_of_ble_eq_true rfl⟩ (hK.sub (tys' := []) [] rfl) hZ hO hS (fr_0 hS) trivial hl.1 rfl (Nat.le_of_ble_eq_true rfl) dX1_ofSeconds_5 ⟨Nat.le_of_ble_eq_true rfl, Nat.le_of_ble_eq_true rfl⟩) hS (fun q _ h => (fr_0 hS) q h) (fr_0 hS) (fun r1 _ t H1 locs1 ht hvm hw hB hz1 hk1 hS => ?_)
  have hw : fdv n = r1 := Eq.symm hw
  subst hw
  clear hvm hB
  refine va_calll (sd_S (own := RX1) (nL := 7) (n := 2) (As := [.long x, .long (fdv n)]) (rest := []) ⟨hx, hb, hml, hown, hts⟩ (met_safeAdd l D z x (fdv n) H1.size (by rw [fdv_T]; exact h)) q31 q32 q8 q33 rfl (by decide +kernel) rfl rfl ⟨Nat.le_of_ble_eq_true rfl, Nat.le_of_ble_eq_true rfl⟩ (hK.sub (tys' := []) [] rfl) hZ hO hS (fr_0 hS) trivial hl.1 rfl (Nat.le_of_ble_eq_true rfl) dX1_ofSeconds_8 ⟨Nat.le_of_ble_eq_true rfl, Nat.le_of_ble_eq_true rfl⟩) hS (fun q _ h => (fr_0 hS) q h) (fr_0 hS) (fun r2 _ t H2 locs1 ht hvm hw hB hz1 hk1 hS => ?_)
  have hw : x + fdv n = r2 := Eq.symm hw
  subst hw
  clear hvm hB
  refine lv_lstore (lv' := [(4, .long (x + fdv n)), (0, .long x), (2, .long n)]) hx hb dX1_ofSeconds_11 hl (by decide) rfl (fun ls hl => ?_)
  refine lv_lload_n hx hb dX1_ofSeconds_13 rfl (lv_at hl 2 rfl) ?_
  refine lv_ldc (v := 1000000000) hx hb hown (hts _ q100) dX1_ofSeconds_14 ?_
  refine va_calli (sd_S (own := RX1) (nL := 7) (n := 2) (As := [.long n, .int 1000000000]) (rest := []) ⟨hx, hb, hml, hown, hts⟩ (met_floorMod l D z n H2.size) q101 q102 q8 q103 rfl (by decide +kernel) rfl rfl ⟨Nat.le_of_ble_eq_true rfl, Nat.le_of_ble_eq_true rfl⟩ (hK.sub (tys' := []) [] rfl) hZ hO hS (fr_0 hS) trivial hl.1 rfl (Nat.le_of_ble_eq_true rfl) dX1_ofSeconds_16 ⟨Nat.le_of_ble_eq_true rfl, Nat.le_of_ble_eq_true rfl⟩) hS (fun q _ h => (fr_0 hS) q h) (fr_0 hS) (fun r3 _ t H3 locs1 ht hvm hw hB hz1 hk1 hS => ?_)
  have hw : fmd n = r3 := Eq.symm hw
  subst hw
  clear hvm hB
  refine lv_istore (lv' := [(6, .int (fmd n)), (4, .long (x + fdv n)), (0, .long x), (2, .long n)]) hx hb dX1_ofSeconds_19 hl (by decide) rfl (fun ls hl => ?_)
  refine lv_lload hx hb dX1_ofSeconds_21 (lv_at hl 1 rfl) ?_
  refine lv_iload hx hb dX1_ofSeconds_23 (lv_at hl 0 rfl) ?_
  refine va_callr (sd_S (own := RX1) (nL := 7) (n := 2) (As := [.long (x + fdv n), .int (fmd n)]) (rest := []) ⟨hx, hb, hml, hown, hts⟩ (met_create l D z (x + fdv n) (fmd n) H3.size) q104 q105 q7 q106 rfl (by decide +kernel) rfl rfl ⟨Nat.le_of_ble_eq_true rfl, Nat.le_of_ble_eq_true rfl⟩ (hK.sub (tys' := []) [] rfl) hZ hO hS (fr_0 hS) trivial hl.1 rfl (Nat.le_of_ble_eq_true rfl) dX1_ofSeconds_25 ⟨Nat.le_of_ble_eq_true rfl, Nat.le_of_ble_eq_true rfl⟩) hS (fun q _ h => (fr_0 hS) q h) (fr_0 hS) (fun _ a9 t H4 locs1 ht hvm hw hB hz1 hk1 hS => ?_)
  have hd : va_at D vwCl (a9, duE (x + fdv n) (fmd n)) H4 := by rw [ht] at hB; exact hB
  clear hvm hB
  refine W.widen (k := 1) (n := 2) (Nat.le_of_ble_eq_true rfl) (Nat.le_of_ble_eq_true rfl) ?_
  exact W.aret hx hb hr (Or.inl ⟨_, rfl⟩) (Or.inr ⟨_, rfl⟩) (fun t ht hW => ⟨⟨(), _, rfl, trivial, by try dsimp only; rw [ht]; exact hd⟩, hS.F ht⟩) hS.2.2 dX1_ofSeconds_28
set_option maxHeartbeats 4000000 in
theorem met_getSeconds (l : Launch) (D : va_G) (z : Nat) (h0 : Nat) (x : Int64) (n : Int32) (sz : Nat) : Met l yX1_getSeconds (ws_ yX1_getSeconds cX1_getSeconds 1 (some .long)) ({ frames := 0, cells := 0, slots := 0, locals := 0 }) (va_Pc [.ref h0] (sdPre D z [] [] sz (fun H => va_at D vwCl (h0, duE x n) H))) (va_Ql (fun (r : Int64) (_ : Unit) => r = x) (fun _ _ => True) (fr [] sz)) 0 0 (fr [] sz) := by
  refine sd_open (by decide) (Nat.le_of_ble_eq_true rfl) ?_
  intro p e s m below meth c ls hx hb hr hlocks hml hin hown hts hl hsz hK hZ hO hX
  subst hsz
  have hS : va_S (fr [] s.heap.size) s.heap s.heap [] := va_S.rf
  have hl : lv_has ls 1 [(0, .ref h0)] := hl
  have hd : va_at D vwCl (h0, duE x n) s.heap := hX
  refine lv_aload_n hx hb dX1_getSeconds_0 rfl (lv_at hl 0 rfl) ?_
  refine va_get (D := D) (ci := 0) (v := .long x) (C := RX1) (T := TX1) (N := 2) hx hb hts in_X1 hown hK (P1 hd) 0 rfl rfl 0 (by decide) (hts _ q115) (fun _ h9 => h9) rfl dX1_getSeconds_1 ?_
  exact W.lret hx hb hr (fun t ht hW => ⟨⟨_, (), rfl, rfl, trivial⟩, hS.F ht⟩) hS.2.2 dX1_getSeconds_4
set_option maxHeartbeats 4000000 in
theorem met_getNano (l : Launch) (D : va_G) (z : Nat) (h0 : Nat) (x : Int64) (n : Int32) (sz : Nat) : Met l yX1_getNano (ws_ yX1_getNano cX1_getNano 1 (some .int)) ({ frames := 0, cells := 0, slots := 0, locals := 0 }) (va_Pc [.ref h0] (sdPre D z [] [] sz (fun H => va_at D vwCl (h0, duE x n) H))) (va_Qi (fun (r : Int32) (_ : Unit) => r = n) (fun _ _ => True) (fr [] sz)) 0 0 (fr [] sz) := by
  refine sd_open (by decide) (Nat.le_of_ble_eq_true rfl) ?_
  intro p e s m below meth c ls hx hb hr hlocks hml hin hown hts hl hsz hK hZ hO hX
  subst hsz
  have hS : va_S (fr [] s.heap.size) s.heap s.heap [] := va_S.rf
  have hl : lv_has ls 1 [(0, .ref h0)] := hl
  have hd : va_at D vwCl (h0, duE x n) s.heap := hX
  refine lv_aload_n hx hb dX1_getNano_0 rfl (lv_at hl 0 rfl) ?_
  refine va_get (D := D) (ci := 0) (v := .int n) (C := RX1) (T := TX1) (N := 2) hx hb hts in_X1 hown hK (P1 hd) 0 rfl rfl 1 (by decide) (hts _ q116) (fun _ h9 => h9) rfl dX1_getNano_1 ?_
  exact W.iret hx hb hr (fun t ht hW => ⟨⟨_, (), rfl, rfl, trivial⟩, hS.F ht⟩) hS.2.2 dX1_getNano_4
set_option maxHeartbeats 4000000 in
theorem met_isZero (l : Launch) (D : va_G) (z : Nat) (h0 : Nat) (x : Int64) (n : Int32) (sz : Nat) : Met l yX1_isZero (ws_ yX1_isZero cX1_isZero 1 (some .boolean)) ({ frames := 0, cells := 0, slots := 0, locals := 0 }) (va_Pc [.ref h0] (sdPre D z [] [] sz (fun H => va_at D vwCl (h0, duE x n) H))) (va_Qi (fun (r : Int32) (_ : Unit) => r = isz x n) (fun _ _ => True) (fr [] sz)) 0 0 (fr [] sz) := by
  refine sd_open (by decide) (Nat.le_of_ble_eq_true rfl) ?_
  intro p e s m below meth c ls hx hb hr hlocks hml hin hown hts hl hsz hK hZ hO hX
  subst hsz
  have hS : va_S (fr [] s.heap.size) s.heap s.heap [] := va_S.rf
  have hl : lv_has ls 1 [(0, .ref h0)] := hl
  have hd : va_at D vwCl (h0, duE x n) s.heap := hX
  refine lv_aload_n hx hb dX1_isZero_0 rfl (lv_at hl 0 rfl) ?_
  refine va_get (D := D) (ci := 0) (v := .long x) (C := RX1) (T := TX1) (N := 2) hx hb hts in_X1 hown hK (P1 hd) 0 rfl rfl 0 (by decide) (hts _ q115) (fun _ h9 => h9) rfl dX1_isZero_1 ?_
  refine lv_aload_n hx hb dX1_isZero_4 rfl (lv_at hl 0 rfl) ?_
  refine va_get (D := D) (ci := 0) (v := .int n) (C := RX1) (T := TX1) (N := 2) hx hb hts in_X1 hown hK (P1 hd) 0 rfl rfl 1 (by decide) (hts _ q116) (fun _ h9 => h9) rfl dX1_isZero_5 ?_
  refine lv_i2l hx hb dX1_isZero_8 rfl ?_
  refine lv_lor hx hb dX1_isZero_9 ?_
  refine lv_lconst (v := 0) hx hb dX1_isZero_10 (by decide) ?_
  refine W.lcmp hx hb dX1_isZero_11 ?_
  refine lv_if_ne (tgt := 19) hx hb dX1_isZero_12 (by decide) (fun c1 => ?_) (fun c1 => ?_)
  · refine lv_iconst (v := 0) hx hb dX1_isZero_19 (by decide) ?_
    exact W.zret hx hb hr rfl (fun t ht hW => ⟨⟨_, (), rfl, isz_n c1, trivial⟩, hS.F ht⟩) hS.2.2 dX1_isZero_20
  · refine lv_iconst (v := 1) hx hb dX1_isZero_15 (by decide) ?_
    refine lv_goto (tgt := 20) hx hb dX1_isZero_16 (by decide) ?_
    exact W.zret hx hb hr rfl (fun t ht hW => ⟨⟨_, (), rfl, isz_y c1, trivial⟩, hS.F ht⟩) hS.2.2 dX1_isZero_20
set_option maxHeartbeats 4000000 in
theorem met_isNegative (l : Launch) (D : va_G) (z : Nat) (h0 : Nat) (x : Int64) (n : Int32) (sz : Nat) : Met l yX1_isNegative (ws_ yX1_isNegative cX1_isNegative 1 (some .boolean)) ({ frames := 0, cells := 0, slots := 0, locals := 0 }) (va_Pc [.ref h0] (sdPre D z [] [] sz (fun H => va_at D vwCl (h0, duE x n) H))) (va_Qi (fun (r : Int32) (_ : Unit) => r = ngv x) (fun _ _ => True) (fr [] sz)) 0 0 (fr [] sz) := by
  refine sd_open (by decide) (Nat.le_of_ble_eq_true rfl) ?_
  intro p e s m below meth c ls hx hb hr hlocks hml hin hown hts hl hsz hK hZ hO hX
  subst hsz
  have hS : va_S (fr [] s.heap.size) s.heap s.heap [] := va_S.rf
  have hl : lv_has ls 1 [(0, .ref h0)] := hl
  have hd : va_at D vwCl (h0, duE x n) s.heap := hX
  refine lv_aload_n hx hb dX1_isNegative_0 rfl (lv_at hl 0 rfl) ?_
  refine va_get (D := D) (ci := 0) (v := .long x) (C := RX1) (T := TX1) (N := 2) hx hb hts in_X1 hown hK (P1 hd) 0 rfl rfl 0 (by decide) (hts _ q115) (fun _ h9 => h9) rfl dX1_isNegative_1 ?_
  refine lv_lconst (v := 0) hx hb dX1_isNegative_4 (by decide) ?_
  refine W.lcmp hx hb dX1_isNegative_5 ?_
  refine lv_if_ge (tgt := 13) hx hb dX1_isNegative_6 (by decide) (fun c1 => ?_) (fun c1 => ?_)
  · refine lv_iconst (v := 0) hx hb dX1_isNegative_13 (by decide) ?_
    exact W.zret hx hb hr rfl (fun t ht hW => ⟨⟨_, (), rfl, ngv_n c1, trivial⟩, hS.F ht⟩) hS.2.2 dX1_isNegative_14
  · refine lv_iconst (v := 1) hx hb dX1_isNegative_9 (by decide) ?_
    refine lv_goto (tgt := 14) hx hb dX1_isNegative_10 (by decide) ?_
    exact W.zret hx hb hr rfl (fun t ht hW => ⟨⟨_, (), rfl, ngv_y c1, trivial⟩, hS.F ht⟩) hS.2.2 dX1_isNegative_14
set_option maxHeartbeats 4000000 in
theorem met_toDays (l : Launch) (D : va_G) (z : Nat) (h0 : Nat) (x : Int64) (n : Int32) (sz : Nat) : Met l yX1_toDays (ws_ yX1_toDays cX1_toDays 1 (some .long)) ({ frames := 0, cells := 0, slots := 0, locals := 0 }) (va_Pc [.ref h0] (sdPre D z [] [] sz (fun H => va_at D vwCl (h0, duE x n) H))) (va_Ql (fun (r : Int64) (_ : Unit) => r = x / 86400) (fun _ _ => True) (fr [] sz)) 0 0 (fr [] sz) := by
  refine sd_open (by decide) (Nat.le_of_ble_eq_true rfl) ?_
  intro p e s m below meth c ls hx hb hr hlocks hml hin hown hts hl hsz hK hZ hO hX
  subst hsz
  have hS : va_S (fr [] s.heap.size) s.heap s.heap [] := va_S.rf
  have hl : lv_has ls 1 [(0, .ref h0)] := hl
  have hd : va_at D vwCl (h0, duE x n) s.heap := hX
  refine lv_aload_n hx hb dX1_toDays_0 rfl (lv_at hl 0 rfl) ?_
  refine va_get (D := D) (ci := 0) (v := .long x) (C := RX1) (T := TX1) (N := 2) hx hb hts in_X1 hown hK (P1 hd) 0 rfl rfl 0 (by decide) (hts _ q115) (fun _ h9 => h9) rfl dX1_toDays_1 ?_
  refine lv_ldc2 (v := 86400) hx hb hown (hts _ q242) dX1_toDays_4 ?_
  refine lv_ldiv hx hb dX1_toDays_7 (by decide) ?_
  exact W.lret hx hb hr (fun t ht hW => ⟨⟨_, (), rfl, rfl, trivial⟩, hS.F ht⟩) hS.2.2 dX1_toDays_8
set_option maxHeartbeats 4000000 in
theorem met_toMinutes (l : Launch) (D : va_G) (z : Nat) (h0 : Nat) (x : Int64) (n : Int32) (sz : Nat) : Met l yX1_toMinutes (ws_ yX1_toMinutes cX1_toMinutes 1 (some .long)) ({ frames := 0, cells := 0, slots := 0, locals := 0 }) (va_Pc [.ref h0] (sdPre D z [] [] sz (fun H => va_at D vwCl (h0, duE x n) H))) (va_Ql (fun (r : Int64) (_ : Unit) => r = x / 60) (fun _ _ => True) (fr [] sz)) 0 0 (fr [] sz) := by
  refine sd_open (by decide) (Nat.le_of_ble_eq_true rfl) ?_
  intro p e s m below meth c ls hx hb hr hlocks hml hin hown hts hl hsz hK hZ hO hX
  subst hsz
  have hS : va_S (fr [] s.heap.size) s.heap s.heap [] := va_S.rf
  have hl : lv_has ls 1 [(0, .ref h0)] := hl
  have hd : va_at D vwCl (h0, duE x n) s.heap := hX
  refine lv_aload_n hx hb dX1_toMinutes_0 rfl (lv_at hl 0 rfl) ?_
  refine va_get (D := D) (ci := 0) (v := .long x) (C := RX1) (T := TX1) (N := 2) hx hb hts in_X1 hown hK (P1 hd) 0 rfl rfl 0 (by decide) (hts _ q115) (fun _ h9 => h9) rfl dX1_toMinutes_1 ?_
  refine lv_ldc2 (v := 60) hx hb hown (hts _ q251) dX1_toMinutes_4 ?_
  refine lv_ldiv hx hb dX1_toMinutes_7 (by decide) ?_
  exact W.lret hx hb hr (fun t ht hW => ⟨⟨_, (), rfl, rfl, trivial⟩, hS.F ht⟩) hS.2.2 dX1_toMinutes_8
set_option maxHeartbeats 4000000 in
theorem met_plus_2 (l : Launch) (D : va_G) (z : Nat) (h0 : Nat) (x : Int64) (n : Int32) (a b : Int64) (sz : Nat) (h : okP x n a b) : Met l yX1_plus_2 (ws_ yX1_plus_2 cX1_plus_2 9 (some (.object "Duration"))) ({ frames := 4, cells := 1, slots := 2, locals := 90 }) (va_Pc [.ref h0, .long a, .long b] (sdPre D z [] [] sz (fun H => va_at D vwCl (h0, duE x n) H))) (va_Qr (fun (_ : Unit) => True) (fun _ ra t => va_at D vwCl (ra, duE (nx x n a b) (ny n b)) t.heap) (fr [] sz)) 1 2 (fr [] sz) := by
  refine sd_open (by decide) (Nat.le_of_ble_eq_true rfl) ?_
  intro p e s m below meth c ls hx hb hr hlocks hml hin hown hts hl hsz hK hZ hO hX
  subst hsz
  have hS : va_S (fr [] s.heap.size) s.heap s.heap [] := va_S.rf
  have hl : lv_has ls 9 [(0, .ref h0), (1, .long a), (3, .long b)] := hl
  have hd : va_at D vwCl (h0, duE x n) s.heap := hX
  refine lv_lload_n hx hb dX1_plus_2_0 rfl (lv_at hl 1 rfl) ?_
  refine lv_lload_n hx hb dX1_plus_2_1 rfl (lv_at hl 2 rfl) ?_
  refine lv_lor hx hb dX1_plus_2_2 ?_
  refine lv_lconst (v := 0) hx hb dX1_plus_2_3 (by decide) ?_
  refine W.lcmp hx hb dX1_plus_2_4 ?_
  refine lv_if_ne (tgt := 10) hx hb dX1_plus_2_5 (by decide) (fun c1 => ?_) (fun c1 => ?_)
  · refine lv_aload_n hx hb dX1_plus_2_10 rfl (lv_at hl 0 rfl) ?_
    refine va_get (D := D) (ci := 0) (v := .long x) (C := RX1) (T := TX1) (N := 2) hx hb hts in_X1 hown hK (P1 hd) 0 rfl rfl 0 (by decide) (hts _ q115) (fun _ h9 => h9) rfl dX1_plus_2_11 ?_
    refine lv_lload_n hx hb dX1_plus_2_14 rfl (lv_at hl 1 rfl) ?_
    refine va_calll (sd_S (own := RX1) (nL := 9) (n := 2) (As := [.long x, .long a]) (rest := []) ⟨hx, hb, hml, hown, hts⟩ (met_safeAdd l D z x a s.heap.size h.2.2.1) q31 q32 q8 q33 rfl (by decide +kernel) rfl rfl ⟨Nat.le_of_ble_eq_true rfl, Nat.le_of_ble_eq_true rfl⟩ (hK.sub (tys' := []) [] rfl) hZ hO hS (fr_0 hS) trivial hl.1 rfl (Nat.le_of_ble_eq_true rfl) dX1_plus_2_15 ⟨Nat.le_of_ble_eq_true rfl, Nat.le_of_ble_eq_true rfl⟩) hS (fun q _ h => (fr_0 hS) q h) (fr_0 hS) (fun r5 _ t H1 locs1 ht hvm hw hB hz1 hk1 hS => ?_)
    have hd := hd.stay0 hk1
    have hw : x + a = r5 := Eq.symm hw
    subst hw
    clear hvm hB
    refine lv_lstore (lv' := [(5, .long (x + a)), (0, .ref h0), (1, .long a), (3, .long b)]) hx hb dX1_plus_2_18 hl (by decide) rfl (fun ls hl => ?_)
    refine lv_lload hx hb dX1_plus_2_20 (lv_at hl 0 rfl) ?_
    refine lv_lload_n hx hb dX1_plus_2_22 rfl (lv_at hl 3 rfl) ?_
    refine lv_ldc2 (v := 1000000000) hx hb hown (hts _ q27) dX1_plus_2_23 ?_
    refine lv_ldiv hx hb dX1_plus_2_26 (by decide) ?_
    refine va_calll (sd_S (own := RX1) (nL := 9) (n := 2) (As := [.long (x + a), .long (b / 1000000000)]) (rest := []) ⟨hx, hb, hml, hown, hts⟩ (met_safeAdd l D z (x + a) (b / 1000000000) H1.size (okP_2 h)) q31 q32 q8 q33 rfl (by decide +kernel) rfl rfl ⟨Nat.le_of_ble_eq_true rfl, Nat.le_of_ble_eq_true rfl⟩ (hK.sub (tys' := []) [] rfl) hZ hO hS (fr_0 hS) trivial hl.1 rfl (Nat.le_of_ble_eq_true rfl) dX1_plus_2_27 ⟨Nat.le_of_ble_eq_true rfl, Nat.le_of_ble_eq_true rfl⟩) hS (fun q _ h => (fr_0 hS) q h) (fr_0 hS) (fun r6 _ t H2 locs1 ht hvm hw hB hz1 hk1 hS => ?_)
    have hd := hd.stay0 hk1
    have hw : x + a + b / 1000000000 = r6 := Eq.symm hw
    subst hw
    clear hvm hB
    refine lv_lstore (lv' := [(5, .long (x + a + b / 1000000000)), (0, .ref h0), (1, .long a), (3, .long b)]) hx hb dX1_plus_2_30 hl (by decide) rfl (fun ls hl => ?_)
    refine lv_lload_n hx hb dX1_plus_2_32 rfl (lv_at hl 3 rfl) ?_
    refine lv_ldc2 (v := 1000000000) hx hb hown (hts _ q27) dX1_plus_2_33 ?_
    refine lv_lrem hx hb dX1_plus_2_36 (by decide) ?_
    refine lv_lstore_n (lv' := [(3, .long (b - b / 1000000000 * 1000000000)), (5, .long (x + a + b / 1000000000)), (0, .ref h0), (1, .long a)]) hx hb dX1_plus_2_37 rfl hl (by decide) rfl (fun ls hl => ?_)
    refine lv_aload_n hx hb dX1_plus_2_38 rfl (lv_at hl 2 rfl) ?_
    refine va_get (D := D) (ci := 0) (v := .int n) (C := RX1) (T := TX1) (N := 2) hx hb hts in_X1 hown hK (P1 hd) 0 rfl rfl 1 (by decide) (hts _ q116) (fun _ h9 => h9) rfl dX1_plus_2_39 ?_
    refine lv_i2l hx hb dX1_plus_2_42 rfl ?_
    refine lv_lload_n hx hb dX1_plus_2_43 rfl (lv_at hl 0 rfl) ?_
    refine lv_ladd hx hb dX1_plus_2_44 ?_
    refine lv_lstore (lv' := [(7, .long (n.toInt64 + (b - b / 1000000000 * 1000000000))), (3, .long (b - b / 1000000000 * 1000000000)), (5, .long (x + a + b / 1000000000)), (0, .ref h0), (1, .long a)]) hx hb dX1_plus_2_45 hl (by decide) rfl (fun ls hl => ?_)
    refine lv_lload hx hb dX1_plus_2_47 (lv_at hl 2 rfl) ?_
    refine lv_lload hx hb dX1_plus_2_49 (lv_at hl 0 rfl) ?_
    refine va_callr (sd_S (own := RX1) (nL := 9) (n := 2) (As := [.long (x + a + b / 1000000000), .long (n.toInt64 + (b - b / 1000000000 * 1000000000))]) (rest := []) ⟨hx, hb, hml, hown, hts⟩ (met_ofSeconds l D z (x + a + b / 1000000000) (n.toInt64 + (b - b / 1000000000 * 1000000000)) H2.size (okP_3 h)) q161 q25 q7 q26 rfl (by decide +kernel) rfl rfl ⟨Nat.le_of_ble_eq_true rfl, Nat.le_of_ble_eq_true rfl⟩ (hK.sub (tys' := []) [] rfl) hZ hO hS (fr_0 hS) trivial hl.1 rfl (Nat.le_of_ble_eq_true rfl) dX1_plus_2_51 ⟨Nat.le_of_ble_eq_true rfl, Nat.le_of_ble_eq_true rfl⟩) hS (fun q _ h => (fr_0 hS) q h) (fr_0 hS) (fun _ a9 t H3 locs1 ht hvm hw hB hz1 hk1 hS => ?_)
    have hd : va_at D vwCl (a9, duE (nx x n a b) (ny n b)) H3 := by rw [ht, okP_x h, okP_y h] at hB; exact hB
    clear hvm hB
    refine W.widen (k := 1) (n := 2) (Nat.le_of_ble_eq_true rfl) (Nat.le_of_ble_eq_true rfl) ?_
    exact W.aret hx hb hr (Or.inl ⟨_, rfl⟩) (Or.inr ⟨_, rfl⟩) (fun t ht hW => ⟨⟨(), _, rfl, trivial, by try dsimp only; rw [ht]; exact hd⟩, hS.F ht⟩) hS.2.2 dX1_plus_2_54
  · have e9 := okP_0 h ((lg_cmp_eq _ _).mp c1)
    refine lv_aload_n hx hb dX1_plus_2_8 rfl (lv_at hl 0 rfl) ?_
    refine W.widen (k := 1) (n := 2) (Nat.le_of_ble_eq_true rfl) (Nat.le_of_ble_eq_true rfl) ?_
    exact W.aret hx hb hr (Or.inl ⟨_, rfl⟩) (Or.inr ⟨_, rfl⟩) (fun t ht hW => ⟨⟨(), _, rfl, trivial, by try dsimp only; rw [ht, e9.1, e9.2]; exact hd⟩, hS.F ht⟩) hS.2.2 dX1_plus_2_9
set_option maxHeartbeats 4000000 in
theorem met_plus (l : Launch) (D : va_G) (z : Nat) (h0 h1 : Nat) (x : Int64) (n : Int32) (x2 : Int64) (n2 : Int32) (sz : Nat) (h : okP x n x2 n2.toInt64) : Met l yX1_plus (ws_ yX1_plus cX1_plus 2 (some (.object "Duration"))) ({ frames := 5, cells := 1, slots := 2, locals := 118 }) (va_Pc [.ref h0, .ref h1] (sdPre D z [] [] sz (fun H => va_at D vwCl (h0, duE x n) H ∧ va_at D vwCl (h1, duE x2 n2) H))) (va_Qr (fun (_ : Unit) => True) (fun _ ra t => va_at D vwCl (ra, duE (nx x n x2 n2.toInt64) (ny n n2.toInt64)) t.heap) (fr [] sz)) 1 2 (fr [] sz) := by
  refine sd_open (by decide) (Nat.le_of_ble_eq_true rfl) ?_
  intro p e s m below meth c ls hx hb hr hlocks hml hin hown hts hl hsz hK hZ hO hX
  subst hsz
  have hS : va_S (fr [] s.heap.size) s.heap s.heap [] := va_S.rf
  have hl : lv_has ls 2 [(0, .ref h0), (1, .ref h1)] := hl
  obtain ⟨hd, hd2⟩ : va_at D vwCl (h0, duE x n) s.heap ∧ va_at D vwCl (h1, duE x2 n2) s.heap := hX
  refine lv_aload_n hx hb dX1_plus_0 rfl (lv_at hl 0 rfl) ?_
  refine lv_aload_n hx hb dX1_plus_1 rfl (lv_at hl 1 rfl) ?_
  refine va_calll (sd_V (own := RX1) (nL := 2) (n := 0) (As := []) (rest := [.ref h0]) ⟨hx, hb, hml, hown, hts⟩ (met_getSeconds l D z h1 x2 n2 s.heap.size) q152 q143 q144 q7 q145 rfl (by decide +kernel) rfl rfl ⟨Nat.le_of_ble_eq_true rfl, Nat.le_of_ble_eq_true rfl⟩ (du_recv hK hd2) (hK.sub (tys' := []) [] rfl) hZ hO hS (fr_0 hS) hd2 hl.1 rfl (Nat.le_of_ble_eq_true rfl) dX1_plus_2 ⟨Nat.le_of_ble_eq_true rfl, Nat.le_of_ble_eq_true rfl⟩) hS (fun q _ h => (fr_0 hS) q h) (fr_0 hS) (fun r8 _ t H1 locs1 ht hvm hw hB hz1 hk1 hS => ?_)
  have hd := hd.stay0 hk1
  have hd2 := hd2.stay0 hk1
  have hw : x2 = r8 := Eq.symm hw
  subst hw
  clear hvm hB
  refine lv_aload_n hx hb dX1_plus_5 rfl (lv_at hl 1 rfl) ?_
  refine va_calli (sd_V (own := RX1) (nL := 2) (n := 0) (As := []) (rest := [.long x2, .ref h0]) ⟨hx, hb, hml, hown, hts⟩ (met_getNano l D z h1 x2 n2 H1.size) q153 q154 q155 q7 q156 rfl (by decide +kernel) rfl rfl ⟨Nat.le_of_ble_eq_true rfl, Nat.le_of_ble_eq_true rfl⟩ (du_recv hK hd2) (hK.sub (tys' := []) [] rfl) hZ hO hS (fr_0 hS) hd2 hl.1 rfl (Nat.le_of_ble_eq_true rfl) dX1_plus_6 ⟨Nat.le_of_ble_eq_true rfl, Nat.le_of_ble_eq_true rfl⟩) hS (fun q _ h => (fr_0 hS) q h) (fr_0 hS) (fun r9 _ t H2 locs1 ht hvm hw hB hz1 hk1 hS => ?_)
  have hd := hd.stay0 hk1
  have hd2 := hd2.stay0 hk1
  have hw : n2 = r9 := Eq.symm hw
  subst hw
  clear hvm hB
  refine lv_i2l hx hb dX1_plus_9 rfl ?_
  refine va_callr (sd_V (own := RX1) (nL := 2) (n := 2) (As := [.long x2, .long n2.toInt64]) (rest := []) ⟨hx, hb, hml, hown, hts⟩ (met_plus_2 l D z h0 x n x2 n2.toInt64 H2.size h) q157 q159 qs2 q7 q160 rfl (by decide +kernel) rfl rfl ⟨Nat.le_of_ble_eq_true rfl, Nat.le_of_ble_eq_true rfl⟩ (du_recv hK hd) (hK.sub (tys' := []) [] rfl) hZ hO hS (fr_0 hS) hd hl.1 rfl (Nat.le_of_ble_eq_true rfl) dX1_plus_10 ⟨Nat.le_of_ble_eq_true rfl, Nat.le_of_ble_eq_true rfl⟩) hS (fun q _ h => (fr_0 hS) q h) (fr_0 hS) (fun _ a9 t H3 locs1 ht hvm hw hB hz1 hk1 hS => ?_)
  have hd : va_at D vwCl (a9, duE (nx x n x2 n2.toInt64) (ny n n2.toInt64)) H3 := by rw [ht] at hB; exact hB
  clear hvm hB
  refine W.widen (k := 1) (n := 2) (Nat.le_of_ble_eq_true rfl) (Nat.le_of_ble_eq_true rfl) ?_
  exact W.aret hx hb hr (Or.inl ⟨_, rfl⟩) (Or.inr ⟨_, rfl⟩) (fun t ht hW => ⟨⟨(), _, rfl, trivial, by try dsimp only; rw [ht]; exact hd⟩, hS.F ht⟩) hS.2.2 dX1_plus_13
set_option maxHeartbeats 4000000 in
theorem met_minus (l : Launch) (D : va_G) (z : Nat) (h0 h1 : Nat) (x : Int64) (n : Int32) (x2 : Int64) (n2 : Int32) (sz : Nat) (h : okP x n (-x2) (-n2.toInt64)) (hn2 : 0 ≤ n2.toInt) (hx2 : ¬ x2 = -9223372036854775808) : Met l yX1_minus (ws_ yX1_minus cX1_minus 5 (some (.object "Duration"))) ({ frames := 5, cells := 1, slots := 2, locals := 118 }) (va_Pc [.ref h0, .ref h1] (sdPre D z [] [] sz (fun H => va_at D vwCl (h0, duE x n) H ∧ va_at D vwCl (h1, duE x2 n2) H))) (va_Qr (fun (_ : Unit) => True) (fun _ ra t => va_at D vwCl (ra, duE (nx x n (-x2) (-n2.toInt64)) (ny n (-n2.toInt64))) t.heap) (fr [] sz)) 1 2 (fr [] sz) := by
  refine sd_open (by decide) (Nat.le_of_ble_eq_true rfl) ?_
  intro p e s m below meth c ls hx hb hr hlocks hml hin hown hts hl hsz hK hZ hO hX
  subst hsz
  have hS : va_S (fr [] s.heap.size) s.heap s.heap [] := va_S.rf
  have hl : lv_has ls 5 [(0, .ref h0), (1, .ref h1)] := hl
  obtain ⟨hd, hd2⟩ : va_at D vwCl (h0, duE x n) s.heap ∧ va_at D vwCl (h1, duE x2 n2) s.heap := hX
  refine lv_aload_n hx hb dX1_minus_0 rfl (lv_at hl 1 rfl) ?_
  refine va_calll (sd_V (own := RX1) (nL := 5) (n := 0) (As := []) (rest := []) ⟨hx, hb, hml, hown, hts⟩ (met_getSeconds l D z h1 x2 n2 s.heap.size) q152 q143 q144 q7 q145 rfl (by decide +kernel) rfl rfl ⟨Nat.le_of_ble_eq_true rfl, Nat.le_of_ble_eq_true rfl⟩ (du_recv hK hd2) (hK.sub (tys' := []) [] rfl) hZ hO hS (fr_0 hS) hd2 hl.1 rfl (Nat.le_of_ble_eq_true rfl) dX1_minus_1 ⟨Nat.le_of_ble_eq_true rfl, Nat.le_of_ble_eq_true rfl⟩) hS (fun q _ h => (fr_0 hS) q h) (fr_0 hS) (fun r11 _ t H1 locs1 ht hvm hw hB hz1 hk1 hS => ?_)
  have hd := hd.stay0 hk1
  have hd2 := hd2.stay0 hk1
  have hw : x2 = r11 := Eq.symm hw
  subst hw
  clear hvm hB
  refine lv_lstore_n (lv' := [(2, .long x2), (0, .ref h0), (1, .ref h1)]) hx hb dX1_minus_4 rfl hl (by decide) rfl (fun ls hl => ?_)
  refine lv_aload_n hx hb dX1_minus_5 rfl (lv_at hl 2 rfl) ?_
  refine va_calli (sd_V (own := RX1) (nL := 5) (n := 0) (As := []) (rest := []) ⟨hx, hb, hml, hown, hts⟩ (met_getNano l D z h1 x2 n2 H1.size) q153 q154 q155 q7 q156 rfl (by decide +kernel) rfl rfl ⟨Nat.le_of_ble_eq_true rfl, Nat.le_of_ble_eq_true rfl⟩ (du_recv hK hd2) (hK.sub (tys' := []) [] rfl) hZ hO hS (fr_0 hS) hd2 hl.1 rfl (Nat.le_of_ble_eq_true rfl) dX1_minus_6 ⟨Nat.le_of_ble_eq_true rfl, Nat.le_of_ble_eq_true rfl⟩) hS (fun q _ h => (fr_0 hS) q h) (fr_0 hS) (fun r12 _ t H2 locs1 ht hvm hw hB hz1 hk1 hS => ?_)
  have hd := hd.stay0 hk1
  have hd2 := hd2.stay0 hk1
  have hw : n2 = r12 := Eq.symm hw
  subst hw
  clear hvm hB
  refine lv_istore (lv' := [(4, .int n2), (2, .long x2), (0, .ref h0), (1, .ref h1)]) hx hb dX1_minus_9 hl (by decide) rfl (fun ls hl => ?_)
  refine lv_lload_n hx hb dX1_minus_11 rfl (lv_at hl 1 rfl) ?_
  refine lv_ldc2 (v := (-9223372036854775808)) hx hb hown (hts _ q170) dX1_minus_12 ?_
  refine W.lcmp hx hb dX1_minus_15 ?_
  refine lv_if_ne (tgt := 36) hx hb dX1_minus_16 (by decide) (fun c1 => ?_) (fun c1 => ?_)
  · refine lv_aload_n hx hb dX1_minus_36 rfl (lv_at hl 2 rfl) ?_
    refine lv_lload_n hx hb dX1_minus_37 rfl (lv_at hl 1 rfl) ?_
    refine lv_lneg hx hb dX1_minus_38 ?_
    refine lv_iload hx hb dX1_minus_39 (lv_at hl 0 rfl) ?_
    refine lv_ineg hx hb dX1_minus_41 ?_
    refine lv_i2l hx hb dX1_minus_42 rfl ?_
    rw [neg_i2l hn2]
    refine va_callr (sd_V (own := RX1) (nL := 5) (n := 2) (As := [.long (-x2), .long (-n2.toInt64)]) (rest := []) ⟨hx, hb, hml, hown, hts⟩ (met_plus_2 l D z h0 x n (-x2) (-n2.toInt64) H2.size h) q157 q159 qs2 q7 q160 rfl (by decide +kernel) rfl rfl ⟨Nat.le_of_ble_eq_true rfl, Nat.le_of_ble_eq_true rfl⟩ (du_recv hK hd) (hK.sub (tys' := []) [] rfl) hZ hO hS (fr_0 hS) hd hl.1 rfl (Nat.le_of_ble_eq_true rfl) dX1_minus_43 ⟨Nat.le_of_ble_eq_true rfl, Nat.le_of_ble_eq_true rfl⟩) hS (fun q _ h => (fr_0 hS) q h) (fr_0 hS) (fun _ a9 t H3 locs1 ht hvm hw hB hz1 hk1 hS => ?_)
    have hd : va_at D vwCl (a9, duE (nx x n (-x2) (-n2.toInt64)) (ny n (-n2.toInt64))) H3 := by rw [ht] at hB; exact hB
    clear hvm hB
    refine W.widen (k := 1) (n := 2) (Nat.le_of_ble_eq_true rfl) (Nat.le_of_ble_eq_true rfl) ?_
    exact W.aret hx hb hr (Or.inl ⟨_, rfl⟩) (Or.inr ⟨_, rfl⟩) (fun t ht hW => ⟨⟨(), _, rfl, trivial, by try dsimp only; rw [ht]; exact hd⟩, hS.F ht⟩) hS.2.2 dX1_minus_46
  · exact absurd ((lg_cmp_eq _ _).mp c1) hx2
set_option maxHeartbeats 4000000 in
theorem met_plusSeconds (l : Launch) (D : va_G) (z : Nat) (h0 : Nat) (x : Int64) (n : Int32) (k : Int64) (sz : Nat) (h : okP x n k 0) : Met l yX1_plusSeconds (ws_ yX1_plusSeconds cX1_plusSeconds 3 (some (.object "Duration"))) ({ frames := 5, cells := 1, slots := 2, locals := 118 }) (va_Pc [.ref h0, .long k] (sdPre D z [] [] sz (fun H => va_at D vwCl (h0, duE x n) H))) (va_Qr (fun (_ : Unit) => True) (fun _ ra t => va_at D vwCl (ra, duE (nx x n k 0) (ny n 0)) t.heap) (fr [] sz)) 1 2 (fr [] sz) := by
  refine sd_open (by decide) (Nat.le_of_ble_eq_true rfl) ?_
  intro p e s m below meth c ls hx hb hr hlocks hml hin hown hts hl hsz hK hZ hO hX
  subst hsz
  have hS : va_S (fr [] s.heap.size) s.heap s.heap [] := va_S.rf
  have hl : lv_has ls 3 [(0, .ref h0), (1, .long k)] := hl
  have hd : va_at D vwCl (h0, duE x n) s.heap := hX
  refine lv_aload_n hx hb dX1_plusSeconds_0 rfl (lv_at hl 0 rfl) ?_
  refine lv_lload_n hx hb dX1_plusSeconds_1 rfl (lv_at hl 1 rfl) ?_
  refine lv_lconst (v := 0) hx hb dX1_plusSeconds_2 (by decide) ?_
  refine va_callr (sd_V (own := RX1) (nL := 3) (n := 2) (As := [.long k, .long 0]) (rest := []) ⟨hx, hb, hml, hown, hts⟩ (met_plus_2 l D z h0 x n k 0 s.heap.size h) q157 q159 qs2 q7 q160 rfl (by decide +kernel) rfl rfl ⟨Nat.le_of_ble_eq_true rfl, Nat.le_of_ble_eq_true rfl⟩ (du_recv hK hd) (hK.sub (tys' := []) [] rfl) hZ hO hS (fr_0 hS) hd hl.1 rfl (Nat.le_of_ble_eq_true rfl) dX1_plusSeconds_3 ⟨Nat.le_of_ble_eq_true rfl, Nat.le_of_ble_eq_true rfl⟩) hS (fun q _ h => (fr_0 hS) q h) (fr_0 hS) (fun _ a9 t H1 locs1 ht hvm hw hB hz1 hk1 hS => ?_)
  have hd : va_at D vwCl (a9, duE (nx x n k 0) (ny n 0)) H1 := by rw [ht] at hB; exact hB
  clear hvm hB
  refine W.widen (k := 1) (n := 2) (Nat.le_of_ble_eq_true rfl) (Nat.le_of_ble_eq_true rfl) ?_
  exact W.aret hx hb hr (Or.inl ⟨_, rfl⟩) (Or.inr ⟨_, rfl⟩) (fun t ht hW => ⟨⟨(), _, rfl, trivial, by try dsimp only; rw [ht]; exact hd⟩, hS.F ht⟩) hS.2.2 dX1_plusSeconds_6
set_option maxHeartbeats 4000000 in
theorem met_plusMillis (l : Launch) (D : va_G) (z : Nat) (h0 : Nat) (x : Int64) (n : Int32) (k : Int64) (sz : Nat) (h : okP x n (k / 1000) ((k - k / 1000 * 1000) * 1000000)) : Met l yX1_plusMillis (ws_ yX1_plusMillis cX1_plusMillis 3 (some (.object "Duration"))) ({ frames := 5, cells := 1, slots := 2, locals := 118 }) (va_Pc [.ref h0, .long k] (sdPre D z [] [] sz (fun H => va_at D vwCl (h0, duE x n) H))) (va_Qr (fun (_ : Unit) => True) (fun _ ra t => va_at D vwCl (ra, duE (nx x n (k / 1000) ((k - k / 1000 * 1000) * 1000000)) (ny n ((k - k / 1000 * 1000) * 1000000))) t.heap) (fr [] sz)) 1 2 (fr [] sz) := by
  refine sd_open (by decide) (Nat.le_of_ble_eq_true rfl) ?_
  intro p e s m below meth c ls hx hb hr hlocks hml hin hown hts hl hsz hK hZ hO hX
  subst hsz
  have hS : va_S (fr [] s.heap.size) s.heap s.heap [] := va_S.rf
  have hl : lv_has ls 3 [(0, .ref h0), (1, .long k)] := hl
  have hd : va_at D vwCl (h0, duE x n) s.heap := hX
  refine lv_aload_n hx hb dX1_plusMillis_0 rfl (lv_at hl 0 rfl) ?_
  refine lv_lload_n hx hb dX1_plusMillis_1 rfl (lv_at hl 1 rfl) ?_
  refine lv_ldc2 (v := 1000) hx hb hown (hts _ q188) dX1_plusMillis_2 ?_
  refine lv_ldiv hx hb dX1_plusMillis_5 (by decide) ?_
  refine lv_lload_n hx hb dX1_plusMillis_6 rfl (lv_at hl 1 rfl) ?_
  refine lv_ldc2 (v := 1000) hx hb hown (hts _ q188) dX1_plusMillis_7 ?_
  refine lv_lrem hx hb dX1_plusMillis_10 (by decide) ?_
  refine lv_ldc2 (v := 1000000) hx hb hown (hts _ q189) dX1_plusMillis_11 ?_
  refine lv_lmul hx hb dX1_plusMillis_14 ?_
  refine va_callr (sd_V (own := RX1) (nL := 3) (n := 2) (As := [.long (k / 1000), .long ((k - k / 1000 * 1000) * 1000000)]) (rest := []) ⟨hx, hb, hml, hown, hts⟩ (met_plus_2 l D z h0 x n (k / 1000) ((k - k / 1000 * 1000) * 1000000) s.heap.size h) q157 q159 qs2 q7 q160 rfl (by decide +kernel) rfl rfl ⟨Nat.le_of_ble_eq_true rfl, Nat.le_of_ble_eq_true rfl⟩ (du_recv hK hd) (hK.sub (tys' := []) [] rfl) hZ hO hS (fr_0 hS) hd hl.1 rfl (Nat.le_of_ble_eq_true rfl) dX1_plusMillis_15 ⟨Nat.le_of_ble_eq_true rfl, Nat.le_of_ble_eq_true rfl⟩) hS (fun q _ h => (fr_0 hS) q h) (fr_0 hS) (fun _ a9 t H1 locs1 ht hvm hw hB hz1 hk1 hS => ?_)
  have hd : va_at D vwCl (a9, duE (nx x n (k / 1000) ((k - k / 1000 * 1000) * 1000000)) (ny n ((k - k / 1000 * 1000) * 1000000))) H1 := by rw [ht] at hB; exact hB
  clear hvm hB
  refine W.widen (k := 1) (n := 2) (Nat.le_of_ble_eq_true rfl) (Nat.le_of_ble_eq_true rfl) ?_
  exact W.aret hx hb hr (Or.inl ⟨_, rfl⟩) (Or.inr ⟨_, rfl⟩) (fun t ht hW => ⟨⟨(), _, rfl, trivial, by try dsimp only; rw [ht]; exact hd⟩, hS.F ht⟩) hS.2.2 dX1_plusMillis_18
set_option maxHeartbeats 4000000 in
theorem met_plusNanos (l : Launch) (D : va_G) (z : Nat) (h0 : Nat) (x : Int64) (n : Int32) (k : Int64) (sz : Nat) (h : okP x n 0 k) : Met l yX1_plusNanos (ws_ yX1_plusNanos cX1_plusNanos 3 (some (.object "Duration"))) ({ frames := 5, cells := 1, slots := 2, locals := 118 }) (va_Pc [.ref h0, .long k] (sdPre D z [] [] sz (fun H => va_at D vwCl (h0, duE x n) H))) (va_Qr (fun (_ : Unit) => True) (fun _ ra t => va_at D vwCl (ra, duE (nx x n 0 k) (ny n k)) t.heap) (fr [] sz)) 1 2 (fr [] sz) := by
  refine sd_open (by decide) (Nat.le_of_ble_eq_true rfl) ?_
  intro p e s m below meth c ls hx hb hr hlocks hml hin hown hts hl hsz hK hZ hO hX
  subst hsz
  have hS : va_S (fr [] s.heap.size) s.heap s.heap [] := va_S.rf
  have hl : lv_has ls 3 [(0, .ref h0), (1, .long k)] := hl
  have hd : va_at D vwCl (h0, duE x n) s.heap := hX
  refine lv_aload_n hx hb dX1_plusNanos_0 rfl (lv_at hl 0 rfl) ?_
  refine lv_lconst (v := 0) hx hb dX1_plusNanos_1 (by decide) ?_
  refine lv_lload_n hx hb dX1_plusNanos_2 rfl (lv_at hl 1 rfl) ?_
  refine va_callr (sd_V (own := RX1) (nL := 3) (n := 2) (As := [.long 0, .long k]) (rest := []) ⟨hx, hb, hml, hown, hts⟩ (met_plus_2 l D z h0 x n 0 k s.heap.size h) q157 q159 qs2 q7 q160 rfl (by decide +kernel) rfl rfl ⟨Nat.le_of_ble_eq_true rfl, Nat.le_of_ble_eq_true rfl⟩ (du_recv hK hd) (hK.sub (tys' := []) [] rfl) hZ hO hS (fr_0 hS) hd hl.1 rfl (Nat.le_of_ble_eq_true rfl) dX1_plusNanos_3 ⟨Nat.le_of_ble_eq_true rfl, Nat.le_of_ble_eq_true rfl⟩) hS (fun q _ h => (fr_0 hS) q h) (fr_0 hS) (fun _ a9 t H1 locs1 ht hvm hw hB hz1 hk1 hS => ?_)
  have hd : va_at D vwCl (a9, duE (nx x n 0 k) (ny n k)) H1 := by rw [ht] at hB; exact hB
  clear hvm hB
  refine W.widen (k := 1) (n := 2) (Nat.le_of_ble_eq_true rfl) (Nat.le_of_ble_eq_true rfl) ?_
  exact W.aret hx hb hr (Or.inl ⟨_, rfl⟩) (Or.inr ⟨_, rfl⟩) (fun t ht hW => ⟨⟨(), _, rfl, trivial, by try dsimp only; rw [ht]; exact hd⟩, hS.F ht⟩) hS.2.2 dX1_plusNanos_6
set_option maxHeartbeats 4000000 in
theorem met_compareTo (l : Launch) (D : va_G) (z : Nat) (h0 h1 : Nat) (x : Int64) (n : Int32) (x2 : Int64) (n2 : Int32) (sz : Nat) : Met l yX1_compareTo (ws_ yX1_compareTo cX1_compareTo 3 (some .int)) ({ frames := 1, cells := 0, slots := 0, locals := 23 }) (va_Pc [.ref h0, .ref h1] (sdPre D z [] [] sz (fun H => va_at D vwCl (h0, duE x n) H ∧ va_at D vwCl (h1, duE x2 n2) H))) (va_Qi (fun (r : Int32) (_ : Unit) => r = cmpv x n x2 n2) (fun _ _ => True) (fr [] sz)) 0 0 (fr [] sz) := by
  refine sd_open (by decide) (Nat.le_of_ble_eq_true rfl) ?_
  intro p e s m below meth c ls hx hb hr hlocks hml hin hown hts hl hsz hK hZ hO hX
  subst hsz
  have hS : va_S (fr [] s.heap.size) s.heap s.heap [] := va_S.rf
  have hl : lv_has ls 3 [(0, .ref h0), (1, .ref h1)] := hl
  obtain ⟨hd, hd2⟩ : va_at D vwCl (h0, duE x n) s.heap ∧ va_at D vwCl (h1, duE x2 n2) s.heap := hX
  refine lv_aload_n hx hb dX1_compareTo_0 rfl (lv_at hl 0 rfl) ?_
  refine va_get (D := D) (ci := 0) (v := .long x) (C := RX1) (T := TX1) (N := 2) hx hb hts in_X1 hown hK (P1 hd) 0 rfl rfl 0 (by decide) (hts _ q115) (fun _ h9 => h9) rfl dX1_compareTo_1 ?_
  refine lv_aload_n hx hb dX1_compareTo_4 rfl (lv_at hl 1 rfl) ?_
  refine va_get (D := D) (ci := 0) (v := .long x2) (C := RX1) (T := TX1) (N := 2) hx hb hts in_X1 hown hK (P1 hd2) 0 rfl rfl 0 (by decide) (hts _ q115) (fun _ h9 => h9) rfl dX1_compareTo_5 ?_
  refine va_calli (sd_S (own := RX1) (nL := 3) (n := 2) (As := [.long x, .long x2]) (rest := []) ⟨hx, hb, hml, hown, hts⟩ (met_compareLongs l D z x x2 s.heap.size) q231 q232 q8 q233 rfl (by decide +kernel) rfl rfl ⟨Nat.le_of_ble_eq_true rfl, Nat.le_of_ble_eq_true rfl⟩ (hK.sub (tys' := []) [] rfl) hZ hO hS (fr_0 hS) trivial hl.1 rfl (Nat.le_of_ble_eq_true rfl) dX1_compareTo_8 ⟨Nat.le_of_ble_eq_true rfl, Nat.le_of_ble_eq_true rfl⟩) hS (fun q _ h => (fr_0 hS) q h) (fr_0 hS) (fun r17 _ t H1 locs1 ht hvm hw hB hz1 hk1 hS => ?_)
  have hd := hd.stay0 hk1
  have hd2 := hd2.stay0 hk1
  have hw : cl x x2 = r17 := Eq.symm hw
  subst hw
  clear hvm hB
  refine lv_istore_n (lv' := [(2, .int (cl x x2)), (0, .ref h0), (1, .ref h1)]) hx hb dX1_compareTo_11 rfl hl (by decide) rfl (fun ls hl => ?_)
  refine lv_iload_n hx hb dX1_compareTo_12 rfl (lv_at hl 0 rfl) ?_
  refine lv_if_eq (tgt := 18) hx hb dX1_compareTo_13 (by decide) (fun c1 => ?_) (fun c1 => ?_)
  · refine lv_aload_n hx hb dX1_compareTo_18 rfl (lv_at hl 1 rfl) ?_
    refine va_get (D := D) (ci := 0) (v := .int n) (C := RX1) (T := TX1) (N := 2) hx hb hts in_X1 hown hK (P1 hd) 0 rfl rfl 1 (by decide) (hts _ q116) (fun _ h9 => h9) rfl dX1_compareTo_19 ?_
    refine lv_aload_n hx hb dX1_compareTo_22 rfl (lv_at hl 2 rfl) ?_
    refine va_get (D := D) (ci := 0) (v := .int n2) (C := RX1) (T := TX1) (N := 2) hx hb hts in_X1 hown hK (P1 hd2) 0 rfl rfl 1 (by decide) (hts _ q116) (fun _ h9 => h9) rfl dX1_compareTo_23 ?_
    refine lv_isub hx hb dX1_compareTo_26 ?_
    exact W.iret hx hb hr (fun t ht hW => ⟨⟨_, (), rfl, cmpv_0 c1, trivial⟩, hS.F ht⟩) hS.2.2 dX1_compareTo_27
  · refine lv_iload_n hx hb dX1_compareTo_16 rfl (lv_at hl 0 rfl) ?_
    exact W.iret hx hb hr (fun t ht hW => ⟨⟨_, (), rfl, cmpv_1 c1, trivial⟩, hS.F ht⟩) hS.2.2 dX1_compareTo_17
end
section
/-! SPANDESKMODEL: contracts (printed by gen/contracts.py) -/
set_option maxRecDepth 100000
set_option maxHeartbeats 4000000 in
theorem met_place (l : Launch) (D : va_G) (z : Nat) (w : Int32) (sz : Nat) : Met l yX3_place (ws_ yX3_place cX3_place 1 (some .int)) ({ frames := 0, cells := 0, slots := 0, locals := 0 }) (va_Pc [.int w] (sdPre D z [] [] sz (fun H => True))) (va_Qi (fun (r : Int32) (_ : Unit) => r = nI (ix w)) (fun _ _ => True) (fr [] sz)) 0 0 (fr [] sz) := by
  refine sd_open (by decide) (Nat.le_of_ble_eq_true rfl) ?_
  intro p e s m below meth c ls hx hb hr hlocks hml hin hown hts hl hsz hK hZ hO hX
  subst hsz
  have hS : va_S (fr [] s.heap.size) s.heap s.heap [] := va_S.rf
  have hl : lv_has ls 1 [(0, .int w)] := hl
  refine lv_iload_n hx hb dX3_place_0 rfl (lv_at hl 0 rfl) ?_
  refine lv_iconst (v := 1) hx hb dX3_place_1 (by decide) ?_
  refine lv_iand hx hb dX3_place_2 ?_
  refine lv_if_ne (tgt := 10) hx hb dX3_place_3 (by decide) (fun c1 => ?_) (fun c1 => ?_)
  · refine lv_iconst (v := 1) hx hb dX3_place_10 (by decide) ?_
    exact W.iret hx hb hr (fun t ht hW => ⟨⟨_, (), rfl, pl_1 c1, trivial⟩, hS.F ht⟩) hS.2.2 dX3_place_11
  · refine lv_iconst (v := 0) hx hb dX3_place_6 (by decide) ?_
    refine lv_goto (tgt := 11) hx hb dX3_place_7 (by decide) ?_
    exact W.iret hx hb hr (fun t ht hW => ⟨⟨_, (), rfl, pl_0 c1, trivial⟩, hS.F ht⟩) hS.2.2 dX3_place_11
set_option maxHeartbeats 4000000 in
theorem met_other (l : Launch) (D : va_G) (z : Nat) (w : Int32) (sz : Nat) : Met l yX3_other (ws_ yX3_other cX3_other 1 (some .int)) ({ frames := 1, cells := 0, slots := 0, locals := 20 }) (va_Pc [.int w] (sdPre D z [] [] sz (fun H => True))) (va_Qi (fun (r : Int32) (_ : Unit) => r = nI (1 - ix w)) (fun _ _ => True) (fr [] sz)) 0 0 (fr [] sz) := by
  refine sd_open (by decide) (Nat.le_of_ble_eq_true rfl) ?_
  intro p e s m below meth c ls hx hb hr hlocks hml hin hown hts hl hsz hK hZ hO hX
  subst hsz
  have hS : va_S (fr [] s.heap.size) s.heap s.heap [] := va_S.rf
  have hl : lv_has ls 1 [(0, .int w)] := hl
  refine lv_iconst (v := 1) hx hb dX3_other_0 (by decide) ?_
  refine lv_iload_n hx hb dX3_other_1 rfl (lv_at hl 0 rfl) ?_
  refine va_calli (sd_S (own := RX3) (nL := 1) (n := 1) (As := [.int w]) (rest := [.int 1]) ⟨hx, hb, hml, hown, hts⟩ (met_place l D z w s.heap.size) q272 q273 q13 q274 rfl (by decide +kernel) rfl rfl ⟨Nat.le_of_ble_eq_true rfl, Nat.le_of_ble_eq_true rfl⟩ (hK.sub (tys' := []) [] rfl) hZ hO hS (fr_0 hS) trivial hl.1 rfl (Nat.le_of_ble_eq_true rfl) dX3_other_2 ⟨Nat.le_of_ble_eq_true rfl, Nat.le_of_ble_eq_true rfl⟩) hS (fun q _ h => (fr_0 hS) q h) (fr_0 hS) (fun r18 _ t H1 locs1 ht hvm hw hB hz1 hk1 hS => ?_)
  have hw : nI (ix w) = r18 := Eq.symm hw
  subst hw
  clear hvm hB
  refine lv_isub hx hb dX3_other_5 ?_
  exact W.iret hx hb hr (fun t ht hW => ⟨⟨_, (), rfl, ot_eq (ix_eq w).2, trivial⟩, hS.F ht⟩) hS.2.2 dX3_other_6
set_option maxHeartbeats 4000000 in
theorem met_inside (l : Launch) (D : va_G) (z : Nat) (x : Int64) (sz : Nat) : Met l yX3_inside (ws_ yX3_inside cX3_inside 2 (some .boolean)) ({ frames := 0, cells := 0, slots := 0, locals := 0 }) (va_Pc [.long x] (sdPre D z [] [] sz (fun H => True))) (va_Qi (fun (r : Int32) (_ : Unit) => r = ins x) (fun _ _ => True) (fr [] sz)) 0 0 (fr [] sz) := by
  refine sd_open (by decide) (Nat.le_of_ble_eq_true rfl) ?_
  intro p e s m below meth c ls hx hb hr hlocks hml hin hown hts hl hsz hK hZ hO hX
  subst hsz
  have hS : va_S (fr [] s.heap.size) s.heap s.heap [] := va_S.rf
  have hl : lv_has ls 2 [(0, .long x)] := hl
  refine lv_ldc2 (v := (-4611686018427387904)) hx hb hown (hts _ q291) dX3_inside_0 ?_
  refine lv_lload_n hx hb dX3_inside_3 rfl (lv_at hl 0 rfl) ?_
  refine W.lcmp hx hb dX3_inside_4 ?_
  refine lv_if_ge (tgt := 20) hx hb dX3_inside_5 (by decide) (fun c1 => ?_) (fun c1 => ?_)
  · refine lv_iconst (v := 0) hx hb dX3_inside_20 (by decide) ?_
    exact W.zret hx hb hr rfl (fun t ht hW => ⟨⟨_, (), rfl, (ins_0 (fun q => (ins_c.mp q).1 c1)).symm, trivial⟩, hS.F ht⟩) hS.2.2 dX3_inside_21
  · refine lv_lload_n hx hb dX3_inside_8 rfl (lv_at hl 0 rfl) ?_
    refine lv_ldc2 (v := 4611686018427387904) hx hb hown (hts _ q292) dX3_inside_9 ?_
    refine W.lcmp hx hb dX3_inside_12 ?_
    refine lv_if_ge (tgt := 20) hx hb dX3_inside_13 (by decide) (fun c2 => ?_) (fun c2 => ?_)
    · refine lv_iconst (v := 0) hx hb dX3_inside_20 (by decide) ?_
      exact W.zret hx hb hr rfl (fun t ht hW => ⟨⟨_, (), rfl, (ins_0 (fun q => (ins_c.mp q).2 c2)).symm, trivial⟩, hS.F ht⟩) hS.2.2 dX3_inside_21
    · refine lv_iconst (v := 1) hx hb dX3_inside_16 (by decide) ?_
      refine lv_goto (tgt := 21) hx hb dX3_inside_17 (by decide) ?_
      exact W.zret hx hb hr rfl (fun t ht hW => ⟨⟨_, (), rfl, (ins_1 (ins_c.mpr ⟨c1, c2⟩)).symm, trivial⟩, hS.F ht⟩) hS.2.2 dX3_inside_21
set_option maxHeartbeats 4000000 in
theorem met_mroom (l : Launch) (D : va_G) (z : Nat) (h0 h1 h2 : Nat) (cL cI : ClassId) (S : Nat → Int64) (N : Nat → Int32) (sz : Nat) : Met l yX3_room (ws_ yX3_room cX3_room 1 (some .boolean)) ({ frames := 1, cells := 0, slots := 0, locals := 21 }) (va_Pc [.ref h0] (sdPre D z [(cL, .long), (cI, .int)] [] sz (fun H => MW D h0 h1 h2 cL cI S N H))) (va_Qi (fun (r : Int32) (_ : Unit) => r = rb S) (fun _ _ => True) (fr [] sz)) 0 0 (fr [] sz) := by
  refine sd_open (by decide) (Nat.le_of_ble_eq_true rfl) ?_
  intro p e s m below meth c ls hx hb hr hlocks hml hin hown hts hl hsz hK hZ hO hX
  subst hsz
  have hS : va_S (fr [] s.heap.size) s.heap s.heap [] := va_S.rf
  have hl : lv_has ls 1 [(0, .ref h0)] := hl
  obtain ⟨a0, a1, a2⟩ : MW D h0 h1 h2 cL cI S N s.heap := hX
  refine lv_aload_n hx hb dX3_room_0 rfl (lv_at hl 0 rfl) ?_
  refine va_get (D := D) (ci := 2) (fs := [.ref h1, .ref h2]) (v := .ref h1) (C := RX3) (T := TX3) (N := 2) hx hb hts in_X3 hown hK (P1 a0) 0 rfl rfl 0 (by decide) (hts _ q258) (fun _ h9 => h9) rfl dX3_room_1 ?_
  refine lv_iconst (v := 0) hx hb dX3_room_4 (by decide) ?_
  refine sd_lald hx hb hK 0 a1 rfl nI_zero (by omega) dX3_room_5 ?_
  refine va_calli (sd_S (own := RX3) (nL := 1) (n := 1) (As := [.long (S 0)]) (rest := []) ⟨hx, hb, hml, hown, hts⟩ (met_inside l D z (S 0) s.heap.size) q288 q289 q13 q290 rfl (by decide +kernel) rfl rfl ⟨Nat.le_of_ble_eq_true rfl, Nat.le_of_ble_eq_true rfl⟩ (hK.sub (tys' := []) [] rfl) hZ hO hS (fr_0 hS) trivial hl.1 rfl (Nat.le_of_ble_eq_true rfl) dX3_room_6 ⟨Nat.le_of_ble_eq_true rfl, Nat.le_of_ble_eq_true rfl⟩) hS (fun q _ h => (fr_0 hS) q h) (fr_0 hS) (fun r19 _ t H1 locs1 ht hvm hw hB hz1 hk1 hS => ?_)
  have a0 := a0.stay0 hk1
  have a1 := a1.stay0 hk1
  have a2 := a2.stay0 hk1
  have hw : ins (S 0) = r19 := Eq.symm hw
  subst hw
  clear hvm hB
  refine lv_if_eq (tgt := 28) hx hb dX3_room_9 (by decide) (fun c1 => ?_) (fun c1 => ?_)
  · refine lv_iconst (v := 0) hx hb dX3_room_28 (by decide) ?_
    exact W.zret hx hb hr rfl (fun t ht hW => ⟨⟨_, (), rfl, (rb_n (fun q => (roomy_ins.mp q).1 c1)).symm, trivial⟩, hS.F ht⟩) hS.2.2 dX3_room_29
  · refine lv_aload_n hx hb dX3_room_12 rfl (lv_at hl 0 rfl) ?_
    refine va_get (D := D) (ci := 2) (fs := [.ref h1, .ref h2]) (v := .ref h1) (C := RX3) (T := TX3) (N := 2) hx hb hts in_X3 hown hK (P1 a0) 0 rfl rfl 0 (by decide) (hts _ q258) (fun _ h9 => h9) rfl dX3_room_13 ?_
    refine lv_iconst (v := 1) hx hb dX3_room_16 (by decide) ?_
    refine sd_lald hx hb hK 0 a1 rfl nI_one (by omega) dX3_room_17 ?_
    refine va_calli (sd_S (own := RX3) (nL := 1) (n := 1) (As := [.long (S 1)]) (rest := []) ⟨hx, hb, hml, hown, hts⟩ (met_inside l D z (S 1) H1.size) q288 q289 q13 q290 rfl (by decide +kernel) rfl rfl ⟨Nat.le_of_ble_eq_true rfl, Nat.le_of_ble_eq_true rfl⟩ (hK.sub (tys' := []) [] rfl) hZ hO hS (fr_0 hS) trivial hl.1 rfl (Nat.le_of_ble_eq_true rfl) dX3_room_18 ⟨Nat.le_of_ble_eq_true rfl, Nat.le_of_ble_eq_true rfl⟩) hS (fun q _ h => (fr_0 hS) q h) (fr_0 hS) (fun r20 _ t H2 locs1 ht hvm hw hB hz1 hk1 hS => ?_)
    have a0 := a0.stay0 hk1
    have a1 := a1.stay0 hk1
    have a2 := a2.stay0 hk1
    have hw : ins (S 1) = r20 := Eq.symm hw
    subst hw
    clear hvm hB
    refine lv_if_eq (tgt := 28) hx hb dX3_room_21 (by decide) (fun c2 => ?_) (fun c2 => ?_)
    · refine lv_iconst (v := 0) hx hb dX3_room_28 (by decide) ?_
      exact W.zret hx hb hr rfl (fun t ht hW => ⟨⟨_, (), rfl, (rb_n (fun q => (roomy_ins.mp q).2 c2)).symm, trivial⟩, hS.F ht⟩) hS.2.2 dX3_room_29
    · refine lv_iconst (v := 1) hx hb dX3_room_24 (by decide) ?_
      refine lv_goto (tgt := 29) hx hb dX3_room_25 (by decide) ?_
      exact W.zret hx hb hr rfl (fun t ht hW => ⟨⟨_, (), rfl, (rb_y (roomy_ins.mpr ⟨c1, c2⟩)).symm, trivial⟩, hS.F ht⟩) hS.2.2 dX3_room_29
set_option maxHeartbeats 4000000 in
theorem st_loop1 {p : Program} {l : Launch} {e : Env} {R : Room} {s : State} {m : MethodId} {args : Array Value} {below : List Frame} {meth : Method} {c : Code} {locs : List Loc} {cells slots : Nat} {Q : State → Prop} {H : Heap} {h0 k : Nat} {y : Int64} {g : Int32} (hx : p.tables.exec = Jvm.exec) (hb : c.code = cX3_store) (hown : s.vm.findClass RX3 = some m.cls) (hts : ∀ w ∈ lw_all, w.before args s = true)
    (kk : ∀ (x n : Int64) (ls : Array Slot), 0 ≤ n.toInt → x + fdv n = y → fmd n = g → lv_has ls 6 [(0, .ref h0), (1, .int (nI k)), (2, .long x), (4, .long n)] → W p l e R s m args below meth c H locs cells slots Q (F0 m 22 ls [])) :
    ∀ (j : Nat) (x n : Int64) (ls : Array Slot), -n.toInt < 1000000000 * (j : Int) → x + fdv n = y → fmd n = g → lv_has ls 6 [(0, .ref h0), (1, .int (nI k)), (2, .long x), (4, .long n)] → W p l e R s m args below meth c H locs cells slots Q (F0 m 0 ls []) := by
  intro j
  induction j with
  | zero =>
    intro x n ls hj hy hg hl
    refine lv_lload hx hb dX3_store_0 (lv_at hl 3 rfl) ?_
    refine lv_lconst (v := 0) hx hb dX3_store_2 (by decide) ?_
    refine W.lcmp hx hb dX3_store_3 ?_
    refine lv_if_ge (tgt := 22) hx hb dX3_store_4 (by decide) (fun c1 => ?_) (fun c1 => ?_)
    · exact kk x n ls (by have h9 : ¬ lg_cmp n 0 < 0 := Int32.not_lt.mpr c1; rw [cmp0_lt] at h9; omega) hy hg (lv_sub hl [0, 1, 2, 3] rfl)
    · obtain ⟨g1, g2, g3, g4⟩ := st_up (s := x) c1
      exact absurd hj (by omega)
  | succ j ih =>
    intro x n ls hj hy hg hl
    refine lv_lload hx hb dX3_store_0 (lv_at hl 3 rfl) ?_
    refine lv_lconst (v := 0) hx hb dX3_store_2 (by decide) ?_
    refine W.lcmp hx hb dX3_store_3 ?_
    refine lv_if_ge (tgt := 22) hx hb dX3_store_4 (by decide) (fun c1 => ?_) (fun c1 => ?_)
    · exact kk x n ls (by have h9 : ¬ lg_cmp n 0 < 0 := Int32.not_lt.mpr c1; rw [cmp0_lt] at h9; omega) hy hg (lv_sub hl [0, 1, 2, 3] rfl)
    · obtain ⟨g1, g2, g3, g4⟩ := st_up (s := x) c1
      refine lv_lload hx hb dX3_store_7 (lv_at hl 3 rfl) ?_
      refine lv_ldc2 (v := 1000000000) hx hb hown (hts _ q279) dX3_store_9 ?_
      refine lv_ladd hx hb dX3_store_12 ?_
      refine lv_lstore (lv' := [(4, .long (n + 1000000000)), (0, .ref h0), (1, .int (nI k)), (2, .long x)]) hx hb dX3_store_13 hl (by decide) rfl (fun ls hl => ?_)
      refine lv_lload_n hx hb dX3_store_15 rfl (lv_at hl 3 rfl) ?_
      refine lv_lconst (v := 1) hx hb dX3_store_16 (by decide) ?_
      refine lv_lsub hx hb dX3_store_17 ?_
      refine lv_lstore_n (lv' := [(2, .long (x - 1)), (4, .long (n + 1000000000)), (0, .ref h0), (1, .int (nI k))]) hx hb dX3_store_18 rfl hl (by decide) rfl (fun ls hl => ?_)
      refine lv_goto (tgt := 0) hx hb dX3_store_19 (by decide) ?_
      exact ih (x - 1) (n + 1000000000) ls (by rw [g3]; omega) (g1.trans hy) (g2.trans hg) (lv_sub hl [2, 3, 0, 1] rfl)
set_option maxHeartbeats 4000000 in
theorem st_loop2 {p : Program} {l : Launch} {e : Env} {R : Room} {s : State} {m : MethodId} {args : Array Value} {below : List Frame} {meth : Method} {c : Code} {locs : List Loc} {cells slots : Nat} {Q : State → Prop} {H : Heap} {h0 k : Nat} {y : Int64} {g : Int32} (hx : p.tables.exec = Jvm.exec) (hb : c.code = cX3_store) (hown : s.vm.findClass RX3 = some m.cls) (hts : ∀ w ∈ lw_all, w.before args s = true)
    (kk : ∀ (x n : Int64) (ls : Array Slot), 0 ≤ n.toInt → lg_cmp n 1000000000 < 0 → x + fdv n = y → fmd n = g → lv_has ls 6 [(0, .ref h0), (1, .int (nI k)), (2, .long x), (4, .long n)] → W p l e R s m args below meth c H locs cells slots Q (F0 m 46 ls [])) :
    ∀ (j : Nat) (x n : Int64) (ls : Array Slot), n.toInt < 1000000000 * (j : Int) → 0 ≤ n.toInt → x + fdv n = y → fmd n = g → lv_has ls 6 [(0, .ref h0), (1, .int (nI k)), (2, .long x), (4, .long n)] → W p l e R s m args below meth c H locs cells slots Q (F0 m 22 ls []) := by
  intro j
  induction j with
  | zero =>
    intro x n ls hj hn0 hy hg hl
    refine lv_lload hx hb dX3_store_22 (lv_at hl 3 rfl) ?_
    refine lv_ldc2 (v := 1000000000) hx hb hown (hts _ q279) dX3_store_24 ?_
    refine W.lcmp hx hb dX3_store_27 ?_
    refine lv_if_lt (tgt := 46) hx hb dX3_store_28 (by decide) (fun c1 => ?_) (fun c1 => ?_)
    · exact kk x n ls hn0 c1 hy hg (lv_sub hl [0, 1, 2, 3] rfl)
    · obtain ⟨g1, g2, g3, g4⟩ := st_dn (s := x) c1
      exact absurd hj (by omega)
  | succ j ih =>
    intro x n ls hj hn0 hy hg hl
    refine lv_lload hx hb dX3_store_22 (lv_at hl 3 rfl) ?_
    refine lv_ldc2 (v := 1000000000) hx hb hown (hts _ q279) dX3_store_24 ?_
    refine W.lcmp hx hb dX3_store_27 ?_
    refine lv_if_lt (tgt := 46) hx hb dX3_store_28 (by decide) (fun c1 => ?_) (fun c1 => ?_)
    · exact kk x n ls hn0 c1 hy hg (lv_sub hl [0, 1, 2, 3] rfl)
    · obtain ⟨g1, g2, g3, g4⟩ := st_dn (s := x) c1
      refine lv_lload hx hb dX3_store_31 (lv_at hl 3 rfl) ?_
      refine lv_ldc2 (v := 1000000000) hx hb hown (hts _ q279) dX3_store_33 ?_
      refine lv_lsub hx hb dX3_store_36 ?_
      refine lv_lstore (lv' := [(4, .long (n - 1000000000)), (0, .ref h0), (1, .int (nI k)), (2, .long x)]) hx hb dX3_store_37 hl (by decide) rfl (fun ls hl => ?_)
      refine lv_lload_n hx hb dX3_store_39 rfl (lv_at hl 3 rfl) ?_
      refine lv_lconst (v := 1) hx hb dX3_store_40 (by decide) ?_
      refine lv_ladd hx hb dX3_store_41 ?_
      refine lv_lstore_n (lv' := [(2, .long (x + 1)), (4, .long (n - 1000000000)), (0, .ref h0), (1, .int (nI k))]) hx hb dX3_store_42 rfl hl (by decide) rfl (fun ls hl => ?_)
      refine lv_goto (tgt := 22) hx hb dX3_store_43 (by decide) ?_
      exact ih (x + 1) (n - 1000000000) ls (by rw [g3]; omega) (by rw [g3]; omega) (g1.trans hy) (g2.trans hg) (lv_sub hl [2, 3, 0, 1] rfl)
set_option maxHeartbeats 4000000 in
theorem met_store (l : Launch) (D : va_G) (z : Nat) (h0 h1 h2 : Nat) (cL cI : ClassId) (S : Nat → Int64) (N : Nat → Int32) (k : Nat) (x n : Int64) (sz : Nat) (hk : k < 2) : Met l yX3_store (ws_ yX3_store cX3_store 6 none) ({ frames := 0, cells := 0, slots := 0, locals := 0 }) (va_Pc [.ref h0, .int (nI k), .long x, .long n] (sdPre D z [(cL, .long), (cI, .int)] [h1, h2] sz (fun H => MW D h0 h1 h2 cL cI S N H))) (va_Qv (fun (_ : Unit) => True) (fun _ t => MW D h0 h1 h2 cL cI (vp_updL S k (x + fdv n)) (upd N k (fmd n)) t.heap) (fr [h1, h2] sz)) 0 0 (fr [h1, h2] sz) := by
  refine sd_open (by decide) (Nat.le_of_ble_eq_true rfl) ?_
  intro p e s m below meth c ls hx hb hr hlocks hml hin hown hts hl hsz hK hZ hO hX
  subst hsz
  have hS : va_S (fr [h1, h2] s.heap.size) s.heap s.heap [] := va_S.rf
  have hl : lv_has ls 6 [(0, .ref h0), (1, .int (nI k)), (2, .long x), (4, .long n)] := hl
  obtain ⟨a0, a1, a2⟩ : MW D h0 h1 h2 cL cI S N s.heap := hX
  have h12 : h1 ≠ h2 := ne_li a1 a2
  have h01 : h0 ≠ h1 := ne_kind hK (t0 := 0) rfl a0 a1
  have h02 : h0 ≠ h2 := ne_kind hK (t0 := 1) rfl a0 a2
  refine st_loop1 (y := x + fdv n) (g := fmd n) hx hb hown hts (fun x1 n1 ls hn1 hy hg hl => ?_) (n.toInt.natAbs + 1) x n ls (by omega) rfl rfl hl
  refine st_loop2 (y := x + fdv n) (g := fmd n) hx hb hown hts (fun x2 n2 ls hn2 hc2 hy hg hl => ?_) (n1.toInt.natAbs + 1) x1 n1 ls (by omega) hn1 hy hg hl
  obtain ⟨e1, e2⟩ := st_end (s := x2) hn2 hc2
  have e1 : x2 = x + fdv n := e1.trans hy
  have e2 : n2.toInt32 = fmd n := e2.trans hg
  refine lv_aload_n hx hb dX3_store_46 rfl (lv_at hl 0 rfl) ?_
  refine va_get (D := D) (ci := 2) (fs := [.ref h1, .ref h2]) (v := .ref h1) (C := RX3) (T := TX3) (N := 2) hx hb hts in_X3 hown hK (P1 a0) 0 rfl rfl 0 (by decide) (hts _ q258) (fun _ h9 => h9) rfl dX3_store_47 ?_
  refine lv_iload_n hx hb dX3_store_50 rfl (lv_at hl 1 rfl) ?_
  refine lv_lload_n hx hb dX3_store_51 rfl (lv_at hl 2 rfl) ?_
  refine sd_last hx hb hK 0 a1 rfl rfl hk hS (Or.inl List.mem_cons_self) dX3_store_52 (fun H1 locs1 a1 hk2 hS => ?_)
  have a0 := a0.away hk2 h01
  have a2 := a2.away hk2 (Ne.symm h12)
  refine lv_aload_n hx hb dX3_store_53 rfl (lv_at hl 0 rfl) ?_
  refine va_get (D := D) (ci := 2) (fs := [.ref h1, .ref h2]) (v := .ref h2) (C := RX3) (T := TX3) (N := 2) hx hb hts in_X3 hown hK (P1 a0) 0 rfl rfl 1 (by decide) (hts _ q259) (fun _ h9 => h9) rfl dX3_store_54 ?_
  refine lv_iload_n hx hb dX3_store_57 rfl (lv_at hl 1 rfl) ?_
  refine lv_lload hx hb dX3_store_58 (lv_at hl 3 rfl) ?_
  refine lv_l2i hx hb dX3_store_60 rfl ?_
  refine sd_iast hx hb hK 1 a2 rfl rfl hk hS (Or.inl (List.mem_cons_of_mem _ List.mem_cons_self)) dX3_store_61 (fun H2 locs2 a2 hk2 hS => ?_)
  have a0 := a0.away hk2 h02
  have a1 := a1.away hk2 h12
  rw [e1] at a1
  rw [e2] at a2
  exact W.vret hx hb hr (fun t ht hW => ⟨⟨(), rfl, trivial, by try dsimp only; rw [ht]; exact ⟨a0, a1, a2⟩⟩, hS.F ht⟩) hS.2.2 dX3_store_62
set_option maxHeartbeats 4000000 in
theorem met_mplus (l : Launch) (D : va_G) (z : Nat) (h0 h1 h2 : Nat) (cL cI : ClassId) (S : Nat → Int64) (N : Nat → Int32) (w : Int32) (sz : Nat) : Met l yX3_plus (ws_ yX3_plus cX3_plus 4 (some .boolean)) ({ frames := 2, cells := 0, slots := 0, locals := 41 }) (va_Pc [.ref h0, .int w] (sdPre D z [(cL, .long), (cI, .int)] [h1, h2] sz (fun H => MW D h0 h1 h2 cL cI S N H))) (va_Qi (fun (r : Int32) (_ : Unit) => r = rb S) (fun _ t => MW D h0 h1 h2 cL cI (mS S (ix w) (nx (S (ix w)) (N (ix w)) (S (1 - ix w)) ((N (1 - ix w)).toInt64))) (mN S N (ix w) (ny (N (ix w)) ((N (1 - ix w)).toInt64))) t.heap) (fr [h1, h2] sz)) 0 0 (fr [h1, h2] sz) := by
  refine sd_open (by decide) (Nat.le_of_ble_eq_true rfl) ?_
  intro p e s m below meth c ls hx hb hr hlocks hml hin hown hts hl hsz hK hZ hO hX
  subst hsz
  have hS : va_S (fr [h1, h2] s.heap.size) s.heap s.heap [] := va_S.rf
  have hl : lv_has ls 4 [(0, .ref h0), (1, .int w)] := hl
  have hX : MW D h0 h1 h2 cL cI S N s.heap := hX
  have hk := (ix_eq w).2
  refine lv_aload_n hx hb dX3_plus_0 rfl (lv_at hl 0 rfl) ?_
  refine va_calli (sd_V (own := RX3) (nL := 4) (n := 0) (As := []) (rest := []) ⟨hx, hb, hml, hown, hts⟩ (met_mroom l D z h0 h1 h2 cL cI S N s.heap.size) q284 q286 qs4 q13 q287 rfl (by decide +kernel) rfl rfl ⟨Nat.le_of_ble_eq_true rfl, Nat.le_of_ble_eq_true rfl⟩ (md_recv hK hX.1) hK hZ hO hS (fr_0 hS) hX hl.1 rfl (Nat.le_of_ble_eq_true rfl) dX3_plus_1 ⟨Nat.le_of_ble_eq_true rfl, Nat.le_of_ble_eq_true rfl⟩) hS (fun q _ h => (fr_0 hS) q h) (fr_0 hS) (fun r21 _ t H1 locs1 ht hvm hw hB hz1 hk1 hS => ?_)
  have hX := hX.stay0 hk1
  have hw : rb S = r21 := Eq.symm hw
  subst hw
  clear hvm hB
  refine lv_if_ne (tgt := 9) hx hb dX3_plus_4 (by decide) (fun c1 => ?_) (fun c1 => ?_)
  · have hr1 : roomy S := Classical.byContradiction (fun q => c1 (rb_n q))
    refine lv_iload_n hx hb dX3_plus_9 rfl (lv_at hl 1 rfl) ?_
    refine va_calli (sd_S (own := RX3) (nL := 4) (n := 1) (As := [.int w]) (rest := []) ⟨hx, hb, hml, hown, hts⟩ (met_place l D z w H1.size) q272 q273 q13 q274 rfl (by decide +kernel) rfl rfl ⟨Nat.le_of_ble_eq_true rfl, Nat.le_of_ble_eq_true rfl⟩ (hK.sub (tys' := []) [] rfl) hZ hO hS (fr_0 hS) trivial hl.1 rfl (Nat.le_of_ble_eq_true rfl) dX3_plus_10 ⟨Nat.le_of_ble_eq_true rfl, Nat.le_of_ble_eq_true rfl⟩) hS (fun q _ h => (fr_0 hS) q h) (fr_0 hS) (fun r22 _ t H2 locs1 ht hvm hw hB hz1 hk1 hS => ?_)
    have hX := hX.stay0 hk1
    have hw : nI (ix w) = r22 := Eq.symm hw
    subst hw
    clear hvm hB
    refine lv_istore_n (lv' := [(2, .int (nI (ix w))), (0, .ref h0), (1, .int w)]) hx hb dX3_plus_13 rfl hl (by decide) rfl (fun ls hl => ?_)
    refine lv_iload_n hx hb dX3_plus_14 rfl (lv_at hl 2 rfl) ?_
    refine va_calli (sd_S (own := RX3) (nL := 4) (n := 1) (As := [.int w]) (rest := []) ⟨hx, hb, hml, hown, hts⟩ (met_other l D z w H2.size) q293 q294 q13 q295 rfl (by decide +kernel) rfl rfl ⟨Nat.le_of_ble_eq_true rfl, Nat.le_of_ble_eq_true rfl⟩ (hK.sub (tys' := []) [] rfl) hZ hO hS (fr_0 hS) trivial hl.1 rfl (Nat.le_of_ble_eq_true rfl) dX3_plus_15 ⟨Nat.le_of_ble_eq_true rfl, Nat.le_of_ble_eq_true rfl⟩) hS (fun q _ h => (fr_0 hS) q h) (fr_0 hS) (fun r23 _ t H3 locs1 ht hvm hw hB hz1 hk1 hS => ?_)
    have hX := hX.stay0 hk1
    have hw : nI (1 - ix w) = r23 := Eq.symm hw
    subst hw
    clear hvm hB
    obtain ⟨a0, a1, a2⟩ := id hX
    refine lv_istore_n (lv' := [(3, .int (nI (1 - ix w))), (2, .int (nI (ix w))), (0, .ref h0), (1, .int w)]) hx hb dX3_plus_18 rfl hl (by decide) rfl (fun ls hl => ?_)
    refine lv_aload_n hx hb dX3_plus_19 rfl (lv_at hl 2 rfl) ?_
    refine lv_iload_n hx hb dX3_plus_20 rfl (lv_at hl 1 rfl) ?_
    refine lv_aload_n hx hb dX3_plus_21 rfl (lv_at hl 2 rfl) ?_
    refine va_get (D := D) (ci := 2) (fs := [.ref h1, .ref h2]) (v := .ref h1) (C := RX3) (T := TX3) (N := 2) hx hb hts in_X3 hown hK (P1 a0) 0 rfl rfl 0 (by decide) (hts _ q258) (fun _ h9 => h9) rfl dX3_plus_22 ?_
    refine lv_iload_n hx hb dX3_plus_25 rfl (lv_at hl 1 rfl) ?_
    refine sd_lald hx hb hK 0 a1 rfl rfl hk dX3_plus_26 ?_
    refine lv_aload_n hx hb dX3_plus_27 rfl (lv_at hl 2 rfl) ?_
    refine va_get (D := D) (ci := 2) (fs := [.ref h1, .ref h2]) (v := .ref h1) (C := RX3) (T := TX3) (N := 2) hx hb hts in_X3 hown hK (P1 a0) 0 rfl rfl 0 (by decide) (hts _ q258) (fun _ h9 => h9) rfl dX3_plus_28 ?_
    refine lv_iload_n hx hb dX3_plus_31 rfl (lv_at hl 0 rfl) ?_
    refine sd_lald hx hb hK 0 a1 rfl rfl (by omega) dX3_plus_32 ?_
    refine lv_ladd hx hb dX3_plus_33 ?_
    refine lv_aload_n hx hb dX3_plus_34 rfl (lv_at hl 2 rfl) ?_
    refine va_get (D := D) (ci := 2) (fs := [.ref h1, .ref h2]) (v := .ref h2) (C := RX3) (T := TX3) (N := 2) hx hb hts in_X3 hown hK (P1 a0) 0 rfl rfl 1 (by decide) (hts _ q259) (fun _ h9 => h9) rfl dX3_plus_35 ?_
    refine lv_iload_n hx hb dX3_plus_38 rfl (lv_at hl 1 rfl) ?_
    refine sd_iald hx hb hK 1 a2 rfl rfl hk dX3_plus_39 ?_
    refine lv_i2l hx hb dX3_plus_40 rfl ?_
    refine lv_aload_n hx hb dX3_plus_41 rfl (lv_at hl 2 rfl) ?_
    refine va_get (D := D) (ci := 2) (fs := [.ref h1, .ref h2]) (v := .ref h2) (C := RX3) (T := TX3) (N := 2) hx hb hts in_X3 hown hK (P1 a0) 0 rfl rfl 1 (by decide) (hts _ q259) (fun _ h9 => h9) rfl dX3_plus_42 ?_
    refine lv_iload_n hx hb dX3_plus_45 rfl (lv_at hl 0 rfl) ?_
    refine sd_iald hx hb hK 1 a2 rfl rfl (by omega) dX3_plus_46 ?_
    refine lv_i2l hx hb dX3_plus_47 rfl ?_
    refine lv_ladd hx hb dX3_plus_48 ?_
    refine va_callv (sd_V (own := RX3) (nL := 4) (n := 3) (As := [.int (nI (ix w)), .long ((S (ix w)) + (S (1 - ix w))), .long (((N (ix w)).toInt64) + ((N (1 - ix w)).toInt64))]) (rest := []) ⟨hx, hb, hml, hown, hts⟩ (met_store l D z h0 h1 h2 cL cI S N (ix w) (S (ix w) + S (1 - ix w)) ((N (ix w)).toInt64 + (N (1 - ix w)).toInt64) H3.size hk) q275 q277 qs3 q13 q278 rfl (by decide +kernel) rfl rfl ⟨Nat.le_of_ble_eq_true rfl, Nat.le_of_ble_eq_true rfl⟩ (md_recv hK a0) hK hZ hO hS (fr_call hS (fun q h => Or.inl h)) hX hl.1 rfl (Nat.le_of_ble_eq_true rfl) dX3_plus_49 ⟨Nat.le_of_ble_eq_true rfl, Nat.le_of_ble_eq_true rfl⟩) hS (fun q _ h => (fr_call hS (fun q h => Or.inl h)) q h) (fr_call hS (fun q h => Or.inl h)) (fun _ t H4 locs1 ht hvm hw hB hz1 hk1 hS => ?_)
    have hB : MW D h0 h1 h2 cL cI (vp_updL S (ix w) (S (ix w) + S (1 - ix w) + fdv ((N (ix w)).toInt64 + (N (1 - ix w)).toInt64))) (upd N (ix w) (fmd ((N (ix w)).toInt64 + (N (1 - ix w)).toInt64))) H4 := by rw [ht] at hB; exact hB
    have hB : MW D h0 h1 h2 cL cI (vp_updL S (ix w) (nx (S (ix w)) (N (ix w)) (S (1 - ix w)) ((N (1 - ix w)).toInt64))) (upd N (ix w) (ny (N (ix w)) ((N (1 - ix w)).toInt64))) H4 := hB
    rw [← mS_y hr1, ← mN_y hr1] at hB
    refine lv_iconst (v := 1) hx hb dX3_plus_52 (by decide) ?_
    exact W.zret hx hb hr rfl (fun t ht hW => ⟨⟨_, (), rfl, (rb_y hr1).symm, by try dsimp only; rw [ht]; exact hB⟩, hS.F ht⟩) hS.2.2 dX3_plus_53
  · have hr1 : ¬ roomy S := rb_ne.mp c1
    refine lv_iconst (v := 0) hx hb dX3_plus_7 (by decide) ?_
    exact W.zret hx hb hr rfl (fun t ht hW => ⟨⟨_, (), rfl, c1.symm, by try dsimp only; rw [ht, mS_n hr1, mN_n hr1]; exact hX⟩, hS.F ht⟩) hS.2.2 dX3_plus_8
set_option maxHeartbeats 4000000 in
theorem met_mminus (l : Launch) (D : va_G) (z : Nat) (h0 h1 h2 : Nat) (cL cI : ClassId) (S : Nat → Int64) (N : Nat → Int32) (w : Int32) (sz : Nat) : Met l yX3_minus (ws_ yX3_minus cX3_minus 4 (some .boolean)) ({ frames := 2, cells := 0, slots := 0, locals := 41 }) (va_Pc [.ref h0, .int w] (sdPre D z [(cL, .long), (cI, .int)] [h1, h2] sz (fun H => MW D h0 h1 h2 cL cI S N H))) (va_Qi (fun (r : Int32) (_ : Unit) => r = rb S) (fun _ t => MW D h0 h1 h2 cL cI (mS S (ix w) (nx (S (ix w)) (N (ix w)) (-S (1 - ix w)) (-(N (1 - ix w)).toInt64))) (mN S N (ix w) (ny (N (ix w)) (-(N (1 - ix w)).toInt64))) t.heap) (fr [h1, h2] sz)) 0 0 (fr [h1, h2] sz) := by
  refine sd_open (by decide) (Nat.le_of_ble_eq_true rfl) ?_
  intro p e s m below meth c ls hx hb hr hlocks hml hin hown hts hl hsz hK hZ hO hX
  subst hsz
  have hS : va_S (fr [h1, h2] s.heap.size) s.heap s.heap [] := va_S.rf
  have hl : lv_has ls 4 [(0, .ref h0), (1, .int w)] := hl
  have hX : MW D h0 h1 h2 cL cI S N s.heap := hX
  have hk := (ix_eq w).2
  refine lv_aload_n hx hb dX3_minus_0 rfl (lv_at hl 0 rfl) ?_
  refine va_calli (sd_V (own := RX3) (nL := 4) (n := 0) (As := []) (rest := []) ⟨hx, hb, hml, hown, hts⟩ (met_mroom l D z h0 h1 h2 cL cI S N s.heap.size) q284 q286 qs4 q13 q287 rfl (by decide +kernel) rfl rfl ⟨Nat.le_of_ble_eq_true rfl, Nat.le_of_ble_eq_true rfl⟩ (md_recv hK hX.1) hK hZ hO hS (fr_0 hS) hX hl.1 rfl (Nat.le_of_ble_eq_true rfl) dX3_minus_1 ⟨Nat.le_of_ble_eq_true rfl, Nat.le_of_ble_eq_true rfl⟩) hS (fun q _ h => (fr_0 hS) q h) (fr_0 hS) (fun r24 _ t H1 locs1 ht hvm hw hB hz1 hk1 hS => ?_)
  have hX := hX.stay0 hk1
  have hw : rb S = r24 := Eq.symm hw
  subst hw
  clear hvm hB
  refine lv_if_ne (tgt := 9) hx hb dX3_minus_4 (by decide) (fun c1 => ?_) (fun c1 => ?_)
  · have hr1 : roomy S := Classical.byContradiction (fun q => c1 (rb_n q))
    refine lv_iload_n hx hb dX3_minus_9 rfl (lv_at hl 1 rfl) ?_
    refine va_calli (sd_S (own := RX3) (nL := 4) (n := 1) (As := [.int w]) (rest := []) ⟨hx, hb, hml, hown, hts⟩ (met_place l D z w H1.size) q272 q273 q13 q274 rfl (by decide +kernel) rfl rfl ⟨Nat.le_of_ble_eq_true rfl, Nat.le_of_ble_eq_true rfl⟩ (hK.sub (tys' := []) [] rfl) hZ hO hS (fr_0 hS) trivial hl.1 rfl (Nat.le_of_ble_eq_true rfl) dX3_minus_10 ⟨Nat.le_of_ble_eq_true rfl, Nat.le_of_ble_eq_true rfl⟩) hS (fun q _ h => (fr_0 hS) q h) (fr_0 hS) (fun r25 _ t H2 locs1 ht hvm hw hB hz1 hk1 hS => ?_)
    have hX := hX.stay0 hk1
    have hw : nI (ix w) = r25 := Eq.symm hw
    subst hw
    clear hvm hB
    refine lv_istore_n (lv' := [(2, .int (nI (ix w))), (0, .ref h0), (1, .int w)]) hx hb dX3_minus_13 rfl hl (by decide) rfl (fun ls hl => ?_)
    refine lv_iload_n hx hb dX3_minus_14 rfl (lv_at hl 2 rfl) ?_
    refine va_calli (sd_S (own := RX3) (nL := 4) (n := 1) (As := [.int w]) (rest := []) ⟨hx, hb, hml, hown, hts⟩ (met_other l D z w H2.size) q293 q294 q13 q295 rfl (by decide +kernel) rfl rfl ⟨Nat.le_of_ble_eq_true rfl, Nat.le_of_ble_eq_true rfl⟩ (hK.sub (tys' := []) [] rfl) hZ hO hS (fr_0 hS) trivial hl.1 rfl (Nat.le_of_ble_eq_true rfl) dX3_minus_15 ⟨Nat.le_of_ble_eq_true rfl, Nat.le_of_ble_eq_true rfl⟩) hS (fun q _ h => (fr_0 hS) q h) (fr_0 hS) (fun r26 _ t H3 locs1 ht hvm hw hB hz1 hk1 hS => ?_)
    have hX := hX.stay0 hk1
    have hw : nI (1 - ix w) = r26 := Eq.symm hw
    subst hw
    clear hvm hB
    obtain ⟨a0, a1, a2⟩ := id hX
    refine lv_istore_n (lv' := [(3, .int (nI (1 - ix w))), (2, .int (nI (ix w))), (0, .ref h0), (1, .int w)]) hx hb dX3_minus_18 rfl hl (by decide) rfl (fun ls hl => ?_)
    refine lv_aload_n hx hb dX3_minus_19 rfl (lv_at hl 2 rfl) ?_
    refine lv_iload_n hx hb dX3_minus_20 rfl (lv_at hl 1 rfl) ?_
    refine lv_aload_n hx hb dX3_minus_21 rfl (lv_at hl 2 rfl) ?_
    refine va_get (D := D) (ci := 2) (fs := [.ref h1, .ref h2]) (v := .ref h1) (C := RX3) (T := TX3) (N := 2) hx hb hts in_X3 hown hK (P1 a0) 0 rfl rfl 0 (by decide) (hts _ q258) (fun _ h9 => h9) rfl dX3_minus_22 ?_
    refine lv_iload_n hx hb dX3_minus_25 rfl (lv_at hl 1 rfl) ?_
    refine sd_lald hx hb hK 0 a1 rfl rfl hk dX3_minus_26 ?_
    refine lv_aload_n hx hb dX3_minus_27 rfl (lv_at hl 2 rfl) ?_
    refine va_get (D := D) (ci := 2) (fs := [.ref h1, .ref h2]) (v := .ref h1) (C := RX3) (T := TX3) (N := 2) hx hb hts in_X3 hown hK (P1 a0) 0 rfl rfl 0 (by decide) (hts _ q258) (fun _ h9 => h9) rfl dX3_minus_28 ?_
    refine lv_iload_n hx hb dX3_minus_31 rfl (lv_at hl 0 rfl) ?_
    refine sd_lald hx hb hK 0 a1 rfl rfl (by omega) dX3_minus_32 ?_
    refine lv_lsub hx hb dX3_minus_33 ?_
    refine lv_aload_n hx hb dX3_minus_34 rfl (lv_at hl 2 rfl) ?_
    refine va_get (D := D) (ci := 2) (fs := [.ref h1, .ref h2]) (v := .ref h2) (C := RX3) (T := TX3) (N := 2) hx hb hts in_X3 hown hK (P1 a0) 0 rfl rfl 1 (by decide) (hts _ q259) (fun _ h9 => h9) rfl dX3_minus_35 ?_
    refine lv_iload_n hx hb dX3_minus_38 rfl (lv_at hl 1 rfl) ?_
    refine sd_iald hx hb hK 1 a2 rfl rfl hk dX3_minus_39 ?_
    refine lv_i2l hx hb dX3_minus_40 rfl ?_
    refine lv_aload_n hx hb dX3_minus_41 rfl (lv_at hl 2 rfl) ?_
    refine va_get (D := D) (ci := 2) (fs := [.ref h1, .ref h2]) (v := .ref h2) (C := RX3) (T := TX3) (N := 2) hx hb hts in_X3 hown hK (P1 a0) 0 rfl rfl 1 (by decide) (hts _ q259) (fun _ h9 => h9) rfl dX3_minus_42 ?_
    refine lv_iload_n hx hb dX3_minus_45 rfl (lv_at hl 0 rfl) ?_
    refine sd_iald hx hb hK 1 a2 rfl rfl (by omega) dX3_minus_46 ?_
    refine lv_i2l hx hb dX3_minus_47 rfl ?_
    refine lv_lsub hx hb dX3_minus_48 ?_
    refine va_callv (sd_V (own := RX3) (nL := 4) (n := 3) (As := [.int (nI (ix w)), .long ((S (ix w)) - (S (1 - ix w))), .long (((N (ix w)).toInt64) - ((N (1 - ix w)).toInt64))]) (rest := []) ⟨hx, hb, hml, hown, hts⟩ (met_store l D z h0 h1 h2 cL cI S N (ix w) (S (ix w) - S (1 - ix w)) ((N (ix w)).toInt64 - (N (1 - ix w)).toInt64) H3.size hk) q275 q277 qs3 q13 q278 rfl (by decide +kernel) rfl rfl ⟨Nat.le_of_ble_eq_true rfl, Nat.le_of_ble_eq_true rfl⟩ (md_recv hK a0) hK hZ hO hS (fr_call hS (fun q h => Or.inl h)) hX hl.1 rfl (Nat.le_of_ble_eq_true rfl) dX3_minus_49 ⟨Nat.le_of_ble_eq_true rfl, Nat.le_of_ble_eq_true rfl⟩) hS (fun q _ h => (fr_call hS (fun q h => Or.inl h)) q h) (fr_call hS (fun q h => Or.inl h)) (fun _ t H4 locs1 ht hvm hw hB hz1 hk1 hS => ?_)
    have hB : MW D h0 h1 h2 cL cI (vp_updL S (ix w) (S (ix w) - S (1 - ix w) + fdv ((N (ix w)).toInt64 - (N (1 - ix w)).toInt64))) (upd N (ix w) (fmd ((N (ix w)).toInt64 - (N (1 - ix w)).toInt64))) H4 := by rw [ht] at hB; exact hB
    rw [Int64.sub_eq_add_neg, Int64.sub_eq_add_neg] at hB
    have hB : MW D h0 h1 h2 cL cI (vp_updL S (ix w) (nx (S (ix w)) (N (ix w)) ((-S (1 - ix w))) ((-(N (1 - ix w)).toInt64)))) (upd N (ix w) (ny (N (ix w)) ((-(N (1 - ix w)).toInt64)))) H4 := hB
    rw [← mS_y hr1, ← mN_y hr1] at hB
    refine lv_iconst (v := 1) hx hb dX3_minus_52 (by decide) ?_
    exact W.zret hx hb hr rfl (fun t ht hW => ⟨⟨_, (), rfl, (rb_y hr1).symm, by try dsimp only; rw [ht]; exact hB⟩, hS.F ht⟩) hS.2.2 dX3_minus_53
  · have hr1 : ¬ roomy S := rb_ne.mp c1
    refine lv_iconst (v := 0) hx hb dX3_minus_7 (by decide) ?_
    exact W.zret hx hb hr rfl (fun t ht hW => ⟨⟨_, (), rfl, c1.symm, by try dsimp only; rw [ht, mS_n hr1, mN_n hr1]; exact hX⟩, hS.F ht⟩) hS.2.2 dX3_minus_8
set_option maxHeartbeats 4000000 in
theorem met_mseconds (l : Launch) (D : va_G) (z : Nat) (h0 h1 h2 : Nat) (cL cI : ClassId) (S : Nat → Int64) (N : Nat → Int32) (w : Int32) (k : Int32) (sz : Nat) : Met l yX3_seconds (ws_ yX3_seconds cX3_seconds 4 (some .boolean)) ({ frames := 2, cells := 0, slots := 0, locals := 41 }) (va_Pc [.ref h0, .int w, .int k] (sdPre D z [(cL, .long), (cI, .int)] [h1, h2] sz (fun H => MW D h0 h1 h2 cL cI S N H))) (va_Qi (fun (r : Int32) (_ : Unit) => r = rb S) (fun _ t => MW D h0 h1 h2 cL cI (mS S (ix w) (nx (S (ix w)) (N (ix w)) k.toInt64 0)) (mN S N (ix w) (ny (N (ix w)) 0)) t.heap) (fr [h1, h2] sz)) 0 0 (fr [h1, h2] sz) := by
  refine sd_open (by decide) (Nat.le_of_ble_eq_true rfl) ?_
  intro p e s m below meth c ls hx hb hr hlocks hml hin hown hts hl hsz hK hZ hO hX
  subst hsz
  have hS : va_S (fr [h1, h2] s.heap.size) s.heap s.heap [] := va_S.rf
  have hl : lv_has ls 4 [(0, .ref h0), (1, .int w), (2, .int k)] := hl
  have hX : MW D h0 h1 h2 cL cI S N s.heap := hX
  have hk := (ix_eq w).2
  refine lv_aload_n hx hb dX3_seconds_0 rfl (lv_at hl 0 rfl) ?_
  refine va_calli (sd_V (own := RX3) (nL := 4) (n := 0) (As := []) (rest := []) ⟨hx, hb, hml, hown, hts⟩ (met_mroom l D z h0 h1 h2 cL cI S N s.heap.size) q284 q286 qs4 q13 q287 rfl (by decide +kernel) rfl rfl ⟨Nat.le_of_ble_eq_true rfl, Nat.le_of_ble_eq_true rfl⟩ (md_recv hK hX.1) hK hZ hO hS (fr_0 hS) hX hl.1 rfl (Nat.le_of_ble_eq_true rfl) dX3_seconds_1 ⟨Nat.le_of_ble_eq_true rfl, Nat.le_of_ble_eq_true rfl⟩) hS (fun q _ h => (fr_0 hS) q h) (fr_0 hS) (fun r27 _ t H1 locs1 ht hvm hw hB hz1 hk1 hS => ?_)
  have hX := hX.stay0 hk1
  have hw : rb S = r27 := Eq.symm hw
  subst hw
  clear hvm hB
  refine lv_if_ne (tgt := 9) hx hb dX3_seconds_4 (by decide) (fun c1 => ?_) (fun c1 => ?_)
  · have hr1 : roomy S := Classical.byContradiction (fun q => c1 (rb_n q))
    refine lv_iload_n hx hb dX3_seconds_9 rfl (lv_at hl 1 rfl) ?_
    refine va_calli (sd_S (own := RX3) (nL := 4) (n := 1) (As := [.int w]) (rest := []) ⟨hx, hb, hml, hown, hts⟩ (met_place l D z w H1.size) q272 q273 q13 q274 rfl (by decide +kernel) rfl rfl ⟨Nat.le_of_ble_eq_true rfl, Nat.le_of_ble_eq_true rfl⟩ (hK.sub (tys' := []) [] rfl) hZ hO hS (fr_0 hS) trivial hl.1 rfl (Nat.le_of_ble_eq_true rfl) dX3_seconds_10 ⟨Nat.le_of_ble_eq_true rfl, Nat.le_of_ble_eq_true rfl⟩) hS (fun q _ h => (fr_0 hS) q h) (fr_0 hS) (fun r28 _ t H2 locs1 ht hvm hw hB hz1 hk1 hS => ?_)
    have hX := hX.stay0 hk1
    have hw : nI (ix w) = r28 := Eq.symm hw
    subst hw
    clear hvm hB
    obtain ⟨a0, a1, a2⟩ := id hX
    refine lv_istore_n (lv' := [(3, .int (nI (ix w))), (0, .ref h0), (1, .int w), (2, .int k)]) hx hb dX3_seconds_13 rfl hl (by decide) rfl (fun ls hl => ?_)
    refine lv_aload_n hx hb dX3_seconds_14 rfl (lv_at hl 1 rfl) ?_
    refine lv_iload_n hx hb dX3_seconds_15 rfl (lv_at hl 0 rfl) ?_
    refine lv_aload_n hx hb dX3_seconds_16 rfl (lv_at hl 1 rfl) ?_
    refine va_get (D := D) (ci := 2) (fs := [.ref h1, .ref h2]) (v := .ref h1) (C := RX3) (T := TX3) (N := 2) hx hb hts in_X3 hown hK (P1 a0) 0 rfl rfl 0 (by decide) (hts _ q258) (fun _ h9 => h9) rfl dX3_seconds_17 ?_
    refine lv_iload_n hx hb dX3_seconds_20 rfl (lv_at hl 0 rfl) ?_
    refine sd_lald hx hb hK 0 a1 rfl rfl hk dX3_seconds_21 ?_
    refine lv_iload_n hx hb dX3_seconds_22 rfl (lv_at hl 3 rfl) ?_
    refine lv_i2l hx hb dX3_seconds_23 rfl ?_
    refine lv_ladd hx hb dX3_seconds_24 ?_
    refine lv_aload_n hx hb dX3_seconds_25 rfl (lv_at hl 1 rfl) ?_
    refine va_get (D := D) (ci := 2) (fs := [.ref h1, .ref h2]) (v := .ref h2) (C := RX3) (T := TX3) (N := 2) hx hb hts in_X3 hown hK (P1 a0) 0 rfl rfl 1 (by decide) (hts _ q259) (fun _ h9 => h9) rfl dX3_seconds_26 ?_
    refine lv_iload_n hx hb dX3_seconds_29 rfl (lv_at hl 0 rfl) ?_
    refine sd_iald hx hb hK 1 a2 rfl rfl hk dX3_seconds_30 ?_
    refine lv_i2l hx hb dX3_seconds_31 rfl ?_
    refine va_callv (sd_V (own := RX3) (nL := 4) (n := 3) (As := [.int (nI (ix w)), .long ((S (ix w)) + k.toInt64), .long ((N (ix w)).toInt64)]) (rest := []) ⟨hx, hb, hml, hown, hts⟩ (met_store l D z h0 h1 h2 cL cI S N (ix w) (S (ix w) + k.toInt64) ((N (ix w)).toInt64) H2.size hk) q275 q277 qs3 q13 q278 rfl (by decide +kernel) rfl rfl ⟨Nat.le_of_ble_eq_true rfl, Nat.le_of_ble_eq_true rfl⟩ (md_recv hK a0) hK hZ hO hS (fr_call hS (fun q h => Or.inl h)) hX hl.1 rfl (Nat.le_of_ble_eq_true rfl) dX3_seconds_32 ⟨Nat.le_of_ble_eq_true rfl, Nat.le_of_ble_eq_true rfl⟩) hS (fun q _ h => (fr_call hS (fun q h => Or.inl h)) q h) (fr_call hS (fun q h => Or.inl h)) (fun _ t H3 locs1 ht hvm hw hB hz1 hk1 hS => ?_)
    have hB : MW D h0 h1 h2 cL cI (vp_updL S (ix w) (S (ix w) + k.toInt64 + fdv ((N (ix w)).toInt64))) (upd N (ix w) (fmd ((N (ix w)).toInt64))) H3 := by rw [ht] at hB; exact hB
    -- zero
    have hB : MW D h0 h1 h2 cL cI (vp_updL S (ix w) (nx (S (ix w)) (N (ix w)) k.toInt64 0)) (upd N (ix w) (ny (N (ix w)) 0)) H3 := by unfold nx ny; simp only [Int64.add_zero]; exact hB
    rw [← mS_y hr1, ← mN_y hr1] at hB
    refine lv_iconst (v := 1) hx hb dX3_seconds_35 (by decide) ?_
    exact W.zret hx hb hr rfl (fun t ht hW => ⟨⟨_, (), rfl, (rb_y hr1).symm, by try dsimp only; rw [ht]; exact hB⟩, hS.F ht⟩) hS.2.2 dX3_seconds_36
  · have hr1 : ¬ roomy S := rb_ne.mp c1
    refine lv_iconst (v := 0) hx hb dX3_seconds_7 (by decide) ?_
    exact W.zret hx hb hr rfl (fun t ht hW => ⟨⟨_, (), rfl, c1.symm, by try dsimp only; rw [ht, mS_n hr1, mN_n hr1]; exact hX⟩, hS.F ht⟩) hS.2.2 dX3_seconds_8
set_option maxHeartbeats 4000000 in
theorem met_mmillis (l : Launch) (D : va_G) (z : Nat) (h0 h1 h2 : Nat) (cL cI : ClassId) (S : Nat → Int64) (N : Nat → Int32) (w : Int32) (k : Int32) (sz : Nat) : Met l yX3_millis (ws_ yX3_millis cX3_millis 8 (some .boolean)) ({ frames := 2, cells := 0, slots := 0, locals := 41 }) (va_Pc [.ref h0, .int w, .int k] (sdPre D z [(cL, .long), (cI, .int)] [h1, h2] sz (fun H => MW D h0 h1 h2 cL cI S N H))) (va_Qi (fun (r : Int32) (_ : Unit) => r = rb S) (fun _ t => MW D h0 h1 h2 cL cI (mS S (ix w) (nx (S (ix w)) (N (ix w)) (k.toInt64 / 1000) ((k.toInt64 - k.toInt64 / 1000 * 1000) * 1000000))) (mN S N (ix w) (ny (N (ix w)) ((k.toInt64 - k.toInt64 / 1000 * 1000) * 1000000))) t.heap) (fr [h1, h2] sz)) 0 0 (fr [h1, h2] sz) := by
  refine sd_open (by decide) (Nat.le_of_ble_eq_true rfl) ?_
  intro p e s m below meth c ls hx hb hr hlocks hml hin hown hts hl hsz hK hZ hO hX
  subst hsz
  have hS : va_S (fr [h1, h2] s.heap.size) s.heap s.heap [] := va_S.rf
  have hl : lv_has ls 8 [(0, .ref h0), (1, .int w), (2, .int k)] := hl
  have hX : MW D h0 h1 h2 cL cI S N s.heap := hX
  have hk := (ix_eq w).2
  refine lv_aload_n hx hb dX3_millis_0 rfl (lv_at hl 0 rfl) ?_
  refine va_calli (sd_V (own := RX3) (nL := 8) (n := 0) (As := []) (rest := []) ⟨hx, hb, hml, hown, hts⟩ (met_mroom l D z h0 h1 h2 cL cI S N s.heap.size) q284 q286 qs4 q13 q287 rfl (by decide +kernel) rfl rfl ⟨Nat.le_of_ble_eq_true rfl, Nat.le_of_ble_eq_true rfl⟩ (md_recv hK hX.1) hK hZ hO hS (fr_0 hS) hX hl.1 rfl (Nat.le_of_ble_eq_true rfl) dX3_millis_1 ⟨Nat.le_of_ble_eq_true rfl, Nat.le_of_ble_eq_true rfl⟩) hS (fun q _ h => (fr_0 hS) q h) (fr_0 hS) (fun r29 _ t H1 locs1 ht hvm hw hB hz1 hk1 hS => ?_)
  have hX := hX.stay0 hk1
  have hw : rb S = r29 := Eq.symm hw
  subst hw
  clear hvm hB
  refine lv_if_ne (tgt := 9) hx hb dX3_millis_4 (by decide) (fun c1 => ?_) (fun c1 => ?_)
  · have hr1 : roomy S := Classical.byContradiction (fun q => c1 (rb_n q))
    refine lv_iload_n hx hb dX3_millis_9 rfl (lv_at hl 1 rfl) ?_
    refine va_calli (sd_S (own := RX3) (nL := 8) (n := 1) (As := [.int w]) (rest := []) ⟨hx, hb, hml, hown, hts⟩ (met_place l D z w H1.size) q272 q273 q13 q274 rfl (by decide +kernel) rfl rfl ⟨Nat.le_of_ble_eq_true rfl, Nat.le_of_ble_eq_true rfl⟩ (hK.sub (tys' := []) [] rfl) hZ hO hS (fr_0 hS) trivial hl.1 rfl (Nat.le_of_ble_eq_true rfl) dX3_millis_10 ⟨Nat.le_of_ble_eq_true rfl, Nat.le_of_ble_eq_true rfl⟩) hS (fun q _ h => (fr_0 hS) q h) (fr_0 hS) (fun r30 _ t H2 locs1 ht hvm hw hB hz1 hk1 hS => ?_)
    have hX := hX.stay0 hk1
    have hw : nI (ix w) = r30 := Eq.symm hw
    subst hw
    clear hvm hB
    obtain ⟨a0, a1, a2⟩ := id hX
    refine lv_istore_n (lv' := [(3, .int (nI (ix w))), (0, .ref h0), (1, .int w), (2, .int k)]) hx hb dX3_millis_13 rfl hl (by decide) rfl (fun ls hl => ?_)
    refine lv_iload_n hx hb dX3_millis_14 rfl (lv_at hl 3 rfl) ?_
    refine lv_sipush (v := 1000) hx hb dX3_millis_15 (by decide) ?_
    refine lv_idiv hx hb dX3_millis_18 (by decide) ?_
    refine lv_i2l hx hb dX3_millis_19 rfl ?_
    refine lv_lstore (lv' := [(4, .long ((k / 1000).toInt64)), (3, .int (nI (ix w))), (0, .ref h0), (1, .int w), (2, .int k)]) hx hb dX3_millis_20 hl (by decide) rfl (fun ls hl => ?_)
    refine lv_iload_n hx hb dX3_millis_22 rfl (lv_at hl 4 rfl) ?_
    refine lv_sipush (v := 1000) hx hb dX3_millis_23 (by decide) ?_
    refine lv_irem hx hb dX3_millis_26 (by decide) ?_
    refine lv_i2l hx hb dX3_millis_27 rfl ?_
    refine lv_lstore (lv' := [(6, .long ((k - k / 1000 * 1000).toInt64)), (4, .long ((k / 1000).toInt64)), (3, .int (nI (ix w))), (0, .ref h0), (1, .int w), (2, .int k)]) hx hb dX3_millis_28 hl (by decide) rfl (fun ls hl => ?_)
    refine lv_aload_n hx hb dX3_millis_30 rfl (lv_at hl 3 rfl) ?_
    refine lv_iload_n hx hb dX3_millis_31 rfl (lv_at hl 2 rfl) ?_
    refine lv_aload_n hx hb dX3_millis_32 rfl (lv_at hl 3 rfl) ?_
    refine va_get (D := D) (ci := 2) (fs := [.ref h1, .ref h2]) (v := .ref h1) (C := RX3) (T := TX3) (N := 2) hx hb hts in_X3 hown hK (P1 a0) 0 rfl rfl 0 (by decide) (hts _ q258) (fun _ h9 => h9) rfl dX3_millis_33 ?_
    refine lv_iload_n hx hb dX3_millis_36 rfl (lv_at hl 2 rfl) ?_
    refine sd_lald hx hb hK 0 a1 rfl rfl hk dX3_millis_37 ?_
    refine lv_lload hx hb dX3_millis_38 (lv_at hl 1 rfl) ?_
    refine lv_ladd hx hb dX3_millis_40 ?_
    refine lv_aload_n hx hb dX3_millis_41 rfl (lv_at hl 3 rfl) ?_
    refine va_get (D := D) (ci := 2) (fs := [.ref h1, .ref h2]) (v := .ref h2) (C := RX3) (T := TX3) (N := 2) hx hb hts in_X3 hown hK (P1 a0) 0 rfl rfl 1 (by decide) (hts _ q259) (fun _ h9 => h9) rfl dX3_millis_42 ?_
    refine lv_iload_n hx hb dX3_millis_45 rfl (lv_at hl 2 rfl) ?_
    refine sd_iald hx hb hK 1 a2 rfl rfl hk dX3_millis_46 ?_
    refine lv_i2l hx hb dX3_millis_47 rfl ?_
    refine lv_lload hx hb dX3_millis_48 (lv_at hl 0 rfl) ?_
    refine lv_ldc2 (v := 1000000) hx hb hown (hts _ q308) dX3_millis_50 ?_
    refine lv_lmul hx hb dX3_millis_53 ?_
    refine lv_ladd hx hb dX3_millis_54 ?_
    refine va_callv (sd_V (own := RX3) (nL := 8) (n := 3) (As := [.int (nI (ix w)), .long ((S (ix w)) + ((k / 1000).toInt64)), .long (((N (ix w)).toInt64) + (((k - k / 1000 * 1000).toInt64) * 1000000))]) (rest := []) ⟨hx, hb, hml, hown, hts⟩ (met_store l D z h0 h1 h2 cL cI S N (ix w) (S (ix w) + (k / 1000).toInt64) ((N (ix w)).toInt64 + (k - k / 1000 * 1000).toInt64 * 1000000) H2.size hk) q275 q277 qs3 q13 q278 rfl (by decide +kernel) rfl rfl ⟨Nat.le_of_ble_eq_true rfl, Nat.le_of_ble_eq_true rfl⟩ (md_recv hK a0) hK hZ hO hS (fr_call hS (fun q h => Or.inl h)) hX hl.1 rfl (Nat.le_of_ble_eq_true rfl) dX3_millis_55 ⟨Nat.le_of_ble_eq_true rfl, Nat.le_of_ble_eq_true rfl⟩) hS (fun q _ h => (fr_call hS (fun q h => Or.inl h)) q h) (fr_call hS (fun q h => Or.inl h)) (fun _ t H3 locs1 ht hvm hw hB hz1 hk1 hS => ?_)
    have hB : MW D h0 h1 h2 cL cI (vp_updL S (ix w) (S (ix w) + (k / 1000).toInt64 + fdv ((N (ix w)).toInt64 + (k - k / 1000 * 1000).toInt64 * 1000000))) (upd N (ix w) (fmd ((N (ix w)).toInt64 + (k - k / 1000 * 1000).toInt64 * 1000000))) H3 := by rw [ht] at hB; exact hB
    rw [mil_q, mil_r] at hB
    have hB : MW D h0 h1 h2 cL cI (vp_updL S (ix w) (nx (S (ix w)) (N (ix w)) (k.toInt64 / 1000) ((k.toInt64 - k.toInt64 / 1000 * 1000) * 1000000))) (upd N (ix w) (ny (N (ix w)) ((k.toInt64 - k.toInt64 / 1000 * 1000) * 1000000))) H3 := by unfold nx ny; exact hB
    rw [← mS_y hr1, ← mN_y hr1] at hB
    refine lv_iconst (v := 1) hx hb dX3_millis_58 (by decide) ?_
    exact W.zret hx hb hr rfl (fun t ht hW => ⟨⟨_, (), rfl, (rb_y hr1).symm, by try dsimp only; rw [ht]; exact hB⟩, hS.F ht⟩) hS.2.2 dX3_millis_59
  · have hr1 : ¬ roomy S := rb_ne.mp c1
    refine lv_iconst (v := 0) hx hb dX3_millis_7 (by decide) ?_
    exact W.zret hx hb hr rfl (fun t ht hW => ⟨⟨_, (), rfl, c1.symm, by try dsimp only; rw [ht, mS_n hr1, mN_n hr1]; exact hX⟩, hS.F ht⟩) hS.2.2 dX3_millis_8
set_option maxHeartbeats 4000000 in
theorem met_mnanos (l : Launch) (D : va_G) (z : Nat) (h0 h1 h2 : Nat) (cL cI : ClassId) (S : Nat → Int64) (N : Nat → Int32) (w : Int32) (k : Int32) (sz : Nat) : Met l yX3_nanos (ws_ yX3_nanos cX3_nanos 4 (some .boolean)) ({ frames := 2, cells := 0, slots := 0, locals := 41 }) (va_Pc [.ref h0, .int w, .int k] (sdPre D z [(cL, .long), (cI, .int)] [h1, h2] sz (fun H => MW D h0 h1 h2 cL cI S N H))) (va_Qi (fun (r : Int32) (_ : Unit) => r = rb S) (fun _ t => MW D h0 h1 h2 cL cI (mS S (ix w) (nx (S (ix w)) (N (ix w)) 0 k.toInt64)) (mN S N (ix w) (ny (N (ix w)) k.toInt64)) t.heap) (fr [h1, h2] sz)) 0 0 (fr [h1, h2] sz) := by
  refine sd_open (by decide) (Nat.le_of_ble_eq_true rfl) ?_
  intro p e s m below meth c ls hx hb hr hlocks hml hin hown hts hl hsz hK hZ hO hX
  subst hsz
  have hS : va_S (fr [h1, h2] s.heap.size) s.heap s.heap [] := va_S.rf
  have hl : lv_has ls 4 [(0, .ref h0), (1, .int w), (2, .int k)] := hl
  have hX : MW D h0 h1 h2 cL cI S N s.heap := hX
  have hk := (ix_eq w).2
  refine lv_aload_n hx hb dX3_nanos_0 rfl (lv_at hl 0 rfl) ?_
  refine va_calli (sd_V (own := RX3) (nL := 4) (n := 0) (As := []) (rest := []) ⟨hx, hb, hml, hown, hts⟩ (met_mroom l D z h0 h1 h2 cL cI S N s.heap.size) q284 q286 qs4 q13 q287 rfl (by decide +kernel) rfl rfl ⟨Nat.le_of_ble_eq_true rfl, Nat.le_of_ble_eq_true rfl⟩ (md_recv hK hX.1) hK hZ hO hS (fr_0 hS) hX hl.1 rfl (Nat.le_of_ble_eq_true rfl) dX3_nanos_1 ⟨Nat.le_of_ble_eq_true rfl, Nat.le_of_ble_eq_true rfl⟩) hS (fun q _ h => (fr_0 hS) q h) (fr_0 hS) (fun r31 _ t H1 locs1 ht hvm hw hB hz1 hk1 hS => ?_)
  have hX := hX.stay0 hk1
  have hw : rb S = r31 := Eq.symm hw
  subst hw
  clear hvm hB
  refine lv_if_ne (tgt := 9) hx hb dX3_nanos_4 (by decide) (fun c1 => ?_) (fun c1 => ?_)
  · have hr1 : roomy S := Classical.byContradiction (fun q => c1 (rb_n q))
    refine lv_iload_n hx hb dX3_nanos_9 rfl (lv_at hl 1 rfl) ?_
    refine va_calli (sd_S (own := RX3) (nL := 4) (n := 1) (As := [.int w]) (rest := []) ⟨hx, hb, hml, hown, hts⟩ (met_place l D z w H1.size) q272 q273 q13 q274 rfl (by decide +kernel) rfl rfl ⟨Nat.le_of_ble_eq_true rfl, Nat.le_of_ble_eq_true rfl⟩ (hK.sub (tys' := []) [] rfl) hZ hO hS (fr_0 hS) trivial hl.1 rfl (Nat.le_of_ble_eq_true rfl) dX3_nanos_10 ⟨Nat.le_of_ble_eq_true rfl, Nat.le_of_ble_eq_true rfl⟩) hS (fun q _ h => (fr_0 hS) q h) (fr_0 hS) (fun r32 _ t H2 locs1 ht hvm hw hB hz1 hk1 hS => ?_)
    have hX := hX.stay0 hk1
    have hw : nI (ix w) = r32 := Eq.symm hw
    subst hw
    clear hvm hB
    obtain ⟨a0, a1, a2⟩ := id hX
    refine lv_istore_n (lv' := [(3, .int (nI (ix w))), (0, .ref h0), (1, .int w), (2, .int k)]) hx hb dX3_nanos_13 rfl hl (by decide) rfl (fun ls hl => ?_)
    refine lv_aload_n hx hb dX3_nanos_14 rfl (lv_at hl 1 rfl) ?_
    refine lv_iload_n hx hb dX3_nanos_15 rfl (lv_at hl 0 rfl) ?_
    refine lv_aload_n hx hb dX3_nanos_16 rfl (lv_at hl 1 rfl) ?_
    refine va_get (D := D) (ci := 2) (fs := [.ref h1, .ref h2]) (v := .ref h1) (C := RX3) (T := TX3) (N := 2) hx hb hts in_X3 hown hK (P1 a0) 0 rfl rfl 0 (by decide) (hts _ q258) (fun _ h9 => h9) rfl dX3_nanos_17 ?_
    refine lv_iload_n hx hb dX3_nanos_20 rfl (lv_at hl 0 rfl) ?_
    refine sd_lald hx hb hK 0 a1 rfl rfl hk dX3_nanos_21 ?_
    refine lv_aload_n hx hb dX3_nanos_22 rfl (lv_at hl 1 rfl) ?_
    refine va_get (D := D) (ci := 2) (fs := [.ref h1, .ref h2]) (v := .ref h2) (C := RX3) (T := TX3) (N := 2) hx hb hts in_X3 hown hK (P1 a0) 0 rfl rfl 1 (by decide) (hts _ q259) (fun _ h9 => h9) rfl dX3_nanos_23 ?_
    refine lv_iload_n hx hb dX3_nanos_26 rfl (lv_at hl 0 rfl) ?_
    refine sd_iald hx hb hK 1 a2 rfl rfl hk dX3_nanos_27 ?_
    refine lv_i2l hx hb dX3_nanos_28 rfl ?_
    refine lv_iload_n hx hb dX3_nanos_29 rfl (lv_at hl 3 rfl) ?_
    refine lv_i2l hx hb dX3_nanos_30 rfl ?_
    refine lv_ladd hx hb dX3_nanos_31 ?_
    refine va_callv (sd_V (own := RX3) (nL := 4) (n := 3) (As := [.int (nI (ix w)), .long (S (ix w)), .long (((N (ix w)).toInt64) + k.toInt64)]) (rest := []) ⟨hx, hb, hml, hown, hts⟩ (met_store l D z h0 h1 h2 cL cI S N (ix w) (S (ix w)) ((N (ix w)).toInt64 + k.toInt64) H2.size hk) q275 q277 qs3 q13 q278 rfl (by decide +kernel) rfl rfl ⟨Nat.le_of_ble_eq_true rfl, Nat.le_of_ble_eq_true rfl⟩ (md_recv hK a0) hK hZ hO hS (fr_call hS (fun q h => Or.inl h)) hX hl.1 rfl (Nat.le_of_ble_eq_true rfl) dX3_nanos_32 ⟨Nat.le_of_ble_eq_true rfl, Nat.le_of_ble_eq_true rfl⟩) hS (fun q _ h => (fr_call hS (fun q h => Or.inl h)) q h) (fr_call hS (fun q h => Or.inl h)) (fun _ t H3 locs1 ht hvm hw hB hz1 hk1 hS => ?_)
    have hB : MW D h0 h1 h2 cL cI (vp_updL S (ix w) (S (ix w) + fdv ((N (ix w)).toInt64 + k.toInt64))) (upd N (ix w) (fmd ((N (ix w)).toInt64 + k.toInt64))) H3 := by rw [ht] at hB; exact hB
    -- zero
    have hB : MW D h0 h1 h2 cL cI (vp_updL S (ix w) (nx (S (ix w)) (N (ix w)) 0 k.toInt64)) (upd N (ix w) (ny (N (ix w)) k.toInt64)) H3 := by unfold nx ny; simp only [Int64.add_zero]; exact hB
    rw [← mS_y hr1, ← mN_y hr1] at hB
    refine lv_iconst (v := 1) hx hb dX3_nanos_35 (by decide) ?_
    exact W.zret hx hb hr rfl (fun t ht hW => ⟨⟨_, (), rfl, (rb_y hr1).symm, by try dsimp only; rw [ht]; exact hB⟩, hS.F ht⟩) hS.2.2 dX3_nanos_36
  · have hr1 : ¬ roomy S := rb_ne.mp c1
    refine lv_iconst (v := 0) hx hb dX3_nanos_7 (by decide) ?_
    exact W.zret hx hb hr rfl (fun t ht hW => ⟨⟨_, (), rfl, c1.symm, by try dsimp only; rw [ht, mS_n hr1, mN_n hr1]; exact hX⟩, hS.F ht⟩) hS.2.2 dX3_nanos_8
set_option maxHeartbeats 4000000 in
theorem met_mset (l : Launch) (D : va_G) (z : Nat) (h0 h1 h2 : Nat) (cL cI : ClassId) (S : Nat → Int64) (N : Nat → Int32) (w h9 l9 n9 : Int32) (sz : Nat) : Met l yX3_set (ws_ yX3_set cX3_set 9 none) ({ frames := 1, cells := 0, slots := 0, locals := 25 }) (va_Pc [.ref h0, .int w, .int h9, .int l9, .int n9] (sdPre D z [(cL, .long), (cI, .int)] [h1, h2] sz (fun H => MW D h0 h1 h2 cL cI S N H))) (va_Qv (fun (_ : Unit) => True) (fun _ t => MW D h0 h1 h2 cL cI (vp_updL S (ix w) (wd h9 l9 + fdv n9.toInt64)) (upd N (ix w) (fmd n9.toInt64)) t.heap) (fr [h1, h2] sz)) 0 0 (fr [h1, h2] sz) := by
  refine sd_open (by decide) (Nat.le_of_ble_eq_true rfl) ?_
  intro p e s m below meth c ls hx hb hr hlocks hml hin hown hts hl hsz hK hZ hO hX
  subst hsz
  have hS : va_S (fr [h1, h2] s.heap.size) s.heap s.heap [] := va_S.rf
  have hl : lv_has ls 9 [(0, .ref h0), (1, .int w), (2, .int h9), (3, .int l9), (4, .int n9)] := hl
  have hX : MW D h0 h1 h2 cL cI S N s.heap := hX
  obtain ⟨a0, a1, a2⟩ := id hX
  have hk := (ix_eq w).2
  refine lv_iload_n hx hb dX3_set_0 rfl (lv_at hl 2 rfl) ?_
  refine lv_bipush (v := 8) hx hb dX3_set_1 (by decide) ?_
  refine lv_ishr hx hb dX3_set_3 ?_
  refine lv_i2l hx hb dX3_set_4 rfl ?_
  refine lv_lstore (lv' := [(5, .long ((h9 >>> (8 &&& 31)).toInt64)), (0, .ref h0), (1, .int w), (2, .int h9), (3, .int l9), (4, .int n9)]) hx hb dX3_set_5 hl (by decide) rfl (fun ls hl => ?_)
  refine lv_iload_n hx hb dX3_set_7 rfl (lv_at hl 4 rfl) ?_
  refine lv_i2l hx hb dX3_set_8 rfl ?_
  refine lv_lstore (lv' := [(7, .long l9.toInt64), (5, .long ((h9 >>> (8 &&& 31)).toInt64)), (0, .ref h0), (1, .int w), (2, .int h9), (3, .int l9), (4, .int n9)]) hx hb dX3_set_9 hl (by decide) rfl (fun ls hl => ?_)
  refine lv_lload hx hb dX3_set_11 (lv_at hl 0 rfl) ?_
  refine lv_lconst (v := 0) hx hb dX3_set_13 (by decide) ?_
  refine W.lcmp hx hb dX3_set_14 ?_
  refine lv_if_ge (tgt := 26) hx hb dX3_set_15 (by decide) (fun c1 => ?_) (fun c1 => ?_)
  · refine lv_aload_n hx hb dX3_set_26 rfl (lv_at hl 2 rfl) ?_
    refine lv_iload_n hx hb dX3_set_27 rfl (lv_at hl 3 rfl) ?_
    refine va_calli (sd_S (own := RX3) (nL := 9) (n := 1) (As := [.int w]) (rest := [.ref h0]) ⟨hx, hb, hml, hown, hts⟩ (met_place l D z w s.heap.size) q272 q273 q13 q274 rfl (by decide +kernel) rfl rfl ⟨Nat.le_of_ble_eq_true rfl, Nat.le_of_ble_eq_true rfl⟩ (hK.sub (tys' := []) [] rfl) hZ hO hS (fr_0 hS) trivial hl.1 rfl (Nat.le_of_ble_eq_true rfl) dX3_set_28 ⟨Nat.le_of_ble_eq_true rfl, Nat.le_of_ble_eq_true rfl⟩) hS (fun q _ h => (fr_0 hS) q h) (fr_0 hS) (fun r33 _ t H1 locs1 ht hvm hw hB hz1 hk1 hS => ?_)
    have hX := hX.stay0 hk1
    have a0 := a0.stay0 hk1
    have hw : nI (ix w) = r33 := Eq.symm hw
    subst hw
    clear hvm hB
    refine lv_lload hx hb dX3_set_31 (lv_at hl 1 rfl) ?_
    refine lv_ldc2 (v := 4294967296) hx hb hown (hts _ q271) dX3_set_33 ?_
    refine lv_lmul hx hb dX3_set_36 ?_
    refine lv_lload hx hb dX3_set_37 (lv_at hl 0 rfl) ?_
    refine lv_ladd hx hb dX3_set_39 ?_
    refine lv_iload hx hb dX3_set_40 (lv_at hl 6 rfl) ?_
    refine lv_i2l hx hb dX3_set_42 rfl ?_
    rw [wd_m h9 l9 (wd_low_p c1)]
    refine va_callv (sd_V (own := RX3) (nL := 9) (n := 3) (As := [.int (nI (ix w)), .long (wd h9 l9), .long n9.toInt64]) (rest := []) ⟨hx, hb, hml, hown, hts⟩ (met_store l D z h0 h1 h2 cL cI S N (ix w) (wd h9 l9) n9.toInt64 H1.size hk) q275 q277 qs3 q13 q278 rfl (by decide +kernel) rfl rfl ⟨Nat.le_of_ble_eq_true rfl, Nat.le_of_ble_eq_true rfl⟩ (md_recv hK a0) hK hZ hO hS (fr_call hS (fun q h => Or.inl h)) hX hl.1 rfl (Nat.le_of_ble_eq_true rfl) dX3_set_43 ⟨Nat.le_of_ble_eq_true rfl, Nat.le_of_ble_eq_true rfl⟩) hS (fun q _ h => (fr_call hS (fun q h => Or.inl h)) q h) (fr_call hS (fun q h => Or.inl h)) (fun _ t H2 locs1 ht hvm hw hB hz1 hk1 hS => ?_)
    have hB : MW D h0 h1 h2 cL cI (vp_updL S (ix w) (wd h9 l9 + fdv (n9.toInt64))) (upd N (ix w) (fmd (n9.toInt64))) H2 := by rw [ht] at hB; exact hB
    exact W.vret hx hb hr (fun t ht hW => ⟨⟨(), rfl, trivial, by try dsimp only; rw [ht]; exact hB⟩, hS.F ht⟩) hS.2.2 dX3_set_46
  · refine lv_lload hx hb dX3_set_18 (lv_at hl 0 rfl) ?_
    refine lv_ldc2 (v := 4294967296) hx hb hown (hts _ q271) dX3_set_20 ?_
    refine lv_ladd hx hb dX3_set_23 ?_
    refine lv_lstore (lv' := [(7, .long (l9.toInt64 + 4294967296)), (5, .long ((h9 >>> (8 &&& 31)).toInt64)), (0, .ref h0), (1, .int w), (2, .int h9), (3, .int l9), (4, .int n9)]) hx hb dX3_set_24 hl (by decide) rfl (fun ls hl => ?_)
    refine lv_aload_n hx hb dX3_set_26 rfl (lv_at hl 2 rfl) ?_
    refine lv_iload_n hx hb dX3_set_27 rfl (lv_at hl 3 rfl) ?_
    refine va_calli (sd_S (own := RX3) (nL := 9) (n := 1) (As := [.int w]) (rest := [.ref h0]) ⟨hx, hb, hml, hown, hts⟩ (met_place l D z w s.heap.size) q272 q273 q13 q274 rfl (by decide +kernel) rfl rfl ⟨Nat.le_of_ble_eq_true rfl, Nat.le_of_ble_eq_true rfl⟩ (hK.sub (tys' := []) [] rfl) hZ hO hS (fr_0 hS) trivial hl.1 rfl (Nat.le_of_ble_eq_true rfl) dX3_set_28 ⟨Nat.le_of_ble_eq_true rfl, Nat.le_of_ble_eq_true rfl⟩) hS (fun q _ h => (fr_0 hS) q h) (fr_0 hS) (fun r34 _ t H1 locs1 ht hvm hw hB hz1 hk1 hS => ?_)
    have hX := hX.stay0 hk1
    have a0 := a0.stay0 hk1
    have hw : nI (ix w) = r34 := Eq.symm hw
    subst hw
    clear hvm hB
    refine lv_lload hx hb dX3_set_31 (lv_at hl 1 rfl) ?_
    refine lv_ldc2 (v := 4294967296) hx hb hown (hts _ q271) dX3_set_33 ?_
    refine lv_lmul hx hb dX3_set_36 ?_
    refine lv_lload hx hb dX3_set_37 (lv_at hl 0 rfl) ?_
    refine lv_ladd hx hb dX3_set_39 ?_
    refine lv_iload hx hb dX3_set_40 (lv_at hl 6 rfl) ?_
    refine lv_i2l hx hb dX3_set_42 rfl ?_
    rw [wd_m h9 l9 (wd_low_n c1)]
    refine va_callv (sd_V (own := RX3) (nL := 9) (n := 3) (As := [.int (nI (ix w)), .long (wd h9 l9), .long n9.toInt64]) (rest := []) ⟨hx, hb, hml, hown, hts⟩ (met_store l D z h0 h1 h2 cL cI S N (ix w) (wd h9 l9) n9.toInt64 H1.size hk) q275 q277 qs3 q13 q278 rfl (by decide +kernel) rfl rfl ⟨Nat.le_of_ble_eq_true rfl, Nat.le_of_ble_eq_true rfl⟩ (md_recv hK a0) hK hZ hO hS (fr_call hS (fun q h => Or.inl h)) hX hl.1 rfl (Nat.le_of_ble_eq_true rfl) dX3_set_43 ⟨Nat.le_of_ble_eq_true rfl, Nat.le_of_ble_eq_true rfl⟩) hS (fun q _ h => (fr_call hS (fun q h => Or.inl h)) q h) (fr_call hS (fun q h => Or.inl h)) (fun _ t H2 locs1 ht hvm hw hB hz1 hk1 hS => ?_)
    have hB : MW D h0 h1 h2 cL cI (vp_updL S (ix w) (wd h9 l9 + fdv (n9.toInt64))) (upd N (ix w) (fmd (n9.toInt64))) H2 := by rw [ht] at hB; exact hB
    exact W.vret hx hb hr (fun t ht hW => ⟨⟨(), rfl, trivial, by try dsimp only; rw [ht]; exact hB⟩, hS.F ht⟩) hS.2.2 dX3_set_46
set_option maxHeartbeats 4000000 in
theorem met_mwhole (l : Launch) (D : va_G) (z : Nat) (h0 h1 h2 : Nat) (cL cI : ClassId) (S : Nat → Int64) (N : Nat → Int32) (w : Int32) (sz : Nat) : Met l yX3_whole (ws_ yX3_whole cX3_whole 2 (some .long)) ({ frames := 1, cells := 0, slots := 0, locals := 20 }) (va_Pc [.ref h0, .int w] (sdPre D z [(cL, .long), (cI, .int)] [] sz (fun H => MW D h0 h1 h2 cL cI S N H))) (va_Ql (fun (r : Int64) (_ : Unit) => r = S (ix w)) (fun _ _ => True) (fr [] sz)) 0 0 (fr [] sz) := by
  refine sd_open (by decide) (Nat.le_of_ble_eq_true rfl) ?_
  intro p e s m below meth c ls hx hb hr hlocks hml hin hown hts hl hsz hK hZ hO hX
  subst hsz
  have hS : va_S (fr [] s.heap.size) s.heap s.heap [] := va_S.rf
  have hl : lv_has ls 2 [(0, .ref h0), (1, .int w)] := hl
  obtain ⟨a0, a1, a2⟩ : MW D h0 h1 h2 cL cI S N s.heap := hX
  have hk := (ix_eq w).2
  refine lv_aload_n hx hb dX3_whole_0 rfl (lv_at hl 0 rfl) ?_
  refine va_get (D := D) (ci := 2) (fs := [.ref h1, .ref h2]) (v := .ref h1) (C := RX3) (T := TX3) (N := 2) hx hb hts in_X3 hown hK (P1 a0) 0 rfl rfl 0 (by decide) (hts _ q258) (fun _ h9 => h9) rfl dX3_whole_1 ?_
  refine lv_iload_n hx hb dX3_whole_4 rfl (lv_at hl 1 rfl) ?_
  refine va_calli (sd_S (own := RX3) (nL := 2) (n := 1) (As := [.int w]) (rest := [.ref h1]) ⟨hx, hb, hml, hown, hts⟩ (met_place l D z w s.heap.size) q272 q273 q13 q274 rfl (by decide +kernel) rfl rfl ⟨Nat.le_of_ble_eq_true rfl, Nat.le_of_ble_eq_true rfl⟩ (hK.sub (tys' := []) [] rfl) hZ hO hS (fr_0 hS) trivial hl.1 rfl (Nat.le_of_ble_eq_true rfl) dX3_whole_5 ⟨Nat.le_of_ble_eq_true rfl, Nat.le_of_ble_eq_true rfl⟩) hS (fun q _ h => (fr_0 hS) q h) (fr_0 hS) (fun r35 _ t H1 locs1 ht hvm hw hB hz1 hk1 hS => ?_)
  have a0 := a0.stay0 hk1
  have a1 := a1.stay0 hk1
  have a2 := a2.stay0 hk1
  have hw : nI (ix w) = r35 := Eq.symm hw
  subst hw
  clear hvm hB
  refine sd_lald hx hb hK 0 a1 rfl rfl hk dX3_whole_8 ?_
  exact W.lret hx hb hr (fun t ht hW => ⟨⟨_, (), rfl, rfl, trivial⟩, hS.F ht⟩) hS.2.2 dX3_whole_9
set_option maxHeartbeats 4000000 in
theorem met_mdays (l : Launch) (D : va_G) (z : Nat) (h0 h1 h2 : Nat) (cL cI : ClassId) (S : Nat → Int64) (N : Nat → Int32) (w : Int32) (sz : Nat) : Met l yX3_days (ws_ yX3_days cX3_days 2 (some .long)) ({ frames := 1, cells := 0, slots := 0, locals := 20 }) (va_Pc [.ref h0, .int w] (sdPre D z [(cL, .long), (cI, .int)] [] sz (fun H => MW D h0 h1 h2 cL cI S N H))) (va_Ql (fun (r : Int64) (_ : Unit) => r = S (ix w) / 86400) (fun _ _ => True) (fr [] sz)) 0 0 (fr [] sz) := by
  refine sd_open (by decide) (Nat.le_of_ble_eq_true rfl) ?_
  intro p e s m below meth c ls hx hb hr hlocks hml hin hown hts hl hsz hK hZ hO hX
  subst hsz
  have hS : va_S (fr [] s.heap.size) s.heap s.heap [] := va_S.rf
  have hl : lv_has ls 2 [(0, .ref h0), (1, .int w)] := hl
  obtain ⟨a0, a1, a2⟩ : MW D h0 h1 h2 cL cI S N s.heap := hX
  have hk := (ix_eq w).2
  refine lv_aload_n hx hb dX3_days_0 rfl (lv_at hl 0 rfl) ?_
  refine va_get (D := D) (ci := 2) (fs := [.ref h1, .ref h2]) (v := .ref h1) (C := RX3) (T := TX3) (N := 2) hx hb hts in_X3 hown hK (P1 a0) 0 rfl rfl 0 (by decide) (hts _ q258) (fun _ h9 => h9) rfl dX3_days_1 ?_
  refine lv_iload_n hx hb dX3_days_4 rfl (lv_at hl 1 rfl) ?_
  refine va_calli (sd_S (own := RX3) (nL := 2) (n := 1) (As := [.int w]) (rest := [.ref h1]) ⟨hx, hb, hml, hown, hts⟩ (met_place l D z w s.heap.size) q272 q273 q13 q274 rfl (by decide +kernel) rfl rfl ⟨Nat.le_of_ble_eq_true rfl, Nat.le_of_ble_eq_true rfl⟩ (hK.sub (tys' := []) [] rfl) hZ hO hS (fr_0 hS) trivial hl.1 rfl (Nat.le_of_ble_eq_true rfl) dX3_days_5 ⟨Nat.le_of_ble_eq_true rfl, Nat.le_of_ble_eq_true rfl⟩) hS (fun q _ h => (fr_0 hS) q h) (fr_0 hS) (fun r36 _ t H1 locs1 ht hvm hw hB hz1 hk1 hS => ?_)
  have a0 := a0.stay0 hk1
  have a1 := a1.stay0 hk1
  have a2 := a2.stay0 hk1
  have hw : nI (ix w) = r36 := Eq.symm hw
  subst hw
  clear hvm hB
  refine sd_lald hx hb hK 0 a1 rfl rfl hk dX3_days_8 ?_
  refine lv_ldc2 (v := 86400) hx hb hown (hts _ q337) dX3_days_9 ?_
  refine lv_ldiv hx hb dX3_days_12 (by decide) ?_
  exact W.lret hx hb hr (fun t ht hW => ⟨⟨_, (), rfl, rfl, trivial⟩, hS.F ht⟩) hS.2.2 dX3_days_13
set_option maxHeartbeats 4000000 in
theorem met_mminutes (l : Launch) (D : va_G) (z : Nat) (h0 h1 h2 : Nat) (cL cI : ClassId) (S : Nat → Int64) (N : Nat → Int32) (w : Int32) (sz : Nat) : Met l yX3_minutes (ws_ yX3_minutes cX3_minutes 2 (some .long)) ({ frames := 1, cells := 0, slots := 0, locals := 20 }) (va_Pc [.ref h0, .int w] (sdPre D z [(cL, .long), (cI, .int)] [] sz (fun H => MW D h0 h1 h2 cL cI S N H))) (va_Ql (fun (r : Int64) (_ : Unit) => r = S (ix w) / 60) (fun _ _ => True) (fr [] sz)) 0 0 (fr [] sz) := by
  refine sd_open (by decide) (Nat.le_of_ble_eq_true rfl) ?_
  intro p e s m below meth c ls hx hb hr hlocks hml hin hown hts hl hsz hK hZ hO hX
  subst hsz
  have hS : va_S (fr [] s.heap.size) s.heap s.heap [] := va_S.rf
  have hl : lv_has ls 2 [(0, .ref h0), (1, .int w)] := hl
  obtain ⟨a0, a1, a2⟩ : MW D h0 h1 h2 cL cI S N s.heap := hX
  have hk := (ix_eq w).2
  refine lv_aload_n hx hb dX3_minutes_0 rfl (lv_at hl 0 rfl) ?_
  refine va_get (D := D) (ci := 2) (fs := [.ref h1, .ref h2]) (v := .ref h1) (C := RX3) (T := TX3) (N := 2) hx hb hts in_X3 hown hK (P1 a0) 0 rfl rfl 0 (by decide) (hts _ q258) (fun _ h9 => h9) rfl dX3_minutes_1 ?_
  refine lv_iload_n hx hb dX3_minutes_4 rfl (lv_at hl 1 rfl) ?_
  refine va_calli (sd_S (own := RX3) (nL := 2) (n := 1) (As := [.int w]) (rest := [.ref h1]) ⟨hx, hb, hml, hown, hts⟩ (met_place l D z w s.heap.size) q272 q273 q13 q274 rfl (by decide +kernel) rfl rfl ⟨Nat.le_of_ble_eq_true rfl, Nat.le_of_ble_eq_true rfl⟩ (hK.sub (tys' := []) [] rfl) hZ hO hS (fr_0 hS) trivial hl.1 rfl (Nat.le_of_ble_eq_true rfl) dX3_minutes_5 ⟨Nat.le_of_ble_eq_true rfl, Nat.le_of_ble_eq_true rfl⟩) hS (fun q _ h => (fr_0 hS) q h) (fr_0 hS) (fun r37 _ t H1 locs1 ht hvm hw hB hz1 hk1 hS => ?_)
  have a0 := a0.stay0 hk1
  have a1 := a1.stay0 hk1
  have a2 := a2.stay0 hk1
  have hw : nI (ix w) = r37 := Eq.symm hw
  subst hw
  clear hvm hB
  refine sd_lald hx hb hK 0 a1 rfl rfl hk dX3_minutes_8 ?_
  refine lv_ldc2 (v := 60) hx hb hown (hts _ q342) dX3_minutes_9 ?_
  refine lv_ldiv hx hb dX3_minutes_12 (by decide) ?_
  exact W.lret hx hb hr (fun t ht hW => ⟨⟨_, (), rfl, rfl, trivial⟩, hS.F ht⟩) hS.2.2 dX3_minutes_13
set_option maxHeartbeats 4000000 in
theorem met_mnano (l : Launch) (D : va_G) (z : Nat) (h0 h1 h2 : Nat) (cL cI : ClassId) (S : Nat → Int64) (N : Nat → Int32) (w : Int32) (sz : Nat) : Met l yX3_nano (ws_ yX3_nano cX3_nano 2 (some .int)) ({ frames := 1, cells := 0, slots := 0, locals := 20 }) (va_Pc [.ref h0, .int w] (sdPre D z [(cL, .long), (cI, .int)] [] sz (fun H => MW D h0 h1 h2 cL cI S N H))) (va_Qi (fun (r : Int32) (_ : Unit) => r = N (ix w)) (fun _ _ => True) (fr [] sz)) 0 0 (fr [] sz) := by
  refine sd_open (by decide) (Nat.le_of_ble_eq_true rfl) ?_
  intro p e s m below meth c ls hx hb hr hlocks hml hin hown hts hl hsz hK hZ hO hX
  subst hsz
  have hS : va_S (fr [] s.heap.size) s.heap s.heap [] := va_S.rf
  have hl : lv_has ls 2 [(0, .ref h0), (1, .int w)] := hl
  obtain ⟨a0, a1, a2⟩ : MW D h0 h1 h2 cL cI S N s.heap := hX
  have hk := (ix_eq w).2
  refine lv_aload_n hx hb dX3_nano_0 rfl (lv_at hl 0 rfl) ?_
  refine va_get (D := D) (ci := 2) (fs := [.ref h1, .ref h2]) (v := .ref h2) (C := RX3) (T := TX3) (N := 2) hx hb hts in_X3 hown hK (P1 a0) 0 rfl rfl 1 (by decide) (hts _ q259) (fun _ h9 => h9) rfl dX3_nano_1 ?_
  refine lv_iload_n hx hb dX3_nano_4 rfl (lv_at hl 1 rfl) ?_
  refine va_calli (sd_S (own := RX3) (nL := 2) (n := 1) (As := [.int w]) (rest := [.ref h2]) ⟨hx, hb, hml, hown, hts⟩ (met_place l D z w s.heap.size) q272 q273 q13 q274 rfl (by decide +kernel) rfl rfl ⟨Nat.le_of_ble_eq_true rfl, Nat.le_of_ble_eq_true rfl⟩ (hK.sub (tys' := []) [] rfl) hZ hO hS (fr_0 hS) trivial hl.1 rfl (Nat.le_of_ble_eq_true rfl) dX3_nano_5 ⟨Nat.le_of_ble_eq_true rfl, Nat.le_of_ble_eq_true rfl⟩) hS (fun q _ h => (fr_0 hS) q h) (fr_0 hS) (fun r38 _ t H1 locs1 ht hvm hw hB hz1 hk1 hS => ?_)
  have a0 := a0.stay0 hk1
  have a1 := a1.stay0 hk1
  have a2 := a2.stay0 hk1
  have hw : nI (ix w) = r38 := Eq.symm hw
  subst hw
  clear hvm hB
  refine sd_iald hx hb hK 1 a2 rfl rfl hk dX3_nano_8 ?_
  exact W.iret hx hb hr (fun t ht hW => ⟨⟨_, (), rfl, rfl, trivial⟩, hS.F ht⟩) hS.2.2 dX3_nano_9
set_option maxHeartbeats 4000000 in
theorem met_mbelow (l : Launch) (D : va_G) (z : Nat) (h0 h1 h2 : Nat) (cL cI : ClassId) (S : Nat → Int64) (N : Nat → Int32) (w : Int32) (sz : Nat) : Met l yX3_below (ws_ yX3_below cX3_below 2 (some .boolean)) ({ frames := 1, cells := 0, slots := 0, locals := 20 }) (va_Pc [.ref h0, .int w] (sdPre D z [(cL, .long), (cI, .int)] [] sz (fun H => MW D h0 h1 h2 cL cI S N H))) (va_Qi (fun (r : Int32) (_ : Unit) => r = ngv (S (ix w))) (fun _ _ => True) (fr [] sz)) 0 0 (fr [] sz) := by
  refine sd_open (by decide) (Nat.le_of_ble_eq_true rfl) ?_
  intro p e s m below meth c ls hx hb hr hlocks hml hin hown hts hl hsz hK hZ hO hX
  subst hsz
  have hS : va_S (fr [] s.heap.size) s.heap s.heap [] := va_S.rf
  have hl : lv_has ls 2 [(0, .ref h0), (1, .int w)] := hl
  obtain ⟨a0, a1, a2⟩ : MW D h0 h1 h2 cL cI S N s.heap := hX
  have hk := (ix_eq w).2
  refine lv_aload_n hx hb dX3_below_0 rfl (lv_at hl 0 rfl) ?_
  refine va_get (D := D) (ci := 2) (fs := [.ref h1, .ref h2]) (v := .ref h1) (C := RX3) (T := TX3) (N := 2) hx hb hts in_X3 hown hK (P1 a0) 0 rfl rfl 0 (by decide) (hts _ q258) (fun _ h9 => h9) rfl dX3_below_1 ?_
  refine lv_iload_n hx hb dX3_below_4 rfl (lv_at hl 1 rfl) ?_
  refine va_calli (sd_S (own := RX3) (nL := 2) (n := 1) (As := [.int w]) (rest := [.ref h1]) ⟨hx, hb, hml, hown, hts⟩ (met_place l D z w s.heap.size) q272 q273 q13 q274 rfl (by decide +kernel) rfl rfl ⟨Nat.le_of_ble_eq_true rfl, Nat.le_of_ble_eq_true rfl⟩ (hK.sub (tys' := []) [] rfl) hZ hO hS (fr_0 hS) trivial hl.1 rfl (Nat.le_of_ble_eq_true rfl) dX3_below_5 ⟨Nat.le_of_ble_eq_true rfl, Nat.le_of_ble_eq_true rfl⟩) hS (fun q _ h => (fr_0 hS) q h) (fr_0 hS) (fun r39 _ t H1 locs1 ht hvm hw hB hz1 hk1 hS => ?_)
  have a0 := a0.stay0 hk1
  have a1 := a1.stay0 hk1
  have a2 := a2.stay0 hk1
  have hw : nI (ix w) = r39 := Eq.symm hw
  subst hw
  clear hvm hB
  refine sd_lald hx hb hK 0 a1 rfl rfl hk dX3_below_8 ?_
  refine lv_lconst (v := 0) hx hb dX3_below_9 (by decide) ?_
  refine W.lcmp hx hb dX3_below_10 ?_
  refine lv_if_ge (tgt := 18) hx hb dX3_below_11 (by decide) (fun c1 => ?_) (fun c1 => ?_)
  · refine lv_iconst (v := 0) hx hb dX3_below_18 (by decide) ?_
    exact W.zret hx hb hr rfl (fun t ht hW => ⟨⟨_, (), rfl, ngv_n c1, trivial⟩, hS.F ht⟩) hS.2.2 dX3_below_19
  · refine lv_iconst (v := 1) hx hb dX3_below_14 (by decide) ?_
    refine lv_goto (tgt := 19) hx hb dX3_below_15 (by decide) ?_
    exact W.zret hx hb hr rfl (fun t ht hW => ⟨⟨_, (), rfl, ngv_y c1, trivial⟩, hS.F ht⟩) hS.2.2 dX3_below_19
set_option maxHeartbeats 4000000 in
theorem met_mnought (l : Launch) (D : va_G) (z : Nat) (h0 h1 h2 : Nat) (cL cI : ClassId) (S : Nat → Int64) (N : Nat → Int32) (w : Int32) (sz : Nat) : Met l yX3_nought (ws_ yX3_nought cX3_nought 3 (some .boolean)) ({ frames := 1, cells := 0, slots := 0, locals := 20 }) (va_Pc [.ref h0, .int w] (sdPre D z [(cL, .long), (cI, .int)] [] sz (fun H => MW D h0 h1 h2 cL cI S N H))) (va_Qi (fun (r : Int32) (_ : Unit) => r = isz (S (ix w)) (N (ix w))) (fun _ _ => True) (fr [] sz)) 0 0 (fr [] sz) := by
  refine sd_open (by decide) (Nat.le_of_ble_eq_true rfl) ?_
  intro p e s m below meth c ls hx hb hr hlocks hml hin hown hts hl hsz hK hZ hO hX
  subst hsz
  have hS : va_S (fr [] s.heap.size) s.heap s.heap [] := va_S.rf
  have hl : lv_has ls 3 [(0, .ref h0), (1, .int w)] := hl
  obtain ⟨a0, a1, a2⟩ : MW D h0 h1 h2 cL cI S N s.heap := hX
  have hk := (ix_eq w).2
  refine lv_iload_n hx hb dX3_nought_0 rfl (lv_at hl 1 rfl) ?_
  refine va_calli (sd_S (own := RX3) (nL := 3) (n := 1) (As := [.int w]) (rest := []) ⟨hx, hb, hml, hown, hts⟩ (met_place l D z w s.heap.size) q272 q273 q13 q274 rfl (by decide +kernel) rfl rfl ⟨Nat.le_of_ble_eq_true rfl, Nat.le_of_ble_eq_true rfl⟩ (hK.sub (tys' := []) [] rfl) hZ hO hS (fr_0 hS) trivial hl.1 rfl (Nat.le_of_ble_eq_true rfl) dX3_nought_1 ⟨Nat.le_of_ble_eq_true rfl, Nat.le_of_ble_eq_true rfl⟩) hS (fun q _ h => (fr_0 hS) q h) (fr_0 hS) (fun r40 _ t H1 locs1 ht hvm hw hB hz1 hk1 hS => ?_)
  have a0 := a0.stay0 hk1
  have a1 := a1.stay0 hk1
  have a2 := a2.stay0 hk1
  have hw : nI (ix w) = r40 := Eq.symm hw
  subst hw
  clear hvm hB
  refine lv_istore_n (lv' := [(2, .int (nI (ix w))), (0, .ref h0), (1, .int w)]) hx hb dX3_nought_4 rfl hl (by decide) rfl (fun ls hl => ?_)
  refine lv_aload_n hx hb dX3_nought_5 rfl (lv_at hl 1 rfl) ?_
  refine va_get (D := D) (ci := 2) (fs := [.ref h1, .ref h2]) (v := .ref h1) (C := RX3) (T := TX3) (N := 2) hx hb hts in_X3 hown hK (P1 a0) 0 rfl rfl 0 (by decide) (hts _ q258) (fun _ h9 => h9) rfl dX3_nought_6 ?_
  refine lv_iload_n hx hb dX3_nought_9 rfl (lv_at hl 0 rfl) ?_
  refine sd_lald hx hb hK 0 a1 rfl rfl hk dX3_nought_10 ?_
  refine lv_lconst (v := 0) hx hb dX3_nought_11 (by decide) ?_
  refine W.lcmp hx hb dX3_nought_12 ?_
  refine lv_if_ne (tgt := 29) hx hb dX3_nought_13 (by decide) (fun c1 => ?_) (fun c1 => ?_)
  · refine lv_iconst (v := 0) hx hb dX3_nought_29 (by decide) ?_
    exact W.zret hx hb hr rfl (fun t ht hW => ⟨⟨_, (), rfl, isz_n1 c1, trivial⟩, hS.F ht⟩) hS.2.2 dX3_nought_30
  · refine lv_aload_n hx hb dX3_nought_16 rfl (lv_at hl 1 rfl) ?_
    refine va_get (D := D) (ci := 2) (fs := [.ref h1, .ref h2]) (v := .ref h2) (C := RX3) (T := TX3) (N := 2) hx hb hts in_X3 hown hK (P1 a0) 0 rfl rfl 1 (by decide) (hts _ q259) (fun _ h9 => h9) rfl dX3_nought_17 ?_
    refine lv_iload_n hx hb dX3_nought_20 rfl (lv_at hl 0 rfl) ?_
    refine sd_iald hx hb hK 1 a2 rfl rfl hk dX3_nought_21 ?_
    refine lv_if_ne (tgt := 29) hx hb dX3_nought_22 (by decide) (fun c2 => ?_) (fun c2 => ?_)
    · refine lv_iconst (v := 0) hx hb dX3_nought_29 (by decide) ?_
      exact W.zret hx hb hr rfl (fun t ht hW => ⟨⟨_, (), rfl, isz_n2 c2, trivial⟩, hS.F ht⟩) hS.2.2 dX3_nought_30
    · refine lv_iconst (v := 1) hx hb dX3_nought_25 (by decide) ?_
      refine lv_goto (tgt := 30) hx hb dX3_nought_26 (by decide) ?_
      exact W.zret hx hb hr rfl (fun t ht hW => ⟨⟨_, (), rfl, isz_y2 c1 c2, trivial⟩, hS.F ht⟩) hS.2.2 dX3_nought_30
set_option maxHeartbeats 4000000 in
theorem met_morder (l : Launch) (D : va_G) (z : Nat) (h0 h1 h2 : Nat) (cL cI : ClassId) (S : Nat → Int64) (N : Nat → Int32) (sz : Nat) : Met l yX3_order (ws_ yX3_order cX3_order 1 (some .int)) ({ frames := 0, cells := 0, slots := 0, locals := 0 }) (va_Pc [.ref h0] (sdPre D z [(cL, .long), (cI, .int)] [] sz (fun H => MW D h0 h1 h2 cL cI S N H))) (va_Qi (fun (r : Int32) (_ : Unit) => r = od (S 0) (N 0) (S 1) (N 1)) (fun _ _ => True) (fr [] sz)) 0 0 (fr [] sz) := by
  refine sd_open (by decide) (Nat.le_of_ble_eq_true rfl) ?_
  intro p e s m below meth c ls hx hb hr hlocks hml hin hown hts hl hsz hK hZ hO hX
  subst hsz
  have hS : va_S (fr [] s.heap.size) s.heap s.heap [] := va_S.rf
  have hl : lv_has ls 1 [(0, .ref h0)] := hl
  obtain ⟨a0, a1, a2⟩ : MW D h0 h1 h2 cL cI S N s.heap := hX
  refine lv_aload_n hx hb dX3_order_0 rfl (lv_at hl 0 rfl) ?_
  refine va_get (D := D) (ci := 2) (fs := [.ref h1, .ref h2]) (v := .ref h1) (C := RX3) (T := TX3) (N := 2) hx hb hts in_X3 hown hK (P1 a0) 0 rfl rfl 0 (by decide) (hts _ q258) (fun _ h9 => h9) rfl dX3_order_1 ?_
  refine lv_iconst (v := 0) hx hb dX3_order_4 (by decide) ?_
  refine sd_lald hx hb hK 0 a1 rfl nI_zero (by omega) dX3_order_5 ?_
  refine lv_aload_n hx hb dX3_order_6 rfl (lv_at hl 0 rfl) ?_
  refine va_get (D := D) (ci := 2) (fs := [.ref h1, .ref h2]) (v := .ref h1) (C := RX3) (T := TX3) (N := 2) hx hb hts in_X3 hown hK (P1 a0) 0 rfl rfl 0 (by decide) (hts _ q258) (fun _ h9 => h9) rfl dX3_order_7 ?_
  refine lv_iconst (v := 1) hx hb dX3_order_10 (by decide) ?_
  refine sd_lald hx hb hK 0 a1 rfl nI_one (by omega) dX3_order_11 ?_
  refine W.lcmp hx hb dX3_order_12 ?_
  refine lv_if_ge (tgt := 18) hx hb dX3_order_13 (by decide) (fun c1 => ?_) (fun c1 => ?_)
  · refine lv_aload_n hx hb dX3_order_18 rfl (lv_at hl 0 rfl) ?_
    refine va_get (D := D) (ci := 2) (fs := [.ref h1, .ref h2]) (v := .ref h1) (C := RX3) (T := TX3) (N := 2) hx hb hts in_X3 hown hK (P1 a0) 0 rfl rfl 0 (by decide) (hts _ q258) (fun _ h9 => h9) rfl dX3_order_19 ?_
    refine lv_iconst (v := 0) hx hb dX3_order_22 (by decide) ?_
    refine sd_lald hx hb hK 0 a1 rfl nI_zero (by omega) dX3_order_23 ?_
    refine lv_aload_n hx hb dX3_order_24 rfl (lv_at hl 0 rfl) ?_
    refine va_get (D := D) (ci := 2) (fs := [.ref h1, .ref h2]) (v := .ref h1) (C := RX3) (T := TX3) (N := 2) hx hb hts in_X3 hown hK (P1 a0) 0 rfl rfl 0 (by decide) (hts _ q258) (fun _ h9 => h9) rfl dX3_order_25 ?_
    refine lv_iconst (v := 1) hx hb dX3_order_28 (by decide) ?_
    refine sd_lald hx hb hK 0 a1 rfl nI_one (by omega) dX3_order_29 ?_
    refine W.lcmp hx hb dX3_order_30 ?_
    refine lv_if_le (tgt := 36) hx hb dX3_order_31 (by decide) (fun c2 => ?_) (fun c2 => ?_)
    · refine lv_aload_n hx hb dX3_order_36 rfl (lv_at hl 0 rfl) ?_
      refine va_get (D := D) (ci := 2) (fs := [.ref h1, .ref h2]) (v := .ref h2) (C := RX3) (T := TX3) (N := 2) hx hb hts in_X3 hown hK (P1 a0) 0 rfl rfl 1 (by decide) (hts _ q259) (fun _ h9 => h9) rfl dX3_order_37 ?_
      refine lv_iconst (v := 0) hx hb dX3_order_40 (by decide) ?_
      refine sd_iald hx hb hK 1 a2 rfl nI_zero (by omega) dX3_order_41 ?_
      refine lv_aload_n hx hb dX3_order_42 rfl (lv_at hl 0 rfl) ?_
      refine va_get (D := D) (ci := 2) (fs := [.ref h1, .ref h2]) (v := .ref h2) (C := RX3) (T := TX3) (N := 2) hx hb hts in_X3 hown hK (P1 a0) 0 rfl rfl 1 (by decide) (hts _ q259) (fun _ h9 => h9) rfl dX3_order_43 ?_
      refine lv_iconst (v := 1) hx hb dX3_order_46 (by decide) ?_
      refine sd_iald hx hb hK 1 a2 rfl nI_one (by omega) dX3_order_47 ?_
      refine lv_icmp_ge (tgt := 53) hx hb dX3_order_48 (by decide) (fun c3 => ?_) (fun c3 => ?_)
      · refine lv_aload_n hx hb dX3_order_53 rfl (lv_at hl 0 rfl) ?_
        refine va_get (D := D) (ci := 2) (fs := [.ref h1, .ref h2]) (v := .ref h2) (C := RX3) (T := TX3) (N := 2) hx hb hts in_X3 hown hK (P1 a0) 0 rfl rfl 1 (by decide) (hts _ q259) (fun _ h9 => h9) rfl dX3_order_54 ?_
        refine lv_iconst (v := 0) hx hb dX3_order_57 (by decide) ?_
        refine sd_iald hx hb hK 1 a2 rfl nI_zero (by omega) dX3_order_58 ?_
        refine lv_aload_n hx hb dX3_order_59 rfl (lv_at hl 0 rfl) ?_
        refine va_get (D := D) (ci := 2) (fs := [.ref h1, .ref h2]) (v := .ref h2) (C := RX3) (T := TX3) (N := 2) hx hb hts in_X3 hown hK (P1 a0) 0 rfl rfl 1 (by decide) (hts _ q259) (fun _ h9 => h9) rfl dX3_order_60 ?_
        refine lv_iconst (v := 1) hx hb dX3_order_63 (by decide) ?_
        refine sd_iald hx hb hK 1 a2 rfl nI_one (by omega) dX3_order_64 ?_
        refine lv_icmp_le (tgt := 70) hx hb dX3_order_65 (by decide) (fun c4 => ?_) (fun c4 => ?_)
        · refine lv_iconst (v := 0) hx hb dX3_order_70 (by decide) ?_
          exact W.iret hx hb hr (fun t ht hW => ⟨⟨_, (), rfl, (od_eq c1 c2).2.2 c3 c4, trivial⟩, hS.F ht⟩) hS.2.2 dX3_order_71
        · refine lv_iconst (v := 1) hx hb dX3_order_68 (by decide) ?_
          exact W.iret hx hb hr (fun t ht hW => ⟨⟨_, (), rfl, (od_eq c1 c2).2.1 c3 c4, trivial⟩, hS.F ht⟩) hS.2.2 dX3_order_69
      · refine lv_iconst (v := (-1)) hx hb dX3_order_51 (by decide) ?_
        exact W.iret hx hb hr (fun t ht hW => ⟨⟨_, (), rfl, (od_eq c1 c2).1 c3, trivial⟩, hS.F ht⟩) hS.2.2 dX3_order_52
    · refine lv_iconst (v := 1) hx hb dX3_order_34 (by decide) ?_
      exact W.iret hx hb hr (fun t ht hW => ⟨⟨_, (), rfl, od_gt c1 c2, trivial⟩, hS.F ht⟩) hS.2.2 dX3_order_35
  · refine lv_iconst (v := (-1)) hx hb dX3_order_16 (by decide) ?_
    exact W.iret hx hb hr (fun t ht hW => ⟨⟨_, (), rfl, od_lt c1, trivial⟩, hS.F ht⟩) hS.2.2 dX3_order_17
set_option maxHeartbeats 4000000 in
theorem met_minit (l : Launch) (D : va_G) (z : Nat) (h0 : Nat) (sz : Nat) : Met l yX3_init (ws_ yX3_init cX3_init 1 none) ({ frames := 1, cells := 2, slots := 4, locals := 19 }) (va_Pc [.ref h0] (sdPre D z [] [h0] sz (fun H => va_at D vwCl (h0, .inr (2, [.null, .null])) H))) (va_Qv (fun (_ : Unit) => True) (fun _ t => ∃ (h1 h2 : Nat) (cL cI : ClassId), sz ≤ h1 ∧ sz ≤ h2 ∧ va_K D vwCl [(cL, .long), (cI, .int)] t ∧ MW D h0 h1 h2 cL cI (fun _ => 0) (fun _ => 0) t.heap) (fr [h0] sz)) 2 4 (fr [h0] sz) := by
  refine sd_open (by decide) (Nat.le_of_ble_eq_true rfl) ?_
  intro p e s m below meth c ls hx hb hr hlocks hml hin hown hts hl hsz hK hZ hO hX
  subst hsz
  have hS : va_S (fr [h0] s.heap.size) s.heap s.heap [] := va_S.rf
  have hl : lv_has ls 1 [(0, .ref h0)] := hl
  have a0 : va_at D vwCl (h0, .inr (2, [.null, .null])) s.heap := hX
  refine lv_aload_n hx hb dX3_init_0 rfl (lv_at hl 0 rfl) ?_
  refine W.objInit hx hb hown (hts _ q257) (hts _ q20) (hts _ q21) rfl (by rw [hml]; exact hl.1) rfl dX3_init_1 (Nat.le_of_ble_eq_true rfl) (Nat.le_of_ble_eq_true rfl) ?_
  refine W.eq (g2 := F0 m 4 ls []) rfl ?_
  refine lv_aload_n hx hb dX3_init_4 rfl (lv_at hl 0 rfl) ?_
  refine lv_iconst (v := 2) hx hb dX3_init_5 (by decide) ?_
  refine sd_newa (D := D) hx hb (.long) (hts _ q265) (ty := .long) rfl (Or.inl rfl) hS (a0 := (2, .inr (.inl (fun _ => 0)))) (by decide +kernel) (fun cA => rfl) (Nat.le_of_ble_eq_true rfl) (Nat.le_of_ble_eq_true rfl) dX3_init_6 (fun h1 cL H1 hqh1 hzh1 hKh1 bh1 hk3 hS => ?_)
  have a0 := a0.born hk3
  have h01 : h0 ≠ h1 := by have := a0.lt; have z0 := hX.lt; omega
  refine sd_putF (C := RX3) (T := TX3) (ty := .array .long) hx hb hts in_X3 tyX3 tyX3_ok nmX3 hown hK a0 hS (Or.inl List.mem_cons_self) rfl 0 (by decide) q258 rfl hin rfl (by decide +kernel) rfl rfl (Nat.le_of_ble_eq_true rfl) dX3_init_8 (fun H2 locs1 a0 hk2 hS => ?_)
  have a0 : va_at D vwCl (h0, .inr (2, [.ref h1, .null])) H2 := a0
  have a1 := bh1.away hk2 (Ne.symm h01)
  refine lv_aload_n hx hb dX3_init_11 rfl (lv_at hl 0 rfl) ?_
  refine lv_iconst (v := 2) hx hb dX3_init_12 (by decide) ?_
  have z9 := hS.1
  refine sd_newa (D := D) hx hb (.int) (hts _ q266) (ty := .int) rfl (Or.inr rfl) hS (a0 := (2, .inl (fun _ => 0))) (by decide +kernel) (fun cA => rfl) (Nat.le_of_ble_eq_true rfl) (Nat.le_of_ble_eq_true rfl) dX3_init_13 (fun h2 cI H3 hqh2 hzh2 hKh2 bh2 hk3 hS => ?_)
  have a0 := a0.born hk3
  have a1 := a1.born hk3
  have h02 : h0 ≠ h2 := by have z0 := hX.lt; omega
  refine sd_putF (C := RX3) (T := TX3) (ty := .array .int) hx hb hts in_X3 tyX3 tyX3_ok nmX3 hown hK a0 hS (Or.inl List.mem_cons_self) rfl 1 (by decide) q259 rfl hin rfl (by decide +kernel) rfl rfl (Nat.le_of_ble_eq_true rfl) dX3_init_15 (fun H4 locs1 a0 hk2 hS => ?_)
  have a0 : va_at D vwCl (h0, .inr (2, [.ref h1, .ref h2])) H4 := a0
  have a1 := a1.away hk2 (Ne.symm h01)
  have a2 := bh2.away hk2 (Ne.symm h02)
  refine W.widen (k := 2) (n := 4) (Nat.le_of_ble_eq_true rfl) (Nat.le_of_ble_eq_true rfl) ?_
  exact W.vret hx hb hr (fun t ht hW => ⟨⟨(), rfl, trivial, ⟨h1, h2, cL, cI, by omega, by omega, va_K.moved hW.alike (hKh2 _ (hKh1 _ (hK.sub (tys' := []) [] rfl))), by rw [ht]; exact ⟨a0, a1, a2⟩⟩⟩, hS.F ht⟩) hS.2.2 dX3_init_18
end
section
/-! SPANDESK: contracts (printed by gen/contracts.py) -/
set_option maxRecDepth 100000
theorem du_00 {D : va_G} {a : Nat} {H : Heap} (h : va_at D vwCl (a, duE (0 + fdv 0) (fmd 0)) H) : va_at D vwCl (a, duE 0 0) H := by
  have e1 : (0 : Int64) + fdv 0 = 0 := by decide +kernel
  have e2 : fmd 0 = 0 := by decide +kernel
  rw [e1, e2] at h
  exact h
theorem pd_00 {D : va_G} {d0 d1 : Nat} {H : Heap} (h0 : va_at D vwCl (d0, duE 0 0) H) (h1 : va_at D vwCl (d1, duE 0 0) H) : PD D (va_up (va_up (fun _ => none) 0 (some d0)) 1 (some d1)) (fun _ => 0) (fun _ => 0) H := by
  intro i hi
  rcases (show i = 0 ∨ i = 1 by omega) with rfl | rfl
  · exact ⟨d0, rfl, h0⟩
  · exact ⟨d1, rfl, h1⟩
/-- a Duration isn't an object of one field -/
theorem ne_du {D : va_G} {tys : List (ClassId × FieldType)} {s : State} {a b : Nat} {H : Heap} {v : Value} {x : Int64} {n : Int32} (hK : va_K D vwCl tys s) (ha : va_at D vwCl (a, duE x n) H) (hb : va_at D vwCl (b, .inr (1, [v])) H) : a ≠ b := by
  intro e
  subst e
  obtain ⟨c1, p1, -, p3⟩ := du_recv hK ha
  obtain ⟨c2, q1, -, q3⟩ := dk_recv hK hb
  cases p1.symm.trans q1
  obtain ⟨k1, g1, g2⟩ := Vm.findClass_spec p3
  obtain ⟨k2, g3, g4⟩ := Vm.findClass_spec q3
  cases g1.symm.trans g3
  exact absurd (g2.symm.trans g4) (by decide +kernel)
theorem roomy_min {S : Nat → Int64} {k : Nat} (h : roomy S) (hk : k < 2) : ¬ S k = -9223372036854775808 := by
  intro e
  have h1 := h k hk
  have e1 : (-9223372036854775808 : Int64).toInt = -9223372036854775808 := by decide +kernel
  rw [e, e1] at h1
  omega
set_option maxHeartbeats 4000000 in
theorem met_wide (l : Launch) (D : va_G) (z : Nat) (h9 l9 : Int32) (sz : Nat) : Met l yX0_wide (ws_ yX0_wide cX0_wide 2 (some .long)) ({ frames := 0, cells := 0, slots := 0, locals := 0 }) (va_Pc [.int h9, .int l9] (sdPre D z [] [] sz (fun H => True))) (va_Ql (fun (r : Int64) (_ : Unit) => r = wd h9 l9) (fun _ _ => True) (fr [] sz)) 0 0 (fr [] sz) := by
  refine sd_open (by decide) (Nat.le_of_ble_eq_true rfl) ?_
  intro p e s m below meth c ls hx hb hr hlocks hml hin hown hts hl hsz hK hZ hO hX
  subst hsz
  have hS : va_S (fr [] s.heap.size) s.heap s.heap [] := va_S.rf
  have hl : lv_has ls 2 [(0, .int h9), (1, .int l9)] := hl
  refine lv_iload_n hx hb dX0_wide_0 rfl (lv_at hl 0 rfl) ?_
  refine lv_bipush (v := 8) hx hb dX0_wide_1 (by decide) ?_
  refine lv_ishr hx hb dX0_wide_3 ?_
  refine lv_i2l hx hb dX0_wide_4 rfl ?_
  refine lv_bipush (v := 32) hx hb dX0_wide_5 (by decide) ?_
  refine lv_lshl hx hb dX0_wide_7 rfl ?_
  refine lv_iload_n hx hb dX0_wide_8 rfl (lv_at hl 1 rfl) ?_
  refine lv_i2l hx hb dX0_wide_9 rfl ?_
  refine lv_ldc2 (v := 4294967295) hx hb hown (hts _ q133) dX0_wide_10 ?_
  refine lv_land hx hb dX0_wide_13 ?_
  refine lv_lor hx hb dX0_wide_14 ?_
  exact W.lret hx hb hr (fun t ht hW => ⟨⟨_, (), rfl, wd_d h9 l9, trivial⟩, hS.F ht⟩) hS.2.2 dX0_wide_15
set_option maxHeartbeats 4000000 in
theorem met_room (l : Launch) (D : va_G) (z : Nat) (h0 h1 : Nat) (cA : ClassId) (S : Nat → Int64) (N : Nat → Int32) (sz : Nat) : Met l yX0_room (ws_ yX0_room cX0_room 5 (some .boolean)) ({ frames := 1, cells := 0, slots := 0, locals := 20 }) (va_Pc [.ref h0] (sdPre D z [(cA, .object "Duration")] [] sz (fun H => DW D h0 h1 cA S N H))) (va_Qi (fun (r : Int32) (_ : Unit) => r = rb S) (fun _ _ => True) (fr [] sz)) 0 0 (fr [] sz) := by
  refine sd_open (by decide) (Nat.le_of_ble_eq_true rfl) ?_
  intro p e s m below meth c ls hx hb hr hlocks hml hin hown hts hl hsz hK hZ hO hX
  subst hsz
  have hS : va_S (fr [] s.heap.size) s.heap s.heap [] := va_S.rf
  have hl : lv_has ls 5 [(0, .ref h0)] := hl
  obtain ⟨a0, f, a1, hf⟩ : DW D h0 h1 cA S N s.heap := hX
  obtain ⟨d0, f0, b0⟩ := hf 0 (by omega)
  obtain ⟨d1, f1, b1⟩ := hf 1 (by omega)
  refine lv_aload_n hx hb dX0_room_0 rfl (lv_at hl 0 rfl) ?_
  refine va_get (D := D) (ci := 1) (v := .ref h1) (C := RX0) (T := TX0) (N := 1) hx hb hts in_X0 hown hK (P1 a0) 0 rfl rfl 0 (by decide) (hts _ q122) (fun _ h9 => h9) rfl dX0_room_1 ?_
  refine lv_iconst (v := 0) hx hb dX0_room_4 (by decide) ?_
  refine sd_aald hx hb hK 0 a1 rfl nI_zero (by omega) f0 dX0_room_5 ?_
  refine va_calll (sd_V (own := RX0) (nL := 5) (n := 0) (As := []) (rest := []) ⟨hx, hb, hml, hown, hts⟩ (met_getSeconds l D z d0 (S 0) (N 0) s.heap.size) q142 q143 q144 q7 q145 rfl (by decide +kernel) rfl rfl ⟨Nat.le_of_ble_eq_true rfl, Nat.le_of_ble_eq_true rfl⟩ (du_recv hK b0) (hK.sub (tys' := []) [] rfl) hZ hO hS (fr_0 hS) b0 hl.1 rfl (Nat.le_of_ble_eq_true rfl) dX0_room_6 ⟨Nat.le_of_ble_eq_true rfl, Nat.le_of_ble_eq_true rfl⟩) hS (fun q _ h => (fr_0 hS) q h) (fr_0 hS) (fun r41 _ t H1 locs1 ht hvm hw hB hz1 hk1 hS => ?_)
  have a0 := a0.stay0 hk1
  have a1 := a1.stay0 hk1
  have b1 := b1.stay0 hk1
  have hw : S 0 = r41 := Eq.symm hw
  subst hw
  clear hvm hB
  refine lv_lstore_n (lv' := [(1, .long (S 0)), (0, .ref h0)]) hx hb dX0_room_9 rfl hl (by decide) rfl (fun ls hl => ?_)
  refine lv_aload_n hx hb dX0_room_10 rfl (lv_at hl 1 rfl) ?_
  refine va_get (D := D) (ci := 1) (v := .ref h1) (C := RX0) (T := TX0) (N := 1) hx hb hts in_X0 hown hK (P1 a0) 0 rfl rfl 0 (by decide) (hts _ q122) (fun _ h9 => h9) rfl dX0_room_11 ?_
  refine lv_iconst (v := 1) hx hb dX0_room_14 (by decide) ?_
  refine sd_aald hx hb hK 0 a1 rfl nI_one (by omega) f1 dX0_room_15 ?_
  refine va_calll (sd_V (own := RX0) (nL := 5) (n := 0) (As := []) (rest := []) ⟨hx, hb, hml, hown, hts⟩ (met_getSeconds l D z d1 (S 1) (N 1) H1.size) q142 q143 q144 q7 q145 rfl (by decide +kernel) rfl rfl ⟨Nat.le_of_ble_eq_true rfl, Nat.le_of_ble_eq_true rfl⟩ (du_recv hK b1) (hK.sub (tys' := []) [] rfl) hZ hO hS (fr_0 hS) b1 hl.1 rfl (Nat.le_of_ble_eq_true rfl) dX0_room_16 ⟨Nat.le_of_ble_eq_true rfl, Nat.le_of_ble_eq_true rfl⟩) hS (fun q _ h => (fr_0 hS) q h) (fr_0 hS) (fun r42 _ t H2 locs1 ht hvm hw hB hz1 hk1 hS => ?_)
  have hw : S 1 = r42 := Eq.symm hw
  subst hw
  clear hvm hB
  refine lv_lstore_n (lv' := [(3, .long (S 1)), (1, .long (S 0)), (0, .ref h0)]) hx hb dX0_room_19 rfl hl (by decide) rfl (fun ls hl => ?_)
  refine lv_lload_n hx hb dX0_room_20 rfl (lv_at hl 1 rfl) ?_
  refine lv_ldc2 (v := 4611686018427387904) hx hb hown (hts _ q146) dX0_room_21 ?_
  refine W.lcmp hx hb dX0_room_24 ?_
  refine lv_if_ge (tgt := 56) hx hb dX0_room_25 (by decide) (fun c1 => ?_) (fun c1 => ?_)
  · refine lv_iconst (v := 0) hx hb dX0_room_56 (by decide) ?_
    exact W.zret hx hb hr rfl (fun t ht hW => ⟨⟨_, (), rfl, (rb_n (fun q => (roomy_4.mp q).1 c1)).symm, trivial⟩, hS.F ht⟩) hS.2.2 dX0_room_57
  · refine lv_lload_n hx hb dX0_room_28 rfl (lv_at hl 1 rfl) ?_
    refine lv_ldc2 (v := (-4611686018427387904)) hx hb hown (hts _ q147) dX0_room_29 ?_
    refine W.lcmp hx hb dX0_room_32 ?_
    refine lv_if_le (tgt := 56) hx hb dX0_room_33 (by decide) (fun c2 => ?_) (fun c2 => ?_)
    · refine lv_iconst (v := 0) hx hb dX0_room_56 (by decide) ?_
      exact W.zret hx hb hr rfl (fun t ht hW => ⟨⟨_, (), rfl, (rb_n (fun q => (roomy_4.mp q).2.1 c2)).symm, trivial⟩, hS.F ht⟩) hS.2.2 dX0_room_57
    · refine lv_lload_n hx hb dX0_room_36 rfl (lv_at hl 0 rfl) ?_
      refine lv_ldc2 (v := 4611686018427387904) hx hb hown (hts _ q146) dX0_room_37 ?_
      refine W.lcmp hx hb dX0_room_40 ?_
      refine lv_if_ge (tgt := 56) hx hb dX0_room_41 (by decide) (fun c3 => ?_) (fun c3 => ?_)
      · refine lv_iconst (v := 0) hx hb dX0_room_56 (by decide) ?_
        exact W.zret hx hb hr rfl (fun t ht hW => ⟨⟨_, (), rfl, (rb_n (fun q => (roomy_4.mp q).2.2.1 c3)).symm, trivial⟩, hS.F ht⟩) hS.2.2 dX0_room_57
      · refine lv_lload_n hx hb dX0_room_44 rfl (lv_at hl 0 rfl) ?_
        refine lv_ldc2 (v := (-4611686018427387904)) hx hb hown (hts _ q147) dX0_room_45 ?_
        refine W.lcmp hx hb dX0_room_48 ?_
        refine lv_if_le (tgt := 56) hx hb dX0_room_49 (by decide) (fun c4 => ?_) (fun c4 => ?_)
        · refine lv_iconst (v := 0) hx hb dX0_room_56 (by decide) ?_
          exact W.zret hx hb hr rfl (fun t ht hW => ⟨⟨_, (), rfl, (rb_n (fun q => (roomy_4.mp q).2.2.2 c4)).symm, trivial⟩, hS.F ht⟩) hS.2.2 dX0_room_57
        · refine lv_iconst (v := 1) hx hb dX0_room_52 (by decide) ?_
          refine lv_goto (tgt := 57) hx hb dX0_room_53 (by decide) ?_
          exact W.zret hx hb hr rfl (fun t ht hW => ⟨⟨_, (), rfl, (rb_y (roomy_4.mpr ⟨c1, c2, c3, c4⟩)).symm, trivial⟩, hS.F ht⟩) hS.2.2 dX0_room_57
set_option maxHeartbeats 4000000 in
theorem met_whole (l : Launch) (D : va_G) (z : Nat) (h0 h1 : Nat) (cA : ClassId) (S : Nat → Int64) (N : Nat → Int32) (w : Int32) (sz : Nat) : Met l yX0_whole (ws_ yX0_whole cX0_whole 2 (some .long)) ({ frames := 1, cells := 0, slots := 0, locals := 20 }) (va_Pc [.ref h0, .int w] (sdPre D z [(cA, .object "Duration")] [] sz (fun H => DW D h0 h1 cA S N H))) (va_Ql (fun (r : Int64) (_ : Unit) => r = S (ix w)) (fun _ _ => True) (fr [] sz)) 0 0 (fr [] sz) := by
  refine sd_open (by decide) (Nat.le_of_ble_eq_true rfl) ?_
  intro p e s m below meth c ls hx hb hr hlocks hml hin hown hts hl hsz hK hZ hO hX
  subst hsz
  have hS : va_S (fr [] s.heap.size) s.heap s.heap [] := va_S.rf
  have hl : lv_has ls 2 [(0, .ref h0), (1, .int w)] := hl
  obtain ⟨a0, f, a1, hf⟩ : DW D h0 h1 cA S N s.heap := hX
  obtain ⟨d, f0, b0⟩ := hf (ix w) (ix_eq w).2
  refine lv_aload_n hx hb dX0_whole_0 rfl (lv_at hl 0 rfl) ?_
  refine va_get (D := D) (ci := 1) (v := .ref h1) (C := RX0) (T := TX0) (N := 1) hx hb hts in_X0 hown hK (P1 a0) 0 rfl rfl 0 (by decide) (hts _ q122) (fun _ h9 => h9) rfl dX0_whole_1 ?_
  refine lv_iload_n hx hb dX0_whole_4 rfl (lv_at hl 1 rfl) ?_
  refine lv_iconst (v := 1) hx hb dX0_whole_5 (by decide) ?_
  refine lv_iand hx hb dX0_whole_6 ?_
  refine sd_aald hx hb hK 0 a1 rfl (ix_eq w).1 (ix_eq w).2 f0 dX0_whole_7 ?_
  refine va_calll (sd_V (own := RX0) (nL := 2) (n := 0) (As := []) (rest := []) ⟨hx, hb, hml, hown, hts⟩ (met_getSeconds l D z d (S (ix w)) (N (ix w)) s.heap.size) q142 q143 q144 q7 q145 rfl (by decide +kernel) rfl rfl ⟨Nat.le_of_ble_eq_true rfl, Nat.le_of_ble_eq_true rfl⟩ (du_recv hK b0) (hK.sub (tys' := []) [] rfl) hZ hO hS (fr_0 hS) b0 hl.1 rfl (Nat.le_of_ble_eq_true rfl) dX0_whole_8 ⟨Nat.le_of_ble_eq_true rfl, Nat.le_of_ble_eq_true rfl⟩) hS (fun q _ h => (fr_0 hS) q h) (fr_0 hS) (fun r43 _ t H1 locs1 ht hvm hw hB hz1 hk1 hS => ?_)
  have hw : S (ix w) = r43 := Eq.symm hw
  subst hw
  clear hvm hB
  exact W.lret hx hb hr (fun t ht hW => ⟨⟨_, (), rfl, rfl, trivial⟩, hS.F ht⟩) hS.2.2 dX0_whole_11
set_option maxHeartbeats 4000000 in
theorem met_nano (l : Launch) (D : va_G) (z : Nat) (h0 h1 : Nat) (cA : ClassId) (S : Nat → Int64) (N : Nat → Int32) (w : Int32) (sz : Nat) : Met l yX0_nano (ws_ yX0_nano cX0_nano 2 (some .int)) ({ frames := 1, cells := 0, slots := 0, locals := 20 }) (va_Pc [.ref h0, .int w] (sdPre D z [(cA, .object "Duration")] [] sz (fun H => DW D h0 h1 cA S N H))) (va_Qi (fun (r : Int32) (_ : Unit) => r = N (ix w)) (fun _ _ => True) (fr [] sz)) 0 0 (fr [] sz) := by
  refine sd_open (by decide) (Nat.le_of_ble_eq_true rfl) ?_
  intro p e s m below meth c ls hx hb hr hlocks hml hin hown hts hl hsz hK hZ hO hX
  subst hsz
  have hS : va_S (fr [] s.heap.size) s.heap s.heap [] := va_S.rf
  have hl : lv_has ls 2 [(0, .ref h0), (1, .int w)] := hl
  obtain ⟨a0, f, a1, hf⟩ : DW D h0 h1 cA S N s.heap := hX
  obtain ⟨d, f0, b0⟩ := hf (ix w) (ix_eq w).2
  refine lv_aload_n hx hb dX0_nano_0 rfl (lv_at hl 0 rfl) ?_
  refine va_get (D := D) (ci := 1) (v := .ref h1) (C := RX0) (T := TX0) (N := 1) hx hb hts in_X0 hown hK (P1 a0) 0 rfl rfl 0 (by decide) (hts _ q122) (fun _ h9 => h9) rfl dX0_nano_1 ?_
  refine lv_iload_n hx hb dX0_nano_4 rfl (lv_at hl 1 rfl) ?_
  refine lv_iconst (v := 1) hx hb dX0_nano_5 (by decide) ?_
  refine lv_iand hx hb dX0_nano_6 ?_
  refine sd_aald hx hb hK 0 a1 rfl (ix_eq w).1 (ix_eq w).2 f0 dX0_nano_7 ?_
  refine va_calli (sd_V (own := RX0) (nL := 2) (n := 0) (As := []) (rest := []) ⟨hx, hb, hml, hown, hts⟩ (met_getNano l D z d (S (ix w)) (N (ix w)) s.heap.size) q206 q154 q155 q7 q156 rfl (by decide +kernel) rfl rfl ⟨Nat.le_of_ble_eq_true rfl, Nat.le_of_ble_eq_true rfl⟩ (du_recv hK b0) (hK.sub (tys' := []) [] rfl) hZ hO hS (fr_0 hS) b0 hl.1 rfl (Nat.le_of_ble_eq_true rfl) dX0_nano_8 ⟨Nat.le_of_ble_eq_true rfl, Nat.le_of_ble_eq_true rfl⟩) hS (fun q _ h => (fr_0 hS) q h) (fr_0 hS) (fun r44 _ t H1 locs1 ht hvm hw hB hz1 hk1 hS => ?_)
  have hw : N (ix w) = r44 := Eq.symm hw
  subst hw
  clear hvm hB
  exact W.iret hx hb hr (fun t ht hW => ⟨⟨_, (), rfl, rfl, trivial⟩, hS.F ht⟩) hS.2.2 dX0_nano_11
set_option maxHeartbeats 4000000 in
theorem met_below (l : Launch) (D : va_G) (z : Nat) (h0 h1 : Nat) (cA : ClassId) (S : Nat → Int64) (N : Nat → Int32) (w : Int32) (sz : Nat) : Met l yX0_below (ws_ yX0_below cX0_below 2 (some .boolean)) ({ frames := 1, cells := 0, slots := 0, locals := 20 }) (va_Pc [.ref h0, .int w] (sdPre D z [(cA, .object "Duration")] [] sz (fun H => DW D h0 h1 cA S N H))) (va_Qi (fun (r : Int32) (_ : Unit) => r = ngv (S (ix w))) (fun _ _ => True) (fr [] sz)) 0 0 (fr [] sz) := by
  refine sd_open (by decide) (Nat.le_of_ble_eq_true rfl) ?_
  intro p e s m below meth c ls hx hb hr hlocks hml hin hown hts hl hsz hK hZ hO hX
  subst hsz
  have hS : va_S (fr [] s.heap.size) s.heap s.heap [] := va_S.rf
  have hl : lv_has ls 2 [(0, .ref h0), (1, .int w)] := hl
  obtain ⟨a0, f, a1, hf⟩ : DW D h0 h1 cA S N s.heap := hX
  obtain ⟨d, f0, b0⟩ := hf (ix w) (ix_eq w).2
  refine lv_aload_n hx hb dX0_below_0 rfl (lv_at hl 0 rfl) ?_
  refine va_get (D := D) (ci := 1) (v := .ref h1) (C := RX0) (T := TX0) (N := 1) hx hb hts in_X0 hown hK (P1 a0) 0 rfl rfl 0 (by decide) (hts _ q122) (fun _ h9 => h9) rfl dX0_below_1 ?_
  refine lv_iload_n hx hb dX0_below_4 rfl (lv_at hl 1 rfl) ?_
  refine lv_iconst (v := 1) hx hb dX0_below_5 (by decide) ?_
  refine lv_iand hx hb dX0_below_6 ?_
  refine sd_aald hx hb hK 0 a1 rfl (ix_eq w).1 (ix_eq w).2 f0 dX0_below_7 ?_
  refine va_calli (sd_V (own := RX0) (nL := 2) (n := 0) (As := []) (rest := []) ⟨hx, hb, hml, hown, hts⟩ (met_isNegative l D z d (S (ix w)) (N (ix w)) s.heap.size) q211 q212 q213 q7 q214 rfl (by decide +kernel) rfl rfl ⟨Nat.le_of_ble_eq_true rfl, Nat.le_of_ble_eq_true rfl⟩ (du_recv hK b0) (hK.sub (tys' := []) [] rfl) hZ hO hS (fr_0 hS) b0 hl.1 rfl (Nat.le_of_ble_eq_true rfl) dX0_below_8 ⟨Nat.le_of_ble_eq_true rfl, Nat.le_of_ble_eq_true rfl⟩) hS (fun q _ h => (fr_0 hS) q h) (fr_0 hS) (fun r45 _ t H1 locs1 ht hvm hw hB hz1 hk1 hS => ?_)
  have hw : ngv (S (ix w)) = r45 := Eq.symm hw
  subst hw
  clear hvm hB
  exact W.zret hx hb hr (nb01 (ngv_01 _)) (fun t ht hW => ⟨⟨_, (), rfl, rfl, trivial⟩, hS.F ht⟩) hS.2.2 dX0_below_11
set_option maxHeartbeats 4000000 in
theorem met_nought (l : Launch) (D : va_G) (z : Nat) (h0 h1 : Nat) (cA : ClassId) (S : Nat → Int64) (N : Nat → Int32) (w : Int32) (sz : Nat) : Met l yX0_nought (ws_ yX0_nought cX0_nought 2 (some .boolean)) ({ frames := 1, cells := 0, slots := 0, locals := 20 }) (va_Pc [.ref h0, .int w] (sdPre D z [(cA, .object "Duration")] [] sz (fun H => DW D h0 h1 cA S N H))) (va_Qi (fun (r : Int32) (_ : Unit) => r = isz (S (ix w)) (N (ix w))) (fun _ _ => True) (fr [] sz)) 0 0 (fr [] sz) := by
  refine sd_open (by decide) (Nat.le_of_ble_eq_true rfl) ?_
  intro p e s m below meth c ls hx hb hr hlocks hml hin hown hts hl hsz hK hZ hO hX
  subst hsz
  have hS : va_S (fr [] s.heap.size) s.heap s.heap [] := va_S.rf
  have hl : lv_has ls 2 [(0, .ref h0), (1, .int w)] := hl
  obtain ⟨a0, f, a1, hf⟩ : DW D h0 h1 cA S N s.heap := hX
  obtain ⟨d, f0, b0⟩ := hf (ix w) (ix_eq w).2
  refine lv_aload_n hx hb dX0_nought_0 rfl (lv_at hl 0 rfl) ?_
  refine va_get (D := D) (ci := 1) (v := .ref h1) (C := RX0) (T := TX0) (N := 1) hx hb hts in_X0 hown hK (P1 a0) 0 rfl rfl 0 (by decide) (hts _ q122) (fun _ h9 => h9) rfl dX0_nought_1 ?_
  refine lv_iload_n hx hb dX0_nought_4 rfl (lv_at hl 1 rfl) ?_
  refine lv_iconst (v := 1) hx hb dX0_nought_5 (by decide) ?_
  refine lv_iand hx hb dX0_nought_6 ?_
  refine sd_aald hx hb hK 0 a1 rfl (ix_eq w).1 (ix_eq w).2 f0 dX0_nought_7 ?_
  refine va_calli (sd_V (own := RX0) (nL := 2) (n := 0) (As := []) (rest := []) ⟨hx, hb, hml, hown, hts⟩ (met_isZero l D z d (S (ix w)) (N (ix w)) s.heap.size) q219 q220 q221 q7 q222 rfl (by decide +kernel) rfl rfl ⟨Nat.le_of_ble_eq_true rfl, Nat.le_of_ble_eq_true rfl⟩ (du_recv hK b0) (hK.sub (tys' := []) [] rfl) hZ hO hS (fr_0 hS) b0 hl.1 rfl (Nat.le_of_ble_eq_true rfl) dX0_nought_8 ⟨Nat.le_of_ble_eq_true rfl, Nat.le_of_ble_eq_true rfl⟩) hS (fun q _ h => (fr_0 hS) q h) (fr_0 hS) (fun r46 _ t H1 locs1 ht hvm hw hB hz1 hk1 hS => ?_)
  have hw : isz (S (ix w)) (N (ix w)) = r46 := Eq.symm hw
  subst hw
  clear hvm hB
  exact W.zret hx hb hr (nb01 (isz_01 _ _)) (fun t ht hW => ⟨⟨_, (), rfl, rfl, trivial⟩, hS.F ht⟩) hS.2.2 dX0_nought_11
set_option maxHeartbeats 4000000 in
theorem met_days (l : Launch) (D : va_G) (z : Nat) (h0 h1 : Nat) (cA : ClassId) (S : Nat → Int64) (N : Nat → Int32) (w : Int32) (sz : Nat) : Met l yX0_days (ws_ yX0_days cX0_days 2 (some .long)) ({ frames := 1, cells := 0, slots := 0, locals := 20 }) (va_Pc [.ref h0, .int w] (sdPre D z [(cA, .object "Duration")] [] sz (fun H => DW D h0 h1 cA S N H))) (va_Ql (fun (r : Int64) (_ : Unit) => r = S (ix w) / 86400) (fun _ _ => True) (fr [] sz)) 0 0 (fr [] sz) := by
  refine sd_open (by decide) (Nat.le_of_ble_eq_true rfl) ?_
  intro p e s m below meth c ls hx hb hr hlocks hml hin hown hts hl hsz hK hZ hO hX
  subst hsz
  have hS : va_S (fr [] s.heap.size) s.heap s.heap [] := va_S.rf
  have hl : lv_has ls 2 [(0, .ref h0), (1, .int w)] := hl
  obtain ⟨a0, f, a1, hf⟩ : DW D h0 h1 cA S N s.heap := hX
  obtain ⟨d, f0, b0⟩ := hf (ix w) (ix_eq w).2
  refine lv_aload_n hx hb dX0_days_0 rfl (lv_at hl 0 rfl) ?_
  refine va_get (D := D) (ci := 1) (v := .ref h1) (C := RX0) (T := TX0) (N := 1) hx hb hts in_X0 hown hK (P1 a0) 0 rfl rfl 0 (by decide) (hts _ q122) (fun _ h9 => h9) rfl dX0_days_1 ?_
  refine lv_iload_n hx hb dX0_days_4 rfl (lv_at hl 1 rfl) ?_
  refine lv_iconst (v := 1) hx hb dX0_days_5 (by decide) ?_
  refine lv_iand hx hb dX0_days_6 ?_
  refine sd_aald hx hb hK 0 a1 rfl (ix_eq w).1 (ix_eq w).2 f0 dX0_days_7 ?_
  refine va_calll (sd_V (own := RX0) (nL := 2) (n := 0) (As := []) (rest := []) ⟨hx, hb, hml, hown, hts⟩ (met_toDays l D z d (S (ix w)) (N (ix w)) s.heap.size) q238 q239 q240 q7 q241 rfl (by decide +kernel) rfl rfl ⟨Nat.le_of_ble_eq_true rfl, Nat.le_of_ble_eq_true rfl⟩ (du_recv hK b0) (hK.sub (tys' := []) [] rfl) hZ hO hS (fr_0 hS) b0 hl.1 rfl (Nat.le_of_ble_eq_true rfl) dX0_days_8 ⟨Nat.le_of_ble_eq_true rfl, Nat.le_of_ble_eq_true rfl⟩) hS (fun q _ h => (fr_0 hS) q h) (fr_0 hS) (fun r47 _ t H1 locs1 ht hvm hw hB hz1 hk1 hS => ?_)
  have hw : S (ix w) / 86400 = r47 := Eq.symm hw
  subst hw
  clear hvm hB
  exact W.lret hx hb hr (fun t ht hW => ⟨⟨_, (), rfl, rfl, trivial⟩, hS.F ht⟩) hS.2.2 dX0_days_11
set_option maxHeartbeats 4000000 in
theorem met_minutes (l : Launch) (D : va_G) (z : Nat) (h0 h1 : Nat) (cA : ClassId) (S : Nat → Int64) (N : Nat → Int32) (w : Int32) (sz : Nat) : Met l yX0_minutes (ws_ yX0_minutes cX0_minutes 2 (some .long)) ({ frames := 1, cells := 0, slots := 0, locals := 20 }) (va_Pc [.ref h0, .int w] (sdPre D z [(cA, .object "Duration")] [] sz (fun H => DW D h0 h1 cA S N H))) (va_Ql (fun (r : Int64) (_ : Unit) => r = S (ix w) / 60) (fun _ _ => True) (fr [] sz)) 0 0 (fr [] sz) := by
  refine sd_open (by decide) (Nat.le_of_ble_eq_true rfl) ?_
  intro p e s m below meth c ls hx hb hr hlocks hml hin hown hts hl hsz hK hZ hO hX
  subst hsz
  have hS : va_S (fr [] s.heap.size) s.heap s.heap [] := va_S.rf
  have hl : lv_has ls 2 [(0, .ref h0), (1, .int w)] := hl
  obtain ⟨a0, f, a1, hf⟩ : DW D h0 h1 cA S N s.heap := hX
  obtain ⟨d, f0, b0⟩ := hf (ix w) (ix_eq w).2
  refine lv_aload_n hx hb dX0_minutes_0 rfl (lv_at hl 0 rfl) ?_
  refine va_get (D := D) (ci := 1) (v := .ref h1) (C := RX0) (T := TX0) (N := 1) hx hb hts in_X0 hown hK (P1 a0) 0 rfl rfl 0 (by decide) (hts _ q122) (fun _ h9 => h9) rfl dX0_minutes_1 ?_
  refine lv_iload_n hx hb dX0_minutes_4 rfl (lv_at hl 1 rfl) ?_
  refine lv_iconst (v := 1) hx hb dX0_minutes_5 (by decide) ?_
  refine lv_iand hx hb dX0_minutes_6 ?_
  refine sd_aald hx hb hK 0 a1 rfl (ix_eq w).1 (ix_eq w).2 f0 dX0_minutes_7 ?_
  refine va_calll (sd_V (own := RX0) (nL := 2) (n := 0) (As := []) (rest := []) ⟨hx, hb, hml, hown, hts⟩ (met_toMinutes l D z d (S (ix w)) (N (ix w)) s.heap.size) q247 q248 q249 q7 q250 rfl (by decide +kernel) rfl rfl ⟨Nat.le_of_ble_eq_true rfl, Nat.le_of_ble_eq_true rfl⟩ (du_recv hK b0) (hK.sub (tys' := []) [] rfl) hZ hO hS (fr_0 hS) b0 hl.1 rfl (Nat.le_of_ble_eq_true rfl) dX0_minutes_8 ⟨Nat.le_of_ble_eq_true rfl, Nat.le_of_ble_eq_true rfl⟩) hS (fun q _ h => (fr_0 hS) q h) (fr_0 hS) (fun r48 _ t H1 locs1 ht hvm hw hB hz1 hk1 hS => ?_)
  have hw : S (ix w) / 60 = r48 := Eq.symm hw
  subst hw
  clear hvm hB
  exact W.lret hx hb hr (fun t ht hW => ⟨⟨_, (), rfl, rfl, trivial⟩, hS.F ht⟩) hS.2.2 dX0_minutes_11
set_option maxHeartbeats 4000000 in
theorem met_order (l : Launch) (D : va_G) (z : Nat) (h0 h1 : Nat) (cA : ClassId) (S : Nat → Int64) (N : Nat → Int32) (sz : Nat) (hn : nrm N) : Met l yX0_order (ws_ yX0_order cX0_order 2 (some .int)) ({ frames := 2, cells := 0, slots := 0, locals := 45 }) (va_Pc [.ref h0] (sdPre D z [(cA, .object "Duration")] [] sz (fun H => DW D h0 h1 cA S N H))) (va_Qi (fun (r : Int32) (_ : Unit) => r = od (S 0) (N 0) (S 1) (N 1)) (fun _ _ => True) (fr [] sz)) 0 0 (fr [] sz) := by
  refine sd_open (by decide) (Nat.le_of_ble_eq_true rfl) ?_
  intro p e s m below meth c ls hx hb hr hlocks hml hin hown hts hl hsz hK hZ hO hX
  subst hsz
  have hS : va_S (fr [] s.heap.size) s.heap s.heap [] := va_S.rf
  have hl : lv_has ls 2 [(0, .ref h0)] := hl
  obtain ⟨a0, f, a1, hf⟩ : DW D h0 h1 cA S N s.heap := hX
  obtain ⟨d0, f0, b0⟩ := hf 0 (by omega)
  obtain ⟨d1, f1, b1⟩ := hf 1 (by omega)
  have od9 := od_cmpv (x := S 0) (x2 := S 1) (hn 0 (by omega)) (hn 1 (by omega))
  refine lv_aload_n hx hb dX0_order_0 rfl (lv_at hl 0 rfl) ?_
  refine va_get (D := D) (ci := 1) (v := .ref h1) (C := RX0) (T := TX0) (N := 1) hx hb hts in_X0 hown hK (P1 a0) 0 rfl rfl 0 (by decide) (hts _ q122) (fun _ h9 => h9) rfl dX0_order_1 ?_
  refine lv_iconst (v := 0) hx hb dX0_order_4 (by decide) ?_
  refine sd_aald hx hb hK 0 a1 rfl nI_zero (by omega) f0 dX0_order_5 ?_
  refine lv_aload_n hx hb dX0_order_6 rfl (lv_at hl 0 rfl) ?_
  refine va_get (D := D) (ci := 1) (v := .ref h1) (C := RX0) (T := TX0) (N := 1) hx hb hts in_X0 hown hK (P1 a0) 0 rfl rfl 0 (by decide) (hts _ q122) (fun _ h9 => h9) rfl dX0_order_7 ?_
  refine lv_iconst (v := 1) hx hb dX0_order_10 (by decide) ?_
  refine sd_aald hx hb hK 0 a1 rfl nI_one (by omega) f1 dX0_order_11 ?_
  refine va_calli (sd_V (own := RX0) (nL := 2) (n := 1) (As := [.ref d1]) (rest := []) ⟨hx, hb, hml, hown, hts⟩ (met_compareTo l D z d0 d1 (S 0) (N 0) (S 1) (N 1) s.heap.size) q227 q228 q229 q7 q230 rfl (by decide +kernel) rfl rfl ⟨Nat.le_of_ble_eq_true rfl, Nat.le_of_ble_eq_true rfl⟩ (du_recv hK b0) (hK.sub (tys' := []) [] rfl) hZ hO hS (fr_0 hS) ⟨b0, b1⟩ hl.1 rfl (Nat.le_of_ble_eq_true rfl) dX0_order_12 ⟨Nat.le_of_ble_eq_true rfl, Nat.le_of_ble_eq_true rfl⟩) hS (fun q _ h => (fr_0 hS) q h) (fr_0 hS) (fun r49 _ t H1 locs1 ht hvm hw hB hz1 hk1 hS => ?_)
  have hw : cmpv (S 0) (N 0) (S 1) (N 1) = r49 := Eq.symm hw
  subst hw
  clear hvm hB
  refine lv_istore_n (lv' := [(1, .int (cmpv (S 0) (N 0) (S 1) (N 1))), (0, .ref h0)]) hx hb dX0_order_15 rfl hl (by decide) rfl (fun ls hl => ?_)
  refine lv_iload_n hx hb dX0_order_16 rfl (lv_at hl 0 rfl) ?_
  refine lv_if_ge (tgt := 24) hx hb dX0_order_17 (by decide) (fun c1 => ?_) (fun c1 => ?_)
  · refine lv_iload_n hx hb dX0_order_24 rfl (lv_at hl 0 rfl) ?_
    refine lv_if_le (tgt := 32) hx hb dX0_order_25 (by decide) (fun c2 => ?_) (fun c2 => ?_)
    · refine lv_iconst (v := 0) hx hb dX0_order_32 (by decide) ?_
      exact W.iret hx hb hr (fun t ht hW => ⟨⟨_, (), rfl, od9.2.2 (Int32.not_lt.mpr c1) (Int32.not_lt.mpr c2), trivial⟩, hS.F ht⟩) hS.2.2 dX0_order_33
    · refine lv_iconst (v := 1) hx hb dX0_order_28 (by decide) ?_
      refine lv_goto (tgt := 33) hx hb dX0_order_29 (by decide) ?_
      exact W.iret hx hb hr (fun t ht hW => ⟨⟨_, (), rfl, od9.2.1 (Int32.not_le.mp c2), trivial⟩, hS.F ht⟩) hS.2.2 dX0_order_33
  · refine lv_iconst (v := (-1)) hx hb dX0_order_20 (by decide) ?_
    refine lv_goto (tgt := 33) hx hb dX0_order_21 (by decide) ?_
    exact W.iret hx hb hr (fun t ht hW => ⟨⟨_, (), rfl, od9.1 (Int32.not_le.mp c1), trivial⟩, hS.F ht⟩) hS.2.2 dX0_order_33
set_option maxHeartbeats 4000000 in
theorem met_splus (l : Launch) (D : va_G) (z : Nat) (h0 h1 : Nat) (cA : ClassId) (S : Nat → Int64) (N : Nat → Int32) (w : Int32) (sz : Nat) (hn : nrm N) : Met l yX0_plus (ws_ yX0_plus cX0_plus 2 (some .boolean)) ({ frames := 6, cells := 1, slots := 2, locals := 139 }) (va_Pc [.ref h0, .int w] (sdPre D z [(cA, .object "Duration")] [h1] sz (fun H => DW D h0 h1 cA S N H))) (va_Qi (fun (r : Int32) (_ : Unit) => r = rb S) (fun _ t => DW D h0 h1 cA (mS S (ix w) (nx (S (ix w)) (N (ix w)) (S (1 - ix w)) ((N (1 - ix w)).toInt64))) (mN S N (ix w) (ny (N (ix w)) ((N (1 - ix w)).toInt64))) t.heap) (fr [h1] sz)) 1 2 (fr [h1] sz) := by
  refine sd_open (by decide) (Nat.le_of_ble_eq_true rfl) ?_
  intro p e s m below meth c ls hx hb hr hlocks hml hin hown hts hl hsz hK hZ hO hX
  subst hsz
  have hS : va_S (fr [h1] s.heap.size) s.heap s.heap [] := va_S.rf
  have hl : lv_has ls 2 [(0, .ref h0), (1, .int w)] := hl
  have hX : DW D h0 h1 cA S N s.heap := hX
  have hk := (ix_eq w).2
  refine lv_aload_n hx hb dX0_plus_0 rfl (lv_at hl 0 rfl) ?_
  refine va_calli (sd_V (own := RX0) (nL := 2) (n := 0) (As := []) (rest := []) ⟨hx, hb, hml, hown, hts⟩ (met_room l D z h0 h1 cA S N s.heap.size) q138 q140 qs1 q6 q141 rfl (by decide +kernel) rfl rfl ⟨Nat.le_of_ble_eq_true rfl, Nat.le_of_ble_eq_true rfl⟩ (dk_recv hK hX.1) hK hZ hO hS (fr_0 hS) hX hl.1 rfl (Nat.le_of_ble_eq_true rfl) dX0_plus_1 ⟨Nat.le_of_ble_eq_true rfl, Nat.le_of_ble_eq_true rfl⟩) hS (fun q _ h => (fr_0 hS) q h) (fr_0 hS) (fun r50 _ t H1 locs1 ht hvm hw hB hz1 hk1 hS => ?_)
  have hX := hX.stay0 hk1
  have hw : rb S = r50 := Eq.symm hw
  subst hw
  clear hvm hB
  refine lv_if_ne (tgt := 9) hx hb dX0_plus_4 (by decide) (fun c1 => ?_) (fun c1 => ?_)
  · have hr1 : roomy S := Classical.byContradiction (fun q => c1 (rb_n q))
    obtain ⟨a0, f, a1, hf⟩ : DW D h0 h1 cA S N H1 := hX
    obtain ⟨d0, f0, b0⟩ := hf (ix w) hk
    refine lv_aload_n hx hb dX0_plus_9 rfl (lv_at hl 0 rfl) ?_
    refine va_get (D := D) (ci := 1) (v := .ref h1) (C := RX0) (T := TX0) (N := 1) hx hb hts in_X0 hown hK (P1 a0) 0 rfl rfl 0 (by decide) (hts _ q122) (fun _ h9 => h9) rfl dX0_plus_10 ?_
    refine lv_iload_n hx hb dX0_plus_13 rfl (lv_at hl 1 rfl) ?_
    refine lv_iconst (v := 1) hx hb dX0_plus_14 (by decide) ?_
    refine lv_iand hx hb dX0_plus_15 ?_
    refine lv_aload_n hx hb dX0_plus_16 rfl (lv_at hl 0 rfl) ?_
    refine va_get (D := D) (ci := 1) (v := .ref h1) (C := RX0) (T := TX0) (N := 1) hx hb hts in_X0 hown hK (P1 a0) 0 rfl rfl 0 (by decide) (hts _ q122) (fun _ h9 => h9) rfl dX0_plus_17 ?_
    refine lv_iload_n hx hb dX0_plus_20 rfl (lv_at hl 1 rfl) ?_
    refine lv_iconst (v := 1) hx hb dX0_plus_21 (by decide) ?_
    refine lv_iand hx hb dX0_plus_22 ?_
    refine sd_aald hx hb hK 0 a1 rfl (ix_eq w).1 hk f0 dX0_plus_23 ?_
    obtain ⟨d1, f1, b1⟩ := hf (1 - ix w) (by omega)
    refine lv_aload_n hx hb dX0_plus_24 rfl (lv_at hl 0 rfl) ?_
    refine va_get (D := D) (ci := 1) (v := .ref h1) (C := RX0) (T := TX0) (N := 1) hx hb hts in_X0 hown hK (P1 a0) 0 rfl rfl 0 (by decide) (hts _ q122) (fun _ h9 => h9) rfl dX0_plus_25 ?_
    refine lv_iload_n hx hb dX0_plus_28 rfl (lv_at hl 1 rfl) ?_
    refine lv_iconst (v := (-1)) hx hb dX0_plus_29 (by decide) ?_
    refine lv_ixor hx hb dX0_plus_30 ?_
    refine lv_iconst (v := 1) hx hb dX0_plus_31 (by decide) ?_
    refine lv_iand hx hb dX0_plus_32 ?_
    refine sd_aald hx hb hK 0 a1 rfl (ix_not w) (by omega) f1 dX0_plus_33 ?_
    refine va_callr (sd_V (own := RX0) (nL := 2) (n := 1) (As := [.ref d1]) (rest := [.int (w &&& 1), .ref h1]) ⟨hx, hb, hml, hown, hts⟩ (met_plus l D z d0 d1 (S (ix w)) (N (ix w)) (S (1 - ix w)) (N (1 - ix w)) H1.size (ok_plus hr1 hn hk)) q148 q149 q150 q7 q151 rfl (by decide +kernel) rfl rfl ⟨Nat.le_of_ble_eq_true rfl, Nat.le_of_ble_eq_true rfl⟩ (du_recv hK b0) (hK.sub (tys' := []) [] rfl) hZ hO hS (fr_0 hS) ⟨b0, b1⟩ hl.1 rfl (Nat.le_of_ble_eq_true rfl) dX0_plus_34 ⟨Nat.le_of_ble_eq_true rfl, Nat.le_of_ble_eq_true rfl⟩) hS (fun q _ h => (fr_0 hS) q h) (fr_0 hS) (fun _ a9 t H2 locs1 ht hvm hw hB hz1 hk1 hS => ?_)
    have a0 := a0.stay0 hk1
    have a1 := a1.stay0 hk1
    have hf := hf.stay0 hk1
    have hd : va_at D vwCl (a9, duE (nx (S (ix w)) (N (ix w)) (S (1 - ix w)) ((N (1 - ix w)).toInt64)) (ny (N (ix w)) ((N (1 - ix w)).toInt64))) H2 := by rw [ht] at hB; exact hB
    clear hvm hB
    have h01 : h0 ≠ h1 := ne_kind hK (t0 := 0) rfl a0 a1
    refine sd_aast hx hb hK 0 a1 rfl hd (ix_eq w).1 hk hS (Or.inl List.mem_cons_self) dX0_plus_37 (fun H3 locs1 a2 hk2 hS => ?_)
    have hB : DW D h0 h1 cA (vp_updL S (ix w) (nx (S (ix w)) (N (ix w)) (S (1 - ix w)) ((N (1 - ix w)).toInt64))) (upd N (ix w) (ny (N (ix w)) ((N (1 - ix w)).toInt64))) H3 := ⟨a0.away hk2 h01, _, a2, hf.put hK (t0 := 0) rfl a1 hd hk2⟩
    rw [← mS_y hr1, ← mN_y hr1] at hB
    refine lv_iconst (v := 1) hx hb dX0_plus_38 (by decide) ?_
    refine W.widen (k := 1) (n := 2) (Nat.le_of_ble_eq_true rfl) (Nat.le_of_ble_eq_true rfl) ?_
    exact W.zret hx hb hr rfl (fun t ht hW => ⟨⟨_, (), rfl, (rb_y hr1).symm, by try dsimp only; rw [ht]; exact hB⟩, hS.F ht⟩) hS.2.2 dX0_plus_39
  · have hr1 : ¬ roomy S := rb_ne.mp c1
    refine lv_iconst (v := 0) hx hb dX0_plus_7 (by decide) ?_
    refine W.widen (k := 1) (n := 2) (Nat.le_of_ble_eq_true rfl) (Nat.le_of_ble_eq_true rfl) ?_
    exact W.zret hx hb hr rfl (fun t ht hW => ⟨⟨_, (), rfl, c1.symm, by try dsimp only; rw [ht, mS_n hr1, mN_n hr1]; exact hX⟩, hS.F ht⟩) hS.2.2 dX0_plus_8
set_option maxHeartbeats 4000000 in
theorem met_sminus (l : Launch) (D : va_G) (z : Nat) (h0 h1 : Nat) (cA : ClassId) (S : Nat → Int64) (N : Nat → Int32) (w : Int32) (sz : Nat) (hn : nrm N) : Met l yX0_minus (ws_ yX0_minus cX0_minus 2 (some .boolean)) ({ frames := 6, cells := 1, slots := 2, locals := 142 }) (va_Pc [.ref h0, .int w] (sdPre D z [(cA, .object "Duration")] [h1] sz (fun H => DW D h0 h1 cA S N H))) (va_Qi (fun (r : Int32) (_ : Unit) => r = rb S) (fun _ t => DW D h0 h1 cA (mS S (ix w) (nx (S (ix w)) (N (ix w)) (-S (1 - ix w)) (-(N (1 - ix w)).toInt64))) (mN S N (ix w) (ny (N (ix w)) (-(N (1 - ix w)).toInt64))) t.heap) (fr [h1] sz)) 1 2 (fr [h1] sz) := by
  refine sd_open (by decide) (Nat.le_of_ble_eq_true rfl) ?_
  intro p e s m below meth c ls hx hb hr hlocks hml hin hown hts hl hsz hK hZ hO hX
  subst hsz
  have hS : va_S (fr [h1] s.heap.size) s.heap s.heap [] := va_S.rf
  have hl : lv_has ls 2 [(0, .ref h0), (1, .int w)] := hl
  have hX : DW D h0 h1 cA S N s.heap := hX
  have hk := (ix_eq w).2
  refine lv_aload_n hx hb dX0_minus_0 rfl (lv_at hl 0 rfl) ?_
  refine va_calli (sd_V (own := RX0) (nL := 2) (n := 0) (As := []) (rest := []) ⟨hx, hb, hml, hown, hts⟩ (met_room l D z h0 h1 cA S N s.heap.size) q138 q140 qs1 q6 q141 rfl (by decide +kernel) rfl rfl ⟨Nat.le_of_ble_eq_true rfl, Nat.le_of_ble_eq_true rfl⟩ (dk_recv hK hX.1) hK hZ hO hS (fr_0 hS) hX hl.1 rfl (Nat.le_of_ble_eq_true rfl) dX0_minus_1 ⟨Nat.le_of_ble_eq_true rfl, Nat.le_of_ble_eq_true rfl⟩) hS (fun q _ h => (fr_0 hS) q h) (fr_0 hS) (fun r52 _ t H1 locs1 ht hvm hw hB hz1 hk1 hS => ?_)
  have hX := hX.stay0 hk1
  have hw : rb S = r52 := Eq.symm hw
  subst hw
  clear hvm hB
  refine lv_if_ne (tgt := 9) hx hb dX0_minus_4 (by decide) (fun c1 => ?_) (fun c1 => ?_)
  · have hr1 : roomy S := Classical.byContradiction (fun q => c1 (rb_n q))
    obtain ⟨a0, f, a1, hf⟩ : DW D h0 h1 cA S N H1 := hX
    obtain ⟨d0, f0, b0⟩ := hf (ix w) hk
    refine lv_aload_n hx hb dX0_minus_9 rfl (lv_at hl 0 rfl) ?_
    refine va_get (D := D) (ci := 1) (v := .ref h1) (C := RX0) (T := TX0) (N := 1) hx hb hts in_X0 hown hK (P1 a0) 0 rfl rfl 0 (by decide) (hts _ q122) (fun _ h9 => h9) rfl dX0_minus_10 ?_
    refine lv_iload_n hx hb dX0_minus_13 rfl (lv_at hl 1 rfl) ?_
    refine lv_iconst (v := 1) hx hb dX0_minus_14 (by decide) ?_
    refine lv_iand hx hb dX0_minus_15 ?_
    refine lv_aload_n hx hb dX0_minus_16 rfl (lv_at hl 0 rfl) ?_
    refine va_get (D := D) (ci := 1) (v := .ref h1) (C := RX0) (T := TX0) (N := 1) hx hb hts in_X0 hown hK (P1 a0) 0 rfl rfl 0 (by decide) (hts _ q122) (fun _ h9 => h9) rfl dX0_minus_17 ?_
    refine lv_iload_n hx hb dX0_minus_20 rfl (lv_at hl 1 rfl) ?_
    refine lv_iconst (v := 1) hx hb dX0_minus_21 (by decide) ?_
    refine lv_iand hx hb dX0_minus_22 ?_
    refine sd_aald hx hb hK 0 a1 rfl (ix_eq w).1 hk f0 dX0_minus_23 ?_
    obtain ⟨d1, f1, b1⟩ := hf (1 - ix w) (by omega)
    refine lv_aload_n hx hb dX0_minus_24 rfl (lv_at hl 0 rfl) ?_
    refine va_get (D := D) (ci := 1) (v := .ref h1) (C := RX0) (T := TX0) (N := 1) hx hb hts in_X0 hown hK (P1 a0) 0 rfl rfl 0 (by decide) (hts _ q122) (fun _ h9 => h9) rfl dX0_minus_25 ?_
    refine lv_iload_n hx hb dX0_minus_28 rfl (lv_at hl 1 rfl) ?_
    refine lv_iconst (v := (-1)) hx hb dX0_minus_29 (by decide) ?_
    refine lv_ixor hx hb dX0_minus_30 ?_
    refine lv_iconst (v := 1) hx hb dX0_minus_31 (by decide) ?_
    refine lv_iand hx hb dX0_minus_32 ?_
    refine sd_aald hx hb hK 0 a1 rfl (ix_not w) (by omega) f1 dX0_minus_33 ?_
    refine va_callr (sd_V (own := RX0) (nL := 2) (n := 1) (As := [.ref d1]) (rest := [.int (w &&& 1), .ref h1]) ⟨hx, hb, hml, hown, hts⟩ (met_minus l D z d0 d1 (S (ix w)) (N (ix w)) (S (1 - ix w)) (N (1 - ix w)) H1.size (ok_minus hr1 hn hk) (hn (1 - ix w) (by omega)).1 (roomy_min hr1 (by omega))) q166 q167 q168 q7 q169 rfl (by decide +kernel) rfl rfl ⟨Nat.le_of_ble_eq_true rfl, Nat.le_of_ble_eq_true rfl⟩ (du_recv hK b0) (hK.sub (tys' := []) [] rfl) hZ hO hS (fr_0 hS) ⟨b0, b1⟩ hl.1 rfl (Nat.le_of_ble_eq_true rfl) dX0_minus_34 ⟨Nat.le_of_ble_eq_true rfl, Nat.le_of_ble_eq_true rfl⟩) hS (fun q _ h => (fr_0 hS) q h) (fr_0 hS) (fun _ a9 t H2 locs1 ht hvm hw hB hz1 hk1 hS => ?_)
    have a0 := a0.stay0 hk1
    have a1 := a1.stay0 hk1
    have hf := hf.stay0 hk1
    have hd : va_at D vwCl (a9, duE (nx (S (ix w)) (N (ix w)) (-S (1 - ix w)) (-(N (1 - ix w)).toInt64)) (ny (N (ix w)) (-(N (1 - ix w)).toInt64))) H2 := by rw [ht] at hB; exact hB
    clear hvm hB
    have h01 : h0 ≠ h1 := ne_kind hK (t0 := 0) rfl a0 a1
    refine sd_aast hx hb hK 0 a1 rfl hd (ix_eq w).1 hk hS (Or.inl List.mem_cons_self) dX0_minus_37 (fun H3 locs1 a2 hk2 hS => ?_)
    have hB : DW D h0 h1 cA (vp_updL S (ix w) (nx (S (ix w)) (N (ix w)) (-S (1 - ix w)) (-(N (1 - ix w)).toInt64))) (upd N (ix w) (ny (N (ix w)) (-(N (1 - ix w)).toInt64))) H3 := ⟨a0.away hk2 h01, _, a2, hf.put hK (t0 := 0) rfl a1 hd hk2⟩
    rw [← mS_y hr1, ← mN_y hr1] at hB
    refine lv_iconst (v := 1) hx hb dX0_minus_38 (by decide) ?_
    refine W.widen (k := 1) (n := 2) (Nat.le_of_ble_eq_true rfl) (Nat.le_of_ble_eq_true rfl) ?_
    exact W.zret hx hb hr rfl (fun t ht hW => ⟨⟨_, (), rfl, (rb_y hr1).symm, by try dsimp only; rw [ht]; exact hB⟩, hS.F ht⟩) hS.2.2 dX0_minus_39
  · have hr1 : ¬ roomy S := rb_ne.mp c1
    refine lv_iconst (v := 0) hx hb dX0_minus_7 (by decide) ?_
    refine W.widen (k := 1) (n := 2) (Nat.le_of_ble_eq_true rfl) (Nat.le_of_ble_eq_true rfl) ?_
    exact W.zret hx hb hr rfl (fun t ht hW => ⟨⟨_, (), rfl, c1.symm, by try dsimp only; rw [ht, mS_n hr1, mN_n hr1]; exact hX⟩, hS.F ht⟩) hS.2.2 dX0_minus_8
set_option maxHeartbeats 4000000 in
theorem met_sseconds (l : Launch) (D : va_G) (z : Nat) (h0 h1 : Nat) (cA : ClassId) (S : Nat → Int64) (N : Nat → Int32) (w : Int32) (k : Int32) (sz : Nat) (hn : nrm N) : Met l yX0_seconds (ws_ yX0_seconds cX0_seconds 3 (some .boolean)) ({ frames := 6, cells := 1, slots := 2, locals := 140 }) (va_Pc [.ref h0, .int w, .int k] (sdPre D z [(cA, .object "Duration")] [h1] sz (fun H => DW D h0 h1 cA S N H))) (va_Qi (fun (r : Int32) (_ : Unit) => r = rb S) (fun _ t => DW D h0 h1 cA (mS S (ix w) (nx (S (ix w)) (N (ix w)) k.toInt64 0)) (mN S N (ix w) (ny (N (ix w)) 0)) t.heap) (fr [h1] sz)) 1 2 (fr [h1] sz) := by
  refine sd_open (by decide) (Nat.le_of_ble_eq_true rfl) ?_
  intro p e s m below meth c ls hx hb hr hlocks hml hin hown hts hl hsz hK hZ hO hX
  subst hsz
  have hS : va_S (fr [h1] s.heap.size) s.heap s.heap [] := va_S.rf
  have hl : lv_has ls 3 [(0, .ref h0), (1, .int w), (2, .int k)] := hl
  have hX : DW D h0 h1 cA S N s.heap := hX
  have hk := (ix_eq w).2
  refine lv_aload_n hx hb dX0_seconds_0 rfl (lv_at hl 0 rfl) ?_
  refine va_calli (sd_V (own := RX0) (nL := 3) (n := 0) (As := []) (rest := []) ⟨hx, hb, hml, hown, hts⟩ (met_room l D z h0 h1 cA S N s.heap.size) q138 q140 qs1 q6 q141 rfl (by decide +kernel) rfl rfl ⟨Nat.le_of_ble_eq_true rfl, Nat.le_of_ble_eq_true rfl⟩ (dk_recv hK hX.1) hK hZ hO hS (fr_0 hS) hX hl.1 rfl (Nat.le_of_ble_eq_true rfl) dX0_seconds_1 ⟨Nat.le_of_ble_eq_true rfl, Nat.le_of_ble_eq_true rfl⟩) hS (fun q _ h => (fr_0 hS) q h) (fr_0 hS) (fun r54 _ t H1 locs1 ht hvm hw hB hz1 hk1 hS => ?_)
  have hX := hX.stay0 hk1
  have hw : rb S = r54 := Eq.symm hw
  subst hw
  clear hvm hB
  refine lv_if_ne (tgt := 9) hx hb dX0_seconds_4 (by decide) (fun c1 => ?_) (fun c1 => ?_)
  · have hr1 : roomy S := Classical.byContradiction (fun q => c1 (rb_n q))
    obtain ⟨a0, f, a1, hf⟩ : DW D h0 h1 cA S N H1 := hX
    obtain ⟨d0, f0, b0⟩ := hf (ix w) hk
    refine lv_aload_n hx hb dX0_seconds_9 rfl (lv_at hl 0 rfl) ?_
    refine va_get (D := D) (ci := 1) (v := .ref h1) (C := RX0) (T := TX0) (N := 1) hx hb hts in_X0 hown hK (P1 a0) 0 rfl rfl 0 (by decide) (hts _ q122) (fun _ h9 => h9) rfl dX0_seconds_10 ?_
    refine lv_iload_n hx hb dX0_seconds_13 rfl (lv_at hl 1 rfl) ?_
    refine lv_iconst (v := 1) hx hb dX0_seconds_14 (by decide) ?_
    refine lv_iand hx hb dX0_seconds_15 ?_
    refine lv_aload_n hx hb dX0_seconds_16 rfl (lv_at hl 0 rfl) ?_
    refine va_get (D := D) (ci := 1) (v := .ref h1) (C := RX0) (T := TX0) (N := 1) hx hb hts in_X0 hown hK (P1 a0) 0 rfl rfl 0 (by decide) (hts _ q122) (fun _ h9 => h9) rfl dX0_seconds_17 ?_
    refine lv_iload_n hx hb dX0_seconds_20 rfl (lv_at hl 1 rfl) ?_
    refine lv_iconst (v := 1) hx hb dX0_seconds_21 (by decide) ?_
    refine lv_iand hx hb dX0_seconds_22 ?_
    refine sd_aald hx hb hK 0 a1 rfl (ix_eq w).1 hk f0 dX0_seconds_23 ?_
    refine lv_iload_n hx hb dX0_seconds_24 rfl (lv_at hl 2 rfl) ?_
    refine lv_i2l hx hb dX0_seconds_25 rfl ?_
    refine va_callr (sd_V (own := RX0) (nL := 3) (n := 1) (As := [.long k.toInt64]) (rest := [.int (w &&& 1), .ref h1]) ⟨hx, hb, hml, hown, hts⟩ (met_plusSeconds l D z d0 (S (ix w)) (N (ix w)) k.toInt64 H1.size (ok_seconds k hr1 hn hk)) q176 q177 q178 q7 q179 rfl (by decide +kernel) rfl rfl ⟨Nat.le_of_ble_eq_true rfl, Nat.le_of_ble_eq_true rfl⟩ (du_recv hK b0) (hK.sub (tys' := []) [] rfl) hZ hO hS (fr_0 hS) b0 hl.1 rfl (Nat.le_of_ble_eq_true rfl) dX0_seconds_26 ⟨Nat.le_of_ble_eq_true rfl, Nat.le_of_ble_eq_true rfl⟩) hS (fun q _ h => (fr_0 hS) q h) (fr_0 hS) (fun _ a9 t H2 locs1 ht hvm hw hB hz1 hk1 hS => ?_)
    have a0 := a0.stay0 hk1
    have a1 := a1.stay0 hk1
    have hf := hf.stay0 hk1
    have hd : va_at D vwCl (a9, duE (nx (S (ix w)) (N (ix w)) k.toInt64 0) (ny (N (ix w)) 0)) H2 := by rw [ht] at hB; exact hB
    clear hvm hB
    have h01 : h0 ≠ h1 := ne_kind hK (t0 := 0) rfl a0 a1
    refine sd_aast hx hb hK 0 a1 rfl hd (ix_eq w).1 hk hS (Or.inl List.mem_cons_self) dX0_seconds_29 (fun H3 locs1 a2 hk2 hS => ?_)
    have hB : DW D h0 h1 cA (vp_updL S (ix w) (nx (S (ix w)) (N (ix w)) k.toInt64 0)) (upd N (ix w) (ny (N (ix w)) 0)) H3 := ⟨a0.away hk2 h01, _, a2, hf.put hK (t0 := 0) rfl a1 hd hk2⟩
    rw [← mS_y hr1, ← mN_y hr1] at hB
    refine lv_iconst (v := 1) hx hb dX0_seconds_30 (by decide) ?_
    refine W.widen (k := 1) (n := 2) (Nat.le_of_ble_eq_true rfl) (Nat.le_of_ble_eq_true rfl) ?_
    exact W.zret hx hb hr rfl (fun t ht hW => ⟨⟨_, (), rfl, (rb_y hr1).symm, by try dsimp only; rw [ht]; exact hB⟩, hS.F ht⟩) hS.2.2 dX0_seconds_31
  · have hr1 : ¬ roomy S := rb_ne.mp c1
    refine lv_iconst (v := 0) hx hb dX0_seconds_7 (by decide) ?_
    refine W.widen (k := 1) (n := 2) (Nat.le_of_ble_eq_true rfl) (Nat.le_of_ble_eq_true rfl) ?_
    exact W.zret hx hb hr rfl (fun t ht hW => ⟨⟨_, (), rfl, c1.symm, by try dsimp only; rw [ht, mS_n hr1, mN_n hr1]; exact hX⟩, hS.F ht⟩) hS.2.2 dX0_seconds_8
set_option maxHeartbeats 4000000 in
theorem met_smillis (l : Launch) (D : va_G) (z : Nat) (h0 h1 : Nat) (cA : ClassId) (S : Nat → Int64) (N : Nat → Int32) (w : Int32) (k : Int32) (sz : Nat) (hn : nrm N) : Met l yX0_millis (ws_ yX0_millis cX0_millis 3 (some .boolean)) ({ frames := 6, cells := 1, slots := 2, locals := 140 }) (va_Pc [.ref h0, .int w, .int k] (sdPre D z [(cA, .object "Duration")] [h1] sz (fun H => DW D h0 h1 cA S N H))) (va_Qi (fun (r : Int32) (_ : Unit) => r = rb S) (fun _ t => DW D h0 h1 cA (mS S (ix w) (nx (S (ix w)) (N (ix w)) (k.toInt64 / 1000) ((k.toInt64 - k.toInt64 / 1000 * 1000) * 1000000))) (mN S N (ix w) (ny (N (ix w)) ((k.toInt64 - k.toInt64 / 1000 * 1000) * 1000000))) t.heap) (fr [h1] sz)) 1 2 (fr [h1] sz) := by
  refine sd_open (by decide) (Nat.le_of_ble_eq_true rfl) ?_
  intro p e s m below meth c ls hx hb hr hlocks hml hin hown hts hl hsz hK hZ hO hX
  subst hsz
  have hS : va_S (fr [h1] s.heap.size) s.heap s.heap [] := va_S.rf
  have hl : lv_has ls 3 [(0, .ref h0), (1, .int w), (2, .int k)] := hl
  have hX : DW D h0 h1 cA S N s.heap := hX
  have hk := (ix_eq w).2
  refine lv_aload_n hx hb dX0_millis_0 rfl (lv_at hl 0 rfl) ?_
  refine va_calli (sd_V (own := RX0) (nL := 3) (n := 0) (As := []) (rest := []) ⟨hx, hb, hml, hown, hts⟩ (met_room l D z h0 h1 cA S N s.heap.size) q138 q140 qs1 q6 q141 rfl (by decide +kernel) rfl rfl ⟨Nat.le_of_ble_eq_true rfl, Nat.le_of_ble_eq_true rfl⟩ (dk_recv hK hX.1) hK hZ hO hS (fr_0 hS) hX hl.1 rfl (Nat.le_of_ble_eq_true rfl) dX0_millis_1 ⟨Nat.le_of_ble_eq_true rfl, Nat.le_of_ble_eq_true rfl⟩) hS (fun q _ h => (fr_0 hS) q h) (fr_0 hS) (fun r56 _ t H1 locs1 ht hvm hw hB hz1 hk1 hS => ?_)
  have hX := hX.stay0 hk1
  have hw : rb S = r56 := Eq.symm hw
  subst hw
  clear hvm hB
  refine lv_if_ne (tgt := 9) hx hb dX0_millis_4 (by decide) (fun c1 => ?_) (fun c1 => ?_)
  · have hr1 : roomy S := Classical.byContradiction (fun q => c1 (rb_n q))
    obtain ⟨a0, f, a1, hf⟩ : DW D h0 h1 cA S N H1 := hX
    obtain ⟨d0, f0, b0⟩ := hf (ix w) hk
    refine lv_aload_n hx hb dX0_millis_9 rfl (lv_at hl 0 rfl) ?_
    refine va_get (D := D) (ci := 1) (v := .ref h1) (C := RX0) (T := TX0) (N := 1) hx hb hts in_X0 hown hK (P1 a0) 0 rfl rfl 0 (by decide) (hts _ q122) (fun _ h9 => h9) rfl dX0_millis_10 ?_
    refine lv_iload_n hx hb dX0_millis_13 rfl (lv_at hl 1 rfl) ?_
    refine lv_iconst (v := 1) hx hb dX0_millis_14 (by decide) ?_
    refine lv_iand hx hb dX0_millis_15 ?_
    refine lv_aload_n hx hb dX0_millis_16 rfl (lv_at hl 0 rfl) ?_
    refine va_get (D := D) (ci := 1) (v := .ref h1) (C := RX0) (T := TX0) (N := 1) hx hb hts in_X0 hown hK (P1 a0) 0 rfl rfl 0 (by decide) (hts _ q122) (fun _ h9 => h9) rfl dX0_millis_17 ?_
    refine lv_iload_n hx hb dX0_millis_20 rfl (lv_at hl 1 rfl) ?_
    refine lv_iconst (v := 1) hx hb dX0_millis_21 (by decide) ?_
    refine lv_iand hx hb dX0_millis_22 ?_
    refine sd_aald hx hb hK 0 a1 rfl (ix_eq w).1 hk f0 dX0_millis_23 ?_
    refine lv_iload_n hx hb dX0_millis_24 rfl (lv_at hl 2 rfl) ?_
    refine lv_i2l hx hb dX0_millis_25 rfl ?_
    refine va_callr (sd_V (own := RX0) (nL := 3) (n := 1) (As := [.long k.toInt64]) (rest := [.int (w &&& 1), .ref h1]) ⟨hx, hb, hml, hown, hts⟩ (met_plusMillis l D z d0 (S (ix w)) (N (ix w)) k.toInt64 H1.size (ok_millis k hr1 hn hk)) q184 q185 q186 q7 q187 rfl (by decide +kernel) rfl rfl ⟨Nat.le_of_ble_eq_true rfl, Nat.le_of_ble_eq_true rfl⟩ (du_recv hK b0) (hK.sub (tys' := []) [] rfl) hZ hO hS (fr_0 hS) b0 hl.1 rfl (Nat.le_of_ble_eq_true rfl) dX0_millis_26 ⟨Nat.le_of_ble_eq_true rfl, Nat.le_of_ble_eq_true rfl⟩) hS (fun q _ h => (fr_0 hS) q h) (fr_0 hS) (fun _ a9 t H2 locs1 ht hvm hw hB hz1 hk1 hS => ?_)
    have a0 := a0.stay0 hk1
    have a1 := a1.stay0 hk1
    have hf := hf.stay0 hk1
    have hd : va_at D vwCl (a9, duE (nx (S (ix w)) (N (ix w)) (k.toInt64 / 1000) ((k.toInt64 - k.toInt64 / 1000 * 1000) * 1000000)) (ny (N (ix w)) ((k.toInt64 - k.toInt64 / 1000 * 1000) * 1000000))) H2 := by rw [ht] at hB; exact hB
    clear hvm hB
    have h01 : h0 ≠ h1 := ne_kind hK (t0 := 0) rfl a0 a1
    refine sd_aast hx hb hK 0 a1 rfl hd (ix_eq w).1 hk hS (Or.inl List.mem_cons_self) dX0_millis_29 (fun H3 locs1 a2 hk2 hS => ?_)
    have hB : DW D h0 h1 cA (vp_updL S (ix w) (nx (S (ix w)) (N (ix w)) (k.toInt64 / 1000) ((k.toInt64 - k.toInt64 / 1000 * 1000) * 1000000))) (upd N (ix w) (ny (N (ix w)) ((k.toInt64 - k.toInt64 / 1000 * 1000) * 1000000))) H3 := ⟨a0.away hk2 h01, _, a2, hf.put hK (t0 := 0) rfl a1 hd hk2⟩
    rw [← mS_y hr1, ← mN_y hr1] at hB
    refine lv_iconst (v := 1) hx hb dX0_millis_30 (by decide) ?_
    refine W.widen (k := 1) (n := 2) (Nat.le_of_ble_eq_true rfl) (Nat.le_of_ble_eq_true rfl) ?_
    exact W.zret hx hb hr rfl (fun t ht hW => ⟨⟨_, (), rfl, (rb_y hr1).symm, by try dsimp only; rw [ht]; exact hB⟩, hS.F ht⟩) hS.2.2 dX0_millis_31
  · have hr1 : ¬ roomy S := rb_ne.mp c1
    refine lv_iconst (v := 0) hx hb dX0_millis_7 (by decide) ?_
    refine W.widen (k := 1) (n := 2) (Nat.le_of_ble_eq_true rfl) (Nat.le_of_ble_eq_true rfl) ?_
    exact W.zret hx hb hr rfl (fun t ht hW => ⟨⟨_, (), rfl, c1.symm, by try dsimp only; rw [ht, mS_n hr1, mN_n hr1]; exact hX⟩, hS.F ht⟩) hS.2.2 dX0_millis_8
set_option maxHeartbeats 4000000 in
theorem met_snanos (l : Launch) (D : va_G) (z : Nat) (h0 h1 : Nat) (cA : ClassId) (S : Nat → Int64) (N : Nat → Int32) (w : Int32) (k : Int32) (sz : Nat) (hn : nrm N) : Met l yX0_nanos (ws_ yX0_nanos cX0_nanos 3 (some .boolean)) ({ frames := 6, cells := 1, slots := 2, locals := 140 }) (va_Pc [.ref h0, .int w, .int k] (sdPre D z [(cA, .object "Duration")] [h1] sz (fun H => DW D h0 h1 cA S N H))) (va_Qi (fun (r : Int32) (_ : Unit) => r = rb S) (fun _ t => DW D h0 h1 cA (mS S (ix w) (nx (S (ix w)) (N (ix w)) 0 k.toInt64)) (mN S N (ix w) (ny (N (ix w)) k.toInt64)) t.heap) (fr [h1] sz)) 1 2 (fr [h1] sz) := by
  refine sd_open (by decide) (Nat.le_of_ble_eq_true rfl) ?_
  intro p e s m below meth c ls hx hb hr hlocks hml hin hown hts hl hsz hK hZ hO hX
  subst hsz
  have hS : va_S (fr [h1] s.heap.size) s.heap s.heap [] := va_S.rf
  have hl : lv_has ls 3 [(0, .ref h0), (1, .int w), (2, .int k)] := hl
  have hX : DW D h0 h1 cA S N s.heap := hX
  have hk := (ix_eq w).2
  refine lv_aload_n hx hb dX0_nanos_0 rfl (lv_at hl 0 rfl) ?_
  refine va_calli (sd_V (own := RX0) (nL := 3) (n := 0) (As := []) (rest := []) ⟨hx, hb, hml, hown, hts⟩ (met_room l D z h0 h1 cA S N s.heap.size) q138 q140 qs1 q6 q141 rfl (by decide +kernel) rfl rfl ⟨Nat.le_of_ble_eq_true rfl, Nat.le_of_ble_eq_true rfl⟩ (dk_recv hK hX.1) hK hZ hO hS (fr_0 hS) hX hl.1 rfl (Nat.le_of_ble_eq_true rfl) dX0_nanos_1 ⟨Nat.le_of_ble_eq_true rfl, Nat.le_of_ble_eq_true rfl⟩) hS (fun q _ h => (fr_0 hS) q h) (fr_0 hS) (fun r58 _ t H1 locs1 ht hvm hw hB hz1 hk1 hS => ?_)
  have hX := hX.stay0 hk1
  have hw : rb S = r58 := Eq.symm hw
  subst hw
  clear hvm hB
  refine lv_if_ne (tgt := 9) hx hb dX0_nanos_4 (by decide) (fun c1 => ?_) (fun c1 => ?_)
  · have hr1 : roomy S := Classical.byContradiction (fun q => c1 (rb_n q))
    obtain ⟨a0, f, a1, hf⟩ : DW D h0 h1 cA S N H1 := hX
    obtain ⟨d0, f0, b0⟩ := hf (ix w) hk
    refine lv_aload_n hx hb dX0_nanos_9 rfl (lv_at hl 0 rfl) ?_
    refine va_get (D := D) (ci := 1) (v := .ref h1) (C := RX0) (T := TX0) (N := 1) hx hb hts in_X0 hown hK (P1 a0) 0 rfl rfl 0 (by decide) (hts _ q122) (fun _ h9 => h9) rfl dX0_nanos_10 ?_
    refine lv_iload_n hx hb dX0_nanos_13 rfl (lv_at hl 1 rfl) ?_
    refine lv_iconst (v := 1) hx hb dX0_nanos_14 (by decide) ?_
    refine lv_iand hx hb dX0_nanos_15 ?_
    refine lv_aload_n hx hb dX0_nanos_16 rfl (lv_at hl 0 rfl) ?_
    refine va_get (D := D) (ci := 1) (v := .ref h1) (C := RX0) (T := TX0) (N := 1) hx hb hts in_X0 hown hK (P1 a0) 0 rfl rfl 0 (by decide) (hts _ q122) (fun _ h9 => h9) rfl dX0_nanos_17 ?_
    refine lv_iload_n hx hb dX0_nanos_20 rfl (lv_at hl 1 rfl) ?_
    refine lv_iconst (v := 1) hx hb dX0_nanos_21 (by decide) ?_
    refine lv_iand hx hb dX0_nanos_22 ?_
    refine sd_aald hx hb hK 0 a1 rfl (ix_eq w).1 hk f0 dX0_nanos_23 ?_
    refine lv_iload_n hx hb dX0_nanos_24 rfl (lv_at hl 2 rfl) ?_
    refine lv_i2l hx hb dX0_nanos_25 rfl ?_
    refine va_callr (sd_V (own := RX0) (nL := 3) (n := 1) (As := [.long k.toInt64]) (rest := [.int (w &&& 1), .ref h1]) ⟨hx, hb, hml, hown, hts⟩ (met_plusNanos l D z d0 (S (ix w)) (N (ix w)) k.toInt64 H1.size (ok_nanos k hr1 hn hk)) q194 q195 q196 q7 q197 rfl (by decide +kernel) rfl rfl ⟨Nat.le_of_ble_eq_true rfl, Nat.le_of_ble_eq_true rfl⟩ (du_recv hK b0) (hK.sub (tys' := []) [] rfl) hZ hO hS (fr_0 hS) b0 hl.1 rfl (Nat.le_of_ble_eq_true rfl) dX0_nanos_26 ⟨Nat.le_of_ble_eq_true rfl, Nat.le_of_ble_eq_true rfl⟩) hS (fun q _ h => (fr_0 hS) q h) (fr_0 hS) (fun _ a9 t H2 locs1 ht hvm hw hB hz1 hk1 hS => ?_)
    have a0 := a0.stay0 hk1
    have a1 := a1.stay0 hk1
    have hf := hf.stay0 hk1
    have hd : va_at D vwCl (a9, duE (nx (S (ix w)) (N (ix w)) 0 k.toInt64) (ny (N (ix w)) k.toInt64)) H2 := by rw [ht] at hB; exact hB
    clear hvm hB
    have h01 : h0 ≠ h1 := ne_kind hK (t0 := 0) rfl a0 a1
    refine sd_aast hx hb hK 0 a1 rfl hd (ix_eq w).1 hk hS (Or.inl List.mem_cons_self) dX0_nanos_29 (fun H3 locs1 a2 hk2 hS => ?_)
    have hB : DW D h0 h1 cA (vp_updL S (ix w) (nx (S (ix w)) (N (ix w)) 0 k.toInt64)) (upd N (ix w) (ny (N (ix w)) k.toInt64)) H3 := ⟨a0.away hk2 h01, _, a2, hf.put hK (t0 := 0) rfl a1 hd hk2⟩
    rw [← mS_y hr1, ← mN_y hr1] at hB
    refine lv_iconst (v := 1) hx hb dX0_nanos_30 (by decide) ?_
    refine W.widen (k := 1) (n := 2) (Nat.le_of_ble_eq_true rfl) (Nat.le_of_ble_eq_true rfl) ?_
    exact W.zret hx hb hr rfl (fun t ht hW => ⟨⟨_, (), rfl, (rb_y hr1).symm, by try dsimp only; rw [ht]; exact hB⟩, hS.F ht⟩) hS.2.2 dX0_nanos_31
  · have hr1 : ¬ roomy S := rb_ne.mp c1
    refine lv_iconst (v := 0) hx hb dX0_nanos_7 (by decide) ?_
    refine W.widen (k := 1) (n := 2) (Nat.le_of_ble_eq_true rfl) (Nat.le_of_ble_eq_true rfl) ?_
    exact W.zret hx hb hr rfl (fun t ht hW => ⟨⟨_, (), rfl, c1.symm, by try dsimp only; rw [ht, mS_n hr1, mN_n hr1]; exact hX⟩, hS.F ht⟩) hS.2.2 dX0_nanos_8
set_option maxHeartbeats 4000000 in
theorem met_sset (l : Launch) (D : va_G) (z : Nat) (h0 h1 : Nat) (cA : ClassId) (S : Nat → Int64) (N : Nat → Int32) (w h9 l9 n9 : Int32) (sz : Nat) : Met l yX0_set (ws_ yX0_set cX0_set 5 none) ({ frames := 4, cells := 1, slots := 2, locals := 90 }) (va_Pc [.ref h0, .int w, .int h9, .int l9, .int n9] (sdPre D z [(cA, .object "Duration")] [h1] sz (fun H => DW D h0 h1 cA S N H))) (va_Qv (fun (_ : Unit) => True) (fun _ t => DW D h0 h1 cA (vp_updL S (ix w) (wd h9 l9 + fdv n9.toInt64)) (upd N (ix w) (fmd n9.toInt64)) t.heap) (fr [h1] sz)) 1 2 (fr [h1] sz) := by
  refine sd_open (by decide) (Nat.le_of_ble_eq_true rfl) ?_
  intro p e s m below meth c ls hx hb hr hlocks hml hin hown hts hl hsz hK hZ hO hX
  subst hsz
  have hS : va_S (fr [h1] s.heap.size) s.heap s.heap [] := va_S.rf
  have hl : lv_has ls 5 [(0, .ref h0), (1, .int w), (2, .int h9), (3, .int l9), (4, .int n9)] := hl
  have hk := (ix_eq w).2
  obtain ⟨a0, f, a1, hf⟩ : DW D h0 h1 cA S N s.heap := hX
  refine lv_aload_n hx hb dX0_set_0 rfl (lv_at hl 0 rfl) ?_
  refine va_get (D := D) (ci := 1) (v := .ref h1) (C := RX0) (T := TX0) (N := 1) hx hb hts in_X0 hown hK (P1 a0) 0 rfl rfl 0 (by decide) (hts _ q122) (fun _ h9 => h9) rfl dX0_set_1 ?_
  refine lv_iload_n hx hb dX0_set_4 rfl (lv_at hl 1 rfl) ?_
  refine lv_iconst (v := 1) hx hb dX0_set_5 (by decide) ?_
  refine lv_iand hx hb dX0_set_6 ?_
  refine lv_iload_n hx hb dX0_set_7 rfl (lv_at hl 2 rfl) ?_
  refine lv_iload_n hx hb dX0_set_8 rfl (lv_at hl 3 rfl) ?_
  refine va_calll (sd_S (own := RX0) (nL := 5) (n := 2) (As := [.int h9, .int l9]) (rest := [.int (w &&& 1), .ref h1]) ⟨hx, hb, hml, hown, hts⟩ (met_wide l D z h9 l9 s.heap.size) q130 q131 q6 q132 rfl (by decide +kernel) rfl rfl ⟨Nat.le_of_ble_eq_true rfl, Nat.le_of_ble_eq_true rfl⟩ (hK.sub (tys' := []) [] rfl) hZ hO hS (fr_0 hS) trivial hl.1 rfl (Nat.le_of_ble_eq_true rfl) dX0_set_9 ⟨Nat.le_of_ble_eq_true rfl, Nat.le_of_ble_eq_true rfl⟩) hS (fun q _ h => (fr_0 hS) q h) (fr_0 hS) (fun r60 _ t H1 locs1 ht hvm hw hB hz1 hk1 hS => ?_)
  have a0 := a0.stay0 hk1
  have a1 := a1.stay0 hk1
  have hf := hf.stay0 hk1
  have hw : wd h9 l9 = r60 := Eq.symm hw
  subst hw
  clear hvm hB
  refine lv_iload hx hb dX0_set_12 (lv_at hl 4 rfl) ?_
  refine lv_i2l hx hb dX0_set_14 rfl ?_
  refine va_callr (sd_S (own := RX0) (nL := 5) (n := 2) (As := [.long (wd h9 l9), .long n9.toInt64]) (rest := [.int (w &&& 1), .ref h1]) ⟨hx, hb, hml, hown, hts⟩ (met_ofSeconds l D z (wd h9 l9) n9.toInt64 H1.size (ok_set h9 l9 n9)) q24 q25 q7 q26 rfl (by decide +kernel) rfl rfl ⟨Nat.le_of_ble_eq_true rfl, Nat.le_of_ble_eq_true rfl⟩ (hK.sub (tys' := []) [] rfl) hZ hO hS (fr_0 hS) trivial hl.1 rfl (Nat.le_of_ble_eq_true rfl) dX0_set_15 ⟨Nat.le_of_ble_eq_true rfl, Nat.le_of_ble_eq_true rfl⟩) hS (fun q _ h => (fr_0 hS) q h) (fr_0 hS) (fun _ a9 t H2 locs1 ht hvm hw hB hz1 hk1 hS => ?_)
  have a0 := a0.stay0 hk1
  have a1 := a1.stay0 hk1
  have hf := hf.stay0 hk1
  have hd : va_at D vwCl (a9, duE (wd h9 l9 + fdv n9.toInt64) (fmd n9.toInt64)) H2 := by rw [ht] at hB; exact hB
  clear hvm hB
  have h01 : h0 ≠ h1 := ne_kind hK (t0 := 0) rfl a0 a1
  refine sd_aast hx hb hK 0 a1 rfl hd (ix_eq w).1 hk hS (Or.inl List.mem_cons_self) dX0_set_18 (fun H3 locs1 a2 hk2 hS => ?_)
  have hB : DW D h0 h1 cA (vp_updL S (ix w) (wd h9 l9 + fdv n9.toInt64)) (upd N (ix w) (fmd n9.toInt64)) H3 := ⟨a0.away hk2 h01, _, a2, hf.put hK (t0 := 0) rfl a1 hd hk2⟩
  refine W.widen (k := 1) (n := 2) (Nat.le_of_ble_eq_true rfl) (Nat.le_of_ble_eq_true rfl) ?_
  exact W.vret hx hb hr (fun t ht hW => ⟨⟨(), rfl, trivial, by try dsimp only; rw [ht]; exact hB⟩, hS.F ht⟩) hS.2.2 dX0_set_19
set_option maxHeartbeats 4000000 in
theorem met_sinit (l : Launch) (D : va_G) (z : Nat) (h0 : Nat) (sz : Nat) : Met l yX0_init (ws_ yX0_init cX0_init 1 none) ({ frames := 4, cells := 3, slots := 6, locals := 90 }) (va_Pc [.ref h0] (sdPre D z [] [h0] sz (fun H => va_at D vwCl (h0, .inr (1, [.null])) H))) (va_Qv (fun (_ : Unit) => True) (fun _ t => ∃ (h1 : Nat) (cA : ClassId), sz ≤ h1 ∧ va_K D vwCl [(cA, .object "Duration")] t ∧ DW D h0 h1 cA (fun _ => 0) (fun _ => 0) t.heap) (fr [h0] sz)) 3 6 (fr [h0] sz) := by
  refine sd_open (by decide) (Nat.le_of_ble_eq_true rfl) ?_
  intro p e s m below meth c ls hx hb hr hlocks hml hin hown hts hl hsz hK hZ hO hX
  subst hsz
  have hS : va_S (fr [h0] s.heap.size) s.heap s.heap [] := va_S.rf
  have hl : lv_has ls 1 [(0, .ref h0)] := hl
  have a0 : va_at D vwCl (h0, .inr (1, [.null])) s.heap := hX
  have z0 := hX.lt
  refine lv_aload_n hx hb dX0_init_0 rfl (lv_at hl 0 rfl) ?_
  refine W.objInit hx hb hown (hts _ q19) (hts _ q20) (hts _ q21) rfl (by rw [hml]; exact hl.1) rfl dX0_init_1 (Nat.le_of_ble_eq_true rfl) (Nat.le_of_ble_eq_true rfl) ?_
  refine W.eq (g2 := F0 m 4 ls []) rfl ?_
  refine lv_aload_n hx hb dX0_init_4 rfl (lv_at hl 0 rfl) ?_
  refine lv_iconst (v := 2) hx hb dX0_init_5 (by decide) ?_
  refine sd_newq (D := D) hx hb hown (hts _ q22) hO hS (by decide +kernel) (Nat.le_of_ble_eq_true rfl) (Nat.le_of_ble_eq_true rfl) dX0_init_6 (fun h1 cA H1 hq1 hz1 hKx a1 hk3 hS => ?_)
  have a0 := a0.born hk3
  have h01 : h0 ≠ h1 := by omega
  have hK1 : va_K D vwCl [(cA, .object "Duration")] s := hKx _ hK
  have hA1 : fr [h0] s.heap.size h1 := Or.inr (by omega)
  refine lv_dup hx hb dX0_init_9 rfl ?_
  refine lv_iconst (v := 0) hx hb dX0_init_10 (by decide) ?_
  refine lv_lconst (v := 0) hx hb dX0_init_11 (by decide) ?_
  refine lv_lconst (v := 0) hx hb dX0_init_12 (by decide) ?_
  refine va_callr (sd_S (own := RX0) (nL := 1) (n := 2) (As := [.long 0, .long 0]) (rest := [.int 0, .ref h1, .ref h1, .ref h0]) ⟨hx, hb, hml, hown, hts⟩ (met_ofSeconds l D z 0 0 H1.size (by unfold inR; decide +kernel)) q24 q25 q7 q26 rfl (by decide +kernel) rfl rfl ⟨Nat.le_of_ble_eq_true rfl, Nat.le_of_ble_eq_true rfl⟩ hK hZ hO hS (fr_0 hS) trivial hl.1 rfl (Nat.le_of_ble_eq_true rfl) dX0_init_13 ⟨Nat.le_of_ble_eq_true rfl, Nat.le_of_ble_eq_true rfl⟩) hS (fun q _ h => (fr_0 hS) q h) (fr_0 hS) (fun _ d0 t H2 locs1 ht hvm hw hB hz1 hk1 hS => ?_)
  have a0 := a0.stay0 hk1
  have a1 := a1.stay0 hk1
  have e0 : va_at D vwCl (d0, duE 0 0) H2 := by rw [ht] at hB; exact du_00 hB
  clear hvm hB
  have g0 : d0 ≠ h1 := ne_kind hK1 (t0 := 0) rfl e0 a1
  refine sd_aast hx hb hK1 0 a1 rfl e0 nI_zero (by omega) hS hA1 dX0_init_16 (fun H3 locs1 a1 hk2 hS => ?_)
  have a0 := a0.away hk2 h01
  have e0 := e0.away hk2 g0
  refine lv_dup hx hb dX0_init_17 rfl ?_
  refine lv_iconst (v := 1) hx hb dX0_init_18 (by decide) ?_
  refine lv_lconst (v := 0) hx hb dX0_init_19 (by decide) ?_
  refine lv_lconst (v := 0) hx hb dX0_init_20 (by decide) ?_
  refine va_callr (sd_S (own := RX0) (nL := 1) (n := 2) (As := [.long 0, .long 0]) (rest := [.int 1, .ref h1, .ref h1, .ref h0]) ⟨hx, hb, hml, hown, hts⟩ (met_ofSeconds l D z 0 0 H3.size (by unfold inR; decide +kernel)) q24 q25 q7 q26 rfl (by decide +kernel) rfl rfl ⟨Nat.le_of_ble_eq_true rfl, Nat.le_of_ble_eq_true rfl⟩ hK hZ hO hS (fr_0 hS) trivial hl.1 rfl (Nat.le_of_ble_eq_true rfl) dX0_init_21 ⟨Nat.le_of_ble_eq_true rfl, Nat.le_of_ble_eq_true rfl⟩) hS (fun q _ h => (fr_0 hS) q h) (fr_0 hS) (fun _ d1 t H4 locs1 ht hvm hw hB hz1 hk1 hS => ?_)
  have a0 := a0.stay0 hk1
  have a1 := a1.stay0 hk1
  have e0 := e0.stay0 hk1
  have e1 : va_at D vwCl (d1, duE 0 0) H4 := by rw [ht] at hB; exact du_00 hB
  clear hvm hB
  have g1 : d1 ≠ h1 := ne_kind hK1 (t0 := 0) rfl e1 a1
  refine sd_aast hx hb hK1 0 a1 rfl e1 nI_one (by omega) hS hA1 dX0_init_24 (fun H5 locs1 a1 hk2 hS => ?_)
  have a0 := a0.away hk2 h01
  have e1 := e1.away hk2 g1
  have e0 := e0.away hk2 g0
  have g2 : d0 ≠ h0 := ne_du hK e0 a0
  have g3 : d1 ≠ h0 := ne_du hK e1 a0
  refine sd_putF (C := RX0) (T := TX0) (ty := .array (.object "Duration")) hx hb hts in_X0 tyX0 tyX0_ok nmX0 hown hK a0 hS (Or.inl List.mem_cons_self) rfl 0 (by decide) q122 rfl hin rfl (by decide +kernel) rfl rfl (Nat.le_of_ble_eq_true rfl) dX0_init_25 (fun H6 locs1 a0 hk2 hS => ?_)
  have a0 : va_at D vwCl (h0, .inr (1, [.ref h1])) H6 := a0
  have a1 := a1.away hk2 (Ne.symm h01)
  have e0 := e0.away hk2 g2
  have e1 := e1.away hk2 g3
  refine W.widen (k := 3) (n := 6) (Nat.le_of_ble_eq_true rfl) (Nat.le_of_ble_eq_true rfl) ?_
  exact W.vret hx hb hr (fun t ht hW => ⟨⟨(), rfl, trivial, ⟨h1, cA, by omega, va_K.moved hW.alike hK1, by rw [ht]; exact ⟨a0, _, a1, pd_00 e0 e1⟩⟩⟩, hS.F ht⟩) hS.2.2 dX0_init_28
end
section
/-! THE CLAIM OUT OF ONE WALK OF THE LAW'S BODY. Your part is whole_start (and what it stands on); all else here is the same for every law, but numbers. -/
def R_law : String := "SpanDeskLaw"
def lw_P (b : Addr) (xs : List Int32) (args : Array Value) (s : State) : Prop := args = #[.ref b] ∧ s.IntsAt b xs ∧ xs.length ≤ 288 ∧ (Jvm.Cond.and given_1 narrow_1).before args s = true
def lw_Q (_ : Array Value) (s : State) (o : Outcome) (t : State) : Prop := o = .returned (some (.int 1)) ∧ Framed s o t [] 1200096 5501386
def lw_Z (below : List Frame) (a : Array Value) (s : State) : State → Prop := fun t => ∃ o, t.status = .running ∧ Ended t below o ∧ lw_Q a s o t
/-- the law's own end, with 1 on the stack, nothing written that was there before, its room as the claim has it -/
theorem lw_ret {p : Program} {l : Launch} {e : Env} {s : State} {m : MethodId} {below : List Frame} {meth : Method} {c : Code} {b : Nat} (hx : p.tables.exec = Jvm.exec) (hb : c.code = code) (hr : meth.sig.returnType = ret) (hlocks : meth.locks = false) {pc : Nat} {H : Heap} {ls : Array Slot} (hdg : decode code pc = .ok (.ireturn, 1)) : W p l e room_1 s m #[Value.ref b] below meth c H [] 1200096 5501386 (lw_Z below #[Value.ref b] s) (F0 m pc ls [.int 1]) := by
  intro T hT X
  obtain ⟨fs, hret, hrun, hended, hW, hframe⟩ := X.leave (v := some (.int 1)) (hlocks := hlocks) (fun h => by rw [hr] at h; cases h)
  have hmeth' : T.vm.method? m = some meth := X.method'
  refine ⟨T.setFrames fs, ?_, .returned (some (.int 1)), hrun, hended, rfl, ⟨_, rfl⟩, hW, hframe⟩
  jvm_step X.here [X.here.top, hx, hb, hdg, hmeth', hr, ret, narrow_b1]
  (try refine ⟨rfl, ?_⟩); (try refine ⟨rfl, ?_⟩)
  first | (intro acts; rw [hret _ acts rfl rfl rfl]) | rw [hret _ _ rfl rfl rfl]
  exact Steps.refl _
/-- what holds at the law's entry: the machine, the code, the tables' words (any of lw_tbl by 'hts w (by decide +kernel)'), the script of L ints xs at the cell b, what the Statement gives of the start (any of its parts by flat_of_before) -/
def lw_At (p : Program) (s : State) (m : MethodId) (meth : Method) (c : Code) (b L : Nat) (xs : Nat → Int32) : Prop :=
  p.tables.exec = Jvm.exec ∧ c.code = code ∧ meth.sig.returnType = ret ∧ c.maxLocals = 4 ∧ s.vm.findClass R_law = some m.cls ∧ (∀ w ∈ lw_tbl, w.before #[Value.ref b] s = true) ∧ va_X b L xs s s.heap ∧ b < s.heap.size ∧ meth.locks = false ∧ (Jvm.Cond.and given_1 narrow_1).before #[Value.ref b] s = true
end
section
/-! THE LAW: its thirteen cases (printed by gen/contracts.py) -/
set_option maxRecDepth 100000
/-- the script is read at a known place -/
theorem sd_sld {p : Program} {l : Launch} {e : Env} {R : Room} {s : State} {m : MethodId} {args : Array Value} {below : List Frame} {meth : Method} {c : Code} {H : Heap} {locs : List Loc} {cells slots : Nat} {Q : State → Prop} {cc : ByteArray} {pc : Nat} {ls : Array Slot} {rest : List Value} (hexec : p.tables.exec = Jvm.exec) (hb : c.code = cc) {b L : Nat} {xs : Nat → Int32} (hX : va_X b L xs s s.heap) (hbl : b < s.heap.size) (hL : L ≤ 288) (hS : va_S (fr [] s.heap.size) s.heap H locs) {i : Int32} {k : Nat} (hi : i = nI k) (hk : k < L) (hdg : decode cc pc = .ok (.iaload, 1))
    (kk : W p l e R s m args below meth c H locs cells slots Q (F0 m (pc + 1) ls (.int (xs k) :: rest))) : W p l e R s m args below meth c H locs cells slots Q (F0 m pc ls (.int i :: .ref b :: rest)) := by
  subst hi
  refine va_sld hexec hb hX hbl (fun h => h.elim (fun z => by cases z) (fun z => absurd hbl (Nat.not_lt.mpr z))) hS (vp_in_nI hk (by omega)) hdg ?_
  rw [nI_clamp (by omega)]
  exact kk
theorem sx_1 (a : Nat) : nI a + 1 = nI (a + 1) := nI_1 a
theorem sx_2 (a : Nat) : nI a + 2 = nI (a + 2) := by
  rw [← nI_add]
  rfl
theorem sx_3 (a : Nat) : nI a + 3 = nI (a + 3) := by
  rw [← nI_add]
  rfl
theorem sx_4 (a : Nat) : nI a + 4 = nI (a + 4) := by
  rw [← nI_add]
  rfl
theorem sx_6 (a : Nat) : nI (6 * a) + Int32.ofInt 6 = nI (6 * (a + 1)) := by
  rw [show 6 * (a + 1) = 6 * a + 6 by omega, ← nI_add]
  rfl
theorem sx_len {L a : Nat} (hL : L ≤ 288) (ha : a ≤ L) : (nI L - 6 < nI a ↔ L < a + 6) := by
  have e1 : (nI L).toInt = (L : Int) := nI_toInt (by omega)
  have e2 : (nI a).toInt = (a : Int) := nI_toInt (by omega)
  have e6 : (6 : Int32).toInt = 6 := by decide +kernel
  rw [Int32.lt_iff_toInt_lt, i_sub (by rw [e1, e6]; omega) (by rw [e1, e6]; omega), e1, e2, e6]
  omega
theorem fr0_of {sz q : Nat} (h : sz ≤ q) : fr [] sz q := Or.inr h
theorem DW.born {D : va_G} {h0 h1 : Nat} {cA : ClassId} {S : Nat → Int64} {N : Nat → Int32} {H H1 : Heap} (h : DW D h0 h1 cA S N H) (hk : ∀ a : Nat, a < H.size → H1[a]? = H[a]?) : DW D h0 h1 cA S N H1 := by
  obtain ⟨a, f, b, c⟩ := h
  exact ⟨a.born hk, f, b.born hk, c.born hk⟩
/-- what the desk writes isn't the reference's -/
theorem MW.stayD {D : va_G} {tys : List (ClassId × FieldType)} {s : State} {t0 x0 x1 m0 m1 m2 : Nat} {cA cL cI : ClassId} {ty : FieldType} {S S2 : Nat → Int64} {N N2 : Nat → Int32} {H H1 : Heap} (hK : va_K D vwCl tys s) (ht : tys[t0]? = some (cA, ty)) (hM : MW D m0 m1 m2 cL cI S N H) (hD : DW D x0 x1 cA S2 N2 H) (hk : ∀ a : Nat, a < H.size → ¬ fr [x1] H.size a → H1[a]? = H[a]?) : MW D m0 m1 m2 cL cI S N H1 := by
  obtain ⟨a0, a1, a2⟩ := hM
  obtain ⟨-, f, b1, -⟩ := hD
  exact ⟨a0.stay hk (fun z => ne_kind hK ht a0 b1 (List.mem_singleton.mp z)), a1.stay hk (fun z => ne_lq a1 b1 (List.mem_singleton.mp z)), a2.stay hk (fun z => ne_iq a2 b1 (List.mem_singleton.mp z))⟩
/-- what the reference writes isn't the desk's -/
theorem DW.stayM {D : va_G} {tys : List (ClassId × FieldType)} {s : State} {t1 t2 x0 x1 m0 m1 m2 : Nat} {cA cL cI : ClassId} {ty1 ty2 : FieldType} {S S2 : Nat → Int64} {N N2 : Nat → Int32} {H H1 : Heap} (hK : va_K D vwCl tys s) (ht1 : tys[t1]? = some (cL, ty1)) (ht2 : tys[t2]? = some (cI, ty2)) (hM : MW D m0 m1 m2 cL cI S N H) (hD : DW D x0 x1 cA S2 N2 H) (hk : ∀ a : Nat, a < H.size → ¬ fr [m1, m2] H.size a → H1[a]? = H[a]?) : DW D x0 x1 cA S2 N2 H1 := by
  obtain ⟨-, a1, a2⟩ := hM
  obtain ⟨b0, f, b1, bf⟩ := hD
  have two : ∀ {q : Nat}, q ≠ m1 → q ≠ m2 → q ∉ [m1, m2] := fun n1 n2 z => by
    rcases List.mem_cons.mp z with e | e
    · exact n1 e
    · exact n2 (List.mem_singleton.mp e)
  refine ⟨b0.stay hk (two (ne_kind hK ht1 b0 a1) (ne_kind hK ht2 b0 a2)), f, b1.stay hk (two (Ne.symm (ne_lq a1 b1)) (Ne.symm (ne_iq a2 b1))), fun i hi => ?_⟩
  obtain ⟨d, e1, e2⟩ := bf i hi
  exact ⟨d, e1, e2.stay hk (two (ne_kind hK ht1 e2 a1) (ne_kind hK ht2 e2 a2))⟩

set_option maxHeartbeats 4000000 in
/-- case 0: set -/
theorem law_c0 {p : Program} {l : Launch} {e : Env} {s : State} {m : MethodId} {below : List Frame} {meth : Method} {c : Code} {Q : State → Prop} {D : va_G} {z b L : Nat} {xs : Nat → Int32} {x0 x1 m0 m1 m2 : Nat} {cA cL cI : ClassId} {it : Nat} {S : Nat → Int64} {N : Nat → Int32} {H : Heap} {locs : List Loc} {ls : Array Slot} (hx : p.tables.exec = Jvm.exec) (hb : c.code = code) (hml : c.maxLocals = 4) (hown : s.vm.findClass R_law = some m.cls) (hts : ∀ w ∈ lw_all, w.before #[Value.ref b] s = true) (hXs : va_X b L xs s s.heap) (hbl : b < s.heap.size) (hL : L ≤ 288) (hK : va_K D vwCl [(cA, .object "Duration"), (cL, .long), (cI, .int)] s) (hZ : KZ D z (fr [] s.heap.size) s s.heap) (hO : va_AO "Duration" s) (g1 : s.heap.size ≤ x1) (g2 : s.heap.size ≤ m1) (g3 : s.heap.size ≤ m2)
    (hit : 6 * it + 6 ≤ L) (hn : nrm N) (hDW : DW D x0 x1 cA S N H) (hMW : MW D m0 m1 m2 cL cI S N H) (hS : va_S (fr [] s.heap.size) s.heap H locs) (hl : lv_has ls 4 [(0, .ref b), (1, .ref x0), (2, .ref m0), (3, .int (nI (6 * it)))])
    (kk : ∀ (S : Nat → Int64) (N : Nat → Int32) (H : Heap) (locs : List Loc) (ls : Array Slot), nrm N → DW D x0 x1 cA S N H → MW D m0 m1 m2 cL cI S N H → va_S (fr [] s.heap.size) s.heap H locs → lv_has ls 4 [(0, .ref b), (1, .ref x0), (2, .ref m0), (3, .int (nI (6 * it)))] → W p l e room_1 s m #[Value.ref b] below meth c H locs (7 + (it + 1)) (13 + 2 * (it + 1)) Q (F0 m 450 ls [])) :
    W p l e room_1 s m #[Value.ref b] below meth c H locs (7 + it) (13 + 2 * it) Q (F0 m 100 ls []) := by
  refine lv_aload_n hx hb dL_law_100 rfl (lv_at hl 1 rfl) ?_
  refine lv_aload_n hx hb dL_law_101 rfl (lv_at hl 0 rfl) ?_
  refine lv_iload_n hx hb dL_law_102 rfl (lv_at hl 3 rfl) ?_
  refine lv_iconst (v := 1) hx hb dL_law_103 (by decide) ?_
  refine lv_iadd hx hb dL_law_104 ?_
  refine sd_sld hx hb hXs hbl hL hS (sx_1 _) (by omega) dL_law_105 ?_
  refine lv_aload_n hx hb dL_law_106 rfl (lv_at hl 0 rfl) ?_
  refine lv_iload_n hx hb dL_law_107 rfl (lv_at hl 3 rfl) ?_
  refine lv_iconst (v := 2) hx hb dL_law_108 (by decide) ?_
  refine lv_iadd hx hb dL_law_109 ?_
  refine sd_sld hx hb hXs hbl hL hS (sx_2 _) (by omega) dL_law_110 ?_
  refine lv_aload_n hx hb dL_law_111 rfl (lv_at hl 0 rfl) ?_
  refine lv_iload_n hx hb dL_law_112 rfl (lv_at hl 3 rfl) ?_
  refine lv_iconst (v := 3) hx hb dL_law_113 (by decide) ?_
  refine lv_iadd hx hb dL_law_114 ?_
  refine sd_sld hx hb hXs hbl hL hS (sx_3 _) (by omega) dL_law_115 ?_
  refine lv_aload_n hx hb dL_law_116 rfl (lv_at hl 0 rfl) ?_
  refine lv_iload_n hx hb dL_law_117 rfl (lv_at hl 3 rfl) ?_
  refine lv_iconst (v := 4) hx hb dL_law_118 (by decide) ?_
  refine lv_iadd hx hb dL_law_119 ?_
  refine sd_sld hx hb hXs hbl hL hS (sx_4 _) (by omega) dL_law_120 ?_
  refine va_callv (sd_V (own := R_law) (nL := 4) (n := 4) (As := [.int (xs (6 * it + 1)), .int (xs (6 * it + 2)), .int (xs (6 * it + 3)), .int (xs (6 * it + 4))]) (rest := []) ⟨hx, hb, hml, hown, hts⟩ (met_sset l D z x0 x1 cA S N (xs (6 * it + 1)) (xs (6 * it + 2)) (xs (6 * it + 3)) (xs (6 * it + 4)) H.size) q126 q127 q128 q6 q129 rfl (by decide +kernel) rfl rfl ⟨Nat.le_of_ble_eq_true rfl, Nat.le_of_ble_eq_true rfl⟩ (dk_recv hK hDW.1) (hK.sub (tys' := [(cA, .object "Duration")]) [0] rfl) hZ hO hS (fr_call hS (fun q h => by rcases List.mem_singleton.mp h with rfl; exact Or.inr g1)) hDW hl.1 rfl (Nat.le_of_ble_eq_true rfl) dL_law_121 ⟨by show _ ≤ 1200096; omega, by show _ ≤ 5501386; omega⟩) hS (fun q _ h => (fr_call hS (fun q h => by rcases List.mem_singleton.mp h with rfl; exact Or.inr g1)) q h) (fr_call hS (fun q h => by rcases List.mem_singleton.mp h with rfl; exact Or.inr g1)) (fun _ t H1 locs1 ht hvm hw hB hz1 hk1 hS => ?_)
  have hMW := hMW.stayD hK (t0 := 0) rfl hDW hk1
  have hDW : DW D x0 x1 cA (vp_updL S (ix (xs (6 * it + 1))) (wd (xs (6 * it + 2)) (xs (6 * it + 3)) + fdv (xs (6 * it + 4)).toInt64)) (upd N (ix (xs (6 * it + 1))) (fmd (xs (6 * it + 4)).toInt64)) H1 := by rw [ht] at hB; exact hB
  clear hvm hB
  refine lv_aload_n hx hb dL_law_124 rfl (lv_at hl 2 rfl) ?_
  refine lv_aload_n hx hb dL_law_125 rfl (lv_at hl 0 rfl) ?_
  refine lv_iload_n hx hb dL_law_126 rfl (lv_at hl 3 rfl) ?_
  refine lv_iconst (v := 1) hx hb dL_law_127 (by decide) ?_
  refine lv_iadd hx hb dL_law_128 ?_
  refine sd_sld hx hb hXs hbl hL hS (sx_1 _) (by omega) dL_law_129 ?_
  refine lv_aload_n hx hb dL_law_130 rfl (lv_at hl 0 rfl) ?_
  refine lv_iload_n hx hb dL_law_131 rfl (lv_at hl 3 rfl) ?_
  refine lv_iconst (v := 2) hx hb dL_law_132 (by decide) ?_
  refine lv_iadd hx hb dL_law_133 ?_
  refine sd_sld hx hb hXs hbl hL hS (sx_2 _) (by omega) dL_law_134 ?_
  refine lv_aload_n hx hb dL_law_135 rfl (lv_at hl 0 rfl) ?_
  refine lv_iload_n hx hb dL_law_136 rfl (lv_at hl 3 rfl) ?_
  refine lv_iconst (v := 3) hx hb dL_law_137 (by decide) ?_
  refine lv_iadd hx hb dL_law_138 ?_
  refine sd_sld hx hb hXs hbl hL hS (sx_3 _) (by omega) dL_law_139 ?_
  refine lv_aload_n hx hb dL_law_140 rfl (lv_at hl 0 rfl) ?_
  refine lv_iload_n hx hb dL_law_141 rfl (lv_at hl 3 rfl) ?_
  refine lv_iconst (v := 4) hx hb dL_law_142 (by decide) ?_
  refine lv_iadd hx hb dL_law_143 ?_
  refine sd_sld hx hb hXs hbl hL hS (sx_4 _) (by omega) dL_law_144 ?_
  refine va_callv (sd_V (own := R_law) (nL := 4) (n := 4) (As := [.int (xs (6 * it + 1)), .int (xs (6 * it + 2)), .int (xs (6 * it + 3)), .int (xs (6 * it + 4))]) (rest := []) ⟨hx, hb, hml, hown, hts⟩ (met_mset l D z m0 m1 m2 cL cI S N (xs (6 * it + 1)) (xs (6 * it + 2)) (xs (6 * it + 3)) (xs (6 * it + 4)) H1.size) q267 q268 q269 q13 q270 rfl (by decide +kernel) rfl rfl ⟨Nat.le_of_ble_eq_true rfl, Nat.le_of_ble_eq_true rfl⟩ (md_recv hK hMW.1) (hK.sub (tys' := [(cL, .long), (cI, .int)]) [1, 2] rfl) hZ hO hS (fr_call hS (fun q h => by rcases List.mem_cons.mp h with e9 | e9; exact Or.inr (by rw [e9]; exact g2); exact Or.inr (by rw [List.mem_singleton.mp e9]; exact g3))) hMW hl.1 rfl (Nat.le_of_ble_eq_true rfl) dL_law_145 ⟨by show _ ≤ 1200096; omega, by show _ ≤ 5501386; omega⟩) hS (fun q _ h => (fr_call hS (fun q h => by rcases List.mem_cons.mp h with e9 | e9; exact Or.inr (by rw [e9]; exact g2); exact Or.inr (by rw [List.mem_singleton.mp e9]; exact g3))) q h) (fr_call hS (fun q h => by rcases List.mem_cons.mp h with e9 | e9; exact Or.inr (by rw [e9]; exact g2); exact Or.inr (by rw [List.mem_singleton.mp e9]; exact g3))) (fun _ t H2 locs2 ht hvm hw hB hz1 hk1 hS => ?_)
  have hDW := hDW.stayM hK (t1 := 1) (t2 := 2) rfl rfl hMW hk1
  have hMW : MW D m0 m1 m2 cL cI (vp_updL S (ix (xs (6 * it + 1))) (wd (xs (6 * it + 2)) (xs (6 * it + 3)) + fdv (xs (6 * it + 4)).toInt64)) (upd N (ix (xs (6 * it + 1))) (fmd (xs (6 * it + 4)).toInt64)) H2 := by rw [ht] at hB; exact hB
  clear hvm hB
  refine lv_goto (tgt := 450) hx hb dL_law_148 (by decide) ?_
  refine W.widen (k := 7 + (it + 1)) (n := 13 + 2 * (it + 1)) (by omega) (by omega) ?_
  exact kk _ _ _ _ ls (nrm_upd hn) hDW hMW hS hl
set_option maxHeartbeats 4000000 in
/-- case 1: plus -/
theorem law_c1 {p : Program} {l : Launch} {e : Env} {s : State} {m : MethodId} {below : List Frame} {meth : Method} {c : Code} {Q : State → Prop} {D : va_G} {z b L : Nat} {xs : Nat → Int32} {x0 x1 m0 m1 m2 : Nat} {cA cL cI : ClassId} {it : Nat} {S : Nat → Int64} {N : Nat → Int32} {H : Heap} {locs : List Loc} {ls : Array Slot} (hx : p.tables.exec = Jvm.exec) (hb : c.code = code) (hml : c.maxLocals = 4) (hown : s.vm.findClass R_law = some m.cls) (hts : ∀ w ∈ lw_all, w.before #[Value.ref b] s = true) (hXs : va_X b L xs s s.heap) (hbl : b < s.heap.size) (hL : L ≤ 288) (hK : va_K D vwCl [(cA, .object "Duration"), (cL, .long), (cI, .int)] s) (hZ : KZ D z (fr [] s.heap.size) s s.heap) (hO : va_AO "Duration" s) (g1 : s.heap.size ≤ x1) (g2 : s.heap.size ≤ m1) (g3 : s.heap.size ≤ m2)
    (hit : 6 * it + 6 ≤ L) (hn : nrm N) (hDW : DW D x0 x1 cA S N H) (hMW : MW D m0 m1 m2 cL cI S N H) (hS : va_S (fr [] s.heap.size) s.heap H locs) (hl : lv_has ls 4 [(0, .ref b), (1, .ref x0), (2, .ref m0), (3, .int (nI (6 * it)))])
    (kk : ∀ (S : Nat → Int64) (N : Nat → Int32) (H : Heap) (locs : List Loc) (ls : Array Slot), nrm N → DW D x0 x1 cA S N H → MW D m0 m1 m2 cL cI S N H → va_S (fr [] s.heap.size) s.heap H locs → lv_has ls 4 [(0, .ref b), (1, .ref x0), (2, .ref m0), (3, .int (nI (6 * it)))] → W p l e room_1 s m #[Value.ref b] below meth c H locs (7 + (it + 1)) (13 + 2 * (it + 1)) Q (F0 m 450 ls [])) :
    W p l e room_1 s m #[Value.ref b] below meth c H locs (7 + it) (13 + 2 * it) Q (F0 m 151 ls []) := by
  refine lv_aload_n hx hb dL_law_151 rfl (lv_at hl 1 rfl) ?_
  refine lv_aload_n hx hb dL_law_152 rfl (lv_at hl 0 rfl) ?_
  refine lv_iload_n hx hb dL_law_153 rfl (lv_at hl 3 rfl) ?_
  refine lv_iconst (v := 1) hx hb dL_law_154 (by decide) ?_
  refine lv_iadd hx hb dL_law_155 ?_
  refine sd_sld hx hb hXs hbl hL hS (sx_1 _) (by omega) dL_law_156 ?_
  refine va_calli (sd_V (own := R_law) (nL := 4) (n := 1) (As := [.int (xs (6 * it + 1))]) (rest := []) ⟨hx, hb, hml, hown, hts⟩ (met_splus l D z x0 x1 cA S N (xs (6 * it + 1)) H.size hn) q134 q135 q136 q6 q137 rfl (by decide +kernel) rfl rfl ⟨Nat.le_of_ble_eq_true rfl, Nat.le_of_ble_eq_true rfl⟩ (dk_recv hK hDW.1) (hK.sub (tys' := [(cA, .object "Duration")]) [0] rfl) hZ hO hS (fr_call hS (fun q h => by rcases List.mem_singleton.mp h with rfl; exact Or.inr g1)) hDW hl.1 rfl (Nat.le_of_ble_eq_true rfl) dL_law_157 ⟨by show _ ≤ 1200096; omega, by show _ ≤ 5501386; omega⟩) hS (fun q _ h => (fr_call hS (fun q h => by rcases List.mem_singleton.mp h with rfl; exact Or.inr g1)) q h) (fr_call hS (fun q h => by rcases List.mem_singleton.mp h with rfl; exact Or.inr g1)) (fun r1 _ t H1 locs1 ht hvm hw hB hz1 hk1 hS => ?_)
  have hMW := hMW.stayD hK (t0 := 0) rfl hDW hk1
  have hDW : DW D x0 x1 cA (mS S (ix (xs (6 * it + 1))) (nx (S (ix (xs (6 * it + 1)))) (N (ix (xs (6 * it + 1)))) (S (1 - ix (xs (6 * it + 1)))) ((N (1 - ix (xs (6 * it + 1)))).toInt64))) (mN S N (ix (xs (6 * it + 1))) (ny (N (ix (xs (6 * it + 1)))) ((N (1 - ix (xs (6 * it + 1)))).toInt64))) H1 := by rw [ht] at hB; exact hB
  have hw : rb S = r1 := Eq.symm hw
  subst hw
  clear hvm hB
  refine lv_aload_n hx hb dL_law_160 rfl (lv_at hl 2 rfl) ?_
  refine lv_aload_n hx hb dL_law_161 rfl (lv_at hl 0 rfl) ?_
  refine lv_iload_n hx hb dL_law_162 rfl (lv_at hl 3 rfl) ?_
  refine lv_iconst (v := 1) hx hb dL_law_163 (by decide) ?_
  refine lv_iadd hx hb dL_law_164 ?_
  refine sd_sld hx hb hXs hbl hL hS (sx_1 _) (by omega) dL_law_165 ?_
  refine va_calli (sd_V (own := R_law) (nL := 4) (n := 1) (As := [.int (xs (6 * it + 1))]) (rest := [.int (rb S)]) ⟨hx, hb, hml, hown, hts⟩ (met_mplus l D z m0 m1 m2 cL cI S N (xs (6 * it + 1)) H1.size) q280 q281 q282 q13 q283 rfl (by decide +kernel) rfl rfl ⟨Nat.le_of_ble_eq_true rfl, Nat.le_of_ble_eq_true rfl⟩ (md_recv hK hMW.1) (hK.sub (tys' := [(cL, .long), (cI, .int)]) [1, 2] rfl) hZ hO hS (fr_call hS (fun q h => by rcases List.mem_cons.mp h with e9 | e9; exact Or.inr (by rw [e9]; exact g2); exact Or.inr (by rw [List.mem_singleton.mp e9]; exact g3))) hMW hl.1 rfl (Nat.le_of_ble_eq_true rfl) dL_law_166 ⟨by show _ ≤ 1200096; omega, by show _ ≤ 5501386; omega⟩) hS (fun q _ h => (fr_call hS (fun q h => by rcases List.mem_cons.mp h with e9 | e9; exact Or.inr (by rw [e9]; exact g2); exact Or.inr (by rw [List.mem_singleton.mp e9]; exact g3))) q h) (fr_call hS (fun q h => by rcases List.mem_cons.mp h with e9 | e9; exact Or.inr (by rw [e9]; exact g2); exact Or.inr (by rw [List.mem_singleton.mp e9]; exact g3))) (fun r2 _ t H2 locs2 ht hvm hw hB hz1 hk1 hS => ?_)
  have hDW := hDW.stayM hK (t1 := 1) (t2 := 2) rfl rfl hMW hk1
  have hMW : MW D m0 m1 m2 cL cI (mS S (ix (xs (6 * it + 1))) (nx (S (ix (xs (6 * it + 1)))) (N (ix (xs (6 * it + 1)))) (S (1 - ix (xs (6 * it + 1)))) ((N (1 - ix (xs (6 * it + 1)))).toInt64))) (mN S N (ix (xs (6 * it + 1))) (ny (N (ix (xs (6 * it + 1)))) ((N (1 - ix (xs (6 * it + 1)))).toInt64))) H2 := by rw [ht] at hB; exact hB
  have hw : rb S = r2 := Eq.symm hw
  subst hw
  clear hvm hB
  refine lv_icmp_eq (tgt := 450) hx hb dL_law_169 (by decide) (fun c1 => ?_) (fun c1 => ?_)
  · refine W.widen (k := 7 + (it + 1)) (n := 13 + 2 * (it + 1)) (by omega) (by omega) ?_
    exact kk _ _ _ _ ls (nrm_m hn) hDW hMW hS hl
  · exact absurd rfl c1
set_option maxHeartbeats 4000000 in
/-- case 2: minus -/
theorem law_c2 {p : Program} {l : Launch} {e : Env} {s : State} {m : MethodId} {below : List Frame} {meth : Method} {c : Code} {Q : State → Prop} {D : va_G} {z b L : Nat} {xs : Nat → Int32} {x0 x1 m0 m1 m2 : Nat} {cA cL cI : ClassId} {it : Nat} {S : Nat → Int64} {N : Nat → Int32} {H : Heap} {locs : List Loc} {ls : Array Slot} (hx : p.tables.exec = Jvm.exec) (hb : c.code = code) (hml : c.maxLocals = 4) (hown : s.vm.findClass R_law = some m.cls) (hts : ∀ w ∈ lw_all, w.before #[Value.ref b] s = true) (hXs : va_X b L xs s s.heap) (hbl : b < s.heap.size) (hL : L ≤ 288) (hK : va_K D vwCl [(cA, .object "Duration"), (cL, .long), (cI, .int)] s) (hZ : KZ D z (fr [] s.heap.size) s s.heap) (hO : va_AO "Duration" s) (g1 : s.heap.size ≤ x1) (g2 : s.heap.size ≤ m1) (g3 : s.heap.size ≤ m2)
    (hit : 6 * it + 6 ≤ L) (hn : nrm N) (hDW : DW D x0 x1 cA S N H) (hMW : MW D m0 m1 m2 cL cI S N H) (hS : va_S (fr [] s.heap.size) s.heap H locs) (hl : lv_has ls 4 [(0, .ref b), (1, .ref x0), (2, .ref m0), (3, .int (nI (6 * it)))])
    (kk : ∀ (S : Nat → Int64) (N : Nat → Int32) (H : Heap) (locs : List Loc) (ls : Array Slot), nrm N → DW D x0 x1 cA S N H → MW D m0 m1 m2 cL cI S N H → va_S (fr [] s.heap.size) s.heap H locs → lv_has ls 4 [(0, .ref b), (1, .ref x0), (2, .ref m0), (3, .int (nI (6 * it)))] → W p l e room_1 s m #[Value.ref b] below meth c H locs (7 + (it + 1)) (13 + 2 * (it + 1)) Q (F0 m 450 ls [])) :
    W p l e room_1 s m #[Value.ref b] below meth c H locs (7 + it) (13 + 2 * it) Q (F0 m 174 ls []) := by
  refine lv_aload_n hx hb dL_law_174 rfl (lv_at hl 1 rfl) ?_
  refine lv_aload_n hx hb dL_law_175 rfl (lv_at hl 0 rfl) ?_
  refine lv_iload_n hx hb dL_law_176 rfl (lv_at hl 3 rfl) ?_
  refine lv_iconst (v := 1) hx hb dL_law_177 (by decide) ?_
  refine lv_iadd hx hb dL_law_178 ?_
  refine sd_sld hx hb hXs hbl hL hS (sx_1 _) (by omega) dL_law_179 ?_
  refine va_calli (sd_V (own := R_law) (nL := 4) (n := 1) (As := [.int (xs (6 * it + 1))]) (rest := []) ⟨hx, hb, hml, hown, hts⟩ (met_sminus l D z x0 x1 cA S N (xs (6 * it + 1)) H.size hn) q162 q163 q164 q6 q165 rfl (by decide +kernel) rfl rfl ⟨Nat.le_of_ble_eq_true rfl, Nat.le_of_ble_eq_true rfl⟩ (dk_recv hK hDW.1) (hK.sub (tys' := [(cA, .object "Duration")]) [0] rfl) hZ hO hS (fr_call hS (fun q h => by rcases List.mem_singleton.mp h with rfl; exact Or.inr g1)) hDW hl.1 rfl (Nat.le_of_ble_eq_true rfl) dL_law_180 ⟨by show _ ≤ 1200096; omega, by show _ ≤ 5501386; omega⟩) hS (fun q _ h => (fr_call hS (fun q h => by rcases List.mem_singleton.mp h with rfl; exact Or.inr g1)) q h) (fr_call hS (fun q h => by rcases List.mem_singleton.mp h with rfl; exact Or.inr g1)) (fun r1 _ t H1 locs1 ht hvm hw hB hz1 hk1 hS => ?_)
  have hMW := hMW.stayD hK (t0 := 0) rfl hDW hk1
  have hDW : DW D x0 x1 cA (mS S (ix (xs (6 * it + 1))) (nx (S (ix (xs (6 * it + 1)))) (N (ix (xs (6 * it + 1)))) (-S (1 - ix (xs (6 * it + 1)))) (-(N (1 - ix (xs (6 * it + 1)))).toInt64))) (mN S N (ix (xs (6 * it + 1))) (ny (N (ix (xs (6 * it + 1)))) (-(N (1 - ix (xs (6 * it + 1)))).toInt64))) H1 := by rw [ht] at hB; exact hB
  have hw : rb S = r1 := Eq.symm hw
  subst hw
  clear hvm hB
  refine lv_aload_n hx hb dL_law_183 rfl (lv_at hl 2 rfl) ?_
  refine lv_aload_n hx hb dL_law_184 rfl (lv_at hl 0 rfl) ?_
  refine lv_iload_n hx hb dL_law_185 rfl (lv_at hl 3 rfl) ?_
  refine lv_iconst (v := 1) hx hb dL_law_186 (by decide) ?_
  refine lv_iadd hx hb dL_law_187 ?_
  refine sd_sld hx hb hXs hbl hL hS (sx_1 _) (by omega) dL_law_188 ?_
  refine va_calli (sd_V (own := R_law) (nL := 4) (n := 1) (As := [.int (xs (6 * it + 1))]) (rest := [.int (rb S)]) ⟨hx, hb, hml, hown, hts⟩ (met_mminus l D z m0 m1 m2 cL cI S N (xs (6 * it + 1)) H1.size) q296 q297 q298 q13 q299 rfl (by decide +kernel) rfl rfl ⟨Nat.le_of_ble_eq_true rfl, Nat.le_of_ble_eq_true rfl⟩ (md_recv hK hMW.1) (hK.sub (tys' := [(cL, .long), (cI, .int)]) [1, 2] rfl) hZ hO hS (fr_call hS (fun q h => by rcases List.mem_cons.mp h with e9 | e9; exact Or.inr (by rw [e9]; exact g2); exact Or.inr (by rw [List.mem_singleton.mp e9]; exact g3))) hMW hl.1 rfl (Nat.le_of_ble_eq_true rfl) dL_law_189 ⟨by show _ ≤ 1200096; omega, by show _ ≤ 5501386; omega⟩) hS (fun q _ h => (fr_call hS (fun q h => by rcases List.mem_cons.mp h with e9 | e9; exact Or.inr (by rw [e9]; exact g2); exact Or.inr (by rw [List.mem_singleton.mp e9]; exact g3))) q h) (fr_call hS (fun q h => by rcases List.mem_cons.mp h with e9 | e9; exact Or.inr (by rw [e9]; exact g2); exact Or.inr (by rw [List.mem_singleton.mp e9]; exact g3))) (fun r2 _ t H2 locs2 ht hvm hw hB hz1 hk1 hS => ?_)
  have hDW := hDW.stayM hK (t1 := 1) (t2 := 2) rfl rfl hMW hk1
  have hMW : MW D m0 m1 m2 cL cI (mS S (ix (xs (6 * it + 1))) (nx (S (ix (xs (6 * it + 1)))) (N (ix (xs (6 * it + 1)))) (-S (1 - ix (xs (6 * it + 1)))) (-(N (1 - ix (xs (6 * it + 1)))).toInt64))) (mN S N (ix (xs (6 * it + 1))) (ny (N (ix (xs (6 * it + 1)))) (-(N (1 - ix (xs (6 * it + 1)))).toInt64))) H2 := by rw [ht] at hB; exact hB
  have hw : rb S = r2 := Eq.symm hw
  subst hw
  clear hvm hB
  refine lv_icmp_eq (tgt := 450) hx hb dL_law_192 (by decide) (fun c1 => ?_) (fun c1 => ?_)
  · refine W.widen (k := 7 + (it + 1)) (n := 13 + 2 * (it + 1)) (by omega) (by omega) ?_
    exact kk _ _ _ _ ls (nrm_m hn) hDW hMW hS hl
  · exact absurd rfl c1
set_option maxHeartbeats 4000000 in
/-- case 3: seconds -/
theorem law_c3 {p : Program} {l : Launch} {e : Env} {s : State} {m : MethodId} {below : List Frame} {meth : Method} {c : Code} {Q : State → Prop} {D : va_G} {z b L : Nat} {xs : Nat → Int32} {x0 x1 m0 m1 m2 : Nat} {cA cL cI : ClassId} {it : Nat} {S : Nat → Int64} {N : Nat → Int32} {H : Heap} {locs : List Loc} {ls : Array Slot} (hx : p.tables.exec = Jvm.exec) (hb : c.code = code) (hml : c.maxLocals = 4) (hown : s.vm.findClass R_law = some m.cls) (hts : ∀ w ∈ lw_all, w.before #[Value.ref b] s = true) (hXs : va_X b L xs s s.heap) (hbl : b < s.heap.size) (hL : L ≤ 288) (hK : va_K D vwCl [(cA, .object "Duration"), (cL, .long), (cI, .int)] s) (hZ : KZ D z (fr [] s.heap.size) s s.heap) (hO : va_AO "Duration" s) (g1 : s.heap.size ≤ x1) (g2 : s.heap.size ≤ m1) (g3 : s.heap.size ≤ m2)
    (hit : 6 * it + 6 ≤ L) (hn : nrm N) (hDW : DW D x0 x1 cA S N H) (hMW : MW D m0 m1 m2 cL cI S N H) (hS : va_S (fr [] s.heap.size) s.heap H locs) (hl : lv_has ls 4 [(0, .ref b), (1, .ref x0), (2, .ref m0), (3, .int (nI (6 * it)))])
    (kk : ∀ (S : Nat → Int64) (N : Nat → Int32) (H : Heap) (locs : List Loc) (ls : Array Slot), nrm N → DW D x0 x1 cA S N H → MW D m0 m1 m2 cL cI S N H → va_S (fr [] s.heap.size) s.heap H locs → lv_has ls 4 [(0, .ref b), (1, .ref x0), (2, .ref m0), (3, .int (nI (6 * it)))] → W p l e room_1 s m #[Value.ref b] below meth c H locs (7 + (it + 1)) (13 + 2 * (it + 1)) Q (F0 m 450 ls [])) :
    W p l e room_1 s m #[Value.ref b] below meth c H locs (7 + it) (13 + 2 * it) Q (F0 m 197 ls []) := by
  refine lv_aload_n hx hb dL_law_197 rfl (lv_at hl 1 rfl) ?_
  refine lv_aload_n hx hb dL_law_198 rfl (lv_at hl 0 rfl) ?_
  refine lv_iload_n hx hb dL_law_199 rfl (lv_at hl 3 rfl) ?_
  refine lv_iconst (v := 1) hx hb dL_law_200 (by decide) ?_
  refine lv_iadd hx hb dL_law_201 ?_
  refine sd_sld hx hb hXs hbl hL hS (sx_1 _) (by omega) dL_law_202 ?_
  refine lv_aload_n hx hb dL_law_203 rfl (lv_at hl 0 rfl) ?_
  refine lv_iload_n hx hb dL_law_204 rfl (lv_at hl 3 rfl) ?_
  refine lv_iconst (v := 2) hx hb dL_law_205 (by decide) ?_
  refine lv_iadd hx hb dL_law_206 ?_
  refine sd_sld hx hb hXs hbl hL hS (sx_2 _) (by omega) dL_law_207 ?_
  refine va_calli (sd_V (own := R_law) (nL := 4) (n := 2) (As := [.int (xs (6 * it + 1)), .int (xs (6 * it + 2))]) (rest := []) ⟨hx, hb, hml, hown, hts⟩ (met_sseconds l D z x0 x1 cA S N (xs (6 * it + 1)) (xs (6 * it + 2)) H.size hn) q172 q173 q174 q6 q175 rfl (by decide +kernel) rfl rfl ⟨Nat.le_of_ble_eq_true rfl, Nat.le_of_ble_eq_true rfl⟩ (dk_recv hK hDW.1) (hK.sub (tys' := [(cA, .object "Duration")]) [0] rfl) hZ hO hS (fr_call hS (fun q h => by rcases List.mem_singleton.mp h with rfl; exact Or.inr g1)) hDW hl.1 rfl (Nat.le_of_ble_eq_true rfl) dL_law_208 ⟨by show _ ≤ 1200096; omega, by show _ ≤ 5501386; omega⟩) hS (fun q _ h => (fr_call hS (fun q h => by rcases List.mem_singleton.mp h with rfl; exact Or.inr g1)) q h) (fr_call hS (fun q h => by rcases List.mem_singleton.mp h with rfl; exact Or.inr g1)) (fun r1 _ t H1 locs1 ht hvm hw hB hz1 hk1 hS => ?_)
  have hMW := hMW.stayD hK (t0 := 0) rfl hDW hk1
  have hDW : DW D x0 x1 cA (mS S (ix (xs (6 * it + 1))) (nx (S (ix (xs (6 * it + 1)))) (N (ix (xs (6 * it + 1)))) (xs (6 * it + 2)).toInt64 0)) (mN S N (ix (xs (6 * it + 1))) (ny (N (ix (xs (6 * it + 1)))) 0)) H1 := by rw [ht] at hB; exact hB
  have hw : rb S = r1 := Eq.symm hw
  subst hw
  clear hvm hB
  refine lv_aload_n hx hb dL_law_211 rfl (lv_at hl 2 rfl) ?_
  refine lv_aload_n hx hb dL_law_212 rfl (lv_at hl 0 rfl) ?_
  refine lv_iload_n hx hb dL_law_213 rfl (lv_at hl 3 rfl) ?_
  refine lv_iconst (v := 1) hx hb dL_law_214 (by decide) ?_
  refine lv_iadd hx hb dL_law_215 ?_
  refine sd_sld hx hb hXs hbl hL hS (sx_1 _) (by omega) dL_law_216 ?_
  refine lv_aload_n hx hb dL_law_217 rfl (lv_at hl 0 rfl) ?_
  refine lv_iload_n hx hb dL_law_218 rfl (lv_at hl 3 rfl) ?_
  refine lv_iconst (v := 2) hx hb dL_law_219 (by decide) ?_
  refine lv_iadd hx hb dL_law_220 ?_
  refine sd_sld hx hb hXs hbl hL hS (sx_2 _) (by omega) dL_law_221 ?_
  refine va_calli (sd_V (own := R_law) (nL := 4) (n := 2) (As := [.int (xs (6 * it + 1)), .int (xs (6 * it + 2))]) (rest := [.int (rb S)]) ⟨hx, hb, hml, hown, hts⟩ (met_mseconds l D z m0 m1 m2 cL cI S N (xs (6 * it + 1)) (xs (6 * it + 2)) H1.size) q300 q301 q302 q13 q303 rfl (by decide +kernel) rfl rfl ⟨Nat.le_of_ble_eq_true rfl, Nat.le_of_ble_eq_true rfl⟩ (md_recv hK hMW.1) (hK.sub (tys' := [(cL, .long), (cI, .int)]) [1, 2] rfl) hZ hO hS (fr_call hS (fun q h => by rcases List.mem_cons.mp h with e9 | e9; exact Or.inr (by rw [e9]; exact g2); exact Or.inr (by rw [List.mem_singleton.mp e9]; exact g3))) hMW hl.1 rfl (Nat.le_of_ble_eq_true rfl) dL_law_222 ⟨by show _ ≤ 1200096; omega, by show _ ≤ 5501386; omega⟩) hS (fun q _ h => (fr_call hS (fun q h => by rcases List.mem_cons.mp h with e9 | e9; exact Or.inr (by rw [e9]; exact g2); exact Or.inr (by rw [List.mem_singleton.mp e9]; exact g3))) q h) (fr_call hS (fun q h => by rcases List.mem_cons.mp h with e9 | e9; exact Or.inr (by rw [e9]; exact g2); exact Or.inr (by rw [List.mem_singleton.mp e9]; exact g3))) (fun r2 _ t H2 locs2 ht hvm hw hB hz1 hk1 hS => ?_)
  have hDW := hDW.stayM hK (t1 := 1) (t2 := 2) rfl rfl hMW hk1
  have hMW : MW D m0 m1 m2 cL cI (mS S (ix (xs (6 * it + 1))) (nx (S (ix (xs (6 * it + 1)))) (N (ix (xs (6 * it + 1)))) (xs (6 * it + 2)).toInt64 0)) (mN S N (ix (xs (6 * it + 1))) (ny (N (ix (xs (6 * it + 1)))) 0)) H2 := by rw [ht] at hB; exact hB
  have hw : rb S = r2 := Eq.symm hw
  subst hw
  clear hvm hB
  refine lv_icmp_eq (tgt := 450) hx hb dL_law_225 (by decide) (fun c1 => ?_) (fun c1 => ?_)
  · refine W.widen (k := 7 + (it + 1)) (n := 13 + 2 * (it + 1)) (by omega) (by omega) ?_
    exact kk _ _ _ _ ls (nrm_m hn) hDW hMW hS hl
  · exact absurd rfl c1
set_option maxHeartbeats 4000000 in
/-- case 4: millis -/
theorem law_c4 {p : Program} {l : Launch} {e : Env} {s : State} {m : MethodId} {below : List Frame} {meth : Method} {c : Code} {Q : State → Prop} {D : va_G} {z b L : Nat} {xs : Nat → Int32} {x0 x1 m0 m1 m2 : Nat} {cA cL cI : ClassId} {it : Nat} {S : Nat → Int64} {N : Nat → Int32} {H : Heap} {locs : List Loc} {ls : Array Slot} (hx : p.tables.exec = Jvm.exec) (hb : c.code = code) (hml : c.maxLocals = 4) (hown : s.vm.findClass R_law = some m.cls) (hts : ∀ w ∈ lw_all, w.before #[Value.ref b] s = true) (hXs : va_X b L xs s s.heap) (hbl : b < s.heap.size) (hL : L ≤ 288) (hK : va_K D vwCl [(cA, .object "Duration"), (cL, .long), (cI, .int)] s) (hZ : KZ D z (fr [] s.heap.size) s s.heap) (hO : va_AO "Duration" s) (g1 : s.heap.size ≤ x1) (g2 : s.heap.size ≤ m1) (g3 : s.heap.size ≤ m2)
    (hit : 6 * it + 6 ≤ L) (hn : nrm N) (hDW : DW D x0 x1 cA S N H) (hMW : MW D m0 m1 m2 cL cI S N H) (hS : va_S (fr [] s.heap.size) s.heap H locs) (hl : lv_has ls 4 [(0, .ref b), (1, .ref x0), (2, .ref m0), (3, .int (nI (6 * it)))])
    (kk : ∀ (S : Nat → Int64) (N : Nat → Int32) (H : Heap) (locs : List Loc) (ls : Array Slot), nrm N → DW D x0 x1 cA S N H → MW D m0 m1 m2 cL cI S N H → va_S (fr [] s.heap.size) s.heap H locs → lv_has ls 4 [(0, .ref b), (1, .ref x0), (2, .ref m0), (3, .int (nI (6 * it)))] → W p l e room_1 s m #[Value.ref b] below meth c H locs (7 + (it + 1)) (13 + 2 * (it + 1)) Q (F0 m 450 ls [])) :
    W p l e room_1 s m #[Value.ref b] below meth c H locs (7 + it) (13 + 2 * it) Q (F0 m 230 ls []) := by
  refine lv_aload_n hx hb dL_law_230 rfl (lv_at hl 1 rfl) ?_
  refine lv_aload_n hx hb dL_law_231 rfl (lv_at hl 0 rfl) ?_
  refine lv_iload_n hx hb dL_law_232 rfl (lv_at hl 3 rfl) ?_
  refine lv_iconst (v := 1) hx hb dL_law_233 (by decide) ?_
  refine lv_iadd hx hb dL_law_234 ?_
  refine sd_sld hx hb hXs hbl hL hS (sx_1 _) (by omega) dL_law_235 ?_
  refine lv_aload_n hx hb dL_law_236 rfl (lv_at hl 0 rfl) ?_
  refine lv_iload_n hx hb dL_law_237 rfl (lv_at hl 3 rfl) ?_
  refine lv_iconst (v := 2) hx hb dL_law_238 (by decide) ?_
  refine lv_iadd hx hb dL_law_239 ?_
  refine sd_sld hx hb hXs hbl hL hS (sx_2 _) (by omega) dL_law_240 ?_
  refine va_calli (sd_V (own := R_law) (nL := 4) (n := 2) (As := [.int (xs (6 * it + 1)), .int (xs (6 * it + 2))]) (rest := []) ⟨hx, hb, hml, hown, hts⟩ (met_smillis l D z x0 x1 cA S N (xs (6 * it + 1)) (xs (6 * it + 2)) H.size hn) q180 q181 q182 q6 q183 rfl (by decide +kernel) rfl rfl ⟨Nat.le_of_ble_eq_true rfl, Nat.le_of_ble_eq_true rfl⟩ (dk_recv hK hDW.1) (hK.sub (tys' := [(cA, .object "Duration")]) [0] rfl) hZ hO hS (fr_call hS (fun q h => by rcases List.mem_singleton.mp h with rfl; exact Or.inr g1)) hDW hl.1 rfl (Nat.le_of_ble_eq_true rfl) dL_law_241 ⟨by show _ ≤ 1200096; omega, by show _ ≤ 5501386; omega⟩) hS (fun q _ h => (fr_call hS (fun q h => by rcases List.mem_singleton.mp h with rfl; exact Or.inr g1)) q h) (fr_call hS (fun q h => by rcases List.mem_singleton.mp h with rfl; exact Or.inr g1)) (fun r1 _ t H1 locs1 ht hvm hw hB hz1 hk1 hS => ?_)
  have hMW := hMW.stayD hK (t0 := 0) rfl hDW hk1
  have hDW : DW D x0 x1 cA (mS S (ix (xs (6 * it + 1))) (nx (S (ix (xs (6 * it + 1)))) (N (ix (xs (6 * it + 1)))) ((xs (6 * it + 2)).toInt64 / 1000) (((xs (6 * it + 2)).toInt64 - (xs (6 * it + 2)).toInt64 / 1000 * 1000) * 1000000))) (mN S N (ix (xs (6 * it + 1))) (ny (N (ix (xs (6 * it + 1)))) (((xs (6 * it + 2)).toInt64 - (xs (6 * it + 2)).toInt64 / 1000 * 1000) * 1000000))) H1 := by rw [ht] at hB; exact hB
  have hw : rb S = r1 := Eq.symm hw
  subst hw
  clear hvm hB
  refine lv_aload_n hx hb dL_law_244 rfl (lv_at hl 2 rfl) ?_
  refine lv_aload_n hx hb dL_law_245 rfl (lv_at hl 0 rfl) ?_
  refine lv_iload_n hx hb dL_law_246 rfl (lv_at hl 3 rfl) ?_
  refine lv_iconst (v := 1) hx hb dL_law_247 (by decide) ?_
  refine lv_iadd hx hb dL_law_248 ?_
  refine sd_sld hx hb hXs hbl hL hS (sx_1 _) (by omega) dL_law_249 ?_
  refine lv_aload_n hx hb dL_law_250 rfl (lv_at hl 0 rfl) ?_
  refine lv_iload_n hx hb dL_law_251 rfl (lv_at hl 3 rfl) ?_
  refine lv_iconst (v := 2) hx hb dL_law_252 (by decide) ?_
  refine lv_iadd hx hb dL_law_253 ?_
  refine sd_sld hx hb hXs hbl hL hS (sx_2 _) (by omega) dL_law_254 ?_
  refine va_calli (sd_V (own := R_law) (nL := 4) (n := 2) (As := [.int (xs (6 * it + 1)), .int (xs (6 * it + 2))]) (rest := [.int (rb S)]) ⟨hx, hb, hml, hown, hts⟩ (met_mmillis l D z m0 m1 m2 cL cI S N (xs (6 * it + 1)) (xs (6 * it + 2)) H1.size) q304 q305 q306 q13 q307 rfl (by decide +kernel) rfl rfl ⟨Nat.le_of_ble_eq_true rfl, Nat.le_of_ble_eq_true rfl⟩ (md_recv hK hMW.1) (hK.sub (tys' := [(cL, .long), (cI, .int)]) [1, 2] rfl) hZ hO hS (fr_call hS (fun q h => by rcases List.mem_cons.mp h with e9 | e9; exact Or.inr (by rw [e9]; exact g2); exact Or.inr (by rw [List.mem_singleton.mp e9]; exact g3))) hMW hl.1 rfl (Nat.le_of_ble_eq_true rfl) dL_law_255 ⟨by show _ ≤ 1200096; omega, by show _ ≤ 5501386; omega⟩) hS (fun q _ h => (fr_call hS (fun q h => by rcases List.mem_cons.mp h with e9 | e9; exact Or.inr (by rw [e9]; exact g2); exact Or.inr (by rw [List.mem_singleton.mp e9]; exact g3))) q h) (fr_call hS (fun q h => by rcases List.mem_cons.mp h with e9 | e9; exact Or.inr (by rw [e9]; exact g2); exact Or.inr (by rw [List.mem_singleton.mp e9]; exact g3))) (fun r2 _ t H2 locs2 ht hvm hw hB hz1 hk1 hS => ?_)
  have hDW := hDW.stayM hK (t1 := 1) (t2 := 2) rfl rfl hMW hk1
  have hMW : MW D m0 m1 m2 cL cI (mS S (ix (xs (6 * it + 1))) (nx (S (ix (xs (6 * it + 1)))) (N (ix (xs (6 * it + 1)))) ((xs (6 * it + 2)).toInt64 / 1000) (((xs (6 * it + 2)).toInt64 - (xs (6 * it + 2)).toInt64 / 1000 * 1000) * 1000000))) (mN S N (ix (xs (6 * it + 1))) (ny (N (ix (xs (6 * it + 1)))) (((xs (6 * it + 2)).toInt64 - (xs (6 * it + 2)).toInt64 / 1000 * 1000) * 1000000))) H2 := by rw [ht] at hB; exact hB
  have hw : rb S = r2 := Eq.symm hw
  subst hw
  clear hvm hB
  refine lv_icmp_eq (tgt := 450) hx hb dL_law_258 (by decide) (fun c1 => ?_) (fun c1 => ?_)
  · refine W.widen (k := 7 + (it + 1)) (n := 13 + 2 * (it + 1)) (by omega) (by omega) ?_
    exact kk _ _ _ _ ls (nrm_m hn) hDW hMW hS hl
  · exact absurd rfl c1
set_option maxHeartbeats 4000000 in
/-- case 5: nanos -/
theorem law_c5 {p : Program} {l : Launch} {e : Env} {s : State} {m : MethodId} {below : List Frame} {meth : Method} {c : Code} {Q : State → Prop} {D : va_G} {z b L : Nat} {xs : Nat → Int32} {x0 x1 m0 m1 m2 : Nat} {cA cL cI : ClassId} {it : Nat} {S : Nat → Int64} {N : Nat → Int32} {H : Heap} {locs : List Loc} {ls : Array Slot} (hx : p.tables.exec = Jvm.exec) (hb : c.code = code) (hml : c.maxLocals = 4) (hown : s.vm.findClass R_law = some m.cls) (hts : ∀ w ∈ lw_all, w.before #[Value.ref b] s = true) (hXs : va_X b L xs s s.heap) (hbl : b < s.heap.size) (hL : L ≤ 288) (hK : va_K D vwCl [(cA, .object "Duration"), (cL, .long), (cI, .int)] s) (hZ : KZ D z (fr [] s.heap.size) s s.heap) (hO : va_AO "Duration" s) (g1 : s.heap.size ≤ x1) (g2 : s.heap.size ≤ m1) (g3 : s.heap.size ≤ m2)
    (hit : 6 * it + 6 ≤ L) (hn : nrm N) (hDW : DW D x0 x1 cA S N H) (hMW : MW D m0 m1 m2 cL cI S N H) (hS : va_S (fr [] s.heap.size) s.heap H locs) (hl : lv_has ls 4 [(0, .ref b), (1, .ref x0), (2, .ref m0), (3, .int (nI (6 * it)))])
    (kk : ∀ (S : Nat → Int64) (N : Nat → Int32) (H : Heap) (locs : List Loc) (ls : Array Slot), nrm N → DW D x0 x1 cA S N H → MW D m0 m1 m2 cL cI S N H → va_S (fr [] s.heap.size) s.heap H locs → lv_has ls 4 [(0, .ref b), (1, .ref x0), (2, .ref m0), (3, .int (nI (6 * it)))] → W p l e room_1 s m #[Value.ref b] below meth c H locs (7 + (it + 1)) (13 + 2 * (it + 1)) Q (F0 m 450 ls [])) :
    W p l e room_1 s m #[Value.ref b] below meth c H locs (7 + it) (13 + 2 * it) Q (F0 m 263 ls []) := by
  refine lv_aload_n hx hb dL_law_263 rfl (lv_at hl 1 rfl) ?_
  refine lv_aload_n hx hb dL_law_264 rfl (lv_at hl 0 rfl) ?_
  refine lv_iload_n hx hb dL_law_265 rfl (lv_at hl 3 rfl) ?_
  refine lv_iconst (v := 1) hx hb dL_law_266 (by decide) ?_
  refine lv_iadd hx hb dL_law_267 ?_
  refine sd_sld hx hb hXs hbl hL hS (sx_1 _) (by omega) dL_law_268 ?_
  refine lv_aload_n hx hb dL_law_269 rfl (lv_at hl 0 rfl) ?_
  refine lv_iload_n hx hb dL_law_270 rfl (lv_at hl 3 rfl) ?_
  refine lv_iconst (v := 2) hx hb dL_law_271 (by decide) ?_
  refine lv_iadd hx hb dL_law_272 ?_
  refine sd_sld hx hb hXs hbl hL hS (sx_2 _) (by omega) dL_law_273 ?_
  refine va_calli (sd_V (own := R_law) (nL := 4) (n := 2) (As := [.int (xs (6 * it + 1)), .int (xs (6 * it + 2))]) (rest := []) ⟨hx, hb, hml, hown, hts⟩ (met_snanos l D z x0 x1 cA S N (xs (6 * it + 1)) (xs (6 * it + 2)) H.size hn) q190 q191 q192 q6 q193 rfl (by decide +kernel) rfl rfl ⟨Nat.le_of_ble_eq_true rfl, Nat.le_of_ble_eq_true rfl⟩ (dk_recv hK hDW.1) (hK.sub (tys' := [(cA, .object "Duration")]) [0] rfl) hZ hO hS (fr_call hS (fun q h => by rcases List.mem_singleton.mp h with rfl; exact Or.inr g1)) hDW hl.1 rfl (Nat.le_of_ble_eq_true rfl) dL_law_274 ⟨by show _ ≤ 1200096; omega, by show _ ≤ 5501386; omega⟩) hS (fun q _ h => (fr_call hS (fun q h => by rcases List.mem_singleton.mp h with rfl; exact Or.inr g1)) q h) (fr_call hS (fun q h => by rcases List.mem_singleton.mp h with rfl; exact Or.inr g1)) (fun r1 _ t H1 locs1 ht hvm hw hB hz1 hk1 hS => ?_)
  have hMW := hMW.stayD hK (t0 := 0) rfl hDW hk1
  have hDW : DW D x0 x1 cA (mS S (ix (xs (6 * it + 1))) (nx (S (ix (xs (6 * it + 1)))) (N (ix (xs (6 * it + 1)))) 0 (xs (6 * it + 2)).toInt64)) (mN S N (ix (xs (6 * it + 1))) (ny (N (ix (xs (6 * it + 1)))) (xs (6 * it + 2)).toInt64)) H1 := by rw [ht] at hB; exact hB
  have hw : rb S = r1 := Eq.symm hw
  subst hw
  clear hvm hB
  refine lv_aload_n hx hb dL_law_277 rfl (lv_at hl 2 rfl) ?_
  refine lv_aload_n hx hb dL_law_278 rfl (lv_at hl 0 rfl) ?_
  refine lv_iload_n hx hb dL_law_279 rfl (lv_at hl 3 rfl) ?_
  refine lv_iconst (v := 1) hx hb dL_law_280 (by decide) ?_
  refine lv_iadd hx hb dL_law_281 ?_
  refine sd_sld hx hb hXs hbl hL hS (sx_1 _) (by omega) dL_law_282 ?_
  refine lv_aload_n hx hb dL_law_283 rfl (lv_at hl 0 rfl) ?_
  refine lv_iload_n hx hb dL_law_284 rfl (lv_at hl 3 rfl) ?_
  refine lv_iconst (v := 2) hx hb dL_law_285 (by decide) ?_
  refine lv_iadd hx hb dL_law_286 ?_
  refine sd_sld hx hb hXs hbl hL hS (sx_2 _) (by omega) dL_law_287 ?_
  refine va_calli (sd_V (own := R_law) (nL := 4) (n := 2) (As := [.int (xs (6 * it + 1)), .int (xs (6 * it + 2))]) (rest := [.int (rb S)]) ⟨hx, hb, hml, hown, hts⟩ (met_mnanos l D z m0 m1 m2 cL cI S N (xs (6 * it + 1)) (xs (6 * it + 2)) H1.size) q309 q310 q311 q13 q312 rfl (by decide +kernel) rfl rfl ⟨Nat.le_of_ble_eq_true rfl, Nat.le_of_ble_eq_true rfl⟩ (md_recv hK hMW.1) (hK.sub (tys' := [(cL, .long), (cI, .int)]) [1, 2] rfl) hZ hO hS (fr_call hS (fun q h => by rcases List.mem_cons.mp h with e9 | e9; exact Or.inr (by rw [e9]; exact g2); exact Or.inr (by rw [List.mem_singleton.mp e9]; exact g3))) hMW hl.1 rfl (Nat.le_of_ble_eq_true rfl) dL_law_288 ⟨by show _ ≤ 1200096; omega, by show _ ≤ 5501386; omega⟩) hS (fun q _ h => (fr_call hS (fun q h => by rcases List.mem_cons.mp h with e9 | e9; exact Or.inr (by rw [e9]; exact g2); exact Or.inr (by rw [List.mem_singleton.mp e9]; exact g3))) q h) (fr_call hS (fun q h => by rcases List.mem_cons.mp h with e9 | e9; exact Or.inr (by rw [e9]; exact g2); exact Or.inr (by rw [List.mem_singleton.mp e9]; exact g3))) (fun r2 _ t H2 locs2 ht hvm hw hB hz1 hk1 hS => ?_)
  have hDW := hDW.stayM hK (t1 := 1) (t2 := 2) rfl rfl hMW hk1
  have hMW : MW D m0 m1 m2 cL cI (mS S (ix (xs (6 * it + 1))) (nx (S (ix (xs (6 * it + 1)))) (N (ix (xs (6 * it + 1)))) 0 (xs (6 * it + 2)).toInt64)) (mN S N (ix (xs (6 * it + 1))) (ny (N (ix (xs (6 * it + 1)))) (xs (6 * it + 2)).toInt64)) H2 := by rw [ht] at hB; exact hB
  have hw : rb S = r2 := Eq.symm hw
  subst hw
  clear hvm hB
  refine lv_icmp_eq (tgt := 450) hx hb dL_law_291 (by decide) (fun c1 => ?_) (fun c1 => ?_)
  · refine W.widen (k := 7 + (it + 1)) (n := 13 + 2 * (it + 1)) (by omega) (by omega) ?_
    exact kk _ _ _ _ ls (nrm_m hn) hDW hMW hS hl
  · exact absurd rfl c1
set_option maxHeartbeats 4000000 in
/-- case 6: whole -/
theorem law_c6 {p : Program} {l : Launch} {e : Env} {s : State} {m : MethodId} {below : List Frame} {meth : Method} {c : Code} {Q : State → Prop} {D : va_G} {z b L : Nat} {xs : Nat → Int32} {x0 x1 m0 m1 m2 : Nat} {cA cL cI : ClassId} {it : Nat} {S : Nat → Int64} {N : Nat → Int32} {H : Heap} {locs : List Loc} {ls : Array Slot} (hx : p.tables.exec = Jvm.exec) (hb : c.code = code) (hml : c.maxLocals = 4) (hown : s.vm.findClass R_law = some m.cls) (hts : ∀ w ∈ lw_all, w.before #[Value.ref b] s = true) (hXs : va_X b L xs s s.heap) (hbl : b < s.heap.size) (hL : L ≤ 288) (hK : va_K D vwCl [(cA, .object "Duration"), (cL, .long), (cI, .int)] s) (hZ : KZ D z (fr [] s.heap.size) s s.heap) (hO : va_AO "Duration" s) (g1 : s.heap.size ≤ x1) (g2 : s.heap.size ≤ m1) (g3 : s.heap.size ≤ m2)
    (hit : 6 * it + 6 ≤ L) (hn : nrm N) (hDW : DW D x0 x1 cA S N H) (hMW : MW D m0 m1 m2 cL cI S N H) (hS : va_S (fr [] s.heap.size) s.heap H locs) (hl : lv_has ls 4 [(0, .ref b), (1, .ref x0), (2, .ref m0), (3, .int (nI (6 * it)))])
    (kk : ∀ (S : Nat → Int64) (N : Nat → Int32) (H : Heap) (locs : List Loc) (ls : Array Slot), nrm N → DW D x0 x1 cA S N H → MW D m0 m1 m2 cL cI S N H → va_S (fr [] s.heap.size) s.heap H locs → lv_has ls 4 [(0, .ref b), (1, .ref x0), (2, .ref m0), (3, .int (nI (6 * it)))] → W p l e room_1 s m #[Value.ref b] below meth c H locs (7 + (it + 1)) (13 + 2 * (it + 1)) Q (F0 m 450 ls [])) :
    W p l e room_1 s m #[Value.ref b] below meth c H locs (7 + it) (13 + 2 * it) Q (F0 m 296 ls []) := by
  refine lv_aload_n hx hb dL_law_296 rfl (lv_at hl 1 rfl) ?_
  refine lv_aload_n hx hb dL_law_297 rfl (lv_at hl 0 rfl) ?_
  refine lv_iload_n hx hb dL_law_298 rfl (lv_at hl 3 rfl) ?_
  refine lv_iconst (v := 1) hx hb dL_law_299 (by decide) ?_
  refine lv_iadd hx hb dL_law_300 ?_
  refine sd_sld hx hb hXs hbl hL hS (sx_1 _) (by omega) dL_law_301 ?_
  refine va_calll (sd_V (own := R_law) (nL := 4) (n := 1) (As := [.int (xs (6 * it + 1))]) (rest := []) ⟨hx, hb, hml, hown, hts⟩ (met_whole l D z x0 x1 cA S N (xs (6 * it + 1)) H.size) q198 q199 q200 q6 q201 rfl (by decide +kernel) rfl rfl ⟨Nat.le_of_ble_eq_true rfl, Nat.le_of_ble_eq_true rfl⟩ (dk_recv hK hDW.1) (hK.sub (tys' := [(cA, .object "Duration")]) [0] rfl) hZ hO hS (fr_0 hS) hDW hl.1 rfl (Nat.le_of_ble_eq_true rfl) dL_law_302 ⟨by show _ ≤ 1200096; omega, by show _ ≤ 5501386; omega⟩) hS (fun q _ h => (fr_0 hS) q h) (fr_0 hS) (fun r64 _ t H1 locs1 ht hvm hw hB hz1 hk1 hS => ?_)
  have hDW := hDW.stay0 hk1
  have hMW := hMW.stay0 hk1
  have hw : S (ix (xs (6 * it + 1))) = r64 := Eq.symm hw
  subst hw
  clear hvm hB
  refine lv_aload_n hx hb dL_law_305 rfl (lv_at hl 2 rfl) ?_
  refine lv_aload_n hx hb dL_law_306 rfl (lv_at hl 0 rfl) ?_
  refine lv_iload_n hx hb dL_law_307 rfl (lv_at hl 3 rfl) ?_
  refine lv_iconst (v := 1) hx hb dL_law_308 (by decide) ?_
  refine lv_iadd hx hb dL_law_309 ?_
  refine sd_sld hx hb hXs hbl hL hS (sx_1 _) (by omega) dL_law_310 ?_
  refine va_calll (sd_V (own := R_law) (nL := 4) (n := 1) (As := [.int (xs (6 * it + 1))]) (rest := [.long (S (ix (xs (6 * it + 1))))]) ⟨hx, hb, hml, hown, hts⟩ (met_mwhole l D z m0 m1 m2 cL cI S N (xs (6 * it + 1)) H1.size) q313 q314 q315 q13 q316 rfl (by decide +kernel) rfl rfl ⟨Nat.le_of_ble_eq_true rfl, Nat.le_of_ble_eq_true rfl⟩ (md_recv hK hMW.1) (hK.sub (tys' := [(cL, .long), (cI, .int)]) [1, 2] rfl) hZ hO hS (fr_0 hS) hMW hl.1 rfl (Nat.le_of_ble_eq_true rfl) dL_law_311 ⟨by show _ ≤ 1200096; omega, by show _ ≤ 5501386; omega⟩) hS (fun q _ h => (fr_0 hS) q h) (fr_0 hS) (fun r65 _ t H2 locs1 ht hvm hw hB hz1 hk1 hS => ?_)
  have hDW := hDW.stay0 hk1
  have hMW := hMW.stay0 hk1
  have hw : S (ix (xs (6 * it + 1))) = r65 := Eq.symm hw
  subst hw
  clear hvm hB
  refine W.lcmp hx hb dL_law_314 ?_
  refine lv_if_eq (tgt := 450) hx hb dL_law_315 (by decide) (fun c1 => ?_) (fun c1 => ?_)
  · refine W.widen (k := 7 + (it + 1)) (n := 13 + 2 * (it + 1)) (by omega) (by omega) ?_
    exact kk _ _ _ _ ls hn hDW hMW hS hl
  · exact absurd ((lg_cmp_eq _ _).mpr rfl) c1
set_option maxHeartbeats 4000000 in
/-- case 7: nano -/
theorem law_c7 {p : Program} {l : Launch} {e : Env} {s : State} {m : MethodId} {below : List Frame} {meth : Method} {c : Code} {Q : State → Prop} {D : va_G} {z b L : Nat} {xs : Nat → Int32} {x0 x1 m0 m1 m2 : Nat} {cA cL cI : ClassId} {it : Nat} {S : Nat → Int64} {N : Nat → Int32} {H : Heap} {locs : List Loc} {ls : Array Slot} (hx : p.tables.exec = Jvm.exec) (hb : c.code = code) (hml : c.maxLocals = 4) (hown : s.vm.findClass R_law = some m.cls) (hts : ∀ w ∈ lw_all, w.before #[Value.ref b] s = true) (hXs : va_X b L xs s s.heap) (hbl : b < s.heap.size) (hL : L ≤ 288) (hK : va_K D vwCl [(cA, .object "Duration"), (cL, .long), (cI, .int)] s) (hZ : KZ D z (fr [] s.heap.size) s s.heap) (hO : va_AO "Duration" s) (g1 : s.heap.size ≤ x1) (g2 : s.heap.size ≤ m1) (g3 : s.heap.size ≤ m2)
    (hit : 6 * it + 6 ≤ L) (hn : nrm N) (hDW : DW D x0 x1 cA S N H) (hMW : MW D m0 m1 m2 cL cI S N H) (hS : va_S (fr [] s.heap.size) s.heap H locs) (hl : lv_has ls 4 [(0, .ref b), (1, .ref x0), (2, .ref m0), (3, .int (nI (6 * it)))])
    (kk : ∀ (S : Nat → Int64) (N : Nat → Int32) (H : Heap) (locs : List Loc) (ls : Array Slot), nrm N → DW D x0 x1 cA S N H → MW D m0 m1 m2 cL cI S N H → va_S (fr [] s.heap.size) s.heap H locs → lv_has ls 4 [(0, .ref b), (1, .ref x0), (2, .ref m0), (3, .int (nI (6 * it)))] → W p l e room_1 s m #[Value.ref b] below meth c H locs (7 + (it + 1)) (13 + 2 * (it + 1)) Q (F0 m 450 ls [])) :
    W p l e room_1 s m #[Value.ref b] below meth c H locs (7 + it) (13 + 2 * it) Q (F0 m 320 ls []) := by
  refine lv_aload_n hx hb dL_law_320 rfl (lv_at hl 1 rfl) ?_
  refine lv_aload_n hx hb dL_law_321 rfl (lv_at hl 0 rfl) ?_
  refine lv_iload_n hx hb dL_law_322 rfl (lv_at hl 3 rfl) ?_
  refine lv_iconst (v := 1) hx hb dL_law_323 (by decide) ?_
  refine lv_iadd hx hb dL_law_324 ?_
  refine sd_sld hx hb hXs hbl hL hS (sx_1 _) (by omega) dL_law_325 ?_
  refine va_calli (sd_V (own := R_law) (nL := 4) (n := 1) (As := [.int (xs (6 * it + 1))]) (rest := []) ⟨hx, hb, hml, hown, hts⟩ (met_nano l D z x0 x1 cA S N (xs (6 * it + 1)) H.size) q202 q203 q204 q6 q205 rfl (by decide +kernel) rfl rfl ⟨Nat.le_of_ble_eq_true rfl, Nat.le_of_ble_eq_true rfl⟩ (dk_recv hK hDW.1) (hK.sub (tys' := [(cA, .object "Duration")]) [0] rfl) hZ hO hS (fr_0 hS) hDW hl.1 rfl (Nat.le_of_ble_eq_true rfl) dL_law_326 ⟨by show _ ≤ 1200096; omega, by show _ ≤ 5501386; omega⟩) hS (fun q _ h => (fr_0 hS) q h) (fr_0 hS) (fun r66 _ t H1 locs1 ht hvm hw hB hz1 hk1 hS => ?_)
  have hDW := hDW.stay0 hk1
  have hMW := hMW.stay0 hk1
  have hw : N (ix (xs (6 * it + 1))) = r66 := Eq.symm hw
  subst hw
  clear hvm hB
  refine lv_aload_n hx hb dL_law_329 rfl (lv_at hl 2 rfl) ?_
  refine lv_aload_n hx hb dL_law_330 rfl (lv_at hl 0 rfl) ?_
  refine lv_iload_n hx hb dL_law_331 rfl (lv_at hl 3 rfl) ?_
  refine lv_iconst (v := 1) hx hb dL_law_332 (by decide) ?_
  refine lv_iadd hx hb dL_law_333 ?_
  refine sd_sld hx hb hXs hbl hL hS (sx_1 _) (by omega) dL_law_334 ?_
  refine va_calli (sd_V (own := R_law) (nL := 4) (n := 1) (As := [.int (xs (6 * it + 1))]) (rest := [.int (N (ix (xs (6 * it + 1))))]) ⟨hx, hb, hml, hown, hts⟩ (met_mnano l D z m0 m1 m2 cL cI S N (xs (6 * it + 1)) H1.size) q317 q318 q319 q13 q320 rfl (by decide +kernel) rfl rfl ⟨Nat.le_of_ble_eq_true rfl, Nat.le_of_ble_eq_true rfl⟩ (md_recv hK hMW.1) (hK.sub (tys' := [(cL, .long), (cI, .int)]) [1, 2] rfl) hZ hO hS (fr_0 hS) hMW hl.1 rfl (Nat.le_of_ble_eq_true rfl) dL_law_335 ⟨by show _ ≤ 1200096; omega, by show _ ≤ 5501386; omega⟩) hS (fun q _ h => (fr_0 hS) q h) (fr_0 hS) (fun r67 _ t H2 locs1 ht hvm hw hB hz1 hk1 hS => ?_)
  have hDW := hDW.stay0 hk1
  have hMW := hMW.stay0 hk1
  have hw : N (ix (xs (6 * it + 1))) = r67 := Eq.symm hw
  subst hw
  clear hvm hB
  refine lv_icmp_eq (tgt := 450) hx hb dL_law_338 (by decide) (fun c1 => ?_) (fun c1 => ?_)
  · refine W.widen (k := 7 + (it + 1)) (n := 13 + 2 * (it + 1)) (by omega) (by omega) ?_
    exact kk _ _ _ _ ls hn hDW hMW hS hl
  · exact absurd rfl c1
set_option maxHeartbeats 4000000 in
/-- case 8: below -/
theorem law_c8 {p : Program} {l : Launch} {e : Env} {s : State} {m : MethodId} {below : List Frame} {meth : Method} {c : Code} {Q : State → Prop} {D : va_G} {z b L : Nat} {xs : Nat → Int32} {x0 x1 m0 m1 m2 : Nat} {cA cL cI : ClassId} {it : Nat} {S : Nat → Int64} {N : Nat → Int32} {H : Heap} {locs : List Loc} {ls : Array Slot} (hx : p.tables.exec = Jvm.exec) (hb : c.code = code) (hml : c.maxLocals = 4) (hown : s.vm.findClass R_law = some m.cls) (hts : ∀ w ∈ lw_all, w.before #[Value.ref b] s = true) (hXs : va_X b L xs s s.heap) (hbl : b < s.heap.size) (hL : L ≤ 288) (hK : va_K D vwCl [(cA, .object "Duration"), (cL, .long), (cI, .int)] s) (hZ : KZ D z (fr [] s.heap.size) s s.heap) (hO : va_AO "Duration" s) (g1 : s.heap.size ≤ x1) (g2 : s.heap.size ≤ m1) (g3 : s.heap.size ≤ m2)
    (hit : 6 * it + 6 ≤ L) (hn : nrm N) (hDW : DW D x0 x1 cA S N H) (hMW : MW D m0 m1 m2 cL cI S N H) (hS : va_S (fr [] s.heap.size) s.heap H locs) (hl : lv_has ls 4 [(0, .ref b), (1, .ref x0), (2, .ref m0), (3, .int (nI (6 * it)))])
    (kk : ∀ (S : Nat → Int64) (N : Nat → Int32) (H : Heap) (locs : List Loc) (ls : Array Slot), nrm N → DW D x0 x1 cA S N H → MW D m0 m1 m2 cL cI S N H → va_S (fr [] s.heap.size) s.heap H locs → lv_has ls 4 [(0, .ref b), (1, .ref x0), (2, .ref m0), (3, .int (nI (6 * it)))] → W p l e room_1 s m #[Value.ref b] below meth c H locs (7 + (it + 1)) (13 + 2 * (it + 1)) Q (F0 m 450 ls [])) :
    W p l e room_1 s m #[Value.ref b] below meth c H locs (7 + it) (13 + 2 * it) Q (F0 m 343 ls []) := by
  refine lv_aload_n hx hb dL_law_343 rfl (lv_at hl 1 rfl) ?_
  refine lv_aload_n hx hb dL_law_344 rfl (lv_at hl 0 rfl) ?_
  refine lv_iload_n hx hb dL_law_345 rfl (lv_at hl 3 rfl) ?_
  refine lv_iconst (v := 1) hx hb dL_law_346 (by decide) ?_
  refine lv_iadd hx hb dL_law_347 ?_
  refine sd_sld hx hb hXs hbl hL hS (sx_1 _) (by omega) dL_law_348 ?_
  refine va_calli (sd_V (own := R_law) (nL := 4) (n := 1) (As := [.int (xs (6 * it + 1))]) (rest := []) ⟨hx, hb, hml, hown, hts⟩ (met_below l D z x0 x1 cA S N (xs (6 * it + 1)) H.size) q207 q208 q209 q6 q210 rfl (by decide +kernel) rfl rfl ⟨Nat.le_of_ble_eq_true rfl, Nat.le_of_ble_eq_true rfl⟩ (dk_recv hK hDW.1) (hK.sub (tys' := [(cA, .object "Duration")]) [0] rfl) hZ hO hS (fr_0 hS) hDW hl.1 rfl (Nat.le_of_ble_eq_true rfl) dL_law_349 ⟨by show _ ≤ 1200096; omega, by show _ ≤ 5501386; omega⟩) hS (fun q _ h => (fr_0 hS) q h) (fr_0 hS) (fun r68 _ t H1 locs1 ht hvm hw hB hz1 hk1 hS => ?_)
  have hDW := hDW.stay0 hk1
  have hMW := hMW.stay0 hk1
  have hw : ngv (S (ix (xs (6 * it + 1)))) = r68 := Eq.symm hw
  subst hw
  clear hvm hB
  refine lv_aload_n hx hb dL_law_352 rfl (lv_at hl 2 rfl) ?_
  refine lv_aload_n hx hb dL_law_353 rfl (lv_at hl 0 rfl) ?_
  refine lv_iload_n hx hb dL_law_354 rfl (lv_at hl 3 rfl) ?_
  refine lv_iconst (v := 1) hx hb dL_law_355 (by decide) ?_
  refine lv_iadd hx hb dL_law_356 ?_
  refine sd_sld hx hb hXs hbl hL hS (sx_1 _) (by omega) dL_law_357 ?_
  refine va_calli (sd_V (own := R_law) (nL := 4) (n := 1) (As := [.int (xs (6 * it + 1))]) (rest := [.int (ngv (S (ix (xs (6 * it + 1)))))]) ⟨hx, hb, hml, hown, hts⟩ (met_mbelow l D z m0 m1 m2 cL cI S N (xs (6 * it + 1)) H1.size) q321 q322 q323 q13 q324 rfl (by decide +kernel) rfl rfl ⟨Nat.le_of_ble_eq_true rfl, Nat.le_of_ble_eq_true rfl⟩ (md_recv hK hMW.1) (hK.sub (tys' := [(cL, .long), (cI, .int)]) [1, 2] rfl) hZ hO hS (fr_0 hS) hMW hl.1 rfl (Nat.le_of_ble_eq_true rfl) dL_law_358 ⟨by show _ ≤ 1200096; omega, by show _ ≤ 5501386; omega⟩) hS (fun q _ h => (fr_0 hS) q h) (fr_0 hS) (fun r69 _ t H2 locs1 ht hvm hw hB hz1 hk1 hS => ?_)
  have hDW := hDW.stay0 hk1
  have hMW := hMW.stay0 hk1
  have hw : ngv (S (ix (xs (6 * it + 1)))) = r69 := Eq.symm hw
  subst hw
  clear hvm hB
  refine lv_icmp_eq (tgt := 450) hx hb dL_law_361 (by decide) (fun c1 => ?_) (fun c1 => ?_)
  · refine W.widen (k := 7 + (it + 1)) (n := 13 + 2 * (it + 1)) (by omega) (by omega) ?_
    exact kk _ _ _ _ ls hn hDW hMW hS hl
  · exact absurd rfl c1
set_option maxHeartbeats 4000000 in
/-- case 9: nought -/
theorem law_c9 {p : Program} {l : Launch} {e : Env} {s : State} {m : MethodId} {below : List Frame} {meth : Method} {c : Code} {Q : State → Prop} {D : va_G} {z b L : Nat} {xs : Nat → Int32} {x0 x1 m0 m1 m2 : Nat} {cA cL cI : ClassId} {it : Nat} {S : Nat → Int64} {N : Nat → Int32} {H : Heap} {locs : List Loc} {ls : Array Slot} (hx : p.tables.exec = Jvm.exec) (hb : c.code = code) (hml : c.maxLocals = 4) (hown : s.vm.findClass R_law = some m.cls) (hts : ∀ w ∈ lw_all, w.before #[Value.ref b] s = true) (hXs : va_X b L xs s s.heap) (hbl : b < s.heap.size) (hL : L ≤ 288) (hK : va_K D vwCl [(cA, .object "Duration"), (cL, .long), (cI, .int)] s) (hZ : KZ D z (fr [] s.heap.size) s s.heap) (hO : va_AO "Duration" s) (g1 : s.heap.size ≤ x1) (g2 : s.heap.size ≤ m1) (g3 : s.heap.size ≤ m2)
    (hit : 6 * it + 6 ≤ L) (hn : nrm N) (hDW : DW D x0 x1 cA S N H) (hMW : MW D m0 m1 m2 cL cI S N H) (hS : va_S (fr [] s.heap.size) s.heap H locs) (hl : lv_has ls 4 [(0, .ref b), (1, .ref x0), (2, .ref m0), (3, .int (nI (6 * it)))])
    (kk : ∀ (S : Nat → Int64) (N : Nat → Int32) (H : Heap) (locs : List Loc) (ls : Array Slot), nrm N → DW D x0 x1 cA S N H → MW D m0 m1 m2 cL cI S N H → va_S (fr [] s.heap.size) s.heap H locs → lv_has ls 4 [(0, .ref b), (1, .ref x0), (2, .ref m0), (3, .int (nI (6 * it)))] → W p l e room_1 s m #[Value.ref b] below meth c H locs (7 + (it + 1)) (13 + 2 * (it + 1)) Q (F0 m 450 ls [])) :
    W p l e room_1 s m #[Value.ref b] below meth c H locs (7 + it) (13 + 2 * it) Q (F0 m 366 ls []) := by
  refine lv_aload_n hx hb dL_law_366 rfl (lv_at hl 1 rfl) ?_
  refine lv_aload_n hx hb dL_law_367 rfl (lv_at hl 0 rfl) ?_
  refine lv_iload_n hx hb dL_law_368 rfl (lv_at hl 3 rfl) ?_
  refine lv_iconst (v := 1) hx hb dL_law_369 (by decide) ?_
  refine lv_iadd hx hb dL_law_370 ?_
  refine sd_sld hx hb hXs hbl hL hS (sx_1 _) (by omega) dL_law_371 ?_
  refine va_calli (sd_V (own := R_law) (nL := 4) (n := 1) (As := [.int (xs (6 * it + 1))]) (rest := []) ⟨hx, hb, hml, hown, hts⟩ (met_nought l D z x0 x1 cA S N (xs (6 * it + 1)) H.size) q215 q216 q217 q6 q218 rfl (by decide +kernel) rfl rfl ⟨Nat.le_of_ble_eq_true rfl, Nat.le_of_ble_eq_true rfl⟩ (dk_recv hK hDW.1) (hK.sub (tys' := [(cA, .object "Duration")]) [0] rfl) hZ hO hS (fr_0 hS) hDW hl.1 rfl (Nat.le_of_ble_eq_true rfl) dL_law_372 ⟨by show _ ≤ 1200096; omega, by show _ ≤ 5501386; omega⟩) hS (fun q _ h => (fr_0 hS) q h) (fr_0 hS) (fun r70 _ t H1 locs1 ht hvm hw hB hz1 hk1 hS => ?_)
  have hDW := hDW.stay0 hk1
  have hMW := hMW.stay0 hk1
  have hw : isz (S (ix (xs (6 * it + 1)))) (N (ix (xs (6 * it + 1)))) = r70 := Eq.symm hw
  subst hw
  clear hvm hB
  refine lv_aload_n hx hb dL_law_375 rfl (lv_at hl 2 rfl) ?_
  refine lv_aload_n hx hb dL_law_376 rfl (lv_at hl 0 rfl) ?_
  refine lv_iload_n hx hb dL_law_377 rfl (lv_at hl 3 rfl) ?_
  refine lv_iconst (v := 1) hx hb dL_law_378 (by decide) ?_
  refine lv_iadd hx hb dL_law_379 ?_
  refine sd_sld hx hb hXs hbl hL hS (sx_1 _) (by omega) dL_law_380 ?_
  refine va_calli (sd_V (own := R_law) (nL := 4) (n := 1) (As := [.int (xs (6 * it + 1))]) (rest := [.int (isz (S (ix (xs (6 * it + 1)))) (N (ix (xs (6 * it + 1)))))]) ⟨hx, hb, hml, hown, hts⟩ (met_mnought l D z m0 m1 m2 cL cI S N (xs (6 * it + 1)) H1.size) q325 q326 q327 q13 q328 rfl (by decide +kernel) rfl rfl ⟨Nat.le_of_ble_eq_true rfl, Nat.le_of_ble_eq_true rfl⟩ (md_recv hK hMW.1) (hK.sub (tys' := [(cL, .long), (cI, .int)]) [1, 2] rfl) hZ hO hS (fr_0 hS) hMW hl.1 rfl (Nat.le_of_ble_eq_true rfl) dL_law_381 ⟨by show _ ≤ 1200096; omega, by show _ ≤ 5501386; omega⟩) hS (fun q _ h => (fr_0 hS) q h) (fr_0 hS) (fun r71 _ t H2 locs1 ht hvm hw hB hz1 hk1 hS => ?_)
  have hDW := hDW.stay0 hk1
  have hMW := hMW.stay0 hk1
  have hw : isz (S (ix (xs (6 * it + 1)))) (N (ix (xs (6 * it + 1)))) = r71 := Eq.symm hw
  subst hw
  clear hvm hB
  refine lv_icmp_eq (tgt := 450) hx hb dL_law_384 (by decide) (fun c1 => ?_) (fun c1 => ?_)
  · refine W.widen (k := 7 + (it + 1)) (n := 13 + 2 * (it + 1)) (by omega) (by omega) ?_
    exact kk _ _ _ _ ls hn hDW hMW hS hl
  · exact absurd rfl c1
set_option maxHeartbeats 4000000 in
/-- case 10: order -/
theorem law_c10 {p : Program} {l : Launch} {e : Env} {s : State} {m : MethodId} {below : List Frame} {meth : Method} {c : Code} {Q : State → Prop} {D : va_G} {z b L : Nat} {xs : Nat → Int32} {x0 x1 m0 m1 m2 : Nat} {cA cL cI : ClassId} {it : Nat} {S : Nat → Int64} {N : Nat → Int32} {H : Heap} {locs : List Loc} {ls : Array Slot} (hx : p.tables.exec = Jvm.exec) (hb : c.code = code) (hml : c.maxLocals = 4) (hown : s.vm.findClass R_law = some m.cls) (hts : ∀ w ∈ lw_all, w.before #[Value.ref b] s = true) (hXs : va_X b L xs s s.heap) (hbl : b < s.heap.size) (hL : L ≤ 288) (hK : va_K D vwCl [(cA, .object "Duration"), (cL, .long), (cI, .int)] s) (hZ : KZ D z (fr [] s.heap.size) s s.heap) (hO : va_AO "Duration" s) (g1 : s.heap.size ≤ x1) (g2 : s.heap.size ≤ m1) (g3 : s.heap.size ≤ m2)
    (hit : 6 * it + 6 ≤ L) (hn : nrm N) (hDW : DW D x0 x1 cA S N H) (hMW : MW D m0 m1 m2 cL cI S N H) (hS : va_S (fr [] s.heap.size) s.heap H locs) (hl : lv_has ls 4 [(0, .ref b), (1, .ref x0), (2, .ref m0), (3, .int (nI (6 * it)))])
    (kk : ∀ (S : Nat → Int64) (N : Nat → Int32) (H : Heap) (locs : List Loc) (ls : Array Slot), nrm N → DW D x0 x1 cA S N H → MW D m0 m1 m2 cL cI S N H → va_S (fr [] s.heap.size) s.heap H locs → lv_has ls 4 [(0, .ref b), (1, .ref x0), (2, .ref m0), (3, .int (nI (6 * it)))] → W p l e room_1 s m #[Value.ref b] below meth c H locs (7 + (it + 1)) (13 + 2 * (it + 1)) Q (F0 m 450 ls [])) :
    W p l e room_1 s m #[Value.ref b] below meth c H locs (7 + it) (13 + 2 * it) Q (F0 m 389 ls []) := by
  refine lv_aload_n hx hb dL_law_389 rfl (lv_at hl 1 rfl) ?_
  refine va_calli (sd_V (own := R_law) (nL := 4) (n := 0) (As := []) (rest := []) ⟨hx, hb, hml, hown, hts⟩ (met_order l D z x0 x1 cA S N  H.size hn) q223 q224 q225 q6 q226 rfl (by decide +kernel) rfl rfl ⟨Nat.le_of_ble_eq_true rfl, Nat.le_of_ble_eq_true rfl⟩ (dk_recv hK hDW.1) (hK.sub (tys' := [(cA, .object "Duration")]) [0] rfl) hZ hO hS (fr_0 hS) hDW hl.1 rfl (Nat.le_of_ble_eq_true rfl) dL_law_390 ⟨by show _ ≤ 1200096; omega, by show _ ≤ 5501386; omega⟩) hS (fun q _ h => (fr_0 hS) q h) (fr_0 hS) (fun r72 _ t H1 locs1 ht hvm hw hB hz1 hk1 hS => ?_)
  have hDW := hDW.stay0 hk1
  have hMW := hMW.stay0 hk1
  have hw : od (S 0) (N 0) (S 1) (N 1) = r72 := Eq.symm hw
  subst hw
  clear hvm hB
  refine lv_aload_n hx hb dL_law_393 rfl (lv_at hl 2 rfl) ?_
  refine va_calli (sd_V (own := R_law) (nL := 4) (n := 0) (As := []) (rest := [.int (od (S 0) (N 0) (S 1) (N 1))]) ⟨hx, hb, hml, hown, hts⟩ (met_morder l D z m0 m1 m2 cL cI S N  H1.size) q329 q330 q331 q13 q332 rfl (by decide +kernel) rfl rfl ⟨Nat.le_of_ble_eq_true rfl, Nat.le_of_ble_eq_true rfl⟩ (md_recv hK hMW.1) (hK.sub (tys' := [(cL, .long), (cI, .int)]) [1, 2] rfl) hZ hO hS (fr_0 hS) hMW hl.1 rfl (Nat.le_of_ble_eq_true rfl) dL_law_394 ⟨by show _ ≤ 1200096; omega, by show _ ≤ 5501386; omega⟩) hS (fun q _ h => (fr_0 hS) q h) (fr_0 hS) (fun r73 _ t H2 locs1 ht hvm hw hB hz1 hk1 hS => ?_)
  have hDW := hDW.stay0 hk1
  have hMW := hMW.stay0 hk1
  have hw : od (S 0) (N 0) (S 1) (N 1) = r73 := Eq.symm hw
  subst hw
  clear hvm hB
  refine lv_icmp_eq (tgt := 450) hx hb dL_law_397 (by decide) (fun c1 => ?_) (fun c1 => ?_)
  · refine W.widen (k := 7 + (it + 1)) (n := 13 + 2 * (it + 1)) (by omega) (by omega) ?_
    exact kk _ _ _ _ ls hn hDW hMW hS hl
  · exact absurd rfl c1
set_option maxHeartbeats 4000000 in
/-- case 11: days -/
theorem law_c11 {p : Program} {l : Launch} {e : Env} {s : State} {m : MethodId} {below : List Frame} {meth : Method} {c : Code} {Q : State → Prop} {D : va_G} {z b L : Nat} {xs : Nat → Int32} {x0 x1 m0 m1 m2 : Nat} {cA cL cI : ClassId} {it : Nat} {S : Nat → Int64} {N : Nat → Int32} {H : Heap} {locs : List Loc} {ls : Array Slot} (hx : p.tables.exec = Jvm.exec) (hb : c.code = code) (hml : c.maxLocals = 4) (hown : s.vm.findClass R_law = some m.cls) (hts : ∀ w ∈ lw_all, w.before #[Value.ref b] s = true) (hXs : va_X b L xs s s.heap) (hbl : b < s.heap.size) (hL : L ≤ 288) (hK : va_K D vwCl [(cA, .object "Duration"), (cL, .long), (cI, .int)] s) (hZ : KZ D z (fr [] s.heap.size) s s.heap) (hO : va_AO "Duration" s) (g1 : s.heap.size ≤ x1) (g2 : s.heap.size ≤ m1) (g3 : s.heap.size ≤ m2)
    (hit : 6 * it + 6 ≤ L) (hn : nrm N) (hDW : DW D x0 x1 cA S N H) (hMW : MW D m0 m1 m2 cL cI S N H) (hS : va_S (fr [] s.heap.size) s.heap H locs) (hl : lv_has ls 4 [(0, .ref b), (1, .ref x0), (2, .ref m0), (3, .int (nI (6 * it)))])
    (kk : ∀ (S : Nat → Int64) (N : Nat → Int32) (H : Heap) (locs : List Loc) (ls : Array Slot), nrm N → DW D x0 x1 cA S N H → MW D m0 m1 m2 cL cI S N H → va_S (fr [] s.heap.size) s.heap H locs → lv_has ls 4 [(0, .ref b), (1, .ref x0), (2, .ref m0), (3, .int (nI (6 * it)))] → W p l e room_1 s m #[Value.ref b] below meth c H locs (7 + (it + 1)) (13 + 2 * (it + 1)) Q (F0 m 450 ls [])) :
    W p l e room_1 s m #[Value.ref b] below meth c H locs (7 + it) (13 + 2 * it) Q (F0 m 402 ls []) := by
  refine lv_aload_n hx hb dL_law_402 rfl (lv_at hl 1 rfl) ?_
  refine lv_aload_n hx hb dL_law_403 rfl (lv_at hl 0 rfl) ?_
  refine lv_iload_n hx hb dL_law_404 rfl (lv_at hl 3 rfl) ?_
  refine lv_iconst (v := 1) hx hb dL_law_405 (by decide) ?_
  refine lv_iadd hx hb dL_law_406 ?_
  refine sd_sld hx hb hXs hbl hL hS (sx_1 _) (by omega) dL_law_407 ?_
  refine va_calll (sd_V (own := R_law) (nL := 4) (n := 1) (As := [.int (xs (6 * it + 1))]) (rest := []) ⟨hx, hb, hml, hown, hts⟩ (met_days l D z x0 x1 cA S N (xs (6 * it + 1)) H.size) q234 q235 q236 q6 q237 rfl (by decide +kernel) rfl rfl ⟨Nat.le_of_ble_eq_true rfl, Nat.le_of_ble_eq_true rfl⟩ (dk_recv hK hDW.1) (hK.sub (tys' := [(cA, .object "Duration")]) [0] rfl) hZ hO hS (fr_0 hS) hDW hl.1 rfl (Nat.le_of_ble_eq_true rfl) dL_law_408 ⟨by show _ ≤ 1200096; omega, by show _ ≤ 5501386; omega⟩) hS (fun q _ h => (fr_0 hS) q h) (fr_0 hS) (fun r74 _ t H1 locs1 ht hvm hw hB hz1 hk1 hS => ?_)
  have hDW := hDW.stay0 hk1
  have hMW := hMW.stay0 hk1
  have hw : S (ix (xs (6 * it + 1))) / 86400 = r74 := Eq.symm hw
  subst hw
  clear hvm hB
  refine lv_aload_n hx hb dL_law_411 rfl (lv_at hl 2 rfl) ?_
  refine lv_aload_n hx hb dL_law_412 rfl (lv_at hl 0 rfl) ?_
  refine lv_iload_n hx hb dL_law_413 rfl (lv_at hl 3 rfl) ?_
  refine lv_iconst (v := 1) hx hb dL_law_414 (by decide) ?_
  refine lv_iadd hx hb dL_law_415 ?_
  refine sd_sld hx hb hXs hbl hL hS (sx_1 _) (by omega) dL_law_416 ?_
  refine va_calll (sd_V (own := R_law) (nL := 4) (n := 1) (As := [.int (xs (6 * it + 1))]) (rest := [.long (S (ix (xs (6 * it + 1))) / 86400)]) ⟨hx, hb, hml, hown, hts⟩ (met_mdays l D z m0 m1 m2 cL cI S N (xs (6 * it + 1)) H1.size) q333 q334 q335 q13 q336 rfl (by decide +kernel) rfl rfl ⟨Nat.le_of_ble_eq_true rfl, Nat.le_of_ble_eq_true rfl⟩ (md_recv hK hMW.1) (hK.sub (tys' := [(cL, .long), (cI, .int)]) [1, 2] rfl) hZ hO hS (fr_0 hS) hMW hl.1 rfl (Nat.le_of_ble_eq_true rfl) dL_law_417 ⟨by show _ ≤ 1200096; omega, by show _ ≤ 5501386; omega⟩) hS (fun q _ h => (fr_0 hS) q h) (fr_0 hS) (fun r75 _ t H2 locs1 ht hvm hw hB hz1 hk1 hS => ?_)
  have hDW := hDW.stay0 hk1
  have hMW := hMW.stay0 hk1
  have hw : S (ix (xs (6 * it + 1))) / 86400 = r75 := Eq.symm hw
  subst hw
  clear hvm hB
  refine W.lcmp hx hb dL_law_420 ?_
  refine lv_if_eq (tgt := 450) hx hb dL_law_421 (by decide) (fun c1 => ?_) (fun c1 => ?_)
  · refine W.widen (k := 7 + (it + 1)) (n := 13 + 2 * (it + 1)) (by omega) (by omega) ?_
    exact kk _ _ _ _ ls hn hDW hMW hS hl
  · exact absurd ((lg_cmp_eq _ _).mpr rfl) c1
set_option maxHeartbeats 4000000 in
/-- case 12: minutes -/
theorem law_c12 {p : Program} {l : Launch} {e : Env} {s : State} {m : MethodId} {below : List Frame} {meth : Method} {c : Code} {Q : State → Prop} {D : va_G} {z b L : Nat} {xs : Nat → Int32} {x0 x1 m0 m1 m2 : Nat} {cA cL cI : ClassId} {it : Nat} {S : Nat → Int64} {N : Nat → Int32} {H : Heap} {locs : List Loc} {ls : Array Slot} (hx : p.tables.exec = Jvm.exec) (hb : c.code = code) (hml : c.maxLocals = 4) (hown : s.vm.findClass R_law = some m.cls) (hts : ∀ w ∈ lw_all, w.before #[Value.ref b] s = true) (hXs : va_X b L xs s s.heap) (hbl : b < s.heap.size) (hL : L ≤ 288) (hK : va_K D vwCl [(cA, .object "Duration"), (cL, .long), (cI, .int)] s) (hZ : KZ D z (fr [] s.heap.size) s s.heap) (hO : va_AO "Duration" s) (g1 : s.heap.size ≤ x1) (g2 : s.heap.size ≤ m1) (g3 : s.heap.size ≤ m2)
    (hit : 6 * it + 6 ≤ L) (hn : nrm N) (hDW : DW D x0 x1 cA S N H) (hMW : MW D m0 m1 m2 cL cI S N H) (hS : va_S (fr [] s.heap.size) s.heap H locs) (hl : lv_has ls 4 [(0, .ref b), (1, .ref x0), (2, .ref m0), (3, .int (nI (6 * it)))])
    (kk : ∀ (S : Nat → Int64) (N : Nat → Int32) (H : Heap) (locs : List Loc) (ls : Array Slot), nrm N → DW D x0 x1 cA S N H → MW D m0 m1 m2 cL cI S N H → va_S (fr [] s.heap.size) s.heap H locs → lv_has ls 4 [(0, .ref b), (1, .ref x0), (2, .ref m0), (3, .int (nI (6 * it)))] → W p l e room_1 s m #[Value.ref b] below meth c H locs (7 + (it + 1)) (13 + 2 * (it + 1)) Q (F0 m 450 ls [])) :
    W p l e room_1 s m #[Value.ref b] below meth c H locs (7 + it) (13 + 2 * it) Q (F0 m 426 ls []) := by
  refine lv_aload_n hx hb dL_law_426 rfl (lv_at hl 1 rfl) ?_
  refine lv_aload_n hx hb dL_law_427 rfl (lv_at hl 0 rfl) ?_
  refine lv_iload_n hx hb dL_law_428 rfl (lv_at hl 3 rfl) ?_
  refine lv_iconst (v := 1) hx hb dL_law_429 (by decide) ?_
  refine lv_iadd hx hb dL_law_430 ?_
  refine sd_sld hx hb hXs hbl hL hS (sx_1 _) (by omega) dL_law_431 ?_
  refine va_calll (sd_V (own := R_law) (nL := 4) (n := 1) (As := [.int (xs (6 * it + 1))]) (rest := []) ⟨hx, hb, hml, hown, hts⟩ (met_minutes l D z x0 x1 cA S N (xs (6 * it + 1)) H.size) q243 q244 q245 q6 q246 rfl (by decide +kernel) rfl rfl ⟨Nat.le_of_ble_eq_true rfl, Nat.le_of_ble_eq_true rfl⟩ (dk_recv hK hDW.1) (hK.sub (tys' := [(cA, .object "Duration")]) [0] rfl) hZ hO hS (fr_0 hS) hDW hl.1 rfl (Nat.le_of_ble_eq_true rfl) dL_law_432 ⟨by show _ ≤ 1200096; omega, by show _ ≤ 5501386; omega⟩) hS (fun q _ h => (fr_0 hS) q h) (fr_0 hS) (fun r76 _ t H1 locs1 ht hvm hw hB hz1 hk1 hS => ?_)
  have hDW := hDW.stay0 hk1
  have hMW := hMW.stay0 hk1
  have hw : S (ix (xs (6 * it + 1))) / 60 = r76 := Eq.symm hw
  subst hw
  clear hvm hB
  refine lv_aload_n hx hb dL_law_435 rfl (lv_at hl 2 rfl) ?_
  refine lv_aload_n hx hb dL_law_436 rfl (lv_at hl 0 rfl) ?_
  refine lv_iload_n hx hb dL_law_437 rfl (lv_at hl 3 rfl) ?_
  refine lv_iconst (v := 1) hx hb dL_law_438 (by decide) ?_
  refine lv_iadd hx hb dL_law_439 ?_
  refine sd_sld hx hb hXs hbl hL hS (sx_1 _) (by omega) dL_law_440 ?_
  refine va_calll (sd_V (own := R_law) (nL := 4) (n := 1) (As := [.int (xs (6 * it + 1))]) (rest := [.long (S (ix (xs (6 * it + 1))) / 60)]) ⟨hx, hb, hml, hown, hts⟩ (met_mminutes l D z m0 m1 m2 cL cI S N (xs (6 * it + 1)) H1.size) q338 q339 q340 q13 q341 rfl (by decide +kernel) rfl rfl ⟨Nat.le_of_ble_eq_true rfl, Nat.le_of_ble_eq_true rfl⟩ (md_recv hK hMW.1) (hK.sub (tys' := [(cL, .long), (cI, .int)]) [1, 2] rfl) hZ hO hS (fr_0 hS) hMW hl.1 rfl (Nat.le_of_ble_eq_true rfl) dL_law_441 ⟨by show _ ≤ 1200096; omega, by show _ ≤ 5501386; omega⟩) hS (fun q _ h => (fr_0 hS) q h) (fr_0 hS) (fun r77 _ t H2 locs1 ht hvm hw hB hz1 hk1 hS => ?_)
  have hDW := hDW.stay0 hk1
  have hMW := hMW.stay0 hk1
  have hw : S (ix (xs (6 * it + 1))) / 60 = r77 := Eq.symm hw
  subst hw
  clear hvm hB
  refine W.lcmp hx hb dL_law_444 ?_
  refine lv_if_eq (tgt := 450) hx hb dL_law_445 (by decide) (fun c1 => ?_) (fun c1 => ?_)
  · refine W.widen (k := 7 + (it + 1)) (n := 13 + 2 * (it + 1)) (by omega) (by omega) ?_
    exact kk _ _ _ _ ls hn hDW hMW hS hl
  · exact absurd ((lg_cmp_eq _ _).mpr rfl) c1
end
section
/-! THE LAW: its loop (printed by gen/contracts.py) -/
set_option maxRecDepth 100000
set_option maxHeartbeats 4000000 in
/-- the law at its head, it calls made -/
theorem law_loop {p : Program} {l : Launch} {e : Env} {s : State} {m : MethodId} {below : List Frame} {meth : Method} {c : Code} {D : va_G} {z b L : Nat} {xs : Nat → Int32} {x0 x1 m0 m1 m2 : Nat} {cA cL cI : ClassId} (hr : meth.sig.returnType = ret) (hlocks : meth.locks = false) (hx : p.tables.exec = Jvm.exec) (hb : c.code = code) (hml : c.maxLocals = 4) (hown : s.vm.findClass R_law = some m.cls) (hts : ∀ w ∈ lw_all, w.before #[Value.ref b] s = true) (hXs : va_X b L xs s s.heap) (hbl : b < s.heap.size) (hL : L ≤ 288) (hK : va_K D vwCl [(cA, .object "Duration"), (cL, .long), (cI, .int)] s) (hZ : KZ D z (fr [] s.heap.size) s s.heap) (hO : va_AO "Duration" s) (g1 : s.heap.size ≤ x1) (g2 : s.heap.size ≤ m1) (g3 : s.heap.size ≤ m2) :
    ∀ (n it : Nat) (S : Nat → Int64) (N : Nat → Int32) (H : Heap) (locs : List Loc) (ls : Array Slot), 6 * it ≤ L → L < 6 * (it + n) → nrm N → DW D x0 x1 cA S N H → MW D m0 m1 m2 cL cI S N H → va_S (fr [] s.heap.size) s.heap H locs → lv_has ls 4 [(0, .ref b), (1, .ref x0), (2, .ref m0), (3, .int (nI (6 * it)))] → W p l e room_1 s m #[Value.ref b] below meth c H locs (7 + it) (13 + 2 * it) (lw_Z below #[Value.ref b] s) (F0 m 18 ls []) := by
  intro n
  induction n with
  | zero =>
    intro it S N H locs ls h1 h2
    exact absurd h2 (by omega)
  | succ n ih =>
    intro it S N H locs ls h1 h2 hn hDW hMW hS hl
    refine lv_iload_n hx hb dL_law_18 rfl (lv_at hl 3 rfl) ?_
    refine lv_aload_n hx hb dL_law_19 rfl (lv_at hl 0 rfl) ?_
    refine va_slen hx hb hXs hbl (fun h => h.elim (fun z => by cases z) (fun z => absurd hbl (Nat.not_lt.mpr z))) hS dL_law_20 ?_
    refine lv_bipush (v := 6) hx hb dL_law_21 (by decide) ?_
    refine lv_isub hx hb dL_law_23 ?_
    refine lv_icmp_gt (tgt := 456) hx hb dL_law_24 (by decide) (fun c1 => ?_) (fun c1 => ?_)
    · refine lv_iconst (v := 1) hx hb dL_law_456 (by decide) ?_
      refine va_forget (fun q hq => (hS.2.2 q hq).elim (fun z => by cases z) (fun z => z)) ?_
      refine W.widen (k := 1200096) (n := 5501386) (by omega) (by omega) ?_
      exact lw_ret hx hb hr hlocks dL_law_457
    · have hit : 6 * it + 6 ≤ L := by
        have h9 : ¬ L < 6 * it + 6 := fun q => c1 ((sx_len hL h1).mpr q)
        omega
      refine lv_aload_n hx hb dL_law_27 rfl (lv_at hl 0 rfl) ?_
      refine lv_iload_n hx hb dL_law_28 rfl (lv_at hl 3 rfl) ?_
      refine sd_sld hx hb hXs hbl hL hS rfl (by omega) dL_law_29 ?_
      refine lv_bipush (v := 15) hx hb dL_law_30 (by decide) ?_
      refine lv_iand hx hb dL_law_32 ?_
      obtain ⟨v, hv, ev⟩ := pk_andE (xs (6 * it)) (m := 15) 4 (by decide)
      rw [ev]
      have back : ∀ (S : Nat → Int64) (N : Nat → Int32) (H : Heap) (locs : List Loc) (ls : Array Slot), nrm N → DW D x0 x1 cA S N H → MW D m0 m1 m2 cL cI S N H → va_S (fr [] s.heap.size) s.heap H locs → lv_has ls 4 [(0, .ref b), (1, .ref x0), (2, .ref m0), (3, .int (nI (6 * it)))] → W p l e room_1 s m #[Value.ref b] below meth c H locs (7 + (it + 1)) (13 + 2 * (it + 1)) (lw_Z below #[Value.ref b] s) (F0 m 450 ls []) := by
        intro S N H locs ls hn hDW hMW hS hl
        refine lv_iinc (v := nI (6 * (it + 1))) (lv' := [(3, .int (nI (6 * (it + 1)))), (0, .ref b), (1, .ref x0), (2, .ref m0)]) hx hb dL_law_450 hl (k := 3) rfl (sx_6 it) (by decide) rfl (fun ls hl => ?_)
        refine lv_goto (tgt := 18) hx hb dL_law_453 (by decide) ?_
        exact ih (it + 1) S N H locs ls (by omega) (by omega) hn hDW hMW hS (lv_sub hl [1, 2, 3, 0] rfl)
      rcases (show v = 0 ∨ v = 1 ∨ v = 2 ∨ v = 3 ∨ v = 4 ∨ v = 5 ∨ v = 6 ∨ v = 7 ∨ v = 8 ∨ v = 9 ∨ v = 10 ∨ v = 11 ∨ v = 12 ∨ v = 13 ∨ v = 14 ∨ v = 15 by omega) with rfl | rfl | rfl | rfl | rfl | rfl | rfl | rfl | rfl | rfl | rfl | rfl | rfl | rfl | rfl | rfl
      · refine lv_tableIn (off := 67) (tgt := 100) hx hb dL_law_33 (by decide +kernel) (by decide +kernel) (by decide +kernel) (by decide) ?_
        exact law_c0 hx hb hml hown hts hXs hbl hL hK hZ hO g1 g2 g3 hit hn hDW hMW hS hl back
      · refine lv_tableIn (off := 118) (tgt := 151) hx hb dL_law_33 (by decide +kernel) (by decide +kernel) (by decide +kernel) (by decide) ?_
        exact law_c1 hx hb hml hown hts hXs hbl hL hK hZ hO g1 g2 g3 hit hn hDW hMW hS hl back
      · refine lv_tableIn (off := 141) (tgt := 174) hx hb dL_law_33 (by decide +kernel) (by decide +kernel) (by decide +kernel) (by decide) ?_
        exact law_c2 hx hb hml hown hts hXs hbl hL hK hZ hO g1 g2 g3 hit hn hDW hMW hS hl back
      · refine lv_tableIn (off := 164) (tgt := 197) hx hb dL_law_33 (by decide +kernel) (by decide +kernel) (by decide +kernel) (by decide) ?_
        exact law_c3 hx hb hml hown hts hXs hbl hL hK hZ hO g1 g2 g3 hit hn hDW hMW hS hl back
      · refine lv_tableIn (off := 197) (tgt := 230) hx hb dL_law_33 (by decide +kernel) (by decide +kernel) (by decide +kernel) (by decide) ?_
        exact law_c4 hx hb hml hown hts hXs hbl hL hK hZ hO g1 g2 g3 hit hn hDW hMW hS hl back
      · refine lv_tableIn (off := 230) (tgt := 263) hx hb dL_law_33 (by decide +kernel) (by decide +kernel) (by decide +kernel) (by decide) ?_
        exact law_c5 hx hb hml hown hts hXs hbl hL hK hZ hO g1 g2 g3 hit hn hDW hMW hS hl back
      · refine lv_tableIn (off := 263) (tgt := 296) hx hb dL_law_33 (by decide +kernel) (by decide +kernel) (by decide +kernel) (by decide) ?_
        exact law_c6 hx hb hml hown hts hXs hbl hL hK hZ hO g1 g2 g3 hit hn hDW hMW hS hl back
      · refine lv_tableIn (off := 287) (tgt := 320) hx hb dL_law_33 (by decide +kernel) (by decide +kernel) (by decide +kernel) (by decide) ?_
        exact law_c7 hx hb hml hown hts hXs hbl hL hK hZ hO g1 g2 g3 hit hn hDW hMW hS hl back
      · refine lv_tableIn (off := 310) (tgt := 343) hx hb dL_law_33 (by decide +kernel) (by decide +kernel) (by decide +kernel) (by decide) ?_
        exact law_c8 hx hb hml hown hts hXs hbl hL hK hZ hO g1 g2 g3 hit hn hDW hMW hS hl back
      · refine lv_tableIn (off := 333) (tgt := 366) hx hb dL_law_33 (by decide +kernel) (by decide +kernel) (by decide +kernel) (by decide) ?_
        exact law_c9 hx hb hml hown hts hXs hbl hL hK hZ hO g1 g2 g3 hit hn hDW hMW hS hl back
      · refine lv_tableIn (off := 356) (tgt := 389) hx hb dL_law_33 (by decide +kernel) (by decide +kernel) (by decide +kernel) (by decide) ?_
        exact law_c10 hx hb hml hown hts hXs hbl hL hK hZ hO g1 g2 g3 hit hn hDW hMW hS hl back
      · refine lv_tableIn (off := 369) (tgt := 402) hx hb dL_law_33 (by decide +kernel) (by decide +kernel) (by decide +kernel) (by decide) ?_
        exact law_c11 hx hb hml hown hts hXs hbl hL hK hZ hO g1 g2 g3 hit hn hDW hMW hS hl back
      · refine lv_tableIn (off := 393) (tgt := 426) hx hb dL_law_33 (by decide +kernel) (by decide +kernel) (by decide +kernel) (by decide) ?_
        exact law_c12 hx hb hml hown hts hXs hbl hL hK hZ hO g1 g2 g3 hit hn hDW hMW hS hl back
      · refine lv_tableOut (tgt := 450) hx hb dL_law_33 (by decide +kernel) (by decide) ?_
        refine W.widen (k := 7 + (it + 1)) (n := 13 + 2 * (it + 1)) (by omega) (by omega) ?_
        exact back S N H locs ls hn hDW hMW hS hl
      · refine lv_tableOut (tgt := 450) hx hb dL_law_33 (by decide +kernel) (by decide) ?_
        refine W.widen (k := 7 + (it + 1)) (n := 13 + 2 * (it + 1)) (by omega) (by omega) ?_
        exact back S N H locs ls hn hDW hMW hS hl
      · refine lv_tableOut (tgt := 450) hx hb dL_law_33 (by decide +kernel) (by decide) ?_
        refine W.widen (k := 7 + (it + 1)) (n := 13 + 2 * (it + 1)) (by omega) (by omega) ?_
        exact back S N H locs ls hn hDW hMW hS hl
end
section
/-! THE LAW: its start (printed by gen/contracts.py) -/
set_option maxRecDepth 100000
/-- Duration.ZERO, out of what the Statement gives of the start -/
theorem zero_start {s : State} {b : Nat} {D : va_G} (hts : ∀ w ∈ lw_tbl, w.before #[Value.ref b] s = true) (hgv : (Jvm.Cond.and given_1 narrow_1).before #[Value.ref b] s = true) (hK : va_K D vwCl [] s) : ∃ z : Nat, KZ D z (fr [] s.heap.size) s s.heap := by
  have hs := flat_of_before _ hgv
  have w1 : (Cond.exactly (.static "Duration" "ZERO" "LDuration;") "Duration").before #[Value.ref b] s = true := hs _ (by decide +kernel)
  have w2 : (Cond.untouched (.static "Duration" "ZERO" "LDuration;")).before #[Value.ref b] s = true := hs _ (by decide +kernel)
  have w3 : (Cond.eq (.field (.static "Duration" "ZERO" "LDuration;") "Duration" "seconds" "J") (.long 0)).before #[Value.ref b] s = true := hs _ (by decide +kernel)
  have w4 : (Cond.eq (.field (.static "Duration" "ZERO" "LDuration;") "Duration" "nanos" "I") (.int 0)).before #[Value.ref b] s = true := hs _ (by decide +kernel)
  have hA : ∀ a : Nat, a < s.heap.size → ¬ fr [] s.heap.size a := fun a h h2 => h2.elim (fun z => by cases z) (fun z => absurd h (Nat.not_lt.mpr z))
  obtain ⟨z, cz, cell, k, p1, p2, p3, p4, p5, p6, -⟩ := Cond.exactly_spec w1
  obtain ⟨z2, cell2, r1, r2, -, -, r5⟩ := Cond.untouched_spec w2
  cases p1.symm.trans r1
  cases p3.symm.trans r2
  have f3 := va_eqtl w3
  have f4 := va_eqt w4
  have hKn := hK.1 0 (RX1, TX1, 2) rfl
  obtain ⟨hSl, hfc, -⟩ := hKn
  refine ⟨z, va_Zref (hts _ q108) (hts _ (lw_all_tbl q7)) p1 hA, ⟨(RX1, TX1, 2), rfl, cell, p3, ?_, r5, ?_⟩, hA z (Array.getElem?_eq_some_iff.mp p3).1⟩
  · rw [p6]
    exact Option.some.inj (p2.symm.trans hfc)
  · intro j hj
    rcases (show j = 0 ∨ j = 1 by have h2 : j < 2 := hj; omega) with rfl | rfl
    · obtain ⟨cf, kf, fi, f, hi, hsl⟩ := hSl 0 (by decide)
      obtain ⟨-, c3, e1, -, -, -, e5⟩ := Term.field_spec hi p1 f3
      cases p3.symm.trans e1
      rw [← hsl]
      exact e5
    · obtain ⟨cf, kf, fi, f, hi, hsl⟩ := hSl 1 (by decide)
      obtain ⟨-, c3, e1, -, -, -, e5⟩ := Term.field_spec hi p1 f4
      cases p3.symm.trans e1
      rw [← hsl]
      exact e5
/-- the three classes, known at the start -/
theorem classes_start {s : State} {b : Nat} (hts : ∀ w ∈ lw_tbl, w.before #[Value.ref b] s = true) : ∃ D : va_G, va_K D vwCl [] s := by
  obtain ⟨c0, i0, k0⟩ := u_known (C := RX1) (T := TX1) (N := 2) (n := 2) hts (fun w h => lw_all_tbl (in_X1 w h)) (hts _ (lw_all_tbl q110))
  obtain ⟨c1, i1, k1⟩ := u_known (C := RX0) (T := TX0) (N := 1) (n := 1) hts (fun w h => lw_all_tbl (in_X0 w h)) (hts _ (lw_all_tbl q15))
  obtain ⟨c2, i2, k2⟩ := u_known (C := RX3) (T := TX3) (N := 2) (n := 2) hts (fun w h => lw_all_tbl (in_X3 w h)) (hts _ (lw_all_tbl q253))
  refine ⟨(fun k => if k = 0 then c0 else if k = 1 then c1 else c2, fun k => if k = 0 then i0 else if k = 1 then i1 else i2), fun k q hq => ?_, fun k q h => by simp at h⟩
  match k, hq with
  | 0, hq => cases hq; exact k0
  | 1, hq => cases hq; exact k1
  | 2, hq => cases hq; exact k2
  | k + 3, hq => simp [vwCl] at hq
set_option maxHeartbeats 4000000 in
/-- from the entry, the law comes to its end with true -/
theorem whole_start {p : Program} {e : Env} {s : State} {m : MethodId} {below : List Frame} {meth : Method} {c : Code} (l : Launch) (hflags : l.flags = flags0) {b L : Nat} {xs : Nat → Int32} (hL : L ≤ 288) (C0 : lw_At p s m meth c b L xs) : W p l e room_1 s m #[Value.ref b] below meth c s.heap [] 0 0 (lw_Z below #[Value.ref b] s) (entryFrame m ([Value.ref b] : List Value).toArray 4) := by
  obtain ⟨hx, hb, hr, hml, hown, hts0, hXs, hbl, hlocks, hgv⟩ := C0
  obtain ⟨D, hK0⟩ := classes_start hts0
  obtain ⟨z, hZ⟩ := zero_start hts0 hgv hK0
  have hO : va_AO "Duration" s := va_AO.of (hts0 _ q23)
  have hts : ∀ w ∈ lw_all, w.before #[Value.ref b] s = true := fun w h => hts0 w (lw_all_tbl h)
  have hS : va_S (fr [] s.heap.size) s.heap s.heap [] := va_S.rf
  have hl := lv_entry ([.ref b]) (n := 4) (Nat.le_of_ble_eq_true rfl)
  rw [lg_entry_eq]
  generalize (lg_sl ([.ref b]) ++ List.replicate (4 - (lg_sl ([.ref b])).length) Slot.unset).toArray = ls at hl ⊢
  have hl : lv_has ls 4 [(0, .ref b)] := hl
  refine sd_new (ci := 1) (fs := [.null]) (C := RX0) (T := TX0) (N := 1) hx hb hts in_X0 tyX0 tyX0_ok hown q14 q15 q6 hK0 hS rfl (fun j hj => by rcases (show j = 0 by omega) with rfl <;> rfl) (Nat.le_of_ble_eq_true rfl) (Nat.le_of_ble_eq_true rfl) dL_law_0 (fun x0 H1 hqx0 hzx0 bx0 hk3 hS => ?_)
  have gx0 : s.heap.size ≤ x0 := by omega
  refine lv_dup hx hb dL_law_3 rfl ?_
  refine va_callv (sd_I (own := R_law) (nL := 4) (n := 0) (As := []) (rest := [.ref x0]) ⟨hx, hb, hml, hown, hts⟩ (met_sinit l D z x0 H1.size) q16 q17 q6 q18 rfl rfl (by decide +kernel) rfl rfl ⟨Nat.le_of_ble_eq_true rfl, Nat.le_of_ble_eq_true rfl⟩ hK0 hZ hO hS (fr_call hS (fun q h => by rcases List.mem_singleton.mp h with rfl; exact Or.inr gx0)) bx0 hl.1 rfl (Nat.le_of_ble_eq_true rfl) dL_law_4 ⟨Nat.le_of_ble_eq_true rfl, Nat.le_of_ble_eq_true rfl⟩) hS (fun q _ h => (fr_call hS (fun q h => by rcases List.mem_singleton.mp h with rfl; exact Or.inr gx0)) q h) (fr_call hS (fun q h => by rcases List.mem_singleton.mp h with rfl; exact Or.inr gx0)) (fun u9 t H2 locs2 ht hvm hw hB hz1 hk1 hS => ?_)
  obtain ⟨x1, cA, g1, hKA, hDW⟩ := hB
  have g1 : s.heap.size ≤ x1 := by omega
  rw [ht] at hDW
  have hK1 : va_K D vwCl ([] ++ [(cA, .object "Duration")]) s := hK0.app (va_K.moved hvm.symm hKA)
  clear hvm hKA
  refine lv_astore_n (lv' := [(1, .ref x0), (0, .ref b)]) hx hb dL_law_7 rfl hl (by decide) rfl (fun ls hl => ?_)
  refine sd_new (ci := 2) (fs := [.null, .null]) (C := RX3) (T := TX3) (N := 2) hx hb hts in_X3 tyX3 tyX3_ok hown q252 q253 q13 hK0 hS rfl (fun j hj => by rcases (show j = 0 ∨ j = 1 by omega) with rfl | rfl <;> rfl) (Nat.le_of_ble_eq_true rfl) (Nat.le_of_ble_eq_true rfl) dL_law_8 (fun m0 H3 hqm0 hzm0 bm0 hk3 hS => ?_)
  have gm0 : s.heap.size ≤ m0 := by have h9 := hz1; omega
  refine lv_dup hx hb dL_law_11 rfl ?_
  refine va_callv (sd_I (own := R_law) (nL := 4) (n := 0) (As := []) (rest := [.ref m0]) ⟨hx, hb, hml, hown, hts⟩ (met_minit l D z m0 H3.size) q254 q255 q13 q256 rfl rfl (by decide +kernel) rfl rfl ⟨Nat.le_of_ble_eq_true rfl, Nat.le_of_ble_eq_true rfl⟩ hK0 hZ hO hS (fr_call hS (fun q h => by rcases List.mem_singleton.mp h with rfl; exact Or.inr gm0)) bm0 hl.1 rfl (Nat.le_of_ble_eq_true rfl) dL_law_12 ⟨Nat.le_of_ble_eq_true rfl, Nat.le_of_ble_eq_true rfl⟩) hS (fun q _ h => (fr_call hS (fun q h => by rcases List.mem_singleton.mp h with rfl; exact Or.inr gm0)) q h) (fr_call hS (fun q h => by rcases List.mem_singleton.mp h with rfl; exact Or.inr gm0)) (fun u9 t H4 locs4 ht hvm hw hB hz4 hk1 hS => ?_)
  obtain ⟨m1, m2, cL, cI, g2, g3, hKA, hMW⟩ := hB
  have g2 : s.heap.size ≤ m1 := by omega
  have g3 : s.heap.size ≤ m2 := by omega
  rw [ht] at hMW
  have hK2 : va_K D vwCl (([] ++ [(cA, .object "Duration")]) ++ [(cL, .long), (cI, .int)]) s := hK1.app (va_K.moved hvm.symm hKA)
  have hK : va_K D vwCl [(cA, .object "Duration"), (cL, .long), (cI, .int)] s := hK2
  have hDW := hDW.born (H1 := H4) (fun a h => by rw [hk1 a (by omega) (fun q => q.elim (fun y => by have e9 := List.mem_singleton.mp y; omega) (fun y => by omega))]; exact hk3 a h)
  clear hvm hKA
  refine lv_astore_n (lv' := [(2, .ref m0), (1, .ref x0), (0, .ref b)]) hx hb dL_law_15 rfl hl (by decide) rfl (fun ls hl => ?_)
  refine lv_iconst (v := 0) hx hb dL_law_16 (by decide) ?_
  refine lv_istore_n (lv' := [(3, .int 0), (2, .ref m0), (1, .ref x0), (0, .ref b)]) hx hb dL_law_17 rfl hl (by decide) rfl (fun ls hl => ?_)
  refine W.widen (k := 7 + 0) (n := 13 + 2 * 0) (Nat.le_of_ble_eq_true rfl) (Nat.le_of_ble_eq_true rfl) ?_
  exact law_loop hr hlocks hx hb hml hown hts hXs hbl hL hK hZ hO g1 g2 g3 (L + 1) 0 (fun _ => 0) (fun _ => 0) H4 _ ls (by omega) (by omega) (fun i hi => (by decide +kernel : 0 ≤ (0 : Int32).toInt ∧ (0 : Int32).toInt < 1000000000)) hDW hMW hS (lv_sub hl [3, 2, 1, 0] rfl)
end
section
set_option maxHeartbeats 4000000 in
theorem lw_walk (l : Launch) (hflags : l.flags = flags0) (b : Addr) (xs : List Int32) : MetFree l x (headSpec (Jvm.Cond.code x code maxLocals ret :: tables_1) room_1) (lw_P b xs) (fun _ _ _ _ _ => True) lw_Q := by
  refine MetFree.of_bodyS (code := code) (maxLocals := maxLocals) (ret := ret) (by decide) ?_ ?_
  · intro args s m h hn
    obtain ⟨meth, c, h1, h2, h3, h4, h5, h6, -, -⟩ := Cond.code_spec hn (atoms_spec (ws := Jvm.Cond.code x code maxLocals ret :: tables_1) h _ List.mem_cons_self)
    exact ⟨meth, c, h1, h2, h3, h4, h5, h6⟩
  · intro p e s m args below meth c s₁ B hml0 hP _
    obtain ⟨rfl, hx, hbd, hgv⟩ := hP
    obtain ⟨scr, harrAt, hlist, hof, hsmall⟩ := hx
    obtain ⟨hcb, hkn, -, -⟩ := State.arrayAt?_spec harrAt
    have hown : s.vm.findClass R_law = some m.cls := findClass_of_methodNamed B.named
    have hts0 : ∀ c ∈ (Jvm.Cond.code x code maxLocals ret :: tables_1), c.before #[Value.ref b] s = true := atoms_spec (ws := Jvm.Cond.code x code maxLocals ret :: tables_1) B.pre
    have hts : ∀ w ∈ lw_tbl, w.before #[Value.ref b] s = true := k2_hts_sels lw_privs (fun w hw => hts0 w (List.mem_cons_of_mem _ hw)) lw_privs_ok
    have hml : c.maxLocals = 4 := B.maxLocals_eq (hts0 _ List.mem_cons_self)
    have X₀ : Stand p l e room_1 s m #[Value.ref b] below meth c s₁ [] 0 0 := Stand.of_body B
    have hh0 : s₁.heap = s.heap := by rw [B.state]; rfl
    have hsz : scr.slots.size = xs.length := by rw [← Array.length_toList, hlist, List.length_map]
    have hval : ∀ j : Nat, j < xs.length → scr.slots[j]? = some (.int (xs.getD j 0)) := fun j hj => by
      rw [← Array.getElem?_toList, hlist]
      simp [hj]
    have hbl : b < s.heap.size := (Array.getElem?_eq_some_iff.mp hcb).1
    have hX : va_X b xs.length (fun j => xs.getD j 0) s s.heap := ⟨scr, hcb, hof, hkn, hsz, hval⟩
    have K : W p l e room_1 s m #[Value.ref b] below meth c s₁.heap [] 0 0 (lw_Z below #[Value.ref b] s) (entryFrame m ([Value.ref b] : List Value).toArray 4) := by
      rw [hh0]
      exact whole_start l hflags hbd ⟨B.exec, B.bytes, B.returns, hml, hown, hts, hX, hbl, B.notSynchronized, hgv⟩
    obtain ⟨t, a1, o, b1, b2, b3⟩ := K s₁ rfl X₀
    exact ⟨t, o, a1, b1, b2, b3⟩
theorem lw_pre_spec {args : Array Value} {s : State} (h : (Jvm.Cond.and given_1 narrow_1).before args s = true) (hr : rest_1_c.before args s = true) : ∃ (b : Addr) (xs : List Int32), lw_P b xs args s := by
  have hs := flat_of_before _ h
  have hq := flat_of_before _ hr
  have hc : (Cond.count 1).before args s = true := hs _ (by decide +kernel)
  have harr : (Cond.arrayOf (.arg 0) .int).before args s = true := hs _ (by decide +kernel)
  have hle : (Cond.le (.length (.arg 0)) (.int 288)).before args s = true := hs _ (by decide +kernel)
  have hlen : (Cond.isInt (.length (.arg 0))).before args s = true := hq _ (by decide +kernel)
  have hall : (Cond.all (.arg 0) (.isInt (.elem (.arg 0) (.index 0)))).before args s = true := hq _ (by decide +kernel)
  obtain ⟨b, xs, hb, hx⟩ := State.ints_of_pre rfl harr hlen hall
  have hsm : xs.length < 2 ^ 31 := hx.choose_spec.2.2.2
  have hev : (Term.length (.arg 0)).eval args s none [] s = some (.int xs.length.toInt32) := hx.length_eval hb
  have hv := Cond.le_ints hev (show (Term.int 288).eval args s none [] s = some (.int 288) from rfl)
  have hd : xs.length.toInt32 ≤ 288 := by
    simpa [Cond.before, Cond.holds, hv] using hle
  have hN : xs.length ≤ 288 := (Int32.ofNat_le_ofNat hsm (by decide)).mp (show Int32.ofNat xs.length ≤ Int32.ofNat 288 from hd)
  exact ⟨b, xs, Cond.one_arg hc (show args[0]? = some (.ref b) from hb), hx, hN, h⟩
theorem lw_comes (l : Launch) (hflags : l.flags = flags0) : Comes l x (Jvm.Cond.code x code maxLocals ret :: tables_1) room_1 (fun tb e args s => Calls_1 tb e args s ∧ rest_1 tb e args s ∧ Pre_1 tb e args s)
    (fun _ _ args s o t => lw_Q args s o t) := by
  intro p e ha hc hk s m args below hf hfit hheap happ hpre
  obtain ⟨b, xs, hP⟩ := lw_pre_spec hpre.2.2 hpre.2.1
  obtain ⟨k, o, h1, h2, h3, hQ⟩ := lw_walk l hflags b xs p e ha hc hk s m args below hf ((Spec.applies_iff_loose hf).mp happ).1 hP trivial
  exact ⟨k, o, h1, h2, h3, hQ⟩
theorem lw_frame {s t : State} {o : Outcome} {args : Array Value} (h : Framed s o t [] 1200096 5501386) :
    Framed s o t (fieldLocs frame_1_writes args s ++ arrayLocs frame_1_arrays args s ++ staticLocs frame_1_statics s) 1200096 5501386 := h
theorem lw_limb (L : Cond) (hL : ∀ (args : Array Value) (s t : State), L.after args s (.returned (some (.int 1))) t = true) :
    ArmFor flags0 classFile x code maxLocals ret World_1 tables_1 room_1 Calls_1 rest_1 Pre_1
      (fun tb e a s o t => postC L tb e a s o t ∧ Framed s o t (fieldLocs frame_1_writes a s ++ arrayLocs frame_1_arrays a s ++ staticLocs frame_1_statics s) 1200096 5501386) := by
  intro l hflags _ _ p e ha hc hk s m args below hf hfit hheap happ hpre
  obtain ⟨k, o, h1, h2, h3, rfl, hF⟩ := lw_comes l hflags p e ha hc hk s m args below hf hfit hheap happ hpre
  exact ⟨k, _, h1, h2, h3, hL args s _, lw_frame hF⟩
theorem i_vc : Claimed_1_1 ∧ Claimed_1_2 := ⟨lw_limb limb_1_1 (fun args s t => by simp [limb_1_1, Cond.after, Cond.holds, Cond.value]), lw_limb limb_1_2 (fun args s t => Cond.after_iff.mpr (by
  first | (rw [show limb_1_2 = Cond.eq .result (.int 1) from rfl, Cond.eq_ints (x := 1) (y := 1) rfl rfl]; simp; done) | (simp [limb_1_2, Cond.value, Term.eval]; done)))⟩
end
